import JvmDerived
import JvmDerived.Pilot.@@N@@Statement
import JvmDerived.Pilot.@@N@@Code
set_option linter.unusedVariables false
set_option linter.unusedSimpArgs false
@@BLOCK:NumsL.lean.txt@@
namespace Jvm.RoadKit
open Sem ClassFile Op Lib Jvm.Stand Jvm.Free Jvm.LawKit
section New
variable {p : Program} {l : Launch} {e : Env} {R : Room} {s : State} {m : MethodId} {args : Array Value} {below : List Frame} {meth : Method} {c : Code} {T : State} {locs : List Loc} {cells slots : Nat}
theorem retI (X : Stand p l e R s m args below meth c T locs cells slots) (hx : p.tables.exec = Jvm.exec) {pc : Nat} {Ls : Array Slot} {z : Int32} {rest : List Value} (hret : meth.sig.returnType = some .int) (hd : decode c.code pc = .ok (.ireturn, 1)) {fs : List Frame}
    (hl : ∀ (f : JFrame) (acts : List Action), f.method = m → f.locked = none → f.entered = [] → (doReturn e (T.setTop f) acts (some (.int z))).1 = T.setFrames fs) : Steps p.tables e below (T.setTop (mkF m pc Ls (.int z :: rest))) (T.setFrames fs) := by
  have hm' : T.vm.method? m = some meth := X.method'
  have hn : narrow .int (.int z) = .int z := rfl
  show Steps p.tables e below (T.setTop { method := m, pc := pc, locals := Ls, stack := _ :: rest, locked := none }) _
  jvm_step X.here [X.here.top, hx, hd, hm', hret, hn]
  first | (intro acts; rw [hl _ acts rfl rfl rfl]) | rw [hl _ _ rfl rfl rfl]
  exact Steps.refl _
end New
end Jvm.RoadKit
namespace Jvm.Pilot.@@N@@
open Jvm Jvm.ClassFile Sem Op Lib Jvm.Free Jvm.Stand Jvm.LawKit Jvm.RoadKit Bundle Jvm.Pilot.@@N@@.Jvm.D
theorem own_nt {b : Bool} (h : b = false) : ¬ b = true := fun q => by rw [h] at q; cases q
theorem own_ts_ne {α : Type} {o : Option α} {a b : α} (h : o = some b) (ne : b ≠ a) : ¬ o = some a := fun q => ne (Option.some.inj (h.symm.trans q))
/-- what lcmp pushes; Java's shifts and the remainder of longs -/
def own_cmp (x y : Int64) : Int32 := lcmpW x y
def own_iushr (x y : Int32) : Int32 := (x.toUInt32 >>> (y &&& 31).toUInt32).toInt32
def own_lushr (x : Int64) (y : Int32) : Int64 := (x.toUInt64 >>> (y &&& 0x3f).toInt64.toUInt64).toInt64
def own_lshl (x : Int64) (y : Int32) : Int64 := x <<< (y &&& 0x3f).toInt64
def own_lshr (x : Int64) (y : Int32) : Int64 := x >>> (y &&& 0x3f).toInt64
def own_lrem (x y : Int64) : Int64 := x - (x / y) * y
theorem own_ieq (x y : Int32) : (if_icmp.holds .eq x y = true) = (x.toInt = y.toInt) := by
  rw [show if_icmp.holds .eq x y = (x == y) from rfl, beq_iff_eq, Int32.toInt_inj]
theorem own_ine (x y : Int32) : (if_icmp.holds .ne x y = true) = (x.toInt ≠ y.toInt) := by
  rw [show if_icmp.holds .ne x y = (x != y) from rfl, bne_iff_ne, ne_eq, ne_eq, Int32.toInt_inj]
theorem own_ilt (x y : Int32) : (if_icmp.holds .lt x y = true) = (x.toInt < y.toInt) := by
  rw [show if_icmp.holds .lt x y = decide (x < y) from rfl, decide_eq_true_eq, Int32.lt_iff_toInt_lt]
theorem own_ige (x y : Int32) : (if_icmp.holds .ge x y = true) = (y.toInt ≤ x.toInt) := by
  rw [show if_icmp.holds .ge x y = decide (y ≤ x) from rfl, decide_eq_true_eq, Int32.le_iff_toInt_le]
theorem own_igt (x y : Int32) : (if_icmp.holds .gt x y = true) = (y.toInt < x.toInt) := by
  rw [show if_icmp.holds .gt x y = decide (y < x) from rfl, decide_eq_true_eq, Int32.lt_iff_toInt_lt]
theorem own_ile (x y : Int32) : (if_icmp.holds .le x y = true) = (x.toInt ≤ y.toInt) := by
  rw [show if_icmp.holds .le x y = decide (x ≤ y) from rfl, decide_eq_true_eq, Int32.le_iff_toInt_le]
theorem own_z32 : (0 : Int32).toInt = 0 := rfl
theorem own_eq0 (x : Int32) : (ifCond.holds .eq x = true) = (x.toInt = 0) := by rw [if0, own_ieq, own_z32]
theorem own_ne0 (x : Int32) : (ifCond.holds .ne x = true) = (x.toInt ≠ 0) := by rw [if0, own_ine, own_z32]
theorem own_lt0 (x : Int32) : (ifCond.holds .lt x = true) = (x.toInt < 0) := by rw [if0, own_ilt, own_z32]
theorem own_ge0 (x : Int32) : (ifCond.holds .ge x = true) = (0 ≤ x.toInt) := by rw [if0, own_ige, own_z32]
theorem own_gt0 (x : Int32) : (ifCond.holds .gt x = true) = (0 < x.toInt) := by rw [if0, own_igt, own_z32]
theorem own_le0 (x : Int32) : (ifCond.holds .le x = true) = (x.toInt ≤ 0) := by rw [if0, own_ile, own_z32]
theorem own_cmp3 (x y : Int64) : (x.toInt < y.toInt ∧ (own_cmp x y).toInt = -1) ∨ (x.toInt = y.toInt ∧ (own_cmp x y).toInt = 0) ∨ (y.toInt < x.toInt ∧ (own_cmp x y).toInt = 1) := by
  obtain ⟨h1, h2, h3⟩ := c_lcmp x y
  have e : own_cmp x y = lcmpW x y := rfl
  rw [e]
  rcases Int.lt_trichotomy x.toInt y.toInt with h | h | h
  · exact Or.inl ⟨h, h1 h⟩
  · exact Or.inr (Or.inl ⟨h, h2 h⟩)
  · exact Or.inr (Or.inr ⟨h, h3 h⟩)
theorem own_ceq (x y : Int64) : (ifCond.holds .eq (own_cmp x y) = true) = (x.toInt = y.toInt) := by
  rw [own_eq0]; have := own_cmp3 x y; exact propext ⟨fun h => by omega, fun h => by omega⟩
theorem own_cne (x y : Int64) : (ifCond.holds .ne (own_cmp x y) = true) = (x.toInt ≠ y.toInt) := by
  rw [own_ne0]; have := own_cmp3 x y; exact propext ⟨fun h => by omega, fun h => by omega⟩
theorem own_clt (x y : Int64) : (ifCond.holds .lt (own_cmp x y) = true) = (x.toInt < y.toInt) := by
  rw [own_lt0]; have := own_cmp3 x y; exact propext ⟨fun h => by omega, fun h => by omega⟩
theorem own_cge (x y : Int64) : (ifCond.holds .ge (own_cmp x y) = true) = (y.toInt ≤ x.toInt) := by
  rw [own_ge0]; have := own_cmp3 x y; exact propext ⟨fun h => by omega, fun h => by omega⟩
theorem own_cgt (x y : Int64) : (ifCond.holds .gt (own_cmp x y) = true) = (y.toInt < x.toInt) := by
  rw [own_gt0]; have := own_cmp3 x y; exact propext ⟨fun h => by omega, fun h => by omega⟩
theorem own_cle (x y : Int64) : (ifCond.holds .le (own_cmp x y) = true) = (x.toInt ≤ y.toInt) := by
  rw [own_le0]; have := own_cmp3 x y; exact propext ⟨fun h => by omega, fun h => by omega⟩
theorem own_nar1 {x : Int32} (h : x = 1) : nar .boolean x = 1 := by rw [h]; rfl
theorem own_nar0 {x : Int32} (h : x = 0) : nar .boolean x = 0 := by rw [h]; rfl
/-- the last row of a law: a comparison that isn't met gives 0, else 1 -/
theorem own_last {c : Prop} [Decidable c] (h : ¬ c) : nar .boolean (if c then (0 : Int32) else 1) = 1 := by rw [if_neg h]; rfl
theorem own_n32 (x : Int32) : (x.toBitVec.toNat : Int) = x.toInt % 4294967296 := by
  have h := x.toBitVec.isLt
  show _ = x.toBitVec.toInt % _
  rw [BitVec.toInt_eq_toNat_cond]
  split <;> omega
theorem own_n64 (x : Int64) : (x.toBitVec.toNat : Int) = x.toInt % 18446744073709551616 := by
  have h := x.toBitVec.isLt
  show _ = x.toBitVec.toInt % _
  rw [BitVec.toInt_eq_toNat_cond]
  split <;> omega
theorem own_iushr_nat (x y : Int32) : (own_iushr x y).toBitVec.toNat = x.toBitVec.toNat / 2 ^ (y.toBitVec.toNat % 32) := by
  have h1 : (y &&& 31).toBitVec.toNat = y.toBitVec.toNat % 32 := by
    show (y.toBitVec &&& (31 : Int32).toBitVec).toNat = _
    rw [BitVec.toNat_and, show (31 : Int32).toBitVec.toNat = 2 ^ 5 - 1 from by decide, Nat.and_two_pow_sub_one_eq_mod]
  show (x.toBitVec >>> ((y &&& 31).toBitVec % 32)).toNat = _
  rw [BitVec.ushiftRight_eq', BitVec.toNat_ushiftRight, Nat.shiftRight_eq_div_pow, BitVec.toNat_umod, h1, show (32 : BitVec 32).toNat = 32 from rfl, Nat.mod_mod]
theorem own_lushr_nat (x : Int64) (y : Int32) : (own_lushr x y).toBitVec.toNat = x.toBitVec.toNat / 2 ^ (y.toBitVec.toNat % 64) := by
  obtain ⟨h1, h2⟩ := sm64 y _ rfl
  show (x.toBitVec >>> ((y &&& 0x3f).toInt64.toBitVec % 64)).toNat = _
  rw [BitVec.ushiftRight_eq', BitVec.toNat_ushiftRight, Nat.shiftRight_eq_div_pow, BitVec.toNat_umod, h1, BitVec.toNat_ofNat]
  congr 2
  show y.toBitVec.toNat % 64 % 2 ^ 64 % 64 = _
  omega
theorem own_iushr_nn (x y : Int32) (h : 0 ≤ x.toInt) : 0 ≤ (own_iushr x y).toInt ∧ (own_iushr x y).toInt ≤ x.toInt := by
  have a := own_iushr_nat x y
  have b := Nat.div_le_self x.toBitVec.toNat (2 ^ (y.toBitVec.toNat % 32))
  have c := own_n32 x
  have d := own_n32 (own_iushr x y)
  have r := rng32 x
  have r2 := rng32 (own_iushr x y)
  omega
theorem own_lushr_nn (x : Int64) (y : Int32) (h : 0 ≤ x.toInt) : 0 ≤ (own_lushr x y).toInt ∧ (own_lushr x y).toInt ≤ x.toInt := by
  have a := own_lushr_nat x y
  have b := Nat.div_le_self x.toBitVec.toNat (2 ^ (y.toBitVec.toNat % 64))
  have c := own_n64 x
  have d := own_n64 (own_lushr x y)
  have r := rng64 x
  have r2 := rng64 (own_lushr x y)
  omega
theorem own_ff {b : Bool} (h : ¬ b = true) : b = false := by cases b <;> first | rfl | exact absurd rfl h
theorem own_clt_f {x y : Int64} (h : ¬ x.toInt < y.toInt) : ifCond.holds .lt (own_cmp x y) = false := own_ff fun q => h ((own_clt x y).mp q)
theorem own_nz {x : Int64} (h : (0 : Int64).toInt < x.toInt) : x ≠ 0 := fun q => by rw [q] at h; exact absurd h (Int.lt_irrefl _)
theorem own_max (x : Int64) : x.toInt ≤ (9223372036854775807 : Int64).toInt := by
  have r := rng64 x
  have e : (9223372036854775807 : Int64).toInt = 9223372036854775807 := rfl
  omega

-- body 2: java/lang/Record.<init>:()V
theorem d2_0 : decode jdk_30_method_1_code 0 = .ok (.aload_n 0, 1) := by decide +kernel
theorem d2_1 : decode jdk_30_method_1_code 1 = .ok (.invokespecial 1, 3) := by decide +kernel
theorem d2_4 : decode jdk_30_method_1_code 4 = .ok (.return_, 1) := by decide +kernel
theorem pn_0 : plainName "java/lang/Record" = true := by first | (simp [plainName, overriddenIn]; done) | decide +kernel
theorem ef_2 (m : MethodId) (x0 : Addr) : entryFrame m #[(.ref x0)] 1 = mkF m 0 #[.val (.ref x0)] [] := by first | (simp [entryFrame, mkF, argsToLocals, Value.category]; done) | rfl
def Q2 (Z : State) (x0 : Addr) (h0 : Heap) (n0 : Nat) (v : Option Value) (h : Heap) (L : List Loc) : Prop := v = none ∧ Fr n0 L ∧ h = h0
set_option maxRecDepth 65536 in
set_option maxHeartbeats 40000000 in
theorem rm2 (l : Launch) (Z : State) (a0 : Array Value) (hw : ∀ d ∈ tables_1, d.before a0 Z = true) (ws : List Jvm.Cond) (x0 : Addr) (h0 : Heap) (n0 : Nat) (Z0 : n0 ≤ h0.size) :
    MetFree l (⟨"java/lang/Record", "<init>", "()V"⟩ : MethodName) (head1 (Jvm.Cond.code (⟨"java/lang/Record", "<init>", "()V"⟩ : MethodName) jdk_30_method_1_code 1 (none) :: ws) ({ frames := 1, cells := 0, slots := 0, locals := 12 } : Room)) (fun a U => a = #[(.ref x0)] ∧ Z.Warmed39 U.vm ∧ U.heap = h0) (fun _ _ _ _ _ => True) (fun _ U o U' => ∃ v L, o = .returned v ∧ Q2 Z x0 h0 n0 v U'.heap L ∧ FrameEnd U o U' L ({ frames := 1, cells := 0, slots := 0, locals := 12 } : Room).cells ({ frames := 1, cells := 0, slots := 0, locals := 12 } : Room).slots) := by
  refine MetFree.of_bodySF (plainFor_of_name pn_0) hisR ?_
  intro p e s m args below meth c s₁ Bd hml0 hP hK0
  obtain ⟨rfl, hZ, hh⟩ := hP
  have hx := Bd.exec
  have hby := Bd.bytes
  have hml : c.maxLocals = 1 := hml0
  have hown : s.vm.findClass "java/lang/Record" = some m.cls := findClass_of_methodNamed Bd.named
  have hnm := (name_of_methodNamed Bd.named Bd.method).1
  have hret : meth.sig.returnType = none := Bd.returns
  have hlk : meth.locks = false := Bd.notSynchronized
  have X0 : Stand p l e ({ frames := 1, cells := 0, slots := 0, locals := 12 } : Room) s m #[(.ref x0)] below meth c s₁ [] 0 0 := Stand.of_body Bd
  have e0 : s₁.heap = h0 := by rw [← hh, Bd.state]; rfl
  have N0 := Fr.nil n0
  have pre0 : ∀ t, Steps p.tables e below (s₁.setTop (mkF m 0 #[.val (.ref x0)] [])) t → Steps p.tables e below (s₁.setTop (entryFrame m #[(.ref x0)] 1)) t := fun t k => castTop (ef_2 m x0) k
  obtain ⟨T1, X1, e1, st1⟩ := initO X0 hx hZ hown (hw _ (List.mem_of_getElem? (i := 11) rfl)) (hw _ (List.mem_of_getElem? (i := 12) rfl)) (hw _ (List.mem_of_getElem? (i := 13) rfl)) e0 (g := (mkF m 1 #[.val (.ref x0)] [(.ref x0)])) rfl (by rw [hml]; rfl) rfl (hb hby d2_1) (by decide) (W := 0) (by show 2 * 0 + _ ≤ _; exact Nat.le_of_eq rfl) (by decide)
  obtain ⟨fs, hr, hrun, hended, hW, hsame⟩ := X1.leave (v := none) (fun _ => rfl)
  refine ⟨_, _, pre0 _ ?_, hrun, hended, _, _, rfl, ?_, ⟨_, rfl⟩, hW, hsame.mono (by decide) (by decide)⟩
  · show Steps p.tables e below (s₁.setTop (mkF m 0 #[.val (.ref x0)] [])) _
    refine XS.aloadN X0.here hx rfl (hb hby d2_0) rfl rfl ?_
    show Steps p.tables e below (s₁.setTop (mkF m 1 #[.val (.ref x0)] [(.ref x0)])) _
    refine st1 _ ?_
    show Steps p.tables e below (T1.setTop (mkF m 4 #[.val (.ref x0)] [])) _
    exact X1.returnOut hx hret (hb hby d2_4) hr
  · show Q2 Z x0 h0 n0 _ T1.heap _
    rw [e1]
    exact ⟨rfl, N0, rfl⟩
theorem pd_0 : parseMethodDescriptor "()V" = some ⟨[], none⟩ := by decide +kernel
-- body 1: com/example/nodes_in_quorum/nodesinquorum/quorum/Notice$Vote.<init>:(IJ)V
theorem d1_0 : decode prog_69_method_1_code 0 = .ok (.aload_n 0, 1) := by decide +kernel
theorem d1_1 : decode prog_69_method_1_code 1 = .ok (.invokespecial 1, 3) := by decide +kernel
theorem d1_4 : decode prog_69_method_1_code 4 = .ok (.aload_n 0, 1) := by decide +kernel
theorem d1_5 : decode prog_69_method_1_code 5 = .ok (.iload_n 1, 1) := by decide +kernel
theorem d1_6 : decode prog_69_method_1_code 6 = .ok (.putfield 7, 3) := by decide +kernel
theorem d1_9 : decode prog_69_method_1_code 9 = .ok (.aload_n 0, 1) := by decide +kernel
theorem d1_10 : decode prog_69_method_1_code 10 = .ok (.lload_n 2, 1) := by decide +kernel
theorem d1_11 : decode prog_69_method_1_code 11 = .ok (.putfield 13, 3) := by decide +kernel
theorem d1_14 : decode prog_69_method_1_code 14 = .ok (.return_, 1) := by decide +kernel
theorem pn_1 : plainName "com/example/nodes_in_quorum/nodesinquorum/quorum/Notice$Vote" = true := by first | (simp [plainName, overriddenIn]; done) | decide +kernel
theorem ef_1 (m : MethodId) (x0 : Addr) (x1 : Int32) (x2 : Int64) : entryFrame m #[(.ref x0), (.int x1), (.long x2)] 4 = mkF m 0 #[.val (.ref x0), .val (.int x1), .val (.long x2), .second] [] := by first | (simp [entryFrame, mkF, argsToLocals, Value.category]; done) | rfl
def Q1 (Z : State) (x0 : Addr) (x1 : Int32) (x2 : Int64) (u_leader_x0 : Value) (u_zxid_x0 : Value) (h0 : Heap) (n0 : Nat) (v : Option Value) (h : Heap) (L : List Loc) : Prop := v = none ∧ Fr n0 L ∧ Keep h0 h [x0] ∧ Exa Z h x0 "com/example/nodes_in_quorum/nodesinquorum/quorum/Notice$Vote" ∧ Fld Z h x0 "com/example/nodes_in_quorum/nodesinquorum/quorum/Notice$Vote" "leader" "I" (.int x1) ∧ Fld Z h x0 "com/example/nodes_in_quorum/nodesinquorum/quorum/Notice$Vote" "zxid" "J" (.long x2)
set_option maxRecDepth 65536 in
set_option maxHeartbeats 40000000 in
theorem rm1 (l : Launch) (Z : State) (a0 : Array Value) (hw : ∀ d ∈ tables_1, d.before a0 Z = true) (ws : List Jvm.Cond) (x0 : Addr) (x1 : Int32) (x2 : Int64) (u_leader_x0 : Value) (u_zxid_x0 : Value) (h0 : Heap) (n0 : Nat) (Z0 : n0 ≤ h0.size) (E_x0 : Exa Z h0 x0 "com/example/nodes_in_quorum/nodesinquorum/quorum/Notice$Vote") (g_x0 : n0 ≤ x0) (F_x0_leader : Fld Z h0 x0 "com/example/nodes_in_quorum/nodesinquorum/quorum/Notice$Vote" "leader" "I" u_leader_x0) (F_x0_zxid : Fld Z h0 x0 "com/example/nodes_in_quorum/nodesinquorum/quorum/Notice$Vote" "zxid" "J" u_zxid_x0) :
    MetFree l (⟨"com/example/nodes_in_quorum/nodesinquorum/quorum/Notice$Vote", "<init>", "(IJ)V"⟩ : MethodName) (head1 (Jvm.Cond.code (⟨"com/example/nodes_in_quorum/nodesinquorum/quorum/Notice$Vote", "<init>", "(IJ)V"⟩ : MethodName) prog_69_method_1_code 4 (none) :: ws) ({ frames := 2, cells := 0, slots := 0, locals := 24 } : Room)) (fun a U => a = #[(.ref x0), (.int x1), (.long x2)] ∧ Z.Warmed39 U.vm ∧ U.heap = h0) (fun _ _ _ _ _ => True) (fun _ U o U' => ∃ v L, o = .returned v ∧ Q1 Z x0 x1 x2 u_leader_x0 u_zxid_x0 h0 n0 v U'.heap L ∧ FrameEnd U o U' L ({ frames := 2, cells := 0, slots := 0, locals := 24 } : Room).cells ({ frames := 2, cells := 0, slots := 0, locals := 24 } : Room).slots) := by
  refine MetFree.of_bodySF (plainFor_of_name pn_1) hisR ?_
  intro p e s m args below meth c s₁ Bd hml0 hP hK0
  obtain ⟨rfl, hZ, hh⟩ := hP
  have hx := Bd.exec
  have hby := Bd.bytes
  have hml : c.maxLocals = 4 := hml0
  have hown : s.vm.findClass "com/example/nodes_in_quorum/nodesinquorum/quorum/Notice$Vote" = some m.cls := findClass_of_methodNamed Bd.named
  have hnm := (name_of_methodNamed Bd.named Bd.method).1
  have hret : meth.sig.returnType = none := Bd.returns
  have hlk : meth.locks = false := Bd.notSynchronized
  have X0 : Stand p l e ({ frames := 2, cells := 0, slots := 0, locals := 24 } : Room) s m #[(.ref x0), (.int x1), (.long x2)] below meth c s₁ [] 0 0 := Stand.of_body Bd
  have e0 : s₁.heap = h0 := by rw [← hh, Bd.state]; rfl
  have N0 := Fr.nil n0
  have pre0 : ∀ t, Steps p.tables e below (s₁.setTop (mkF m 0 #[.val (.ref x0), .val (.int x1), .val (.long x2), .second] [])) t → Steps p.tables e below (s₁.setTop (entryFrame m #[(.ref x0), (.int x1), (.long x2)] 4)) t := fun t k => castTop (ef_1 m x0 x1 x2) k
  obtain ⟨_, _, ⟨T1, L1, k1, n1⟩, -, X1, ⟨Lc1, hQ1, l1, y1, z1⟩, st1⟩ := X0.specialBack hx (y := (⟨"java/lang/Record", "<init>", "()V"⟩ : MethodName)) rfl hown (mvT hZ (hw _ (List.mem_of_getElem? (i := 6) rfl))) (mvT hZ (hw _ (List.mem_of_getElem? (i := 7) rfl))) (mvT hZ (hw _ (List.mem_of_getElem? (i := 10) rfl))) (by decide) (backOf (W := 0) (rm2 l Z a0 hw [] x0 h0 n0 Z0) hZ (hw _ (List.mem_of_getElem? (i := 10) rfl)) (hw _ (List.mem_of_getElem? (i := 9) rfl)) (by decide) (by decide)) (g := (mkF m 1 #[.val (.ref x0), .val (.int x1), .val (.long x2), .second] [(.ref x0)])) rfl (by rw [hml]; rfl) (Steps.refl _) (a := x0) (argsL := []) (rest := []) (lenOf pd_0 rfl) rfl (by show 2 * 0 + _ ≤ _; exact Nat.le_of_eq rfl) (hb hby d1_1) (fun _ _ => ⟨rfl, e0, (by decide : 0 + 0 ≤ _), (by decide : 0 + 0 ≤ _)⟩)
  dsimp only [Pt.U, Pt.locs, Pt.cells, Pt.slots] at X1 l1 y1 z1 st1 hQ1
  subst l1 y1 z1
  obtain ⟨rfl, Nq1, e1⟩ := hQ1
  have N1 := Fr.app N0 Nq1
  obtain ⟨T2, h2, X2, e2, W2, st2⟩ := putF X1 hx hZ hown (host := "") (Or.inl (hw _ (List.mem_of_getElem? (i := 14) rfl))) Via.refl e1 F_x0_leader E_x0 (Or.inr ⟨(hw _ (List.mem_of_getElem? (i := 15) rfl)), rfl, hnm⟩) (hw _ (List.mem_of_getElem? (i := 1) rfl)) (ty := .int) (by decide) rfl rfl (g := (mkF m 6 #[.val (.ref x0), .val (.int x1), .val (.long x2), .second] [(.int x1), (.ref x0)])) rfl rfl (hb hby d1_6)
  have N2 := Fr.snoc X2 N1 g_x0
  have Z2 : n0 ≤ h2.size := Nat.le_trans Z0 (Keep.of_wr W2).1
  have K2 : Keep h0 h2 [x0] := Keep.wr (Keep.refl h0 [x0]) W2 (Or.inl (List.mem_of_getElem? (i := 0) rfl))
  have P3 := E_x0.wr W2
  have P4 := F_x0_leader.same W2
  have P5 := F_x0_zxid.other W2 (Or.inr (slot_ne (Or.inr (hw _ (List.mem_of_getElem? (i := 17) rfl))) (Or.inr (hw _ (List.mem_of_getElem? (i := 15) rfl))) (by decide) (t := .long) (t' := .int) (by decide) (by decide)))
  obtain ⟨T6, h6, X6, e6, W6, st6⟩ := putF X2 hx hZ hown (host := "") (Or.inl (hw _ (List.mem_of_getElem? (i := 16) rfl))) Via.refl e2 P5 P3 (Or.inr ⟨(hw _ (List.mem_of_getElem? (i := 17) rfl)), rfl, hnm⟩) (hw _ (List.mem_of_getElem? (i := 1) rfl)) (ty := .long) (by decide) rfl rfl (g := (mkF m 11 #[.val (.ref x0), .val (.int x1), .val (.long x2), .second] [(.long x2), (.ref x0)])) rfl rfl (hb hby d1_11)
  have N6 := Fr.snoc X6 N2 g_x0
  have Z6 : n0 ≤ h6.size := Nat.le_trans Z2 (Keep.of_wr W6).1
  have K6 : Keep h0 h6 [x0] := Keep.wr K2 W6 (Or.inl (List.mem_of_getElem? (i := 0) rfl))
  have P7 := P3.wr W6
  have P8 := P4.other W6 (Or.inr (slot_ne (Or.inr (hw _ (List.mem_of_getElem? (i := 15) rfl))) (Or.inr (hw _ (List.mem_of_getElem? (i := 17) rfl))) (by decide) (t := .int) (t' := .long) (by decide) (by decide)))
  have P9 := P5.same W6
  obtain ⟨fs, hr, hrun, hended, hW, hsame⟩ := X6.leave (v := none) (fun _ => rfl)
  refine ⟨_, _, pre0 _ ?_, hrun, hended, _, _, rfl, ?_, ⟨_, rfl⟩, hW, hsame.mono (by decide) (by decide)⟩
  · show Steps p.tables e below (s₁.setTop (mkF m 0 #[.val (.ref x0), .val (.int x1), .val (.long x2), .second] [])) _
    refine XS.aloadN X0.here hx rfl (hb hby d1_0) rfl rfl ?_
    show Steps p.tables e below (s₁.setTop (mkF m 1 #[.val (.ref x0), .val (.int x1), .val (.long x2), .second] [(.ref x0)])) _
    refine st1.trans ?_
    show Steps p.tables e below (T1.setTop (mkF m 4 #[.val (.ref x0), .val (.int x1), .val (.long x2), .second] [])) _
    refine XS.aloadN X1.here hx rfl (hb hby d1_4) rfl rfl ?_
    show Steps p.tables e below (T1.setTop (mkF m 5 #[.val (.ref x0), .val (.int x1), .val (.long x2), .second] [(.ref x0)])) _
    refine XS.iloadN X1.here hx rfl (hb hby d1_5) rfl ?_
    show Steps p.tables e below (T1.setTop (mkF m 6 #[.val (.ref x0), .val (.int x1), .val (.long x2), .second] [(.int x1), (.ref x0)])) _
    refine st2 _ ?_
    show Steps p.tables e below (T2.setTop (mkF m 9 #[.val (.ref x0), .val (.int x1), .val (.long x2), .second] [])) _
    refine XS.aloadN X2.here hx rfl (hb hby d1_9) rfl rfl ?_
    show Steps p.tables e below (T2.setTop (mkF m 10 #[.val (.ref x0), .val (.int x1), .val (.long x2), .second] [(.ref x0)])) _
    refine XS.lloadN X2.here hx rfl (hb hby d1_10) rfl ?_
    show Steps p.tables e below (T2.setTop (mkF m 11 #[.val (.ref x0), .val (.int x1), .val (.long x2), .second] [(.long x2), (.ref x0)])) _
    refine st6 _ ?_
    show Steps p.tables e below (T6.setTop (mkF m 14 #[.val (.ref x0), .val (.int x1), .val (.long x2), .second] [])) _
    exact X6.returnOut hx hret (hb hby d1_14) hr
  · show Q1 Z x0 x1 x2 u_leader_x0 u_zxid_x0 h0 n0 _ T6.heap _
    rw [e6]
    exact ⟨rfl, N6, K6, P7, P8, P9⟩
-- body 4: com/example/nodes_in_quorum/nodesinquorum/quorum/Notice$Vote.beats:(Lcom/example/nodes_in_quorum/nodesinquorum/quorum/Notice$Vote;)Z
theorem d4_0 : decode prog_69_method_2_code 0 = .ok (.aload_n 0, 1) := by decide +kernel
theorem d4_1 : decode prog_69_method_2_code 1 = .ok (.getfield 13, 3) := by decide +kernel
theorem d4_4 : decode prog_69_method_2_code 4 = .ok (.aload_n 1, 1) := by decide +kernel
theorem d4_5 : decode prog_69_method_2_code 5 = .ok (.getfield 13, 3) := by decide +kernel
theorem d4_8 : decode prog_69_method_2_code 8 = .ok (.lcmp, 1) := by decide +kernel
theorem d4_9 : decode prog_69_method_2_code 9 = .ok (.ifCond .gt 26, 3) := by decide +kernel
theorem d4_12 : decode prog_69_method_2_code 12 = .ok (.aload_n 0, 1) := by decide +kernel
theorem d4_13 : decode prog_69_method_2_code 13 = .ok (.getfield 13, 3) := by decide +kernel
theorem d4_16 : decode prog_69_method_2_code 16 = .ok (.aload_n 1, 1) := by decide +kernel
theorem d4_17 : decode prog_69_method_2_code 17 = .ok (.getfield 13, 3) := by decide +kernel
theorem d4_20 : decode prog_69_method_2_code 20 = .ok (.lcmp, 1) := by decide +kernel
theorem d4_21 : decode prog_69_method_2_code 21 = .ok (.ifCond .ne 18, 3) := by decide +kernel
theorem d4_24 : decode prog_69_method_2_code 24 = .ok (.aload_n 0, 1) := by decide +kernel
theorem d4_25 : decode prog_69_method_2_code 25 = .ok (.getfield 7, 3) := by decide +kernel
theorem d4_28 : decode prog_69_method_2_code 28 = .ok (.aload_n 1, 1) := by decide +kernel
theorem d4_29 : decode prog_69_method_2_code 29 = .ok (.getfield 7, 3) := by decide +kernel
theorem d4_32 : decode prog_69_method_2_code 32 = .ok (.if_icmp .le 7, 3) := by decide +kernel
theorem d4_35 : decode prog_69_method_2_code 35 = .ok (.iconst 1, 1) := by decide +kernel
theorem d4_36 : decode prog_69_method_2_code 36 = .ok (.goto 4, 3) := by decide +kernel
theorem d4_39 : decode prog_69_method_2_code 39 = .ok (.iconst 0, 1) := by decide +kernel
theorem d4_40 : decode prog_69_method_2_code 40 = .ok (.ireturn, 1) := by decide +kernel
theorem ef_4 (m : MethodId) (x0 : Addr) (x1 : Addr) : entryFrame m #[(.ref x0), (.ref x1)] 2 = mkF m 0 #[.val (.ref x0), .val (.ref x1)] [] := by first | (simp [entryFrame, mkF, argsToLocals, Value.category]; done) | rfl
def f4_j13 (w_zxid_x0 : Int64) (w_zxid_x1 : Int64) (w_leader_x0 : Int32) (w_leader_x1 : Int32) : Int32 := if if_icmp.holds .le w_leader_x0 w_leader_x1 = true then (0 : Int32) else (1 : Int32)
def f4_j17 (w_zxid_x0 : Int64) (w_zxid_x1 : Int64) (w_leader_x0 : Int32) (w_leader_x1 : Int32) : Int32 := if ifCond.holds .ne (own_cmp w_zxid_x0 w_zxid_x1) = true then (0 : Int32) else (f4_j13 w_zxid_x0 w_zxid_x1 w_leader_x0 w_leader_x1)
def f4_j20 (w_zxid_x0 : Int64) (w_zxid_x1 : Int64) (w_leader_x0 : Int32) (w_leader_x1 : Int32) : Int32 := if ifCond.holds .gt (own_cmp w_zxid_x0 w_zxid_x1) = true then (1 : Int32) else (f4_j17 w_zxid_x0 w_zxid_x1 w_leader_x0 w_leader_x1)
def f4 (w_zxid_x0 : Int64) (w_zxid_x1 : Int64) (w_leader_x0 : Int32) (w_leader_x1 : Int32) : Int32 := (nar .boolean (f4_j20 w_zxid_x0 w_zxid_x1 w_leader_x0 w_leader_x1))
def Q4 (Z : State) (x0 : Addr) (x1 : Addr) (w_zxid_x0 : Int64) (w_zxid_x1 : Int64) (w_leader_x0 : Int32) (w_leader_x1 : Int32) (h0 : Heap) (n0 : Nat) (v : Option Value) (h : Heap) (L : List Loc) : Prop := v = some (.int (f4 w_zxid_x0 w_zxid_x1 w_leader_x0 w_leader_x1)) ∧ Fr n0 L ∧ h = h0
set_option maxRecDepth 65536 in
set_option maxHeartbeats 40000000 in
theorem rm4 (l : Launch) (Z : State) (a0 : Array Value) (hw : ∀ d ∈ tables_1, d.before a0 Z = true) (ws : List Jvm.Cond) (x0 : Addr) (x1 : Addr) (w_zxid_x0 : Int64) (w_zxid_x1 : Int64) (w_leader_x0 : Int32) (w_leader_x1 : Int32) (h0 : Heap) (n0 : Nat) (Z0 : n0 ≤ h0.size) (F_x0_zxid : Fld Z h0 x0 "com/example/nodes_in_quorum/nodesinquorum/quorum/Notice$Vote" "zxid" "J" (.long w_zxid_x0)) (F_x1_zxid : Fld Z h0 x1 "com/example/nodes_in_quorum/nodesinquorum/quorum/Notice$Vote" "zxid" "J" (.long w_zxid_x1)) (F_x0_leader : Fld Z h0 x0 "com/example/nodes_in_quorum/nodesinquorum/quorum/Notice$Vote" "leader" "I" (.int w_leader_x0)) (F_x1_leader : Fld Z h0 x1 "com/example/nodes_in_quorum/nodesinquorum/quorum/Notice$Vote" "leader" "I" (.int w_leader_x1)) :
    MetFree l (⟨"com/example/nodes_in_quorum/nodesinquorum/quorum/Notice$Vote", "beats", "(Lcom/example/nodes_in_quorum/nodesinquorum/quorum/Notice$Vote;)Z"⟩ : MethodName) (head1 (Jvm.Cond.code (⟨"com/example/nodes_in_quorum/nodesinquorum/quorum/Notice$Vote", "beats", "(Lcom/example/nodes_in_quorum/nodesinquorum/quorum/Notice$Vote;)Z"⟩ : MethodName) prog_69_method_2_code 2 (some .boolean) :: ws) ({ frames := 0, cells := 0, slots := 0, locals := 0 } : Room)) (fun a U => a = #[(.ref x0), (.ref x1)] ∧ Z.Warmed39 U.vm ∧ U.heap = h0) (fun _ _ _ _ _ => True) (fun _ U o U' => ∃ v L, o = .returned v ∧ Q4 Z x0 x1 w_zxid_x0 w_zxid_x1 w_leader_x0 w_leader_x1 h0 n0 v U'.heap L ∧ FrameEnd U o U' L ({ frames := 0, cells := 0, slots := 0, locals := 0 } : Room).cells ({ frames := 0, cells := 0, slots := 0, locals := 0 } : Room).slots) := by
  refine MetFree.of_bodySF (plainFor_of_name pn_1) hisR ?_
  intro p e s m args below meth c s₁ Bd hml0 hP hK0
  obtain ⟨rfl, hZ, hh⟩ := hP
  have hx := Bd.exec
  have hby := Bd.bytes
  have hml : c.maxLocals = 2 := hml0
  have hown : s.vm.findClass "com/example/nodes_in_quorum/nodesinquorum/quorum/Notice$Vote" = some m.cls := findClass_of_methodNamed Bd.named
  have hnm := (name_of_methodNamed Bd.named Bd.method).1
  have hret : meth.sig.returnType = some .boolean := Bd.returns
  have hlk : meth.locks = false := Bd.notSynchronized
  have X0 : Stand p l e ({ frames := 0, cells := 0, slots := 0, locals := 0 } : Room) s m #[(.ref x0), (.ref x1)] below meth c s₁ [] 0 0 := Stand.of_body Bd
  have e0 : s₁.heap = h0 := by rw [← hh, Bd.state]; rfl
  have N0 := Fr.nil n0
  have pre0 : ∀ t, Steps p.tables e below (s₁.setTop (mkF m 0 #[.val (.ref x0), .val (.ref x1)] [])) t → Steps p.tables e below (s₁.setTop (entryFrame m #[(.ref x0), (.ref x1)] 2)) t := fun t k => castTop (ef_4 m x0 x1) k
  obtain ⟨T1, X1, e1, st1⟩ := getF X0 hx hZ hown (host := "") (Or.inl (hw _ (List.mem_of_getElem? (i := 16) rfl))) Via.refl e0 F_x0_zxid (g := (mkF m 1 #[.val (.ref x0), .val (.ref x1)] [(.ref x0)])) rfl rfl (hb hby d4_1)
  obtain ⟨T2, X2, e2, st2⟩ := getF X1 hx hZ hown (host := "") (Or.inl (hw _ (List.mem_of_getElem? (i := 16) rfl))) Via.refl e1 F_x1_zxid (g := (mkF m 5 #[.val (.ref x0), .val (.ref x1)] [(.ref x1), (.long w_zxid_x0)])) rfl rfl (hb hby d4_5)
  have pre3 : ∀ t, Steps p.tables e below (T2.setTop (mkF m 9 #[.val (.ref x0), .val (.ref x1)] [(.int (own_cmp w_zxid_x0 w_zxid_x1))])) t → Steps p.tables e below (s₁.setTop (entryFrame m #[(.ref x0), (.ref x1)] 2)) t := by
    intro t k
    refine pre0 _ ?_
    show Steps p.tables e below (s₁.setTop (mkF m 0 #[.val (.ref x0), .val (.ref x1)] [])) _
    refine XS.aloadN X0.here hx rfl (hb hby d4_0) rfl rfl ?_
    show Steps p.tables e below (s₁.setTop (mkF m 1 #[.val (.ref x0), .val (.ref x1)] [(.ref x0)])) _
    refine st1 _ ?_
    show Steps p.tables e below (T1.setTop (mkF m 4 #[.val (.ref x0), .val (.ref x1)] [(.long w_zxid_x0)])) _
    refine XS.aloadN X1.here hx rfl (hb hby d4_4) rfl rfl ?_
    show Steps p.tables e below (T1.setTop (mkF m 5 #[.val (.ref x0), .val (.ref x1)] [(.ref x1), (.long w_zxid_x0)])) _
    refine st2 _ ?_
    show Steps p.tables e below (T2.setTop (mkF m 8 #[.val (.ref x0), .val (.ref x1)] [(.long w_zxid_x1), (.long w_zxid_x0)])) _
    refine XS.lcmp X2.here hx rfl (hb hby d4_8) rfl ?_
    exact k
  obtain ⟨T21, L21, X21, N21, e21, pre21⟩ : ∃ (T' : State) (L' : List Loc), Stand p l e ({ frames := 0, cells := 0, slots := 0, locals := 0 } : Room) s m #[(.ref x0), (.ref x1)] below meth c T' L' 0 0 ∧ Fr n0 L' ∧ T'.heap = h0 ∧ ∀ t, Steps p.tables e below (T'.setTop (mkF m 40 #[.val (.ref x0), .val (.ref x1)] [(.int (f4_j20 w_zxid_x0 w_zxid_x1 w_leader_x0 w_leader_x1))])) t → Steps p.tables e below (s₁.setTop (entryFrame m #[(.ref x0), (.ref x1)] 2)) t := by
    rcases Bool.eq_false_or_eq_true (ifCond.holds .gt (own_cmp w_zxid_x0 w_zxid_x1)) with hc4 | hc4
    · have pre22 : ∀ t, Steps p.tables e below (T2.setTop (mkF m 40 #[.val (.ref x0), .val (.ref x1)] [(.int (1 : Int32))])) t → Steps p.tables e below (s₁.setTop (entryFrame m #[(.ref x0), (.ref x1)] 2)) t := by
        intro t k
        refine pre3 _ ?_
        show Steps p.tables e below (T2.setTop (mkF m 9 #[.val (.ref x0), .val (.ref x1)] [(.int (own_cmp w_zxid_x0 w_zxid_x1))])) _
        refine XS.ifYes X2.here hx rfl (pc0 := 9) (pc' := 35) rfl (hb hby d4_9) rfl hc4 (by decide) (by decide) ?_
        show Steps p.tables e below (T2.setTop (mkF m 35 #[.val (.ref x0), .val (.ref x1)] [])) _
        refine XS.iconst X2.here hx rfl (hb hby d4_35) ?_
        show Steps p.tables e below (T2.setTop (mkF m 36 #[.val (.ref x0), .val (.ref x1)] [(.int (1 : Int32))])) _
        refine XS.goto X2.here hx rfl (pc0 := 36) (pc' := 40) rfl (hb hby d4_36) (by decide) (by decide) ?_
        exact k
      have qj0 : (f4_j20 w_zxid_x0 w_zxid_x1 w_leader_x0 w_leader_x1) = (1 : Int32) := if_pos hc4
      refine ⟨T2, _, X2, N0, e2, fun t k => pre22 _ ?_⟩
      rw [qj0] at k
      exact k
    · obtain ⟨T5, X5, e5, st5⟩ := getF X2 hx hZ hown (host := "") (Or.inl (hw _ (List.mem_of_getElem? (i := 16) rfl))) Via.refl e2 F_x0_zxid (g := (mkF m 13 #[.val (.ref x0), .val (.ref x1)] [(.ref x0)])) rfl rfl (hb hby d4_13)
      obtain ⟨T6, X6, e6, st6⟩ := getF X5 hx hZ hown (host := "") (Or.inl (hw _ (List.mem_of_getElem? (i := 16) rfl))) Via.refl e5 F_x1_zxid (g := (mkF m 17 #[.val (.ref x0), .val (.ref x1)] [(.ref x1), (.long w_zxid_x0)])) rfl rfl (hb hby d4_17)
      have pre7 : ∀ t, Steps p.tables e below (T6.setTop (mkF m 21 #[.val (.ref x0), .val (.ref x1)] [(.int (own_cmp w_zxid_x0 w_zxid_x1))])) t → Steps p.tables e below (s₁.setTop (entryFrame m #[(.ref x0), (.ref x1)] 2)) t := by
        intro t k
        refine pre3 _ ?_
        show Steps p.tables e below (T2.setTop (mkF m 9 #[.val (.ref x0), .val (.ref x1)] [(.int (own_cmp w_zxid_x0 w_zxid_x1))])) _
        refine XS.ifNo X2.here hx rfl (hb hby d4_9) rfl hc4 ?_
        show Steps p.tables e below (T2.setTop (mkF m 12 #[.val (.ref x0), .val (.ref x1)] [])) _
        refine XS.aloadN X2.here hx rfl (hb hby d4_12) rfl rfl ?_
        show Steps p.tables e below (T2.setTop (mkF m 13 #[.val (.ref x0), .val (.ref x1)] [(.ref x0)])) _
        refine st5 _ ?_
        show Steps p.tables e below (T5.setTop (mkF m 16 #[.val (.ref x0), .val (.ref x1)] [(.long w_zxid_x0)])) _
        refine XS.aloadN X5.here hx rfl (hb hby d4_16) rfl rfl ?_
        show Steps p.tables e below (T5.setTop (mkF m 17 #[.val (.ref x0), .val (.ref x1)] [(.ref x1), (.long w_zxid_x0)])) _
        refine st6 _ ?_
        show Steps p.tables e below (T6.setTop (mkF m 20 #[.val (.ref x0), .val (.ref x1)] [(.long w_zxid_x1), (.long w_zxid_x0)])) _
        refine XS.lcmp X6.here hx rfl (hb hby d4_20) rfl ?_
        exact k
      obtain ⟨T18, L18, X18, N18, e18, pre18⟩ : ∃ (T' : State) (L' : List Loc), Stand p l e ({ frames := 0, cells := 0, slots := 0, locals := 0 } : Room) s m #[(.ref x0), (.ref x1)] below meth c T' L' 0 0 ∧ Fr n0 L' ∧ T'.heap = h0 ∧ ∀ t, Steps p.tables e below (T'.setTop (mkF m 40 #[.val (.ref x0), .val (.ref x1)] [(.int (f4_j17 w_zxid_x0 w_zxid_x1 w_leader_x0 w_leader_x1))])) t → Steps p.tables e below (s₁.setTop (entryFrame m #[(.ref x0), (.ref x1)] 2)) t := by
        rcases Bool.eq_false_or_eq_true (ifCond.holds .ne (own_cmp w_zxid_x0 w_zxid_x1)) with hc8 | hc8
        · have pre19 : ∀ t, Steps p.tables e below (T6.setTop (mkF m 40 #[.val (.ref x0), .val (.ref x1)] [(.int (0 : Int32))])) t → Steps p.tables e below (s₁.setTop (entryFrame m #[(.ref x0), (.ref x1)] 2)) t := by
            intro t k
            refine pre7 _ ?_
            show Steps p.tables e below (T6.setTop (mkF m 21 #[.val (.ref x0), .val (.ref x1)] [(.int (own_cmp w_zxid_x0 w_zxid_x1))])) _
            refine XS.ifYes X6.here hx rfl (pc0 := 21) (pc' := 39) rfl (hb hby d4_21) rfl hc8 (by decide) (by decide) ?_
            show Steps p.tables e below (T6.setTop (mkF m 39 #[.val (.ref x0), .val (.ref x1)] [])) _
            refine XS.iconst X6.here hx rfl (hb hby d4_39) ?_
            exact k
          have qj0 : (f4_j17 w_zxid_x0 w_zxid_x1 w_leader_x0 w_leader_x1) = (0 : Int32) := if_pos hc8
          refine ⟨T6, _, X6, N0, e6, fun t k => pre19 _ ?_⟩
          rw [qj0] at k
          exact k
        · obtain ⟨T9, X9, e9, st9⟩ := getF X6 hx hZ hown (host := "") (Or.inl (hw _ (List.mem_of_getElem? (i := 14) rfl))) Via.refl e6 F_x0_leader (g := (mkF m 25 #[.val (.ref x0), .val (.ref x1)] [(.ref x0)])) rfl rfl (hb hby d4_25)
          obtain ⟨T10, X10, e10, st10⟩ := getF X9 hx hZ hown (host := "") (Or.inl (hw _ (List.mem_of_getElem? (i := 14) rfl))) Via.refl e9 F_x1_leader (g := (mkF m 29 #[.val (.ref x0), .val (.ref x1)] [(.ref x1), (.int w_leader_x0)])) rfl rfl (hb hby d4_29)
          have pre11 : ∀ t, Steps p.tables e below (T10.setTop (mkF m 32 #[.val (.ref x0), .val (.ref x1)] [(.int w_leader_x1), (.int w_leader_x0)])) t → Steps p.tables e below (s₁.setTop (entryFrame m #[(.ref x0), (.ref x1)] 2)) t := by
            intro t k
            refine pre7 _ ?_
            show Steps p.tables e below (T6.setTop (mkF m 21 #[.val (.ref x0), .val (.ref x1)] [(.int (own_cmp w_zxid_x0 w_zxid_x1))])) _
            refine XS.ifNo X6.here hx rfl (hb hby d4_21) rfl hc8 ?_
            show Steps p.tables e below (T6.setTop (mkF m 24 #[.val (.ref x0), .val (.ref x1)] [])) _
            refine XS.aloadN X6.here hx rfl (hb hby d4_24) rfl rfl ?_
            show Steps p.tables e below (T6.setTop (mkF m 25 #[.val (.ref x0), .val (.ref x1)] [(.ref x0)])) _
            refine st9 _ ?_
            show Steps p.tables e below (T9.setTop (mkF m 28 #[.val (.ref x0), .val (.ref x1)] [(.int w_leader_x0)])) _
            refine XS.aloadN X9.here hx rfl (hb hby d4_28) rfl rfl ?_
            show Steps p.tables e below (T9.setTop (mkF m 29 #[.val (.ref x0), .val (.ref x1)] [(.ref x1), (.int w_leader_x0)])) _
            refine st10 _ ?_
            exact k
          obtain ⟨T14, L14, X14, N14, e14, pre14⟩ : ∃ (T' : State) (L' : List Loc), Stand p l e ({ frames := 0, cells := 0, slots := 0, locals := 0 } : Room) s m #[(.ref x0), (.ref x1)] below meth c T' L' 0 0 ∧ Fr n0 L' ∧ T'.heap = h0 ∧ ∀ t, Steps p.tables e below (T'.setTop (mkF m 40 #[.val (.ref x0), .val (.ref x1)] [(.int (f4_j13 w_zxid_x0 w_zxid_x1 w_leader_x0 w_leader_x1))])) t → Steps p.tables e below (s₁.setTop (entryFrame m #[(.ref x0), (.ref x1)] 2)) t := by
            rcases Bool.eq_false_or_eq_true (if_icmp.holds .le w_leader_x0 w_leader_x1) with hc12 | hc12
            · have pre15 : ∀ t, Steps p.tables e below (T10.setTop (mkF m 40 #[.val (.ref x0), .val (.ref x1)] [(.int (0 : Int32))])) t → Steps p.tables e below (s₁.setTop (entryFrame m #[(.ref x0), (.ref x1)] 2)) t := by
                intro t k
                refine pre11 _ ?_
                show Steps p.tables e below (T10.setTop (mkF m 32 #[.val (.ref x0), .val (.ref x1)] [(.int w_leader_x1), (.int w_leader_x0)])) _
                refine XS.icmpYes X10.here hx rfl (pc0 := 32) (pc' := 39) rfl (hb hby d4_32) rfl hc12 (by decide) (by decide) ?_
                show Steps p.tables e below (T10.setTop (mkF m 39 #[.val (.ref x0), .val (.ref x1)] [])) _
                refine XS.iconst X10.here hx rfl (hb hby d4_39) ?_
                exact k
              have qj0 : (f4_j13 w_zxid_x0 w_zxid_x1 w_leader_x0 w_leader_x1) = (0 : Int32) := if_pos hc12
              refine ⟨T10, _, X10, N0, e10, fun t k => pre15 _ ?_⟩
              rw [qj0] at k
              exact k
            · have pre16 : ∀ t, Steps p.tables e below (T10.setTop (mkF m 40 #[.val (.ref x0), .val (.ref x1)] [(.int (1 : Int32))])) t → Steps p.tables e below (s₁.setTop (entryFrame m #[(.ref x0), (.ref x1)] 2)) t := by
                intro t k
                refine pre11 _ ?_
                show Steps p.tables e below (T10.setTop (mkF m 32 #[.val (.ref x0), .val (.ref x1)] [(.int w_leader_x1), (.int w_leader_x0)])) _
                refine XS.icmpNo X10.here hx rfl (hb hby d4_32) rfl hc12 ?_
                show Steps p.tables e below (T10.setTop (mkF m 35 #[.val (.ref x0), .val (.ref x1)] [])) _
                refine XS.iconst X10.here hx rfl (hb hby d4_35) ?_
                show Steps p.tables e below (T10.setTop (mkF m 36 #[.val (.ref x0), .val (.ref x1)] [(.int (1 : Int32))])) _
                refine XS.goto X10.here hx rfl (pc0 := 36) (pc' := 40) rfl (hb hby d4_36) (by decide) (by decide) ?_
                exact k
              have qj0 : (f4_j13 w_zxid_x0 w_zxid_x1 w_leader_x0 w_leader_x1) = (1 : Int32) := if_neg (own_nt hc12)
              refine ⟨T10, _, X10, N0, e10, fun t k => pre16 _ ?_⟩
              rw [qj0] at k
              exact k
          have qj0 : (f4_j17 w_zxid_x0 w_zxid_x1 w_leader_x0 w_leader_x1) = (f4_j13 w_zxid_x0 w_zxid_x1 w_leader_x0 w_leader_x1) := if_neg (own_nt hc8)
          refine ⟨T14, _, X14, N14, e14, fun t k => pre14 _ ?_⟩
          rw [qj0] at k
          exact k
      have qj0 : (f4_j20 w_zxid_x0 w_zxid_x1 w_leader_x0 w_leader_x1) = (f4_j17 w_zxid_x0 w_zxid_x1 w_leader_x0 w_leader_x1) := if_neg (own_nt hc4)
      refine ⟨T18, _, X18, N18, e18, fun t k => pre18 _ ?_⟩
      rw [qj0] at k
      exact k
  obtain ⟨fs, hr, hrun, hended, hW, hsame⟩ := X21.leave (v := some (.int (nar .boolean (f4_j20 w_zxid_x0 w_zxid_x1 w_leader_x0 w_leader_x1)))) (fun h => by rw [hret] at h; cases h)
  refine ⟨_, _, pre21 _ ?_, hrun, hended, _, _, rfl, ?_, ⟨_, rfl⟩, hW, hsame.mono (by decide) (by decide)⟩
  · show Steps p.tables e below (T21.setTop (mkF m 40 #[.val (.ref x0), .val (.ref x1)] [(.int (f4_j20 w_zxid_x0 w_zxid_x1 w_leader_x0 w_leader_x1))])) _
    exact retN X21 hx (t := .boolean) hret (by simp) (hb hby d4_40) hr
  · show Q4 Z x0 x1 w_zxid_x0 w_zxid_x1 w_leader_x0 w_leader_x1 h0 n0 _ T21.heap _
    rw [e21]
    have rr : f4 w_zxid_x0 w_zxid_x1 w_leader_x0 w_leader_x1 = (nar .boolean (f4_j20 w_zxid_x0 w_zxid_x1 w_leader_x0 w_leader_x1)) := rfl
    exact ⟨congrArg (fun z => some (Value.int z)) rr.symm, N21, rfl⟩
-- body 5: com/example/nodes_in_quorum/nodesinquorum/quorum/VoteBeatsPinLaw.expected:(IJIJ)Z
theorem d5_0 : decode method_3_code 0 = .ok (.lload_n 1, 1) := by decide +kernel
theorem d5_1 : decode method_3_code 1 = .ok (.lload 4, 2) := by decide +kernel
theorem d5_3 : decode method_3_code 3 = .ok (.lcmp, 1) := by decide +kernel
theorem d5_4 : decode method_3_code 4 = .ok (.ifCond .ge 5, 3) := by decide +kernel
theorem d5_7 : decode method_3_code 7 = .ok (.iconst 0, 1) := by decide +kernel
theorem d5_8 : decode method_3_code 8 = .ok (.ireturn, 1) := by decide +kernel
theorem d5_9 : decode method_3_code 9 = .ok (.lload 4, 2) := by decide +kernel
theorem d5_11 : decode method_3_code 11 = .ok (.lload_n 1, 1) := by decide +kernel
theorem d5_12 : decode method_3_code 12 = .ok (.lcmp, 1) := by decide +kernel
theorem d5_13 : decode method_3_code 13 = .ok (.ifCond .ge 5, 3) := by decide +kernel
theorem d5_16 : decode method_3_code 16 = .ok (.iconst 1, 1) := by decide +kernel
theorem d5_17 : decode method_3_code 17 = .ok (.ireturn, 1) := by decide +kernel
theorem d5_18 : decode method_3_code 18 = .ok (.iload_n 0, 1) := by decide +kernel
theorem d5_19 : decode method_3_code 19 = .ok (.iload_n 3, 1) := by decide +kernel
theorem d5_20 : decode method_3_code 20 = .ok (.if_icmp .ge 5, 3) := by decide +kernel
theorem d5_23 : decode method_3_code 23 = .ok (.iconst 0, 1) := by decide +kernel
theorem d5_24 : decode method_3_code 24 = .ok (.ireturn, 1) := by decide +kernel
theorem d5_25 : decode method_3_code 25 = .ok (.iload_n 3, 1) := by decide +kernel
theorem d5_26 : decode method_3_code 26 = .ok (.iload_n 0, 1) := by decide +kernel
theorem d5_27 : decode method_3_code 27 = .ok (.if_icmp .ge 5, 3) := by decide +kernel
theorem d5_30 : decode method_3_code 30 = .ok (.iconst 1, 1) := by decide +kernel
theorem d5_31 : decode method_3_code 31 = .ok (.ireturn, 1) := by decide +kernel
theorem d5_32 : decode method_3_code 32 = .ok (.iconst 0, 1) := by decide +kernel
theorem d5_33 : decode method_3_code 33 = .ok (.ireturn, 1) := by decide +kernel
theorem pn_2 : plainName "com/example/nodes_in_quorum/nodesinquorum/quorum/VoteBeatsPinLaw" = true := by first | (simp [plainName, overriddenIn]; done) | decide +kernel
theorem ef_5 (m : MethodId) (x0 : Int32) (x1 : Int64) (x2 : Int32) (x3 : Int64) : entryFrame m #[(.int x0), (.long x1), (.int x2), (.long x3)] 6 = mkF m 0 #[.val (.int x0), .val (.long x1), .second, .val (.int x2), .val (.long x3), .second] [] := by first | (simp [entryFrame, mkF, argsToLocals, Value.category]; done) | rfl
def f5 (x0 : Int32) (x1 : Int64) (x2 : Int32) (x3 : Int64) : Int32 := (if ifCond.holds .ge (own_cmp x1 x3) = true then (if ifCond.holds .ge (own_cmp x3 x1) = true then (if if_icmp.holds .ge x0 x2 = true then (if if_icmp.holds .ge x2 x0 = true then (0 : Int32) else (1 : Int32)) else (0 : Int32)) else (1 : Int32)) else (0 : Int32))
def Q5 (Z : State) (x0 : Int32) (x1 : Int64) (x2 : Int32) (x3 : Int64) (h0 : Heap) (n0 : Nat) (v : Option Value) (h : Heap) (L : List Loc) : Prop := v = some (.int (f5 x0 x1 x2 x3)) ∧ Fr n0 L ∧ h = h0
set_option maxRecDepth 65536 in
set_option maxHeartbeats 40000000 in
theorem rm5 (l : Launch) (Z : State) (a0 : Array Value) (hw : ∀ d ∈ tables_1, d.before a0 Z = true) (ws : List Jvm.Cond) (x0 : Int32) (x1 : Int64) (x2 : Int32) (x3 : Int64) (h0 : Heap) (n0 : Nat) (Z0 : n0 ≤ h0.size) :
    MetFree l (⟨"com/example/nodes_in_quorum/nodesinquorum/quorum/VoteBeatsPinLaw", "expected", "(IJIJ)Z"⟩ : MethodName) (head1 (Jvm.Cond.code (⟨"com/example/nodes_in_quorum/nodesinquorum/quorum/VoteBeatsPinLaw", "expected", "(IJIJ)Z"⟩ : MethodName) method_3_code 6 (some .boolean) :: ws) ({ frames := 0, cells := 0, slots := 0, locals := 0 } : Room)) (fun a U => a = #[(.int x0), (.long x1), (.int x2), (.long x3)] ∧ Z.Warmed39 U.vm ∧ U.heap = h0) (fun _ _ _ _ _ => True) (fun _ U o U' => ∃ v L, o = .returned v ∧ Q5 Z x0 x1 x2 x3 h0 n0 v U'.heap L ∧ FrameEnd U o U' L ({ frames := 0, cells := 0, slots := 0, locals := 0 } : Room).cells ({ frames := 0, cells := 0, slots := 0, locals := 0 } : Room).slots) := by
  refine MetFree.of_bodySF (plainFor_of_name pn_2) hisR ?_
  intro p e s m args below meth c s₁ Bd hml0 hP hK0
  obtain ⟨rfl, hZ, hh⟩ := hP
  have hx := Bd.exec
  have hby := Bd.bytes
  have hml : c.maxLocals = 6 := hml0
  have hown : s.vm.findClass "com/example/nodes_in_quorum/nodesinquorum/quorum/VoteBeatsPinLaw" = some m.cls := findClass_of_methodNamed Bd.named
  have hnm := (name_of_methodNamed Bd.named Bd.method).1
  have hret : meth.sig.returnType = some .boolean := Bd.returns
  have hlk : meth.locks = false := Bd.notSynchronized
  have X0 : Stand p l e ({ frames := 0, cells := 0, slots := 0, locals := 0 } : Room) s m #[(.int x0), (.long x1), (.int x2), (.long x3)] below meth c s₁ [] 0 0 := Stand.of_body Bd
  have e0 : s₁.heap = h0 := by rw [← hh, Bd.state]; rfl
  have N0 := Fr.nil n0
  have pre0 : ∀ t, Steps p.tables e below (s₁.setTop (mkF m 0 #[.val (.int x0), .val (.long x1), .second, .val (.int x2), .val (.long x3), .second] [])) t → Steps p.tables e below (s₁.setTop (entryFrame m #[(.int x0), (.long x1), (.int x2), (.long x3)] 6)) t := fun t k => castTop (ef_5 m x0 x1 x2 x3) k
  have pre1 : ∀ t, Steps p.tables e below (s₁.setTop (mkF m 4 #[.val (.int x0), .val (.long x1), .second, .val (.int x2), .val (.long x3), .second] [(.int (own_cmp x1 x3))])) t → Steps p.tables e below (s₁.setTop (entryFrame m #[(.int x0), (.long x1), (.int x2), (.long x3)] 6)) t := by
    intro t k
    refine pre0 _ ?_
    show Steps p.tables e below (s₁.setTop (mkF m 0 #[.val (.int x0), .val (.long x1), .second, .val (.int x2), .val (.long x3), .second] [])) _
    refine XS.lloadN X0.here hx rfl (hb hby d5_0) rfl ?_
    show Steps p.tables e below (s₁.setTop (mkF m 1 #[.val (.int x0), .val (.long x1), .second, .val (.int x2), .val (.long x3), .second] [(.long x1)])) _
    refine XS.lload X0.here hx rfl (hb hby d5_1) rfl ?_
    show Steps p.tables e below (s₁.setTop (mkF m 3 #[.val (.int x0), .val (.long x1), .second, .val (.int x2), .val (.long x3), .second] [(.long x3), (.long x1)])) _
    refine XS.lcmp X0.here hx rfl (hb hby d5_3) rfl ?_
    exact k
  rcases Bool.eq_false_or_eq_true (ifCond.holds .ge (own_cmp x1 x3)) with hc2 | hc2
  · have pre3 : ∀ t, Steps p.tables e below (s₁.setTop (mkF m 13 #[.val (.int x0), .val (.long x1), .second, .val (.int x2), .val (.long x3), .second] [(.int (own_cmp x3 x1))])) t → Steps p.tables e below (s₁.setTop (entryFrame m #[(.int x0), (.long x1), (.int x2), (.long x3)] 6)) t := by
      intro t k
      refine pre1 _ ?_
      show Steps p.tables e below (s₁.setTop (mkF m 4 #[.val (.int x0), .val (.long x1), .second, .val (.int x2), .val (.long x3), .second] [(.int (own_cmp x1 x3))])) _
      refine XS.ifYes X0.here hx rfl (pc0 := 4) (pc' := 9) rfl (hb hby d5_4) rfl hc2 (by decide) (by decide) ?_
      show Steps p.tables e below (s₁.setTop (mkF m 9 #[.val (.int x0), .val (.long x1), .second, .val (.int x2), .val (.long x3), .second] [])) _
      refine XS.lload X0.here hx rfl (hb hby d5_9) rfl ?_
      show Steps p.tables e below (s₁.setTop (mkF m 11 #[.val (.int x0), .val (.long x1), .second, .val (.int x2), .val (.long x3), .second] [(.long x3)])) _
      refine XS.lloadN X0.here hx rfl (hb hby d5_11) rfl ?_
      show Steps p.tables e below (s₁.setTop (mkF m 12 #[.val (.int x0), .val (.long x1), .second, .val (.int x2), .val (.long x3), .second] [(.long x1), (.long x3)])) _
      refine XS.lcmp X0.here hx rfl (hb hby d5_12) rfl ?_
      exact k
    rcases Bool.eq_false_or_eq_true (ifCond.holds .ge (own_cmp x3 x1)) with hc4 | hc4
    · have pre5 : ∀ t, Steps p.tables e below (s₁.setTop (mkF m 20 #[.val (.int x0), .val (.long x1), .second, .val (.int x2), .val (.long x3), .second] [(.int x2), (.int x0)])) t → Steps p.tables e below (s₁.setTop (entryFrame m #[(.int x0), (.long x1), (.int x2), (.long x3)] 6)) t := by
        intro t k
        refine pre3 _ ?_
        show Steps p.tables e below (s₁.setTop (mkF m 13 #[.val (.int x0), .val (.long x1), .second, .val (.int x2), .val (.long x3), .second] [(.int (own_cmp x3 x1))])) _
        refine XS.ifYes X0.here hx rfl (pc0 := 13) (pc' := 18) rfl (hb hby d5_13) rfl hc4 (by decide) (by decide) ?_
        show Steps p.tables e below (s₁.setTop (mkF m 18 #[.val (.int x0), .val (.long x1), .second, .val (.int x2), .val (.long x3), .second] [])) _
        refine XS.iloadN X0.here hx rfl (hb hby d5_18) rfl ?_
        show Steps p.tables e below (s₁.setTop (mkF m 19 #[.val (.int x0), .val (.long x1), .second, .val (.int x2), .val (.long x3), .second] [(.int x0)])) _
        refine XS.iloadN X0.here hx rfl (hb hby d5_19) rfl ?_
        exact k
      rcases Bool.eq_false_or_eq_true (if_icmp.holds .ge x0 x2) with hc6 | hc6
      · have pre7 : ∀ t, Steps p.tables e below (s₁.setTop (mkF m 27 #[.val (.int x0), .val (.long x1), .second, .val (.int x2), .val (.long x3), .second] [(.int x0), (.int x2)])) t → Steps p.tables e below (s₁.setTop (entryFrame m #[(.int x0), (.long x1), (.int x2), (.long x3)] 6)) t := by
          intro t k
          refine pre5 _ ?_
          show Steps p.tables e below (s₁.setTop (mkF m 20 #[.val (.int x0), .val (.long x1), .second, .val (.int x2), .val (.long x3), .second] [(.int x2), (.int x0)])) _
          refine XS.icmpYes X0.here hx rfl (pc0 := 20) (pc' := 25) rfl (hb hby d5_20) rfl hc6 (by decide) (by decide) ?_
          show Steps p.tables e below (s₁.setTop (mkF m 25 #[.val (.int x0), .val (.long x1), .second, .val (.int x2), .val (.long x3), .second] [])) _
          refine XS.iloadN X0.here hx rfl (hb hby d5_25) rfl ?_
          show Steps p.tables e below (s₁.setTop (mkF m 26 #[.val (.int x0), .val (.long x1), .second, .val (.int x2), .val (.long x3), .second] [(.int x2)])) _
          refine XS.iloadN X0.here hx rfl (hb hby d5_26) rfl ?_
          exact k
        rcases Bool.eq_false_or_eq_true (if_icmp.holds .ge x2 x0) with hc8 | hc8
        · obtain ⟨fs, hr, hrun, hended, hW, hsame⟩ := X0.leave (v := some (.int (0 : Int32))) (fun h => by rw [hret] at h; cases h)
          refine ⟨_, _, pre7 _ ?_, hrun, hended, _, _, rfl, ?_, ⟨_, rfl⟩, hW, hsame.mono (by decide) (by decide)⟩
          · show Steps p.tables e below (s₁.setTop (mkF m 27 #[.val (.int x0), .val (.long x1), .second, .val (.int x2), .val (.long x3), .second] [(.int x0), (.int x2)])) _
            refine XS.icmpYes X0.here hx rfl (pc0 := 27) (pc' := 32) rfl (hb hby d5_27) rfl hc8 (by decide) (by decide) ?_
            show Steps p.tables e below (s₁.setTop (mkF m 32 #[.val (.int x0), .val (.long x1), .second, .val (.int x2), .val (.long x3), .second] [])) _
            refine XS.iconst X0.here hx rfl (hb hby d5_32) ?_
            show Steps p.tables e below (s₁.setTop (mkF m 33 #[.val (.int x0), .val (.long x1), .second, .val (.int x2), .val (.long x3), .second] [(.int (0 : Int32))])) _
            exact retN X0 hx (t := .boolean) hret (by simp) (hb hby d5_33) hr
          · show Q5 Z x0 x1 x2 x3 h0 n0 _ s₁.heap _
            rw [e0]
            have rr : f5 x0 x1 x2 x3 = (0 : Int32) := Eq.trans (if_pos hc2) (Eq.trans (if_pos hc4) (Eq.trans (if_pos hc6) (if_pos hc8)))
            exact ⟨congrArg (fun z => some (Value.int z)) rr.symm, N0, rfl⟩
        · obtain ⟨fs, hr, hrun, hended, hW, hsame⟩ := X0.leave (v := some (.int (1 : Int32))) (fun h => by rw [hret] at h; cases h)
          refine ⟨_, _, pre7 _ ?_, hrun, hended, _, _, rfl, ?_, ⟨_, rfl⟩, hW, hsame.mono (by decide) (by decide)⟩
          · show Steps p.tables e below (s₁.setTop (mkF m 27 #[.val (.int x0), .val (.long x1), .second, .val (.int x2), .val (.long x3), .second] [(.int x0), (.int x2)])) _
            refine XS.icmpNo X0.here hx rfl (hb hby d5_27) rfl hc8 ?_
            show Steps p.tables e below (s₁.setTop (mkF m 30 #[.val (.int x0), .val (.long x1), .second, .val (.int x2), .val (.long x3), .second] [])) _
            refine XS.iconst X0.here hx rfl (hb hby d5_30) ?_
            show Steps p.tables e below (s₁.setTop (mkF m 31 #[.val (.int x0), .val (.long x1), .second, .val (.int x2), .val (.long x3), .second] [(.int (1 : Int32))])) _
            exact retN X0 hx (t := .boolean) hret (by simp) (hb hby d5_31) hr
          · show Q5 Z x0 x1 x2 x3 h0 n0 _ s₁.heap _
            rw [e0]
            have rr : f5 x0 x1 x2 x3 = (1 : Int32) := Eq.trans (if_pos hc2) (Eq.trans (if_pos hc4) (Eq.trans (if_pos hc6) (if_neg (own_nt hc8))))
            exact ⟨congrArg (fun z => some (Value.int z)) rr.symm, N0, rfl⟩
      · obtain ⟨fs, hr, hrun, hended, hW, hsame⟩ := X0.leave (v := some (.int (0 : Int32))) (fun h => by rw [hret] at h; cases h)
        refine ⟨_, _, pre5 _ ?_, hrun, hended, _, _, rfl, ?_, ⟨_, rfl⟩, hW, hsame.mono (by decide) (by decide)⟩
        · show Steps p.tables e below (s₁.setTop (mkF m 20 #[.val (.int x0), .val (.long x1), .second, .val (.int x2), .val (.long x3), .second] [(.int x2), (.int x0)])) _
          refine XS.icmpNo X0.here hx rfl (hb hby d5_20) rfl hc6 ?_
          show Steps p.tables e below (s₁.setTop (mkF m 23 #[.val (.int x0), .val (.long x1), .second, .val (.int x2), .val (.long x3), .second] [])) _
          refine XS.iconst X0.here hx rfl (hb hby d5_23) ?_
          show Steps p.tables e below (s₁.setTop (mkF m 24 #[.val (.int x0), .val (.long x1), .second, .val (.int x2), .val (.long x3), .second] [(.int (0 : Int32))])) _
          exact retN X0 hx (t := .boolean) hret (by simp) (hb hby d5_24) hr
        · show Q5 Z x0 x1 x2 x3 h0 n0 _ s₁.heap _
          rw [e0]
          have rr : f5 x0 x1 x2 x3 = (0 : Int32) := Eq.trans (if_pos hc2) (Eq.trans (if_pos hc4) (if_neg (own_nt hc6)))
          exact ⟨congrArg (fun z => some (Value.int z)) rr.symm, N0, rfl⟩
    · obtain ⟨fs, hr, hrun, hended, hW, hsame⟩ := X0.leave (v := some (.int (1 : Int32))) (fun h => by rw [hret] at h; cases h)
      refine ⟨_, _, pre3 _ ?_, hrun, hended, _, _, rfl, ?_, ⟨_, rfl⟩, hW, hsame.mono (by decide) (by decide)⟩
      · show Steps p.tables e below (s₁.setTop (mkF m 13 #[.val (.int x0), .val (.long x1), .second, .val (.int x2), .val (.long x3), .second] [(.int (own_cmp x3 x1))])) _
        refine XS.ifNo X0.here hx rfl (hb hby d5_13) rfl hc4 ?_
        show Steps p.tables e below (s₁.setTop (mkF m 16 #[.val (.int x0), .val (.long x1), .second, .val (.int x2), .val (.long x3), .second] [])) _
        refine XS.iconst X0.here hx rfl (hb hby d5_16) ?_
        show Steps p.tables e below (s₁.setTop (mkF m 17 #[.val (.int x0), .val (.long x1), .second, .val (.int x2), .val (.long x3), .second] [(.int (1 : Int32))])) _
        exact retN X0 hx (t := .boolean) hret (by simp) (hb hby d5_17) hr
      · show Q5 Z x0 x1 x2 x3 h0 n0 _ s₁.heap _
        rw [e0]
        have rr : f5 x0 x1 x2 x3 = (1 : Int32) := Eq.trans (if_pos hc2) (if_neg (own_nt hc4))
        exact ⟨congrArg (fun z => some (Value.int z)) rr.symm, N0, rfl⟩
  · obtain ⟨fs, hr, hrun, hended, hW, hsame⟩ := X0.leave (v := some (.int (0 : Int32))) (fun h => by rw [hret] at h; cases h)
    refine ⟨_, _, pre1 _ ?_, hrun, hended, _, _, rfl, ?_, ⟨_, rfl⟩, hW, hsame.mono (by decide) (by decide)⟩
    · show Steps p.tables e below (s₁.setTop (mkF m 4 #[.val (.int x0), .val (.long x1), .second, .val (.int x2), .val (.long x3), .second] [(.int (own_cmp x1 x3))])) _
      refine XS.ifNo X0.here hx rfl (hb hby d5_4) rfl hc2 ?_
      show Steps p.tables e below (s₁.setTop (mkF m 7 #[.val (.int x0), .val (.long x1), .second, .val (.int x2), .val (.long x3), .second] [])) _
      refine XS.iconst X0.here hx rfl (hb hby d5_7) ?_
      show Steps p.tables e below (s₁.setTop (mkF m 8 #[.val (.int x0), .val (.long x1), .second, .val (.int x2), .val (.long x3), .second] [(.int (0 : Int32))])) _
      exact retN X0 hx (t := .boolean) hret (by simp) (hb hby d5_8) hr
    · show Q5 Z x0 x1 x2 x3 h0 n0 _ s₁.heap _
      rw [e0]
      have rr : f5 x0 x1 x2 x3 = (0 : Int32) := if_neg (own_nt hc2)
      exact ⟨congrArg (fun z => some (Value.int z)) rr.symm, N0, rfl⟩
theorem pd_1 : parseMethodDescriptor "(IJ)V" = some ⟨[.int, .long], none⟩ := by decide +kernel
theorem pd_2 : parseMethodDescriptor "(Lcom/example/nodes_in_quorum/nodesinquorum/quorum/Notice$Vote;)Z" = some ⟨[(.object "com/example/nodes_in_quorum/nodesinquorum/quorum/Notice$Vote")], some .boolean⟩ := by decide +kernel
theorem pd_3 : parseMethodDescriptor "(IJIJ)Z" = some ⟨[.int, .long, .int, .long], some .boolean⟩ := by decide +kernel
-- body 0: com/example/nodes_in_quorum/nodesinquorum/quorum/VoteBeatsPinLaw.law:(IJIJI)Z
theorem ef_0 (m : MethodId) (x0 : Int32) (x1 : Int64) (x2 : Int32) (x3 : Int64) (x4 : Int32) : entryFrame m #[(.int x0), (.long x1), (.int x2), (.long x3), (.int x4)] maxLocals = mkF m 0 #[.val (.int x0), .val (.long x1), .second, .val (.int x2), .val (.long x3), .second, .val (.int x4), .unset, .unset, .unset, .unset, .unset, .unset, .unset, .unset] [] := by first | (simp [entryFrame, mkF, argsToLocals, Value.category, maxLocals]; done) | rfl
def f0_j3 (x0 : Int32) (x1 : Int64) (x2 : Int32) (x3 : Int64) (x4 : Int32) : Int64 := if ifCond.holds .eq (x4 &&& (1 : Int32)) = true then x3 else x1
def f0_j9 (x0 : Int32) (x1 : Int64) (x2 : Int32) (x3 : Int64) (x4 : Int32) : Int32 := if ifCond.holds .eq (x4 &&& (2 : Int32)) = true then x2 else x0
def f0_v30 (x0 : Int32) (x1 : Int64) (x2 : Int32) (x3 : Int64) (x4 : Int32) : Int32 := (f4 x1 (f0_j3 x0 x1 x2 x3 x4) x0 (f0_j9 x0 x1 x2 x3 x4))
def f0_v32 (x0 : Int32) (x1 : Int64) (x2 : Int32) (x3 : Int64) (x4 : Int32) : Int32 := (f4 (f0_j3 x0 x1 x2 x3 x4) x1 (f0_j9 x0 x1 x2 x3 x4) x0)
def f0_v34 (x0 : Int32) (x1 : Int64) (x2 : Int32) (x3 : Int64) (x4 : Int32) : Int32 := (f4 x1 x1 x0 x0)
def f0_j43 (x0 : Int32) (x1 : Int64) (x2 : Int32) (x3 : Int64) (x4 : Int32) : Int32 := if ifCond.holds .ne (f0_v34 x0 x1 x2 x3 x4) = true then (0 : Int32) else (1 : Int32)
def f0_j47 (x0 : Int32) (x1 : Int64) (x2 : Int32) (x3 : Int64) (x4 : Int32) : Int32 := if if_icmp.holds .ne (f0_v32 x0 x1 x2 x3 x4) (f5 (f0_j9 x0 x1 x2 x3 x4) (f0_j3 x0 x1 x2 x3 x4) x0 x1) = true then (0 : Int32) else (f0_j43 x0 x1 x2 x3 x4)
def f0_j50 (x0 : Int32) (x1 : Int64) (x2 : Int32) (x3 : Int64) (x4 : Int32) : Int32 := if if_icmp.holds .ne (f0_v30 x0 x1 x2 x3 x4) (f5 x0 x1 (f0_j9 x0 x1 x2 x3 x4) (f0_j3 x0 x1 x2 x3 x4)) = true then (0 : Int32) else (f0_j47 x0 x1 x2 x3 x4)
def f0 (x0 : Int32) (x1 : Int64) (x2 : Int32) (x3 : Int64) (x4 : Int32) : Int32 := (nar .boolean (f0_j50 x0 x1 x2 x3 x4))
def Q0 (Z : State) (x0 : Int32) (x1 : Int64) (x2 : Int32) (x3 : Int64) (x4 : Int32) (h0 : Heap) (n0 : Nat) (v : Option Value) (h : Heap) (L : List Loc) : Prop := v = some (.int (f0 x0 x1 x2 x3 x4)) ∧ Fr n0 L
set_option maxRecDepth 65536 in
set_option maxHeartbeats 40000000 in
theorem rm0 (l : Launch) (Z : State) (a0 : Array Value) (hw : ∀ d ∈ tables_1, d.before a0 Z = true) (ws : List Jvm.Cond) (x0 : Int32) (x1 : Int64) (x2 : Int32) (x3 : Int64) (x4 : Int32) (h0 : Heap) (n0 : Nat) (Z0 : n0 ≤ h0.size) :
    MetFree l x (head1 (Jvm.Cond.code x code maxLocals ret :: ws) room_1) (fun a U => a = #[(.int x0), (.long x1), (.int x2), (.long x3), (.int x4)] ∧ Z.Warmed39 U.vm ∧ U.heap = h0) (fun _ _ _ _ _ => True) (fun _ U o U' => ∃ v L, o = .returned v ∧ Q0 Z x0 x1 x2 x3 x4 h0 n0 v U'.heap L ∧ FrameEnd U o U' L 2 4) := by
  refine MetFree.of_bodySF (plainFor_of_name pn_2) hisR ?_
  intro p e s m args below meth c s₁ Bd hml0 hP hK0
  obtain ⟨rfl, hZ, hh⟩ := hP
  have hx := Bd.exec
  have hby := Bd.bytes
  have hml : c.maxLocals = 15 := hml0
  have hown : s.vm.findClass "com/example/nodes_in_quorum/nodesinquorum/quorum/VoteBeatsPinLaw" = some m.cls := findClass_of_methodNamed Bd.named
  have hnm := (name_of_methodNamed Bd.named Bd.method).1
  have hret : meth.sig.returnType = ret := Bd.returns
  have hlk : meth.locks = false := Bd.notSynchronized
  have X0 : Stand p l e room_1 s m #[(.int x0), (.long x1), (.int x2), (.long x3), (.int x4)] below meth c s₁ [] 0 0 := Stand.of_body Bd
  have e0 : s₁.heap = h0 := by rw [← hh, Bd.state]; rfl
  have N0 := Fr.nil n0
  have pre0 : ∀ t, Steps p.tables e below (s₁.setTop (mkF m 0 #[.val (.int x0), .val (.long x1), .second, .val (.int x2), .val (.long x3), .second, .val (.int x4), .unset, .unset, .unset, .unset, .unset, .unset, .unset, .unset] [])) t → Steps p.tables e below (s₁.setTop (entryFrame m #[(.int x0), (.long x1), (.int x2), (.long x3), (.int x4)] maxLocals)) t := fun t k => castTop (ef_0 m x0 x1 x2 x3 x4) k
  have pre1 : ∀ t, Steps p.tables e below (s₁.setTop (mkF m 4 #[.val (.int x0), .val (.long x1), .second, .val (.int x2), .val (.long x3), .second, .val (.int x4), .unset, .unset, .unset, .unset, .unset, .unset, .unset, .unset] [(.int (x4 &&& (1 : Int32)))])) t → Steps p.tables e below (s₁.setTop (entryFrame m #[(.int x0), (.long x1), (.int x2), (.long x3), (.int x4)] maxLocals)) t := by
    intro t k
    refine pre0 _ ?_
    show Steps p.tables e below (s₁.setTop (mkF m 0 #[.val (.int x0), .val (.long x1), .second, .val (.int x2), .val (.long x3), .second, .val (.int x4), .unset, .unset, .unset, .unset, .unset, .unset, .unset, .unset] [])) _
    refine XS.iload X0.here hx rfl (hb hby at_0) rfl ?_
    show Steps p.tables e below (s₁.setTop (mkF m 2 #[.val (.int x0), .val (.long x1), .second, .val (.int x2), .val (.long x3), .second, .val (.int x4), .unset, .unset, .unset, .unset, .unset, .unset, .unset, .unset] [(.int x4)])) _
    refine XS.iconst X0.here hx rfl (hb hby at_2) ?_
    show Steps p.tables e below (s₁.setTop (mkF m 3 #[.val (.int x0), .val (.long x1), .second, .val (.int x2), .val (.long x3), .second, .val (.int x4), .unset, .unset, .unset, .unset, .unset, .unset, .unset, .unset] [(.int (1 : Int32)), (.int x4)])) _
    refine XS.iand X0.here hx rfl (hb hby at_3) rfl ?_
    exact k
  obtain ⟨T4, L4, X4, N4, e4, pre4⟩ : ∃ (T' : State) (L' : List Loc), Stand p l e room_1 s m #[(.int x0), (.long x1), (.int x2), (.long x3), (.int x4)] below meth c T' L' 0 0 ∧ Fr n0 L' ∧ T'.heap = h0 ∧ ∀ t, Steps p.tables e below (T'.setTop (mkF m 13 #[.val (.int x0), .val (.long x1), .second, .val (.int x2), .val (.long x3), .second, .val (.int x4), .unset, .unset, .unset, .unset, .unset, .unset, .unset, .unset] [(.long (f0_j3 x0 x1 x2 x3 x4))])) t → Steps p.tables e below (s₁.setTop (entryFrame m #[(.int x0), (.long x1), (.int x2), (.long x3), (.int x4)] maxLocals)) t := by
    rcases Bool.eq_false_or_eq_true (ifCond.holds .eq (x4 &&& (1 : Int32))) with hc2 | hc2
    · have pre5 : ∀ t, Steps p.tables e below (s₁.setTop (mkF m 13 #[.val (.int x0), .val (.long x1), .second, .val (.int x2), .val (.long x3), .second, .val (.int x4), .unset, .unset, .unset, .unset, .unset, .unset, .unset, .unset] [(.long x3)])) t → Steps p.tables e below (s₁.setTop (entryFrame m #[(.int x0), (.long x1), (.int x2), (.long x3), (.int x4)] maxLocals)) t := by
        intro t k
        refine pre1 _ ?_
        show Steps p.tables e below (s₁.setTop (mkF m 4 #[.val (.int x0), .val (.long x1), .second, .val (.int x2), .val (.long x3), .second, .val (.int x4), .unset, .unset, .unset, .unset, .unset, .unset, .unset, .unset] [(.int (x4 &&& (1 : Int32)))])) _
        refine XS.ifYes X0.here hx rfl (pc0 := 4) (pc' := 11) rfl (hb hby at_4) rfl hc2 (by decide) (by decide) ?_
        show Steps p.tables e below (s₁.setTop (mkF m 11 #[.val (.int x0), .val (.long x1), .second, .val (.int x2), .val (.long x3), .second, .val (.int x4), .unset, .unset, .unset, .unset, .unset, .unset, .unset, .unset] [])) _
        refine XS.lload X0.here hx rfl (hb hby at_11) rfl ?_
        exact k
      have qj0 : (f0_j3 x0 x1 x2 x3 x4) = x3 := if_pos hc2
      refine ⟨s₁, _, X0, N0, e0, fun t k => pre5 _ ?_⟩
      rw [qj0] at k
      exact k
    · have pre6 : ∀ t, Steps p.tables e below (s₁.setTop (mkF m 13 #[.val (.int x0), .val (.long x1), .second, .val (.int x2), .val (.long x3), .second, .val (.int x4), .unset, .unset, .unset, .unset, .unset, .unset, .unset, .unset] [(.long x1)])) t → Steps p.tables e below (s₁.setTop (entryFrame m #[(.int x0), (.long x1), (.int x2), (.long x3), (.int x4)] maxLocals)) t := by
        intro t k
        refine pre1 _ ?_
        show Steps p.tables e below (s₁.setTop (mkF m 4 #[.val (.int x0), .val (.long x1), .second, .val (.int x2), .val (.long x3), .second, .val (.int x4), .unset, .unset, .unset, .unset, .unset, .unset, .unset, .unset] [(.int (x4 &&& (1 : Int32)))])) _
        refine XS.ifNo X0.here hx rfl (hb hby at_4) rfl hc2 ?_
        show Steps p.tables e below (s₁.setTop (mkF m 7 #[.val (.int x0), .val (.long x1), .second, .val (.int x2), .val (.long x3), .second, .val (.int x4), .unset, .unset, .unset, .unset, .unset, .unset, .unset, .unset] [])) _
        refine XS.lloadN X0.here hx rfl (hb hby at_7) rfl ?_
        show Steps p.tables e below (s₁.setTop (mkF m 8 #[.val (.int x0), .val (.long x1), .second, .val (.int x2), .val (.long x3), .second, .val (.int x4), .unset, .unset, .unset, .unset, .unset, .unset, .unset, .unset] [(.long x1)])) _
        refine XS.goto X0.here hx rfl (pc0 := 8) (pc' := 13) rfl (hb hby at_8) (by decide) (by decide) ?_
        exact k
      have qj0 : (f0_j3 x0 x1 x2 x3 x4) = x1 := if_neg (own_nt hc2)
      refine ⟨s₁, _, X0, N0, e0, fun t k => pre6 _ ?_⟩
      rw [qj0] at k
      exact k
  have pre7 : ∀ t, Steps p.tables e below (T4.setTop (mkF m 19 #[.val (.int x0), .val (.long x1), .second, .val (.int x2), .val (.long x3), .second, .val (.int x4), .val (.long (f0_j3 x0 x1 x2 x3 x4)), .second, .unset, .unset, .unset, .unset, .unset, .unset] [(.int (x4 &&& (2 : Int32)))])) t → Steps p.tables e below (s₁.setTop (entryFrame m #[(.int x0), (.long x1), (.int x2), (.long x3), (.int x4)] maxLocals)) t := by
    intro t k
    refine pre4 _ ?_
    show Steps p.tables e below (T4.setTop (mkF m 13 #[.val (.int x0), .val (.long x1), .second, .val (.int x2), .val (.long x3), .second, .val (.int x4), .unset, .unset, .unset, .unset, .unset, .unset, .unset, .unset] [(.long (f0_j3 x0 x1 x2 x3 x4))])) _
    refine XS.lstore X4.here hx rfl (hb hby at_13) rfl (l' := #[.val (.int x0), .val (.long x1), .second, .val (.int x2), .val (.long x3), .second, .val (.int x4), .val (.long (f0_j3 x0 x1 x2 x3 x4)), .second, .unset, .unset, .unset, .unset, .unset, .unset]) rfl ?_
    show Steps p.tables e below (T4.setTop (mkF m 15 #[.val (.int x0), .val (.long x1), .second, .val (.int x2), .val (.long x3), .second, .val (.int x4), .val (.long (f0_j3 x0 x1 x2 x3 x4)), .second, .unset, .unset, .unset, .unset, .unset, .unset] [])) _
    refine XS.iload X4.here hx rfl (hb hby at_15) rfl ?_
    show Steps p.tables e below (T4.setTop (mkF m 17 #[.val (.int x0), .val (.long x1), .second, .val (.int x2), .val (.long x3), .second, .val (.int x4), .val (.long (f0_j3 x0 x1 x2 x3 x4)), .second, .unset, .unset, .unset, .unset, .unset, .unset] [(.int x4)])) _
    refine XS.iconst X4.here hx rfl (hb hby at_17) ?_
    show Steps p.tables e below (T4.setTop (mkF m 18 #[.val (.int x0), .val (.long x1), .second, .val (.int x2), .val (.long x3), .second, .val (.int x4), .val (.long (f0_j3 x0 x1 x2 x3 x4)), .second, .unset, .unset, .unset, .unset, .unset, .unset] [(.int (2 : Int32)), (.int x4)])) _
    refine XS.iand X4.here hx rfl (hb hby at_18) rfl ?_
    exact k
  obtain ⟨T10, L10, X10, N10, e10, pre10⟩ : ∃ (T' : State) (L' : List Loc), Stand p l e room_1 s m #[(.int x0), (.long x1), (.int x2), (.long x3), (.int x4)] below meth c T' L' 0 0 ∧ Fr n0 L' ∧ T'.heap = h0 ∧ ∀ t, Steps p.tables e below (T'.setTop (mkF m 27 #[.val (.int x0), .val (.long x1), .second, .val (.int x2), .val (.long x3), .second, .val (.int x4), .val (.long (f0_j3 x0 x1 x2 x3 x4)), .second, .unset, .unset, .unset, .unset, .unset, .unset] [(.int (f0_j9 x0 x1 x2 x3 x4))])) t → Steps p.tables e below (s₁.setTop (entryFrame m #[(.int x0), (.long x1), (.int x2), (.long x3), (.int x4)] maxLocals)) t := by
    rcases Bool.eq_false_or_eq_true (ifCond.holds .eq (x4 &&& (2 : Int32))) with hc8 | hc8
    · have pre11 : ∀ t, Steps p.tables e below (T4.setTop (mkF m 27 #[.val (.int x0), .val (.long x1), .second, .val (.int x2), .val (.long x3), .second, .val (.int x4), .val (.long (f0_j3 x0 x1 x2 x3 x4)), .second, .unset, .unset, .unset, .unset, .unset, .unset] [(.int x2)])) t → Steps p.tables e below (s₁.setTop (entryFrame m #[(.int x0), (.long x1), (.int x2), (.long x3), (.int x4)] maxLocals)) t := by
        intro t k
        refine pre7 _ ?_
        show Steps p.tables e below (T4.setTop (mkF m 19 #[.val (.int x0), .val (.long x1), .second, .val (.int x2), .val (.long x3), .second, .val (.int x4), .val (.long (f0_j3 x0 x1 x2 x3 x4)), .second, .unset, .unset, .unset, .unset, .unset, .unset] [(.int (x4 &&& (2 : Int32)))])) _
        refine XS.ifYes X4.here hx rfl (pc0 := 19) (pc' := 26) rfl (hb hby at_19) rfl hc8 (by decide) (by decide) ?_
        show Steps p.tables e below (T4.setTop (mkF m 26 #[.val (.int x0), .val (.long x1), .second, .val (.int x2), .val (.long x3), .second, .val (.int x4), .val (.long (f0_j3 x0 x1 x2 x3 x4)), .second, .unset, .unset, .unset, .unset, .unset, .unset] [])) _
        refine XS.iloadN X4.here hx rfl (hb hby at_26) rfl ?_
        exact k
      have qj0 : (f0_j9 x0 x1 x2 x3 x4) = x2 := if_pos hc8
      refine ⟨T4, _, X4, N4, e4, fun t k => pre11 _ ?_⟩
      rw [qj0] at k
      exact k
    · have pre12 : ∀ t, Steps p.tables e below (T4.setTop (mkF m 27 #[.val (.int x0), .val (.long x1), .second, .val (.int x2), .val (.long x3), .second, .val (.int x4), .val (.long (f0_j3 x0 x1 x2 x3 x4)), .second, .unset, .unset, .unset, .unset, .unset, .unset] [(.int x0)])) t → Steps p.tables e below (s₁.setTop (entryFrame m #[(.int x0), (.long x1), (.int x2), (.long x3), (.int x4)] maxLocals)) t := by
        intro t k
        refine pre7 _ ?_
        show Steps p.tables e below (T4.setTop (mkF m 19 #[.val (.int x0), .val (.long x1), .second, .val (.int x2), .val (.long x3), .second, .val (.int x4), .val (.long (f0_j3 x0 x1 x2 x3 x4)), .second, .unset, .unset, .unset, .unset, .unset, .unset] [(.int (x4 &&& (2 : Int32)))])) _
        refine XS.ifNo X4.here hx rfl (hb hby at_19) rfl hc8 ?_
        show Steps p.tables e below (T4.setTop (mkF m 22 #[.val (.int x0), .val (.long x1), .second, .val (.int x2), .val (.long x3), .second, .val (.int x4), .val (.long (f0_j3 x0 x1 x2 x3 x4)), .second, .unset, .unset, .unset, .unset, .unset, .unset] [])) _
        refine XS.iloadN X4.here hx rfl (hb hby at_22) rfl ?_
        show Steps p.tables e below (T4.setTop (mkF m 23 #[.val (.int x0), .val (.long x1), .second, .val (.int x2), .val (.long x3), .second, .val (.int x4), .val (.long (f0_j3 x0 x1 x2 x3 x4)), .second, .unset, .unset, .unset, .unset, .unset, .unset] [(.int x0)])) _
        refine XS.goto X4.here hx rfl (pc0 := 23) (pc' := 27) rfl (hb hby at_23) (by decide) (by decide) ?_
        exact k
      have qj0 : (f0_j9 x0 x1 x2 x3 x4) = x0 := if_neg (own_nt hc8)
      refine ⟨T4, _, X4, N4, e4, fun t k => pre12 _ ?_⟩
      rw [qj0] at k
      exact k
  obtain ⟨T13, h13, X13, e13, E13, A13, D13, -, st13⟩ := newO X10 hx hZ hown (hw _ (List.mem_of_getElem? (i := 0) rfl)) (hw _ (List.mem_of_getElem? (i := 1) rfl)) (hw _ (List.mem_of_getElem? (i := 2) rfl)) e10 (g := (mkF m 29 #[.val (.int x0), .val (.long x1), .second, .val (.int x2), .val (.long x3), .second, .val (.int x4), .val (.long (f0_j3 x0 x1 x2 x3 x4)), .second, .val (.int (f0_j9 x0 x1 x2 x3 x4)), .unset, .unset, .unset, .unset, .unset] [])) rfl (hb hby at_29) (by decide) (by decide)
  obtain ⟨b13, gg13⟩ : ∃ z, z = h0.size := ⟨_, rfl⟩
  rw [← gg13] at A13 D13 st13
  have g_b13 : n0 ≤ b13 := Nat.le_trans Z0 (Nat.le_of_eq gg13.symm)
  have Z13 : n0 ≤ h13.size := Nat.le_trans Z0 E13.1
  have P14 : Fld Z h13 b13 "com/example/nodes_in_quorum/nodesinquorum/quorum/Notice$Vote" "leader" "I" (.int (0 : Int32)) := D13 (Or.inr (hw _ (List.mem_of_getElem? (i := 15) rfl))) (ty := .int) (by decide)
  have P15 : Fld Z h13 b13 "com/example/nodes_in_quorum/nodesinquorum/quorum/Notice$Vote" "zxid" "J" (.long (0 : Int64)) := D13 (Or.inr (hw _ (List.mem_of_getElem? (i := 17) rfl))) (ty := .long) (by decide)
  obtain ⟨_, _, ⟨T16, L16, k16, n16⟩, -, X16, ⟨Lc16, hQ16, l16, y16, z16⟩, st16⟩ := X13.specialBack hx (y := (⟨"com/example/nodes_in_quorum/nodesinquorum/quorum/Notice$Vote", "<init>", "(IJ)V"⟩ : MethodName)) rfl hown (mvT hZ (hw _ (List.mem_of_getElem? (i := 3) rfl))) (mvT hZ (hw _ (List.mem_of_getElem? (i := 4) rfl))) (mvT hZ (hw _ (List.mem_of_getElem? (i := 5) rfl))) (by decide) (backOf (W := 1) (rm1 l Z a0 hw [] b13 x0 x1 (.int (0 : Int32)) (.long (0 : Int64)) h13 n0 Z13 A13 g_b13 P14 P15) hZ (hw _ (List.mem_of_getElem? (i := 5) rfl)) (hw _ (List.mem_of_getElem? (i := 2) rfl)) (by decide) (by decide)) (g := (mkF m 35 #[.val (.int x0), .val (.long x1), .second, .val (.int x2), .val (.long x3), .second, .val (.int x4), .val (.long (f0_j3 x0 x1 x2 x3 x4)), .second, .val (.int (f0_j9 x0 x1 x2 x3 x4)), .unset, .unset, .unset, .unset, .unset] [(.long x1), (.int x0), (.ref b13), (.ref b13)])) rfl (by rw [hml]; rfl) (Steps.refl _) (a := b13) (argsL := [(.int x0), (.long x1)]) (rest := [(.ref b13)]) (lenOf pd_1 rfl) rfl (by show 2 * 0 + _ ≤ _; exact Nat.le_of_eq rfl) (hb hby at_35) (fun _ _ => ⟨rfl, e13, (by decide : 1 + 0 ≤ _), (by decide : 2 + 0 ≤ _)⟩)
  dsimp only [Pt.U, Pt.locs, Pt.cells, Pt.slots] at X16 l16 y16 z16 st16 hQ16
  subst l16 y16 z16
  obtain ⟨rfl, Nq16, Kq16, G16_0, G16_1, G16_2⟩ := hQ16
  obtain ⟨h16, e16⟩ : ∃ z, T16.heap = z := ⟨_, rfl⟩
  rw [e16] at Kq16 G16_0 G16_1 G16_2
  have N16 := Fr.app N10 Nq16
  have Z16 : n0 ≤ h16.size := Nat.le_trans Z13 Kq16.1
  have P17 := A13.keep Kq16
  obtain ⟨T18, h18, X18, e18, E18, A18, D18, -, st18⟩ := newO X16 hx hZ hown (hw _ (List.mem_of_getElem? (i := 0) rfl)) (hw _ (List.mem_of_getElem? (i := 1) rfl)) (hw _ (List.mem_of_getElem? (i := 2) rfl)) e16 (g := (mkF m 40 #[.val (.int x0), .val (.long x1), .second, .val (.int x2), .val (.long x3), .second, .val (.int x4), .val (.long (f0_j3 x0 x1 x2 x3 x4)), .second, .val (.int (f0_j9 x0 x1 x2 x3 x4)), .val (.ref b13), .unset, .unset, .unset, .unset] [])) rfl (hb hby at_40) (by decide) (by decide)
  obtain ⟨b18, gg18⟩ : ∃ z, z = h16.size := ⟨_, rfl⟩
  rw [← gg18] at A18 D18 st18
  have ne_b13_b18 : b13 ≠ b18 := Nat.ne_of_lt (Nat.lt_of_lt_of_le G16_0.lt (Nat.le_of_eq gg18.symm))
  have g_b18 : n0 ≤ b18 := Nat.le_trans Z16 (Nat.le_of_eq gg18.symm)
  have Z18 : n0 ≤ h18.size := Nat.le_trans Z16 E18.1
  have P19 := G16_0.ext E18
  have P20 := G16_1.ext E18
  have P21 := G16_2.ext E18
  have P22 : Fld Z h18 b18 "com/example/nodes_in_quorum/nodesinquorum/quorum/Notice$Vote" "leader" "I" (.int (0 : Int32)) := D18 (Or.inr (hw _ (List.mem_of_getElem? (i := 15) rfl))) (ty := .int) (by decide)
  have P23 : Fld Z h18 b18 "com/example/nodes_in_quorum/nodesinquorum/quorum/Notice$Vote" "zxid" "J" (.long (0 : Int64)) := D18 (Or.inr (hw _ (List.mem_of_getElem? (i := 17) rfl))) (ty := .long) (by decide)
  obtain ⟨_, _, ⟨T24, L24, k24, n24⟩, -, X24, ⟨Lc24, hQ24, l24, y24, z24⟩, st24⟩ := X18.specialBack hx (y := (⟨"com/example/nodes_in_quorum/nodesinquorum/quorum/Notice$Vote", "<init>", "(IJ)V"⟩ : MethodName)) rfl hown (mvT hZ (hw _ (List.mem_of_getElem? (i := 3) rfl))) (mvT hZ (hw _ (List.mem_of_getElem? (i := 4) rfl))) (mvT hZ (hw _ (List.mem_of_getElem? (i := 5) rfl))) (by decide) (backOf (W := 1) (rm1 l Z a0 hw [] b18 (f0_j9 x0 x1 x2 x3 x4) (f0_j3 x0 x1 x2 x3 x4) (.int (0 : Int32)) (.long (0 : Int64)) h18 n0 Z18 A18 g_b18 P22 P23) hZ (hw _ (List.mem_of_getElem? (i := 5) rfl)) (hw _ (List.mem_of_getElem? (i := 2) rfl)) (by decide) (by decide)) (g := (mkF m 48 #[.val (.int x0), .val (.long x1), .second, .val (.int x2), .val (.long x3), .second, .val (.int x4), .val (.long (f0_j3 x0 x1 x2 x3 x4)), .second, .val (.int (f0_j9 x0 x1 x2 x3 x4)), .val (.ref b13), .unset, .unset, .unset, .unset] [(.long (f0_j3 x0 x1 x2 x3 x4)), (.int (f0_j9 x0 x1 x2 x3 x4)), (.ref b18), (.ref b18)])) rfl (by rw [hml]; rfl) (Steps.refl _) (a := b18) (argsL := [(.int (f0_j9 x0 x1 x2 x3 x4)), (.long (f0_j3 x0 x1 x2 x3 x4))]) (rest := [(.ref b18)]) (lenOf pd_1 rfl) rfl (by show 2 * 0 + _ ≤ _; exact Nat.le_of_eq rfl) (hb hby at_48) (fun _ _ => ⟨rfl, e18, (by decide : 2 + 0 ≤ _), (by decide : 4 + 0 ≤ _)⟩)
  dsimp only [Pt.U, Pt.locs, Pt.cells, Pt.slots] at X24 l24 y24 z24 st24 hQ24
  subst l24 y24 z24
  obtain ⟨rfl, Nq24, Kq24, G24_0, G24_1, G24_2⟩ := hQ24
  obtain ⟨h24, e24⟩ : ∃ z, T24.heap = z := ⟨_, rfl⟩
  rw [e24] at Kq24 G24_0 G24_1 G24_2
  have N24 := Fr.app N16 Nq24
  have Z24 : n0 ≤ h24.size := Nat.le_trans Z18 Kq24.1
  have P25 := P19.keep Kq24
  have P26 := P20.keep Kq24 (ninS ne_b13_b18 nin0)
  have P27 := P21.keep Kq24 (ninS ne_b13_b18 nin0)
  have P28 := A18.keep Kq24
  obtain ⟨cq29, kq29, q29a, q29b, q29c⟩ := isOf hZ e24 P25
  obtain ⟨_, _, ⟨T29, L29, k29, n29⟩, -, X29, ⟨Lc29, hQ29, l29, y29, z29⟩, st29⟩ := X24.virtualBack hx (y := (⟨"com/example/nodes_in_quorum/nodesinquorum/quorum/Notice$Vote", "beats", "(Lcom/example/nodes_in_quorum/nodesinquorum/quorum/Notice$Vote;)Z"⟩ : MethodName)) (z := (⟨"com/example/nodes_in_quorum/nodesinquorum/quorum/Notice$Vote", "beats", "(Lcom/example/nodes_in_quorum/nodesinquorum/quorum/Notice$Vote;)Z"⟩ : MethodName)) hown (mvT hZ (hw _ (List.mem_of_getElem? (i := 18) rfl))) (mvT hZ (hw _ (List.mem_of_getElem? (i := 19) rfl))) (notFace_of_selects (args := #[]) (mvT hZ (hw _ (List.mem_of_getElem? (i := 21) rfl)))) (mvT hZ (hw _ (List.mem_of_getElem? (i := 21) rfl))) (mvT hZ (hw _ (List.mem_of_getElem? (i := 20) rfl))) (by decide) (backOf (W := 0) (rm4 l Z a0 hw [] b13 b18 x1 (f0_j3 x0 x1 x2 x3 x4) x0 (f0_j9 x0 x1 x2 x3 x4) h24 n0 Z24 P27 G24_2 P26 G24_1) hZ (hw _ (List.mem_of_getElem? (i := 22) rfl)) (hw _ (List.mem_of_getElem? (i := 2) rfl)) (by decide) (by decide)) q29a q29c (g := (mkF m 57 #[.val (.int x0), .val (.long x1), .second, .val (.int x2), .val (.long x3), .second, .val (.int x4), .val (.long (f0_j3 x0 x1 x2 x3 x4)), .second, .val (.int (f0_j9 x0 x1 x2 x3 x4)), .val (.ref b13), .val (.ref b18), .unset, .unset, .unset] [(.ref b18), (.ref b13)])) rfl (by rw [hml]; rfl) (Steps.refl _) (argsL := [(.ref b18)]) (rest := []) (lenOf pd_2 rfl) rfl (by show 2 * 0 + _ ≤ _; exact Nat.le_of_eq rfl) (hb hby at_57) (fun _ _ => ⟨rfl, e24, (by decide : 2 + 0 ≤ _), (by decide : 4 + 0 ≤ _)⟩)
  dsimp only [Pt.U, Pt.locs, Pt.cells, Pt.slots] at X29 l29 y29 z29 st29 hQ29
  subst l29 y29 z29
  obtain ⟨rfl, Nq29, e29⟩ := hQ29
  have N29 := Fr.app N24 Nq29
  obtain ⟨cq31, kq31, q31a, q31b, q31c⟩ := isOf hZ e29 G24_0
  obtain ⟨_, _, ⟨T31, L31, k31, n31⟩, -, X31, ⟨Lc31, hQ31, l31, y31, z31⟩, st31⟩ := X29.virtualBack hx (y := (⟨"com/example/nodes_in_quorum/nodesinquorum/quorum/Notice$Vote", "beats", "(Lcom/example/nodes_in_quorum/nodesinquorum/quorum/Notice$Vote;)Z"⟩ : MethodName)) (z := (⟨"com/example/nodes_in_quorum/nodesinquorum/quorum/Notice$Vote", "beats", "(Lcom/example/nodes_in_quorum/nodesinquorum/quorum/Notice$Vote;)Z"⟩ : MethodName)) hown (mvT hZ (hw _ (List.mem_of_getElem? (i := 18) rfl))) (mvT hZ (hw _ (List.mem_of_getElem? (i := 19) rfl))) (notFace_of_selects (args := #[]) (mvT hZ (hw _ (List.mem_of_getElem? (i := 21) rfl)))) (mvT hZ (hw _ (List.mem_of_getElem? (i := 21) rfl))) (mvT hZ (hw _ (List.mem_of_getElem? (i := 20) rfl))) (by decide) (backOf (W := 0) (rm4 l Z a0 hw [] b18 b13 (f0_j3 x0 x1 x2 x3 x4) x1 (f0_j9 x0 x1 x2 x3 x4) x0 h24 n0 Z24 G24_2 P27 G24_1 P26) hZ (hw _ (List.mem_of_getElem? (i := 22) rfl)) (hw _ (List.mem_of_getElem? (i := 2) rfl)) (by decide) (by decide)) q31a q31c (g := (mkF m 66 #[.val (.int x0), .val (.long x1), .second, .val (.int x2), .val (.long x3), .second, .val (.int x4), .val (.long (f0_j3 x0 x1 x2 x3 x4)), .second, .val (.int (f0_j9 x0 x1 x2 x3 x4)), .val (.ref b13), .val (.ref b18), .val (.int (f0_v30 x0 x1 x2 x3 x4)), .unset, .unset] [(.ref b13), (.ref b18)])) rfl (by rw [hml]; rfl) (Steps.refl _) (argsL := [(.ref b13)]) (rest := []) (lenOf pd_2 rfl) rfl (by show 2 * 0 + _ ≤ _; exact Nat.le_of_eq rfl) (hb hby at_66) (fun _ _ => ⟨rfl, e29, (by decide : 2 + 0 ≤ _), (by decide : 4 + 0 ≤ _)⟩)
  dsimp only [Pt.U, Pt.locs, Pt.cells, Pt.slots] at X31 l31 y31 z31 st31 hQ31
  subst l31 y31 z31
  obtain ⟨rfl, Nq31, e31⟩ := hQ31
  have N31 := Fr.app N29 Nq31
  obtain ⟨cq33, kq33, q33a, q33b, q33c⟩ := isOf hZ e31 P25
  obtain ⟨_, _, ⟨T33, L33, k33, n33⟩, -, X33, ⟨Lc33, hQ33, l33, y33, z33⟩, st33⟩ := X31.virtualBack hx (y := (⟨"com/example/nodes_in_quorum/nodesinquorum/quorum/Notice$Vote", "beats", "(Lcom/example/nodes_in_quorum/nodesinquorum/quorum/Notice$Vote;)Z"⟩ : MethodName)) (z := (⟨"com/example/nodes_in_quorum/nodesinquorum/quorum/Notice$Vote", "beats", "(Lcom/example/nodes_in_quorum/nodesinquorum/quorum/Notice$Vote;)Z"⟩ : MethodName)) hown (mvT hZ (hw _ (List.mem_of_getElem? (i := 18) rfl))) (mvT hZ (hw _ (List.mem_of_getElem? (i := 19) rfl))) (notFace_of_selects (args := #[]) (mvT hZ (hw _ (List.mem_of_getElem? (i := 21) rfl)))) (mvT hZ (hw _ (List.mem_of_getElem? (i := 21) rfl))) (mvT hZ (hw _ (List.mem_of_getElem? (i := 20) rfl))) (by decide) (backOf (W := 0) (rm4 l Z a0 hw [] b13 b13 x1 x1 x0 x0 h24 n0 Z24 P27 P27 P26 P26) hZ (hw _ (List.mem_of_getElem? (i := 22) rfl)) (hw _ (List.mem_of_getElem? (i := 2) rfl)) (by decide) (by decide)) q33a q33c (g := (mkF m 75 #[.val (.int x0), .val (.long x1), .second, .val (.int x2), .val (.long x3), .second, .val (.int x4), .val (.long (f0_j3 x0 x1 x2 x3 x4)), .second, .val (.int (f0_j9 x0 x1 x2 x3 x4)), .val (.ref b13), .val (.ref b18), .val (.int (f0_v30 x0 x1 x2 x3 x4)), .val (.int (f0_v32 x0 x1 x2 x3 x4)), .unset] [(.ref b13), (.ref b13)])) rfl (by rw [hml]; rfl) (Steps.refl _) (argsL := [(.ref b13)]) (rest := []) (lenOf pd_2 rfl) rfl (by show 2 * 0 + _ ≤ _; exact Nat.le_of_eq rfl) (hb hby at_75) (fun _ _ => ⟨rfl, e31, (by decide : 2 + 0 ≤ _), (by decide : 4 + 0 ≤ _)⟩)
  dsimp only [Pt.U, Pt.locs, Pt.cells, Pt.slots] at X33 l33 y33 z33 st33 hQ33
  subst l33 y33 z33
  obtain ⟨rfl, Nq33, e33⟩ := hQ33
  have N33 := Fr.app N31 Nq33
  obtain ⟨_, _, ⟨T35, L35, k35, n35⟩, -, X35, ⟨Lc35, hQ35, l35, y35, z35⟩, st35⟩ := Jvm.LawKit.callS X33 hx (y := (⟨"com/example/nodes_in_quorum/nodesinquorum/quorum/VoteBeatsPinLaw", "expected", "(IJIJ)Z"⟩ : MethodName)) hown (mvT hZ (hw _ (List.mem_of_getElem? (i := 23) rfl))) (mvT hZ (hw _ (List.mem_of_getElem? (i := 24) rfl))) (mvT hZ (hw _ (List.mem_of_getElem? (i := 25) rfl))) (mvT hZ (hw _ (List.mem_of_getElem? (i := 26) rfl))) (by decide) (backOf (W := 1) (rm5 l Z a0 hw [] x0 x1 (f0_j9 x0 x1 x2 x3 x4) (f0_j3 x0 x1 x2 x3 x4) h24 n0 Z24) hZ (hw _ (List.mem_of_getElem? (i := 26) rfl)) (hw _ (List.mem_of_getElem? (i := 25) rfl)) (by decide) (by decide)) (g := (mkF m 88 #[.val (.int x0), .val (.long x1), .second, .val (.int x2), .val (.long x3), .second, .val (.int x4), .val (.long (f0_j3 x0 x1 x2 x3 x4)), .second, .val (.int (f0_j9 x0 x1 x2 x3 x4)), .val (.ref b13), .val (.ref b18), .val (.int (f0_v30 x0 x1 x2 x3 x4)), .val (.int (f0_v32 x0 x1 x2 x3 x4)), .val (.int (f0_v34 x0 x1 x2 x3 x4))] [(.long (f0_j3 x0 x1 x2 x3 x4)), (.int (f0_j9 x0 x1 x2 x3 x4)), (.long x1), (.int x0), (.int (f0_v30 x0 x1 x2 x3 x4))])) rfl (by rw [hml]; rfl) (argsL := [(.int x0), (.long x1), (.int (f0_j9 x0 x1 x2 x3 x4)), (.long (f0_j3 x0 x1 x2 x3 x4))]) (rest := [(.int (f0_v30 x0 x1 x2 x3 x4))]) (lenOf pd_3 rfl) rfl (by show 2 * 0 + _ ≤ _; exact Nat.le_of_eq rfl) (hb hby at_88) (fun _ _ => ⟨rfl, e33, (by decide : 2 + 0 ≤ _), (by decide : 4 + 0 ≤ _)⟩)
  dsimp only [Pt.U, Pt.locs, Pt.cells, Pt.slots] at X35 l35 y35 z35 st35 hQ35
  subst l35 y35 z35
  obtain ⟨rfl, Nq35, e35⟩ := hQ35
  have N35 := Fr.app N33 Nq35
  have pre36 : ∀ t, Steps p.tables e below (T35.setTop (mkF m 91 #[.val (.int x0), .val (.long x1), .second, .val (.int x2), .val (.long x3), .second, .val (.int x4), .val (.long (f0_j3 x0 x1 x2 x3 x4)), .second, .val (.int (f0_j9 x0 x1 x2 x3 x4)), .val (.ref b13), .val (.ref b18), .val (.int (f0_v30 x0 x1 x2 x3 x4)), .val (.int (f0_v32 x0 x1 x2 x3 x4)), .val (.int (f0_v34 x0 x1 x2 x3 x4))] [(.int (f5 x0 x1 (f0_j9 x0 x1 x2 x3 x4) (f0_j3 x0 x1 x2 x3 x4))), (.int (f0_v30 x0 x1 x2 x3 x4))])) t → Steps p.tables e below (s₁.setTop (entryFrame m #[(.int x0), (.long x1), (.int x2), (.long x3), (.int x4)] maxLocals)) t := by
    intro t k
    refine pre10 _ ?_
    show Steps p.tables e below (T10.setTop (mkF m 27 #[.val (.int x0), .val (.long x1), .second, .val (.int x2), .val (.long x3), .second, .val (.int x4), .val (.long (f0_j3 x0 x1 x2 x3 x4)), .second, .unset, .unset, .unset, .unset, .unset, .unset] [(.int (f0_j9 x0 x1 x2 x3 x4))])) _
    refine XS.istore X10.here hx rfl (hb hby at_27) rfl (l' := #[.val (.int x0), .val (.long x1), .second, .val (.int x2), .val (.long x3), .second, .val (.int x4), .val (.long (f0_j3 x0 x1 x2 x3 x4)), .second, .val (.int (f0_j9 x0 x1 x2 x3 x4)), .unset, .unset, .unset, .unset, .unset]) rfl ?_
    show Steps p.tables e below (T10.setTop (mkF m 29 #[.val (.int x0), .val (.long x1), .second, .val (.int x2), .val (.long x3), .second, .val (.int x4), .val (.long (f0_j3 x0 x1 x2 x3 x4)), .second, .val (.int (f0_j9 x0 x1 x2 x3 x4)), .unset, .unset, .unset, .unset, .unset] [])) _
    refine st13 _ ?_
    show Steps p.tables e below (T13.setTop (mkF m 32 #[.val (.int x0), .val (.long x1), .second, .val (.int x2), .val (.long x3), .second, .val (.int x4), .val (.long (f0_j3 x0 x1 x2 x3 x4)), .second, .val (.int (f0_j9 x0 x1 x2 x3 x4)), .unset, .unset, .unset, .unset, .unset] [(.ref b13)])) _
    refine XS.dup X13.here hx rfl (hb hby at_32) rfl rfl ?_
    show Steps p.tables e below (T13.setTop (mkF m 33 #[.val (.int x0), .val (.long x1), .second, .val (.int x2), .val (.long x3), .second, .val (.int x4), .val (.long (f0_j3 x0 x1 x2 x3 x4)), .second, .val (.int (f0_j9 x0 x1 x2 x3 x4)), .unset, .unset, .unset, .unset, .unset] [(.ref b13), (.ref b13)])) _
    refine XS.iloadN X13.here hx rfl (hb hby at_33) rfl ?_
    show Steps p.tables e below (T13.setTop (mkF m 34 #[.val (.int x0), .val (.long x1), .second, .val (.int x2), .val (.long x3), .second, .val (.int x4), .val (.long (f0_j3 x0 x1 x2 x3 x4)), .second, .val (.int (f0_j9 x0 x1 x2 x3 x4)), .unset, .unset, .unset, .unset, .unset] [(.int x0), (.ref b13), (.ref b13)])) _
    refine XS.lloadN X13.here hx rfl (hb hby at_34) rfl ?_
    show Steps p.tables e below (T13.setTop (mkF m 35 #[.val (.int x0), .val (.long x1), .second, .val (.int x2), .val (.long x3), .second, .val (.int x4), .val (.long (f0_j3 x0 x1 x2 x3 x4)), .second, .val (.int (f0_j9 x0 x1 x2 x3 x4)), .unset, .unset, .unset, .unset, .unset] [(.long x1), (.int x0), (.ref b13), (.ref b13)])) _
    refine st16.trans ?_
    show Steps p.tables e below (T16.setTop (mkF m 38 #[.val (.int x0), .val (.long x1), .second, .val (.int x2), .val (.long x3), .second, .val (.int x4), .val (.long (f0_j3 x0 x1 x2 x3 x4)), .second, .val (.int (f0_j9 x0 x1 x2 x3 x4)), .unset, .unset, .unset, .unset, .unset] [(.ref b13)])) _
    refine XS.astore X16.here hx rfl (hb hby at_38) rfl rfl (l' := #[.val (.int x0), .val (.long x1), .second, .val (.int x2), .val (.long x3), .second, .val (.int x4), .val (.long (f0_j3 x0 x1 x2 x3 x4)), .second, .val (.int (f0_j9 x0 x1 x2 x3 x4)), .val (.ref b13), .unset, .unset, .unset, .unset]) rfl ?_
    show Steps p.tables e below (T16.setTop (mkF m 40 #[.val (.int x0), .val (.long x1), .second, .val (.int x2), .val (.long x3), .second, .val (.int x4), .val (.long (f0_j3 x0 x1 x2 x3 x4)), .second, .val (.int (f0_j9 x0 x1 x2 x3 x4)), .val (.ref b13), .unset, .unset, .unset, .unset] [])) _
    refine st18 _ ?_
    show Steps p.tables e below (T18.setTop (mkF m 43 #[.val (.int x0), .val (.long x1), .second, .val (.int x2), .val (.long x3), .second, .val (.int x4), .val (.long (f0_j3 x0 x1 x2 x3 x4)), .second, .val (.int (f0_j9 x0 x1 x2 x3 x4)), .val (.ref b13), .unset, .unset, .unset, .unset] [(.ref b18)])) _
    refine XS.dup X18.here hx rfl (hb hby at_43) rfl rfl ?_
    show Steps p.tables e below (T18.setTop (mkF m 44 #[.val (.int x0), .val (.long x1), .second, .val (.int x2), .val (.long x3), .second, .val (.int x4), .val (.long (f0_j3 x0 x1 x2 x3 x4)), .second, .val (.int (f0_j9 x0 x1 x2 x3 x4)), .val (.ref b13), .unset, .unset, .unset, .unset] [(.ref b18), (.ref b18)])) _
    refine XS.iload X18.here hx rfl (hb hby at_44) rfl ?_
    show Steps p.tables e below (T18.setTop (mkF m 46 #[.val (.int x0), .val (.long x1), .second, .val (.int x2), .val (.long x3), .second, .val (.int x4), .val (.long (f0_j3 x0 x1 x2 x3 x4)), .second, .val (.int (f0_j9 x0 x1 x2 x3 x4)), .val (.ref b13), .unset, .unset, .unset, .unset] [(.int (f0_j9 x0 x1 x2 x3 x4)), (.ref b18), (.ref b18)])) _
    refine XS.lload X18.here hx rfl (hb hby at_46) rfl ?_
    show Steps p.tables e below (T18.setTop (mkF m 48 #[.val (.int x0), .val (.long x1), .second, .val (.int x2), .val (.long x3), .second, .val (.int x4), .val (.long (f0_j3 x0 x1 x2 x3 x4)), .second, .val (.int (f0_j9 x0 x1 x2 x3 x4)), .val (.ref b13), .unset, .unset, .unset, .unset] [(.long (f0_j3 x0 x1 x2 x3 x4)), (.int (f0_j9 x0 x1 x2 x3 x4)), (.ref b18), (.ref b18)])) _
    refine st24.trans ?_
    show Steps p.tables e below (T24.setTop (mkF m 51 #[.val (.int x0), .val (.long x1), .second, .val (.int x2), .val (.long x3), .second, .val (.int x4), .val (.long (f0_j3 x0 x1 x2 x3 x4)), .second, .val (.int (f0_j9 x0 x1 x2 x3 x4)), .val (.ref b13), .unset, .unset, .unset, .unset] [(.ref b18)])) _
    refine XS.astore X24.here hx rfl (hb hby at_51) rfl rfl (l' := #[.val (.int x0), .val (.long x1), .second, .val (.int x2), .val (.long x3), .second, .val (.int x4), .val (.long (f0_j3 x0 x1 x2 x3 x4)), .second, .val (.int (f0_j9 x0 x1 x2 x3 x4)), .val (.ref b13), .val (.ref b18), .unset, .unset, .unset]) rfl ?_
    show Steps p.tables e below (T24.setTop (mkF m 53 #[.val (.int x0), .val (.long x1), .second, .val (.int x2), .val (.long x3), .second, .val (.int x4), .val (.long (f0_j3 x0 x1 x2 x3 x4)), .second, .val (.int (f0_j9 x0 x1 x2 x3 x4)), .val (.ref b13), .val (.ref b18), .unset, .unset, .unset] [])) _
    refine XS.aload X24.here hx rfl (hb hby at_53) rfl rfl ?_
    show Steps p.tables e below (T24.setTop (mkF m 55 #[.val (.int x0), .val (.long x1), .second, .val (.int x2), .val (.long x3), .second, .val (.int x4), .val (.long (f0_j3 x0 x1 x2 x3 x4)), .second, .val (.int (f0_j9 x0 x1 x2 x3 x4)), .val (.ref b13), .val (.ref b18), .unset, .unset, .unset] [(.ref b13)])) _
    refine XS.aload X24.here hx rfl (hb hby at_55) rfl rfl ?_
    show Steps p.tables e below (T24.setTop (mkF m 57 #[.val (.int x0), .val (.long x1), .second, .val (.int x2), .val (.long x3), .second, .val (.int x4), .val (.long (f0_j3 x0 x1 x2 x3 x4)), .second, .val (.int (f0_j9 x0 x1 x2 x3 x4)), .val (.ref b13), .val (.ref b18), .unset, .unset, .unset] [(.ref b18), (.ref b13)])) _
    refine st29.trans ?_
    show Steps p.tables e below (T29.setTop (mkF m 60 #[.val (.int x0), .val (.long x1), .second, .val (.int x2), .val (.long x3), .second, .val (.int x4), .val (.long (f0_j3 x0 x1 x2 x3 x4)), .second, .val (.int (f0_j9 x0 x1 x2 x3 x4)), .val (.ref b13), .val (.ref b18), .unset, .unset, .unset] [(.int (f4 x1 (f0_j3 x0 x1 x2 x3 x4) x0 (f0_j9 x0 x1 x2 x3 x4)))])) _
    refine XS.istore X29.here hx rfl (hb hby at_60) rfl (l' := #[.val (.int x0), .val (.long x1), .second, .val (.int x2), .val (.long x3), .second, .val (.int x4), .val (.long (f0_j3 x0 x1 x2 x3 x4)), .second, .val (.int (f0_j9 x0 x1 x2 x3 x4)), .val (.ref b13), .val (.ref b18), .val (.int (f0_v30 x0 x1 x2 x3 x4)), .unset, .unset]) rfl ?_
    show Steps p.tables e below (T29.setTop (mkF m 62 #[.val (.int x0), .val (.long x1), .second, .val (.int x2), .val (.long x3), .second, .val (.int x4), .val (.long (f0_j3 x0 x1 x2 x3 x4)), .second, .val (.int (f0_j9 x0 x1 x2 x3 x4)), .val (.ref b13), .val (.ref b18), .val (.int (f0_v30 x0 x1 x2 x3 x4)), .unset, .unset] [])) _
    refine XS.aload X29.here hx rfl (hb hby at_62) rfl rfl ?_
    show Steps p.tables e below (T29.setTop (mkF m 64 #[.val (.int x0), .val (.long x1), .second, .val (.int x2), .val (.long x3), .second, .val (.int x4), .val (.long (f0_j3 x0 x1 x2 x3 x4)), .second, .val (.int (f0_j9 x0 x1 x2 x3 x4)), .val (.ref b13), .val (.ref b18), .val (.int (f0_v30 x0 x1 x2 x3 x4)), .unset, .unset] [(.ref b18)])) _
    refine XS.aload X29.here hx rfl (hb hby at_64) rfl rfl ?_
    show Steps p.tables e below (T29.setTop (mkF m 66 #[.val (.int x0), .val (.long x1), .second, .val (.int x2), .val (.long x3), .second, .val (.int x4), .val (.long (f0_j3 x0 x1 x2 x3 x4)), .second, .val (.int (f0_j9 x0 x1 x2 x3 x4)), .val (.ref b13), .val (.ref b18), .val (.int (f0_v30 x0 x1 x2 x3 x4)), .unset, .unset] [(.ref b13), (.ref b18)])) _
    refine st31.trans ?_
    show Steps p.tables e below (T31.setTop (mkF m 69 #[.val (.int x0), .val (.long x1), .second, .val (.int x2), .val (.long x3), .second, .val (.int x4), .val (.long (f0_j3 x0 x1 x2 x3 x4)), .second, .val (.int (f0_j9 x0 x1 x2 x3 x4)), .val (.ref b13), .val (.ref b18), .val (.int (f0_v30 x0 x1 x2 x3 x4)), .unset, .unset] [(.int (f4 (f0_j3 x0 x1 x2 x3 x4) x1 (f0_j9 x0 x1 x2 x3 x4) x0))])) _
    refine XS.istore X31.here hx rfl (hb hby at_69) rfl (l' := #[.val (.int x0), .val (.long x1), .second, .val (.int x2), .val (.long x3), .second, .val (.int x4), .val (.long (f0_j3 x0 x1 x2 x3 x4)), .second, .val (.int (f0_j9 x0 x1 x2 x3 x4)), .val (.ref b13), .val (.ref b18), .val (.int (f0_v30 x0 x1 x2 x3 x4)), .val (.int (f0_v32 x0 x1 x2 x3 x4)), .unset]) rfl ?_
    show Steps p.tables e below (T31.setTop (mkF m 71 #[.val (.int x0), .val (.long x1), .second, .val (.int x2), .val (.long x3), .second, .val (.int x4), .val (.long (f0_j3 x0 x1 x2 x3 x4)), .second, .val (.int (f0_j9 x0 x1 x2 x3 x4)), .val (.ref b13), .val (.ref b18), .val (.int (f0_v30 x0 x1 x2 x3 x4)), .val (.int (f0_v32 x0 x1 x2 x3 x4)), .unset] [])) _
    refine XS.aload X31.here hx rfl (hb hby at_71) rfl rfl ?_
    show Steps p.tables e below (T31.setTop (mkF m 73 #[.val (.int x0), .val (.long x1), .second, .val (.int x2), .val (.long x3), .second, .val (.int x4), .val (.long (f0_j3 x0 x1 x2 x3 x4)), .second, .val (.int (f0_j9 x0 x1 x2 x3 x4)), .val (.ref b13), .val (.ref b18), .val (.int (f0_v30 x0 x1 x2 x3 x4)), .val (.int (f0_v32 x0 x1 x2 x3 x4)), .unset] [(.ref b13)])) _
    refine XS.aload X31.here hx rfl (hb hby at_73) rfl rfl ?_
    show Steps p.tables e below (T31.setTop (mkF m 75 #[.val (.int x0), .val (.long x1), .second, .val (.int x2), .val (.long x3), .second, .val (.int x4), .val (.long (f0_j3 x0 x1 x2 x3 x4)), .second, .val (.int (f0_j9 x0 x1 x2 x3 x4)), .val (.ref b13), .val (.ref b18), .val (.int (f0_v30 x0 x1 x2 x3 x4)), .val (.int (f0_v32 x0 x1 x2 x3 x4)), .unset] [(.ref b13), (.ref b13)])) _
    refine st33.trans ?_
    show Steps p.tables e below (T33.setTop (mkF m 78 #[.val (.int x0), .val (.long x1), .second, .val (.int x2), .val (.long x3), .second, .val (.int x4), .val (.long (f0_j3 x0 x1 x2 x3 x4)), .second, .val (.int (f0_j9 x0 x1 x2 x3 x4)), .val (.ref b13), .val (.ref b18), .val (.int (f0_v30 x0 x1 x2 x3 x4)), .val (.int (f0_v32 x0 x1 x2 x3 x4)), .unset] [(.int (f4 x1 x1 x0 x0))])) _
    refine XS.istore X33.here hx rfl (hb hby at_78) rfl (l' := #[.val (.int x0), .val (.long x1), .second, .val (.int x2), .val (.long x3), .second, .val (.int x4), .val (.long (f0_j3 x0 x1 x2 x3 x4)), .second, .val (.int (f0_j9 x0 x1 x2 x3 x4)), .val (.ref b13), .val (.ref b18), .val (.int (f0_v30 x0 x1 x2 x3 x4)), .val (.int (f0_v32 x0 x1 x2 x3 x4)), .val (.int (f0_v34 x0 x1 x2 x3 x4))]) rfl ?_
    show Steps p.tables e below (T33.setTop (mkF m 80 #[.val (.int x0), .val (.long x1), .second, .val (.int x2), .val (.long x3), .second, .val (.int x4), .val (.long (f0_j3 x0 x1 x2 x3 x4)), .second, .val (.int (f0_j9 x0 x1 x2 x3 x4)), .val (.ref b13), .val (.ref b18), .val (.int (f0_v30 x0 x1 x2 x3 x4)), .val (.int (f0_v32 x0 x1 x2 x3 x4)), .val (.int (f0_v34 x0 x1 x2 x3 x4))] [])) _
    refine XS.iload X33.here hx rfl (hb hby at_80) rfl ?_
    show Steps p.tables e below (T33.setTop (mkF m 82 #[.val (.int x0), .val (.long x1), .second, .val (.int x2), .val (.long x3), .second, .val (.int x4), .val (.long (f0_j3 x0 x1 x2 x3 x4)), .second, .val (.int (f0_j9 x0 x1 x2 x3 x4)), .val (.ref b13), .val (.ref b18), .val (.int (f0_v30 x0 x1 x2 x3 x4)), .val (.int (f0_v32 x0 x1 x2 x3 x4)), .val (.int (f0_v34 x0 x1 x2 x3 x4))] [(.int (f0_v30 x0 x1 x2 x3 x4))])) _
    refine XS.iloadN X33.here hx rfl (hb hby at_82) rfl ?_
    show Steps p.tables e below (T33.setTop (mkF m 83 #[.val (.int x0), .val (.long x1), .second, .val (.int x2), .val (.long x3), .second, .val (.int x4), .val (.long (f0_j3 x0 x1 x2 x3 x4)), .second, .val (.int (f0_j9 x0 x1 x2 x3 x4)), .val (.ref b13), .val (.ref b18), .val (.int (f0_v30 x0 x1 x2 x3 x4)), .val (.int (f0_v32 x0 x1 x2 x3 x4)), .val (.int (f0_v34 x0 x1 x2 x3 x4))] [(.int x0), (.int (f0_v30 x0 x1 x2 x3 x4))])) _
    refine XS.lloadN X33.here hx rfl (hb hby at_83) rfl ?_
    show Steps p.tables e below (T33.setTop (mkF m 84 #[.val (.int x0), .val (.long x1), .second, .val (.int x2), .val (.long x3), .second, .val (.int x4), .val (.long (f0_j3 x0 x1 x2 x3 x4)), .second, .val (.int (f0_j9 x0 x1 x2 x3 x4)), .val (.ref b13), .val (.ref b18), .val (.int (f0_v30 x0 x1 x2 x3 x4)), .val (.int (f0_v32 x0 x1 x2 x3 x4)), .val (.int (f0_v34 x0 x1 x2 x3 x4))] [(.long x1), (.int x0), (.int (f0_v30 x0 x1 x2 x3 x4))])) _
    refine XS.iload X33.here hx rfl (hb hby at_84) rfl ?_
    show Steps p.tables e below (T33.setTop (mkF m 86 #[.val (.int x0), .val (.long x1), .second, .val (.int x2), .val (.long x3), .second, .val (.int x4), .val (.long (f0_j3 x0 x1 x2 x3 x4)), .second, .val (.int (f0_j9 x0 x1 x2 x3 x4)), .val (.ref b13), .val (.ref b18), .val (.int (f0_v30 x0 x1 x2 x3 x4)), .val (.int (f0_v32 x0 x1 x2 x3 x4)), .val (.int (f0_v34 x0 x1 x2 x3 x4))] [(.int (f0_j9 x0 x1 x2 x3 x4)), (.long x1), (.int x0), (.int (f0_v30 x0 x1 x2 x3 x4))])) _
    refine XS.lload X33.here hx rfl (hb hby at_86) rfl ?_
    show Steps p.tables e below (T33.setTop (mkF m 88 #[.val (.int x0), .val (.long x1), .second, .val (.int x2), .val (.long x3), .second, .val (.int x4), .val (.long (f0_j3 x0 x1 x2 x3 x4)), .second, .val (.int (f0_j9 x0 x1 x2 x3 x4)), .val (.ref b13), .val (.ref b18), .val (.int (f0_v30 x0 x1 x2 x3 x4)), .val (.int (f0_v32 x0 x1 x2 x3 x4)), .val (.int (f0_v34 x0 x1 x2 x3 x4))] [(.long (f0_j3 x0 x1 x2 x3 x4)), (.int (f0_j9 x0 x1 x2 x3 x4)), (.long x1), (.int x0), (.int (f0_v30 x0 x1 x2 x3 x4))])) _
    refine st35 _ ?_
    exact k
  obtain ⟨T51, L51, X51, N51, e51, pre51⟩ : ∃ (T' : State) (L' : List Loc), Stand p l e room_1 s m #[(.int x0), (.long x1), (.int x2), (.long x3), (.int x4)] below meth c T' L' 2 4 ∧ Fr n0 L' ∧ T'.heap = h24 ∧ ∀ t, Steps p.tables e below (T'.setTop (mkF m 118 #[.val (.int x0), .val (.long x1), .second, .val (.int x2), .val (.long x3), .second, .val (.int x4), .val (.long (f0_j3 x0 x1 x2 x3 x4)), .second, .val (.int (f0_j9 x0 x1 x2 x3 x4)), .val (.ref b13), .val (.ref b18), .val (.int (f0_v30 x0 x1 x2 x3 x4)), .val (.int (f0_v32 x0 x1 x2 x3 x4)), .val (.int (f0_v34 x0 x1 x2 x3 x4))] [(.int (f0_j50 x0 x1 x2 x3 x4))])) t → Steps p.tables e below (s₁.setTop (entryFrame m #[(.int x0), (.long x1), (.int x2), (.long x3), (.int x4)] maxLocals)) t := by
    rcases Bool.eq_false_or_eq_true (if_icmp.holds .ne (f0_v30 x0 x1 x2 x3 x4) (f5 x0 x1 (f0_j9 x0 x1 x2 x3 x4) (f0_j3 x0 x1 x2 x3 x4))) with hc37 | hc37
    · have pre52 : ∀ t, Steps p.tables e below (T35.setTop (mkF m 118 #[.val (.int x0), .val (.long x1), .second, .val (.int x2), .val (.long x3), .second, .val (.int x4), .val (.long (f0_j3 x0 x1 x2 x3 x4)), .second, .val (.int (f0_j9 x0 x1 x2 x3 x4)), .val (.ref b13), .val (.ref b18), .val (.int (f0_v30 x0 x1 x2 x3 x4)), .val (.int (f0_v32 x0 x1 x2 x3 x4)), .val (.int (f0_v34 x0 x1 x2 x3 x4))] [(.int (0 : Int32))])) t → Steps p.tables e below (s₁.setTop (entryFrame m #[(.int x0), (.long x1), (.int x2), (.long x3), (.int x4)] maxLocals)) t := by
        intro t k
        refine pre36 _ ?_
        show Steps p.tables e below (T35.setTop (mkF m 91 #[.val (.int x0), .val (.long x1), .second, .val (.int x2), .val (.long x3), .second, .val (.int x4), .val (.long (f0_j3 x0 x1 x2 x3 x4)), .second, .val (.int (f0_j9 x0 x1 x2 x3 x4)), .val (.ref b13), .val (.ref b18), .val (.int (f0_v30 x0 x1 x2 x3 x4)), .val (.int (f0_v32 x0 x1 x2 x3 x4)), .val (.int (f0_v34 x0 x1 x2 x3 x4))] [(.int (f5 x0 x1 (f0_j9 x0 x1 x2 x3 x4) (f0_j3 x0 x1 x2 x3 x4))), (.int (f0_v30 x0 x1 x2 x3 x4))])) _
        refine XS.icmpYes X35.here hx rfl (pc0 := 91) (pc' := 117) rfl (hb hby at_91) rfl hc37 (by decide) (by decide) ?_
        show Steps p.tables e below (T35.setTop (mkF m 117 #[.val (.int x0), .val (.long x1), .second, .val (.int x2), .val (.long x3), .second, .val (.int x4), .val (.long (f0_j3 x0 x1 x2 x3 x4)), .second, .val (.int (f0_j9 x0 x1 x2 x3 x4)), .val (.ref b13), .val (.ref b18), .val (.int (f0_v30 x0 x1 x2 x3 x4)), .val (.int (f0_v32 x0 x1 x2 x3 x4)), .val (.int (f0_v34 x0 x1 x2 x3 x4))] [])) _
        refine XS.iconst X35.here hx rfl (hb hby at_117) ?_
        exact k
      have qj0 : (f0_j50 x0 x1 x2 x3 x4) = (0 : Int32) := if_pos hc37
      refine ⟨T35, _, X35, N35, e35, fun t k => pre52 _ ?_⟩
      rw [qj0] at k
      exact k
    · obtain ⟨_, _, ⟨T38, L38, k38, n38⟩, -, X38, ⟨Lc38, hQ38, l38, y38, z38⟩, st38⟩ := Jvm.LawKit.callS X35 hx (y := (⟨"com/example/nodes_in_quorum/nodesinquorum/quorum/VoteBeatsPinLaw", "expected", "(IJIJ)Z"⟩ : MethodName)) hown (mvT hZ (hw _ (List.mem_of_getElem? (i := 23) rfl))) (mvT hZ (hw _ (List.mem_of_getElem? (i := 24) rfl))) (mvT hZ (hw _ (List.mem_of_getElem? (i := 25) rfl))) (mvT hZ (hw _ (List.mem_of_getElem? (i := 26) rfl))) (by decide) (backOf (W := 1) (rm5 l Z a0 hw [] (f0_j9 x0 x1 x2 x3 x4) (f0_j3 x0 x1 x2 x3 x4) x0 x1 h24 n0 Z24) hZ (hw _ (List.mem_of_getElem? (i := 26) rfl)) (hw _ (List.mem_of_getElem? (i := 25) rfl)) (by decide) (by decide)) (g := (mkF m 102 #[.val (.int x0), .val (.long x1), .second, .val (.int x2), .val (.long x3), .second, .val (.int x4), .val (.long (f0_j3 x0 x1 x2 x3 x4)), .second, .val (.int (f0_j9 x0 x1 x2 x3 x4)), .val (.ref b13), .val (.ref b18), .val (.int (f0_v30 x0 x1 x2 x3 x4)), .val (.int (f0_v32 x0 x1 x2 x3 x4)), .val (.int (f0_v34 x0 x1 x2 x3 x4))] [(.long x1), (.int x0), (.long (f0_j3 x0 x1 x2 x3 x4)), (.int (f0_j9 x0 x1 x2 x3 x4)), (.int (f0_v32 x0 x1 x2 x3 x4))])) rfl (by rw [hml]; rfl) (argsL := [(.int (f0_j9 x0 x1 x2 x3 x4)), (.long (f0_j3 x0 x1 x2 x3 x4)), (.int x0), (.long x1)]) (rest := [(.int (f0_v32 x0 x1 x2 x3 x4))]) (lenOf pd_3 rfl) rfl (by show 2 * 0 + _ ≤ _; exact Nat.le_of_eq rfl) (hb hby at_102) (fun _ _ => ⟨rfl, e35, (by decide : 2 + 0 ≤ _), (by decide : 4 + 0 ≤ _)⟩)
      dsimp only [Pt.U, Pt.locs, Pt.cells, Pt.slots] at X38 l38 y38 z38 st38 hQ38
      subst l38 y38 z38
      obtain ⟨rfl, Nq38, e38⟩ := hQ38
      have N38 := Fr.app N35 Nq38
      have pre39 : ∀ t, Steps p.tables e below (T38.setTop (mkF m 105 #[.val (.int x0), .val (.long x1), .second, .val (.int x2), .val (.long x3), .second, .val (.int x4), .val (.long (f0_j3 x0 x1 x2 x3 x4)), .second, .val (.int (f0_j9 x0 x1 x2 x3 x4)), .val (.ref b13), .val (.ref b18), .val (.int (f0_v30 x0 x1 x2 x3 x4)), .val (.int (f0_v32 x0 x1 x2 x3 x4)), .val (.int (f0_v34 x0 x1 x2 x3 x4))] [(.int (f5 (f0_j9 x0 x1 x2 x3 x4) (f0_j3 x0 x1 x2 x3 x4) x0 x1)), (.int (f0_v32 x0 x1 x2 x3 x4))])) t → Steps p.tables e below (s₁.setTop (entryFrame m #[(.int x0), (.long x1), (.int x2), (.long x3), (.int x4)] maxLocals)) t := by
        intro t k
        refine pre36 _ ?_
        show Steps p.tables e below (T35.setTop (mkF m 91 #[.val (.int x0), .val (.long x1), .second, .val (.int x2), .val (.long x3), .second, .val (.int x4), .val (.long (f0_j3 x0 x1 x2 x3 x4)), .second, .val (.int (f0_j9 x0 x1 x2 x3 x4)), .val (.ref b13), .val (.ref b18), .val (.int (f0_v30 x0 x1 x2 x3 x4)), .val (.int (f0_v32 x0 x1 x2 x3 x4)), .val (.int (f0_v34 x0 x1 x2 x3 x4))] [(.int (f5 x0 x1 (f0_j9 x0 x1 x2 x3 x4) (f0_j3 x0 x1 x2 x3 x4))), (.int (f0_v30 x0 x1 x2 x3 x4))])) _
        refine XS.icmpNo X35.here hx rfl (hb hby at_91) rfl hc37 ?_
        show Steps p.tables e below (T35.setTop (mkF m 94 #[.val (.int x0), .val (.long x1), .second, .val (.int x2), .val (.long x3), .second, .val (.int x4), .val (.long (f0_j3 x0 x1 x2 x3 x4)), .second, .val (.int (f0_j9 x0 x1 x2 x3 x4)), .val (.ref b13), .val (.ref b18), .val (.int (f0_v30 x0 x1 x2 x3 x4)), .val (.int (f0_v32 x0 x1 x2 x3 x4)), .val (.int (f0_v34 x0 x1 x2 x3 x4))] [])) _
        refine XS.iload X35.here hx rfl (hb hby at_94) rfl ?_
        show Steps p.tables e below (T35.setTop (mkF m 96 #[.val (.int x0), .val (.long x1), .second, .val (.int x2), .val (.long x3), .second, .val (.int x4), .val (.long (f0_j3 x0 x1 x2 x3 x4)), .second, .val (.int (f0_j9 x0 x1 x2 x3 x4)), .val (.ref b13), .val (.ref b18), .val (.int (f0_v30 x0 x1 x2 x3 x4)), .val (.int (f0_v32 x0 x1 x2 x3 x4)), .val (.int (f0_v34 x0 x1 x2 x3 x4))] [(.int (f0_v32 x0 x1 x2 x3 x4))])) _
        refine XS.iload X35.here hx rfl (hb hby at_96) rfl ?_
        show Steps p.tables e below (T35.setTop (mkF m 98 #[.val (.int x0), .val (.long x1), .second, .val (.int x2), .val (.long x3), .second, .val (.int x4), .val (.long (f0_j3 x0 x1 x2 x3 x4)), .second, .val (.int (f0_j9 x0 x1 x2 x3 x4)), .val (.ref b13), .val (.ref b18), .val (.int (f0_v30 x0 x1 x2 x3 x4)), .val (.int (f0_v32 x0 x1 x2 x3 x4)), .val (.int (f0_v34 x0 x1 x2 x3 x4))] [(.int (f0_j9 x0 x1 x2 x3 x4)), (.int (f0_v32 x0 x1 x2 x3 x4))])) _
        refine XS.lload X35.here hx rfl (hb hby at_98) rfl ?_
        show Steps p.tables e below (T35.setTop (mkF m 100 #[.val (.int x0), .val (.long x1), .second, .val (.int x2), .val (.long x3), .second, .val (.int x4), .val (.long (f0_j3 x0 x1 x2 x3 x4)), .second, .val (.int (f0_j9 x0 x1 x2 x3 x4)), .val (.ref b13), .val (.ref b18), .val (.int (f0_v30 x0 x1 x2 x3 x4)), .val (.int (f0_v32 x0 x1 x2 x3 x4)), .val (.int (f0_v34 x0 x1 x2 x3 x4))] [(.long (f0_j3 x0 x1 x2 x3 x4)), (.int (f0_j9 x0 x1 x2 x3 x4)), (.int (f0_v32 x0 x1 x2 x3 x4))])) _
        refine XS.iloadN X35.here hx rfl (hb hby at_100) rfl ?_
        show Steps p.tables e below (T35.setTop (mkF m 101 #[.val (.int x0), .val (.long x1), .second, .val (.int x2), .val (.long x3), .second, .val (.int x4), .val (.long (f0_j3 x0 x1 x2 x3 x4)), .second, .val (.int (f0_j9 x0 x1 x2 x3 x4)), .val (.ref b13), .val (.ref b18), .val (.int (f0_v30 x0 x1 x2 x3 x4)), .val (.int (f0_v32 x0 x1 x2 x3 x4)), .val (.int (f0_v34 x0 x1 x2 x3 x4))] [(.int x0), (.long (f0_j3 x0 x1 x2 x3 x4)), (.int (f0_j9 x0 x1 x2 x3 x4)), (.int (f0_v32 x0 x1 x2 x3 x4))])) _
        refine XS.lloadN X35.here hx rfl (hb hby at_101) rfl ?_
        show Steps p.tables e below (T35.setTop (mkF m 102 #[.val (.int x0), .val (.long x1), .second, .val (.int x2), .val (.long x3), .second, .val (.int x4), .val (.long (f0_j3 x0 x1 x2 x3 x4)), .second, .val (.int (f0_j9 x0 x1 x2 x3 x4)), .val (.ref b13), .val (.ref b18), .val (.int (f0_v30 x0 x1 x2 x3 x4)), .val (.int (f0_v32 x0 x1 x2 x3 x4)), .val (.int (f0_v34 x0 x1 x2 x3 x4))] [(.long x1), (.int x0), (.long (f0_j3 x0 x1 x2 x3 x4)), (.int (f0_j9 x0 x1 x2 x3 x4)), (.int (f0_v32 x0 x1 x2 x3 x4))])) _
        refine st38 _ ?_
        exact k
      obtain ⟨T48, L48, X48, N48, e48, pre48⟩ : ∃ (T' : State) (L' : List Loc), Stand p l e room_1 s m #[(.int x0), (.long x1), (.int x2), (.long x3), (.int x4)] below meth c T' L' 2 4 ∧ Fr n0 L' ∧ T'.heap = h24 ∧ ∀ t, Steps p.tables e below (T'.setTop (mkF m 118 #[.val (.int x0), .val (.long x1), .second, .val (.int x2), .val (.long x3), .second, .val (.int x4), .val (.long (f0_j3 x0 x1 x2 x3 x4)), .second, .val (.int (f0_j9 x0 x1 x2 x3 x4)), .val (.ref b13), .val (.ref b18), .val (.int (f0_v30 x0 x1 x2 x3 x4)), .val (.int (f0_v32 x0 x1 x2 x3 x4)), .val (.int (f0_v34 x0 x1 x2 x3 x4))] [(.int (f0_j47 x0 x1 x2 x3 x4))])) t → Steps p.tables e below (s₁.setTop (entryFrame m #[(.int x0), (.long x1), (.int x2), (.long x3), (.int x4)] maxLocals)) t := by
        rcases Bool.eq_false_or_eq_true (if_icmp.holds .ne (f0_v32 x0 x1 x2 x3 x4) (f5 (f0_j9 x0 x1 x2 x3 x4) (f0_j3 x0 x1 x2 x3 x4) x0 x1)) with hc40 | hc40
        · have pre49 : ∀ t, Steps p.tables e below (T38.setTop (mkF m 118 #[.val (.int x0), .val (.long x1), .second, .val (.int x2), .val (.long x3), .second, .val (.int x4), .val (.long (f0_j3 x0 x1 x2 x3 x4)), .second, .val (.int (f0_j9 x0 x1 x2 x3 x4)), .val (.ref b13), .val (.ref b18), .val (.int (f0_v30 x0 x1 x2 x3 x4)), .val (.int (f0_v32 x0 x1 x2 x3 x4)), .val (.int (f0_v34 x0 x1 x2 x3 x4))] [(.int (0 : Int32))])) t → Steps p.tables e below (s₁.setTop (entryFrame m #[(.int x0), (.long x1), (.int x2), (.long x3), (.int x4)] maxLocals)) t := by
            intro t k
            refine pre39 _ ?_
            show Steps p.tables e below (T38.setTop (mkF m 105 #[.val (.int x0), .val (.long x1), .second, .val (.int x2), .val (.long x3), .second, .val (.int x4), .val (.long (f0_j3 x0 x1 x2 x3 x4)), .second, .val (.int (f0_j9 x0 x1 x2 x3 x4)), .val (.ref b13), .val (.ref b18), .val (.int (f0_v30 x0 x1 x2 x3 x4)), .val (.int (f0_v32 x0 x1 x2 x3 x4)), .val (.int (f0_v34 x0 x1 x2 x3 x4))] [(.int (f5 (f0_j9 x0 x1 x2 x3 x4) (f0_j3 x0 x1 x2 x3 x4) x0 x1)), (.int (f0_v32 x0 x1 x2 x3 x4))])) _
            refine XS.icmpYes X38.here hx rfl (pc0 := 105) (pc' := 117) rfl (hb hby at_105) rfl hc40 (by decide) (by decide) ?_
            show Steps p.tables e below (T38.setTop (mkF m 117 #[.val (.int x0), .val (.long x1), .second, .val (.int x2), .val (.long x3), .second, .val (.int x4), .val (.long (f0_j3 x0 x1 x2 x3 x4)), .second, .val (.int (f0_j9 x0 x1 x2 x3 x4)), .val (.ref b13), .val (.ref b18), .val (.int (f0_v30 x0 x1 x2 x3 x4)), .val (.int (f0_v32 x0 x1 x2 x3 x4)), .val (.int (f0_v34 x0 x1 x2 x3 x4))] [])) _
            refine XS.iconst X38.here hx rfl (hb hby at_117) ?_
            exact k
          have qj0 : (f0_j47 x0 x1 x2 x3 x4) = (0 : Int32) := if_pos hc40
          refine ⟨T38, _, X38, N38, e38, fun t k => pre49 _ ?_⟩
          rw [qj0] at k
          exact k
        · have pre41 : ∀ t, Steps p.tables e below (T38.setTop (mkF m 110 #[.val (.int x0), .val (.long x1), .second, .val (.int x2), .val (.long x3), .second, .val (.int x4), .val (.long (f0_j3 x0 x1 x2 x3 x4)), .second, .val (.int (f0_j9 x0 x1 x2 x3 x4)), .val (.ref b13), .val (.ref b18), .val (.int (f0_v30 x0 x1 x2 x3 x4)), .val (.int (f0_v32 x0 x1 x2 x3 x4)), .val (.int (f0_v34 x0 x1 x2 x3 x4))] [(.int (f0_v34 x0 x1 x2 x3 x4))])) t → Steps p.tables e below (s₁.setTop (entryFrame m #[(.int x0), (.long x1), (.int x2), (.long x3), (.int x4)] maxLocals)) t := by
            intro t k
            refine pre39 _ ?_
            show Steps p.tables e below (T38.setTop (mkF m 105 #[.val (.int x0), .val (.long x1), .second, .val (.int x2), .val (.long x3), .second, .val (.int x4), .val (.long (f0_j3 x0 x1 x2 x3 x4)), .second, .val (.int (f0_j9 x0 x1 x2 x3 x4)), .val (.ref b13), .val (.ref b18), .val (.int (f0_v30 x0 x1 x2 x3 x4)), .val (.int (f0_v32 x0 x1 x2 x3 x4)), .val (.int (f0_v34 x0 x1 x2 x3 x4))] [(.int (f5 (f0_j9 x0 x1 x2 x3 x4) (f0_j3 x0 x1 x2 x3 x4) x0 x1)), (.int (f0_v32 x0 x1 x2 x3 x4))])) _
            refine XS.icmpNo X38.here hx rfl (hb hby at_105) rfl hc40 ?_
            show Steps p.tables e below (T38.setTop (mkF m 108 #[.val (.int x0), .val (.long x1), .second, .val (.int x2), .val (.long x3), .second, .val (.int x4), .val (.long (f0_j3 x0 x1 x2 x3 x4)), .second, .val (.int (f0_j9 x0 x1 x2 x3 x4)), .val (.ref b13), .val (.ref b18), .val (.int (f0_v30 x0 x1 x2 x3 x4)), .val (.int (f0_v32 x0 x1 x2 x3 x4)), .val (.int (f0_v34 x0 x1 x2 x3 x4))] [])) _
            refine XS.iload X38.here hx rfl (hb hby at_108) rfl ?_
            exact k
          obtain ⟨T44, L44, X44, N44, e44, pre44⟩ : ∃ (T' : State) (L' : List Loc), Stand p l e room_1 s m #[(.int x0), (.long x1), (.int x2), (.long x3), (.int x4)] below meth c T' L' 2 4 ∧ Fr n0 L' ∧ T'.heap = h24 ∧ ∀ t, Steps p.tables e below (T'.setTop (mkF m 118 #[.val (.int x0), .val (.long x1), .second, .val (.int x2), .val (.long x3), .second, .val (.int x4), .val (.long (f0_j3 x0 x1 x2 x3 x4)), .second, .val (.int (f0_j9 x0 x1 x2 x3 x4)), .val (.ref b13), .val (.ref b18), .val (.int (f0_v30 x0 x1 x2 x3 x4)), .val (.int (f0_v32 x0 x1 x2 x3 x4)), .val (.int (f0_v34 x0 x1 x2 x3 x4))] [(.int (f0_j43 x0 x1 x2 x3 x4))])) t → Steps p.tables e below (s₁.setTop (entryFrame m #[(.int x0), (.long x1), (.int x2), (.long x3), (.int x4)] maxLocals)) t := by
            rcases Bool.eq_false_or_eq_true (ifCond.holds .ne (f0_v34 x0 x1 x2 x3 x4)) with hc42 | hc42
            · have pre45 : ∀ t, Steps p.tables e below (T38.setTop (mkF m 118 #[.val (.int x0), .val (.long x1), .second, .val (.int x2), .val (.long x3), .second, .val (.int x4), .val (.long (f0_j3 x0 x1 x2 x3 x4)), .second, .val (.int (f0_j9 x0 x1 x2 x3 x4)), .val (.ref b13), .val (.ref b18), .val (.int (f0_v30 x0 x1 x2 x3 x4)), .val (.int (f0_v32 x0 x1 x2 x3 x4)), .val (.int (f0_v34 x0 x1 x2 x3 x4))] [(.int (0 : Int32))])) t → Steps p.tables e below (s₁.setTop (entryFrame m #[(.int x0), (.long x1), (.int x2), (.long x3), (.int x4)] maxLocals)) t := by
                intro t k
                refine pre41 _ ?_
                show Steps p.tables e below (T38.setTop (mkF m 110 #[.val (.int x0), .val (.long x1), .second, .val (.int x2), .val (.long x3), .second, .val (.int x4), .val (.long (f0_j3 x0 x1 x2 x3 x4)), .second, .val (.int (f0_j9 x0 x1 x2 x3 x4)), .val (.ref b13), .val (.ref b18), .val (.int (f0_v30 x0 x1 x2 x3 x4)), .val (.int (f0_v32 x0 x1 x2 x3 x4)), .val (.int (f0_v34 x0 x1 x2 x3 x4))] [(.int (f0_v34 x0 x1 x2 x3 x4))])) _
                refine XS.ifYes X38.here hx rfl (pc0 := 110) (pc' := 117) rfl (hb hby at_110) rfl hc42 (by decide) (by decide) ?_
                show Steps p.tables e below (T38.setTop (mkF m 117 #[.val (.int x0), .val (.long x1), .second, .val (.int x2), .val (.long x3), .second, .val (.int x4), .val (.long (f0_j3 x0 x1 x2 x3 x4)), .second, .val (.int (f0_j9 x0 x1 x2 x3 x4)), .val (.ref b13), .val (.ref b18), .val (.int (f0_v30 x0 x1 x2 x3 x4)), .val (.int (f0_v32 x0 x1 x2 x3 x4)), .val (.int (f0_v34 x0 x1 x2 x3 x4))] [])) _
                refine XS.iconst X38.here hx rfl (hb hby at_117) ?_
                exact k
              have qj0 : (f0_j43 x0 x1 x2 x3 x4) = (0 : Int32) := if_pos hc42
              refine ⟨T38, _, X38, N38, e38, fun t k => pre45 _ ?_⟩
              rw [qj0] at k
              exact k
            · have pre46 : ∀ t, Steps p.tables e below (T38.setTop (mkF m 118 #[.val (.int x0), .val (.long x1), .second, .val (.int x2), .val (.long x3), .second, .val (.int x4), .val (.long (f0_j3 x0 x1 x2 x3 x4)), .second, .val (.int (f0_j9 x0 x1 x2 x3 x4)), .val (.ref b13), .val (.ref b18), .val (.int (f0_v30 x0 x1 x2 x3 x4)), .val (.int (f0_v32 x0 x1 x2 x3 x4)), .val (.int (f0_v34 x0 x1 x2 x3 x4))] [(.int (1 : Int32))])) t → Steps p.tables e below (s₁.setTop (entryFrame m #[(.int x0), (.long x1), (.int x2), (.long x3), (.int x4)] maxLocals)) t := by
                intro t k
                refine pre41 _ ?_
                show Steps p.tables e below (T38.setTop (mkF m 110 #[.val (.int x0), .val (.long x1), .second, .val (.int x2), .val (.long x3), .second, .val (.int x4), .val (.long (f0_j3 x0 x1 x2 x3 x4)), .second, .val (.int (f0_j9 x0 x1 x2 x3 x4)), .val (.ref b13), .val (.ref b18), .val (.int (f0_v30 x0 x1 x2 x3 x4)), .val (.int (f0_v32 x0 x1 x2 x3 x4)), .val (.int (f0_v34 x0 x1 x2 x3 x4))] [(.int (f0_v34 x0 x1 x2 x3 x4))])) _
                refine XS.ifNo X38.here hx rfl (hb hby at_110) rfl hc42 ?_
                show Steps p.tables e below (T38.setTop (mkF m 113 #[.val (.int x0), .val (.long x1), .second, .val (.int x2), .val (.long x3), .second, .val (.int x4), .val (.long (f0_j3 x0 x1 x2 x3 x4)), .second, .val (.int (f0_j9 x0 x1 x2 x3 x4)), .val (.ref b13), .val (.ref b18), .val (.int (f0_v30 x0 x1 x2 x3 x4)), .val (.int (f0_v32 x0 x1 x2 x3 x4)), .val (.int (f0_v34 x0 x1 x2 x3 x4))] [])) _
                refine XS.iconst X38.here hx rfl (hb hby at_113) ?_
                show Steps p.tables e below (T38.setTop (mkF m 114 #[.val (.int x0), .val (.long x1), .second, .val (.int x2), .val (.long x3), .second, .val (.int x4), .val (.long (f0_j3 x0 x1 x2 x3 x4)), .second, .val (.int (f0_j9 x0 x1 x2 x3 x4)), .val (.ref b13), .val (.ref b18), .val (.int (f0_v30 x0 x1 x2 x3 x4)), .val (.int (f0_v32 x0 x1 x2 x3 x4)), .val (.int (f0_v34 x0 x1 x2 x3 x4))] [(.int (1 : Int32))])) _
                refine XS.goto X38.here hx rfl (pc0 := 114) (pc' := 118) rfl (hb hby at_114) (by decide) (by decide) ?_
                exact k
              have qj0 : (f0_j43 x0 x1 x2 x3 x4) = (1 : Int32) := if_neg (own_nt hc42)
              refine ⟨T38, _, X38, N38, e38, fun t k => pre46 _ ?_⟩
              rw [qj0] at k
              exact k
          have qj0 : (f0_j47 x0 x1 x2 x3 x4) = (f0_j43 x0 x1 x2 x3 x4) := if_neg (own_nt hc40)
          refine ⟨T44, _, X44, N44, e44, fun t k => pre44 _ ?_⟩
          rw [qj0] at k
          exact k
      have qj0 : (f0_j50 x0 x1 x2 x3 x4) = (f0_j47 x0 x1 x2 x3 x4) := if_neg (own_nt hc37)
      refine ⟨T48, _, X48, N48, e48, fun t k => pre48 _ ?_⟩
      rw [qj0] at k
      exact k
  obtain ⟨fs, hr, hrun, hended, hW, hsame⟩ := X51.leave (v := some (.int (nar .boolean (f0_j50 x0 x1 x2 x3 x4)))) (fun h => by rw [hret] at h; cases h)
  refine ⟨_, _, pre51 _ ?_, hrun, hended, _, _, rfl, ?_, ⟨_, rfl⟩, hW, hsame.mono (by decide) (by decide)⟩
  · show Steps p.tables e below (T51.setTop (mkF m 118 #[.val (.int x0), .val (.long x1), .second, .val (.int x2), .val (.long x3), .second, .val (.int x4), .val (.long (f0_j3 x0 x1 x2 x3 x4)), .second, .val (.int (f0_j9 x0 x1 x2 x3 x4)), .val (.ref b13), .val (.ref b18), .val (.int (f0_v30 x0 x1 x2 x3 x4)), .val (.int (f0_v32 x0 x1 x2 x3 x4)), .val (.int (f0_v34 x0 x1 x2 x3 x4))] [(.int (f0_j50 x0 x1 x2 x3 x4))])) _
    exact retN X51 hx (t := .boolean) hret (by simp) (hb hby at_118) hr
  · show Q0 Z x0 x1 x2 x3 x4 h0 n0 _ T51.heap _
    rw [e51]
    have rr : f0 x0 x1 x2 x3 x4 = (nar .boolean (f0_j50 x0 x1 x2 x3 x4)) := rfl
    exact ⟨congrArg (fun z => some (Value.int z)) rr.symm, N51⟩
/-- the one vote beats the other -/
def own_beats (z1 z2 : Int64) (l1 l2 : Int32) : Prop := z2.toInt < z1.toInt ∨ (z1.toInt = z2.toInt ∧ l2.toInt < l1.toInt)
theorem own_f4 (z1 z2 : Int64) (l1 l2 : Int32) : (own_beats z1 z2 l1 l2 ∧ f4 z1 z2 l1 l2 = 1) ∨ (¬ own_beats z1 z2 l1 l2 ∧ f4 z1 z2 l1 l2 = 0) := by
  unfold f4 f4_j20 f4_j17 f4_j13 own_beats
  simp only [own_cgt, own_cne, own_ile]
  split
  · exact Or.inl ⟨by omega, rfl⟩
  · split
    · exact Or.inr ⟨by omega, rfl⟩
    · split
      · exact Or.inr ⟨by omega, rfl⟩
      · exact Or.inl ⟨by omega, rfl⟩
theorem own_f5 (l1 : Int32) (z1 : Int64) (l2 : Int32) (z2 : Int64) : (own_beats z1 z2 l1 l2 ∧ f5 l1 z1 l2 z2 = 1) ∨ (¬ own_beats z1 z2 l1 l2 ∧ f5 l1 z1 l2 z2 = 0) := by
  unfold f5 own_beats
  simp only [own_cge, own_ige]
  split
  · split
    · split
      · split
        · exact Or.inr ⟨by omega, rfl⟩
        · exact Or.inl ⟨by omega, rfl⟩
      · exact Or.inr ⟨by omega, rfl⟩
    · exact Or.inl ⟨by omega, rfl⟩
  · exact Or.inr ⟨by omega, rfl⟩
theorem own_45 (z1 z2 : Int64) (l1 l2 : Int32) : f4 z1 z2 l1 l2 = f5 l1 z1 l2 z2 := by
  rcases own_f4 z1 z2 l1 l2 with ⟨h1, h2⟩ | ⟨h1, h2⟩ <;> rcases own_f5 l1 z1 l2 z2 with ⟨h3, h4⟩ | ⟨h3, h4⟩
  · rw [h2, h4]
  · exact absurd h1 h3
  · exact absurd h3 h1
  · rw [h2, h4]
theorem own_law (x0 : Int32) (x1 : Int64) (x2 : Int32) (x3 : Int64) (x4 : Int32) : f0 x0 x1 x2 x3 x4 = 1 := by
  have e0 : (0 : Int32).toInt = 0 := rfl
  have h1 : f0_v34 x0 x1 x2 x3 x4 = 0 := by
    unfold f0_v34
    rcases own_f4 x1 x1 x0 x0 with ⟨h, -⟩ | ⟨-, h⟩
    · unfold own_beats at h
      omega
    · exact h
  have h2 : f0_j43 x0 x1 x2 x3 x4 = 1 := by
    unfold f0_j43
    rw [h1]
    rfl
  have h3 : f0_j47 x0 x1 x2 x3 x4 = 1 := by
    unfold f0_j47 f0_v32
    rw [own_45, if_neg (by rw [own_ine]; exact fun q => q rfl)]
    exact h2
  have h4 : f0_j50 x0 x1 x2 x3 x4 = 1 := by
    unfold f0_j50 f0_v30
    rw [own_45, if_neg (by rw [own_ine]; exact fun q => q rfl)]
    exact h3
  exact own_nar1 h4
set_option maxRecDepth 65536 in
set_option maxHeartbeats 40000000 in
theorem comes_1 {Post : Tables → Env → Array Value → State → Outcome → State → Prop} (hpost : ∀ tb e args s v u, (limb_1_1.after args s (.returned v) u = true ∧ limb_1_2.after args s (.returned v) u = true ∧ True) → FrameEnd s (.returned v) u (Jvm.fieldLocs frame_1_writes args s ++ Jvm.arrayLocs frame_1_arrays args s ++ Jvm.staticLocs frame_1_statics s) 16 128 → Post tb e args s (.returned v) u) :
    ArmFor flags0 classFile x code maxLocals ret World_1 tables_1 room_1 Calls_1 rest_1 Pre_1 Post := by
  intro l hfl _ _ p e ha hc hk s m args below hf hA hF happ hP
  obtain ⟨hcalls, hrest, hpre⟩ := hP
  obtain ⟨-, -, -, hnamed, -, -, -, hat⟩ := (Spec.applies_iff hf).mp happ
  obtain ⟨hg, hn⟩ := and_e (Cond.before_iff.mp (show (Jvm.Cond.and given_1 narrow_1).before args s = true from hpre))
  obtain ⟨g1, g2⟩ := and_e hg
  obtain ⟨g3, g4⟩ := and_e g2
  obtain ⟨g5, g6⟩ := and_e g4
  obtain ⟨g7, g8⟩ := and_e g6
  obtain ⟨g9, g10⟩ := and_e g8
  obtain ⟨w0, w1, w2, w3, w4, rfl⟩ : ∃ w0 w1 w2 w3 w4 : Value, args = #[w0, w1, w2, w3, w4] := by
    have hs : args.size = 5 := by simpa [Cond.value, given_1] using g1
    obtain ⟨L⟩ := args
    match L, hs with
    | [w0, w1, w2, w3, w4], _ => exact ⟨w0, w1, w2, w3, w4, rfl⟩
  have hw := fun d (hd : d ∈ tables_1) => atoms_spec (ws := Jvm.Cond.code x code maxLocals ret :: tables_1) hat d (List.mem_cons_of_mem _ hd)
  obtain ⟨i0, ei0⟩ := is_v g3
  obtain rfl : w0 = (.int i0) := Option.some.inj ei0
  obtain ⟨i1, ei1⟩ := isL_v g5
  obtain rfl : w1 = (.long i1) := Option.some.inj ei1
  obtain ⟨i2, ei2⟩ := is_v g7
  obtain rfl : w2 = (.int i2) := Option.some.inj ei2
  obtain ⟨i3, ei3⟩ := isL_v g9
  obtain rfl : w3 = (.long i3) := Option.some.inj ei3
  obtain ⟨i4, ei4⟩ := is_v g10
  obtain rfl : w4 = (.int i4) := Option.some.inj ei4
  obtain ⟨n, o, h1, h2, h3, v, L, rfl, ⟨hv, N⟩, hq⟩ := rm0 l s _ hw tables_1 i0 i1 i2 i3 i4 s.heap s.heap.size (Nat.le_refl _) p e ha hc hk s m _ below hf ((Spec.applies_iff_loose hf).mp happ).1 ⟨rfl, State.Warmed39.refl s, rfl⟩ trivial
  rw [own_law] at hv
  subst hv
  refine ⟨n, _, h1, h2, h3, hpost _ _ _ _ _ _ ⟨Cond.after_iff.mpr rfl, Cond.after_iff.mpr (eq_i res_at (Term.int_eval (1)) rfl), trivial⟩ ⟨hq.1, hq.2.1, (hq.2.2.sift fun y hy => Or.inr (N y hy)).mono (by decide) (by decide)⟩⟩
theorem main_1_1 : Claimed_1_1 := comes_1 fun _ _ _ _ _ _ h hF => ⟨h.1, hF⟩
theorem main_1_2 : Claimed_1_2 := comes_1 fun _ _ _ _ _ _ h hF => ⟨h.2.1, hF⟩
end Jvm.Pilot.@@N@@
namespace Jvm.Pilot.@@N@@
open Jvm Jvm.ClassFile Sem Op Lib Jvm.Free Jvm.Stand Jvm.Pilot.@@N@@.Jvm.D
/-! MADE BY PROGRAM (witnessworld.py) out of the Statement's table words and the real class files: 10 classes; the members and pool entries that the words name. The judged class is class 1, her method 1. -/
namespace start1
open Jvm.ClassFile
def u (s : String) : CpInfo := .utf8 (stringToUtf16 s)
/-- a pool by its gaps: so many unusable entries, then the entry; so many at the end -/
def gap : Nat → List CpInfo → List CpInfo
  | 0, r => r
  | n + 1, r => .unusable :: gap n r
def poolList (es : List (Nat × CpInfo)) (last : Nat) : List CpInfo := es.foldr (fun e r => gap e.1 (e.2 :: r)) (gap last [])
def pool (es : List (Nat × CpInfo)) (last : Nat) : Array CpInfo := ⟨poolList es last⟩
def fileOf (pool : Array CpInfo) (this : Nat) (attrs : Array Attribute := #[]) (ms : Array MethodInfo := #[]) (fl : Nat := 33) (sup : Nat := 0) (ifs : Array Nat := #[]) (fds : Array FieldInfo := #[]) : ClassFile where
  minorVersion := 0
  majorVersion := 65
  constantPool := pool
  accessFlags := fl
  thisClass := this
  superClass := sup
  interfaces := ifs
  fields := fds
  methods := ms
  attributes := attrs
def plain (name : String) (sup : Option ClassId) : Class where
  name := name
  kind := .ordinary
  loader := none
  accessFlags := 33
  super := sup
  interfaces := #[]
  cf := none
  fields := #[]
  methods := #[]
  instanceTypes := #[]
  staticTypes := #[]
  resolved := #[]
  callSites := []
  init := .initialized
  statics := none
  mirror := none

def pool0 : Array CpInfo := pool [(5, u "<init>"), (0, u "()V"), (1, .class_ 10), (1, u "java/lang/Object")] 113

def k0c0 : Code := { maxStack := 0, maxLocals := 1, code := object_method_1_code, exceptionTable := #[], attributes := #[] }
def k0m0 : Method := { name := "<init>", desc := "()V", sig := { parameters := [], returnType := none }, accessFlags := 1, code := some k0c0 }
/-- java/lang/Object -/
def k0 : Class := { plain "java/lang/Object" none with
  accessFlags := 33
  interfaces := #[]
  cf := some (fileOf pool0 8 #[] #[{ accessFlags := 1, nameIndex := 5, descriptorIndex := 6, attributes := #[] }] 33 0 #[] #[])
  fields := #[]
  methods := #[k0m0]
  instanceTypes := #[]
  staticTypes := #[]
  resolved := Array.replicate 124 none
  statics := none }

def pool1 : Array CpInfo := pool [(2, .class_ 4), (1, u "java/lang/Object"), (0, u "<init>"), (0, u "()V"), (0, .class_ 8), (0, u "com/example/nodes_in_quorum/nodesinquorum/quorum/Notice$Vote"), (0, .methodref 7 10), (0, .nameAndType 5 11), (0, u "(IJ)V"), (0, .methodref 7 13), (0, .nameAndType 14 15), (0, u "beats"), (0, u "(Lcom/example/nodes_in_quorum/nodesinquorum/quorum/Notice$Vote;)Z"), (0, .methodref 17 18), (0, .class_ 19), (0, .nameAndType 20 21), (0, u "com/example/nodes_in_quorum/nodesinquorum/quorum/VoteBeatsPinLaw"), (0, u "expected"), (0, u "(IJIJ)Z"), (2, u "law"), (0, u "(IJIJI)Z")] 7

def k1m0 : Method := { name := "<init>", desc := "()V", sig := { parameters := [], returnType := none }, accessFlags := 1, code := none }
def k1c1 : Code := { maxStack := 7, maxLocals := 15, code := code, exceptionTable := #[], attributes := #[] }
def k1m1 : Method := { name := "law", desc := "(IJIJI)Z", sig := { parameters := [.int, .long, .int, .long, .int], returnType := some .boolean }, accessFlags := 9, code := some k1c1 }
def k1c2 : Code := { maxStack := 4, maxLocals := 6, code := method_3_code, exceptionTable := #[], attributes := #[] }
def k1m2 : Method := { name := "expected", desc := "(IJIJ)Z", sig := { parameters := [.int, .long, .int, .long], returnType := some .boolean }, accessFlags := 10, code := some k1c2 }
/-- com/example/nodes_in_quorum/nodesinquorum/quorum/VoteBeatsPinLaw -/
def k1 : Class := { plain "com/example/nodes_in_quorum/nodesinquorum/quorum/VoteBeatsPinLaw" (some 0) with
  accessFlags := 49
  interfaces := #[]
  cf := some (fileOf pool1 17 #[] #[{ accessFlags := 1, nameIndex := 5, descriptorIndex := 6, attributes := #[] }, { accessFlags := 9, nameIndex := 24, descriptorIndex := 25, attributes := #[] }, { accessFlags := 10, nameIndex := 20, descriptorIndex := 21, attributes := #[] }] 49 2 #[] #[])
  fields := #[]
  methods := #[k1m0, k1m1, k1m2]
  instanceTypes := #[]
  staticTypes := #[]
  resolved := Array.replicate 33 none
  statics := none }

def pool2 : Array CpInfo := pool [(1, .methodref 2 3), (0, .class_ 4), (0, .nameAndType 5 6), (0, u "java/lang/Object"), (0, u "<init>"), (0, u "()V"), (0, .class_ 8), (0, u "java/lang/Record")] 13

def k2c0 : Code := { maxStack := 1, maxLocals := 1, code := jdk_30_method_1_code, exceptionTable := #[], attributes := #[] }
def k2m0 : Method := { name := "<init>", desc := "()V", sig := { parameters := [], returnType := none }, accessFlags := 4, code := some k2c0 }
/-- java/lang/Record -/
def k2 : Class := { plain "java/lang/Record" (some 0) with
  accessFlags := 1057
  interfaces := #[]
  cf := some (fileOf pool2 7 #[] #[{ accessFlags := 4, nameIndex := 5, descriptorIndex := 6, attributes := #[] }] 1057 2 #[] #[])
  fields := #[]
  methods := #[k2m0]
  instanceTypes := #[]
  staticTypes := #[]
  resolved := Array.replicate 22 none
  statics := none }

def pool3 : Array CpInfo := pool [(1, .methodref 2 3), (0, .class_ 4), (0, .nameAndType 5 6), (0, u "java/lang/Record"), (0, u "<init>"), (0, u "()V"), (0, .fieldref 8 9), (0, .class_ 10), (0, .nameAndType 11 12), (0, u "com/example/nodes_in_quorum/nodesinquorum/quorum/Notice$Vote"), (0, u "leader"), (0, u "I"), (0, .fieldref 8 14), (0, .nameAndType 15 16), (0, u "zxid"), (0, u "J"), (12, u "(IJ)V"), (3, u "beats"), (0, u "(Lcom/example/nodes_in_quorum/nodesinquorum/quorum/Notice$Vote;)Z"), (8, .class_ 44), (0, u "com/example/nodes_in_quorum/nodesinquorum/quorum/Notice")] 20

def k3c0 : Code := { maxStack := 3, maxLocals := 4, code := prog_69_method_1_code, exceptionTable := #[], attributes := #[] }
def k3m0 : Method := { name := "<init>", desc := "(IJ)V", sig := { parameters := [.int, .long], returnType := none }, accessFlags := 0, code := some k3c0 }
def k3c1 : Code := { maxStack := 4, maxLocals := 2, code := prog_69_method_2_code, exceptionTable := #[], attributes := #[] }
def k3m1 : Method := { name := "beats", desc := "(Lcom/example/nodes_in_quorum/nodesinquorum/quorum/Notice$Vote;)Z", sig := { parameters := [(.object "com/example/nodes_in_quorum/nodesinquorum/quorum/Notice$Vote")], returnType := some .boolean }, accessFlags := 0, code := some k3c1 }
/-- com/example/nodes_in_quorum/nodesinquorum/quorum/Notice$Vote -/
def k3 : Class := { plain "com/example/nodes_in_quorum/nodesinquorum/quorum/Notice$Vote" (some 2) with
  accessFlags := 48
  interfaces := #[]
  cf := some (fileOf pool3 8 #[.nestHost 43] #[{ accessFlags := 0, nameIndex := 5, descriptorIndex := 29, attributes := #[] }, { accessFlags := 0, nameIndex := 33, descriptorIndex := 34, attributes := #[] }] 48 2 #[] #[{ accessFlags := 18, nameIndex := 11, descriptorIndex := 12, attributes := #[] }, { accessFlags := 18, nameIndex := 15, descriptorIndex := 16, attributes := #[] }])
  fields := #[{ name := "leader", type := .int, accessFlags := 18, slot := 0, constantValue := 0 }, { name := "zxid", type := .long, accessFlags := 18, slot := 1, constantValue := 0 }]
  methods := #[k3m0, k3m1]
  instanceTypes := #[.int, .long]
  staticTypes := #[]
  resolved := Array.replicate 65 none
  statics := none }

def pool4 : Array CpInfo := pool [(1, u "java/lang/Cloneable"), (0, .class_ 1), (0, u "java/lang/Object"), (0, .class_ 3)] 3

/-- java/lang/Cloneable -/
def k4 : Class := { plain "java/lang/Cloneable" (some 0) with
  accessFlags := 1537
  interfaces := #[]
  cf := some (fileOf pool4 2 #[] #[] 1537 4 #[] #[])
  fields := #[]
  methods := #[]
  instanceTypes := #[]
  staticTypes := #[]
  resolved := Array.replicate 8 none
  statics := none }

def pool5 : Array CpInfo := pool [(1, u "java/io/Serializable"), (0, .class_ 1), (0, u "java/lang/Object"), (0, .class_ 3)] 3

/-- java/io/Serializable -/
def k5 : Class := { plain "java/io/Serializable" (some 0) with
  accessFlags := 1537
  interfaces := #[]
  cf := some (fileOf pool5 2 #[] #[] 1537 4 #[] #[])
  fields := #[]
  methods := #[]
  instanceTypes := #[]
  staticTypes := #[]
  resolved := Array.replicate 8 none
  statics := none }

/-- the primitive byte -/
def k6 : Class := { plain "byte" none with kind := .primitive 'B', accessFlags := 0x411 }
/-- [B -/
def k7 : Class := { plain "[B" (some 0) with kind := .array 6 .byte, interfaces := #[4, 5], accessFlags := 1041 }

/-- the primitive int -/
def k8 : Class := { plain "int" none with kind := .primitive 'I', accessFlags := 0x411 }
/-- [I -/
def k9 : Class := { plain "[I" (some 0) with kind := .array 8 .int, interfaces := #[4, 5], accessFlags := 1041 }

def heap : Heap := #[]
def classes : Array Class := #[k0, k1, k2, k3, k4, k5, k6, k7, k8, k9]
def interned : List (Array UInt16 × Addr) := []
def slotsUsed : Nat := 0
def theMethod : MethodId := ⟨1, 1⟩
def args0 : Array Value := #[.int 5, .long 7, .int 6, .long 8, .int 1]
def aboutOver (below : List Frame) : State where
  vm := { classes := classes, interned := interned.toArray }
  heap := heap
  slotsUsed := slotsUsed
  threads := #[{ frames := .invoking theMethod args0 :: below }]
def below0 : List Frame := [.native { method := ⟨0, 0⟩, args := #[] }]
def about1 : State := aboutOver below0
def p0 : Program := .bare "" "" ""
def e0 : Env := launch0.env 0 0 0
theorem w_frames : about1.frames = Frame.invoking theMethod args0 :: below0 := rfl
set_option maxRecDepth 65536 in
theorem w_args : argsFit about1.vm theMethod args0 = true := by decide +kernel
set_option maxRecDepth 65536 in
theorem w_heap : heapFits about1 = true := by decide +kernel
set_option maxRecDepth 65536 in
theorem w_runnable : about1.curStatus? = some .runnable := by decide +kernel
set_option maxRecDepth 65536 in
theorem w_alone : about1.alone = true := by decide +kernel
set_option maxRecDepth 65536 in
theorem w_named : about1.methodNamed? x = some theMethod := by decide +kernel
set_option maxRecDepth 65536 in
theorem w_hears : about1.hears theMethod below0 = true := by decide +kernel
set_option maxRecDepth 65536 in
theorem w_ripe : about1.ripe theMethod args0 below0 = true := by decide +kernel
theorem w_running : about1.status = .running := rfl
set_option maxRecDepth 65536 in
theorem w_room : about1.hasRoom e0.platform room_1 = true :=
  launch0.hasRoom_least _ room_1 (by decide +kernel) (by decide +kernel) (by decide +kernel) (by decide +kernel) (by decide +kernel) (by decide +kernel)
theorem allAtoms_all (ts : List Jvm.Cond) (a : Array Jvm.Value) (st : Jvm.State) : (allAtoms ts).before a st = ts.all (fun c => c.before a st) := by
  induction ts with
  | nil => rfl
  | cons c t ih =>
    show (Jvm.Cond.and c (allAtoms t)).before a st = _
    rw [Jvm.Cond.before_and, ih, List.all_cons]
def words1 : List Jvm.Cond := Jvm.Cond.code x code maxLocals ret :: tables_1
/-- a 'code' word, met by the world's own term for the bytes: nothing is compared byte by byte -/
theorem code_word {y : MethodName} {bytes : ByteArray} {mx : Nat} {rt : Option FieldType} {a : Array Value} {s : State} {m : MethodId} {meth : Method} {c : Code} (h1 : s.methodNamed? y = some m) (h2 : s.vm.method? m = some meth) (h3 : meth.code = some c) (h4 : c.code = bytes)
    (h5 : (c.maxLocals == mx && c.exceptionTable.isEmpty && decide (c.maxStack ≤ mostOperands) && decide (meth.sig.returnType = rt) && !meth.locks && decide (parseMethodDescriptor y.desc = some meth.sig)) = true) : (Jvm.Cond.code y bytes mx rt).before a s = true := by
  simp only [Bool.and_eq_true, beq_iff_eq, Bool.not_eq_true', decide_eq_true_eq] at h5
  obtain ⟨⟨⟨⟨⟨g1, g2⟩, g3⟩, g4⟩, g5⟩, g6⟩ := h5
  simp [Cond.before, Cond.holds, Cond.value, h1, h2, h3, h4, g1, g2, g3, g4, g5, g6]
def isCode : Jvm.Cond → Bool
  | .code _ _ _ _ => true
  | _ => false
theorem all_split {L : List Jvm.Cond} {P : Jvm.Cond → Bool} (h1 : L.all (fun c => isCode c || P c) = true) (h2 : ∀ c ∈ L.filter isCode, P c = true) : L.all P = true := by
  refine List.all_eq_true.mpr fun c hc => ?_
  have h := List.all_eq_true.mp h1 c hc
  rcases Bool.eq_false_or_eq_true (isCode c) with hi | hi
  · exact h2 c (List.mem_filter.mpr ⟨hc, hi⟩)
  · simpa [hi] using h
set_option maxRecDepth 65536 in
theorem w_c0 : (Jvm.Cond.code x code maxLocals ret).before args0 about1 = true := code_word (m := ⟨1, 1⟩) (meth := k1m1) (c := k1c1) (by decide +kernel) rfl rfl rfl (by decide +kernel)
set_option maxRecDepth 65536 in
theorem w_c1 : (Jvm.Cond.code ({ cls := "com/example/nodes_in_quorum/nodesinquorum/quorum/Notice$Vote", name := "<init>", desc := "(IJ)V" } : Jvm.MethodName) prog_69_method_1_code (4 : Nat) (Option.none : Option Jvm.ClassFile.FieldType)).before args0 about1 = true := code_word (m := ⟨3, 0⟩) (meth := k3m0) (c := k3c0) (by decide +kernel) rfl rfl rfl (by decide +kernel)
set_option maxRecDepth 65536 in
theorem w_c2 : (Jvm.Cond.code ({ cls := "java/lang/Record", name := "<init>", desc := "()V" } : Jvm.MethodName) jdk_30_method_1_code (1 : Nat) (Option.none : Option Jvm.ClassFile.FieldType)).before args0 about1 = true := code_word (m := ⟨2, 0⟩) (meth := k2m0) (c := k2c0) (by decide +kernel) rfl rfl rfl (by decide +kernel)
set_option maxRecDepth 65536 in
theorem w_c3 : (Jvm.Cond.code ({ cls := "java/lang/Object", name := "<init>", desc := "()V" } : Jvm.MethodName) object_method_1_code (1 : Nat) (Option.none : Option Jvm.ClassFile.FieldType)).before args0 about1 = true := code_word (m := ⟨0, 0⟩) (meth := k0m0) (c := k0c0) (by decide +kernel) rfl rfl rfl (by decide +kernel)
set_option maxRecDepth 65536 in
theorem w_c4 : (Jvm.Cond.code ({ cls := "com/example/nodes_in_quorum/nodesinquorum/quorum/Notice$Vote", name := "beats", desc := "(Lcom/example/nodes_in_quorum/nodesinquorum/quorum/Notice$Vote;)Z" } : Jvm.MethodName) prog_69_method_2_code (2 : Nat) (Option.some Jvm.ClassFile.FieldType.boolean)).before args0 about1 = true := code_word (m := ⟨3, 1⟩) (meth := k3m1) (c := k3c1) (by decide +kernel) rfl rfl rfl (by decide +kernel)
set_option maxRecDepth 65536 in
theorem w_c5 : (Jvm.Cond.code ({ cls := "com/example/nodes_in_quorum/nodesinquorum/quorum/VoteBeatsPinLaw", name := "expected", desc := "(IJIJ)Z" } : Jvm.MethodName) method_3_code (6 : Nat) (Option.some Jvm.ClassFile.FieldType.boolean)).before args0 about1 = true := code_word (m := ⟨1, 2⟩) (meth := k1m2) (c := k1c2) (by decide +kernel) rfl rfl rfl (by decide +kernel)
def codes1 : List Jvm.Cond := [Jvm.Cond.code x code maxLocals ret, Jvm.Cond.code ({ cls := "com/example/nodes_in_quorum/nodesinquorum/quorum/Notice$Vote", name := "<init>", desc := "(IJ)V" } : Jvm.MethodName) prog_69_method_1_code (4 : Nat) (Option.none : Option Jvm.ClassFile.FieldType), Jvm.Cond.code ({ cls := "java/lang/Record", name := "<init>", desc := "()V" } : Jvm.MethodName) jdk_30_method_1_code (1 : Nat) (Option.none : Option Jvm.ClassFile.FieldType), Jvm.Cond.code ({ cls := "java/lang/Object", name := "<init>", desc := "()V" } : Jvm.MethodName) object_method_1_code (1 : Nat) (Option.none : Option Jvm.ClassFile.FieldType), Jvm.Cond.code ({ cls := "com/example/nodes_in_quorum/nodesinquorum/quorum/Notice$Vote", name := "beats", desc := "(Lcom/example/nodes_in_quorum/nodesinquorum/quorum/Notice$Vote;)Z" } : Jvm.MethodName) prog_69_method_2_code (2 : Nat) (Option.some Jvm.ClassFile.FieldType.boolean), Jvm.Cond.code ({ cls := "com/example/nodes_in_quorum/nodesinquorum/quorum/VoteBeatsPinLaw", name := "expected", desc := "(IJIJ)Z" } : Jvm.MethodName) method_3_code (6 : Nat) (Option.some Jvm.ClassFile.FieldType.boolean)]
set_option maxRecDepth 65536 in
theorem codes_eq : words1.filter isCode = codes1 := rfl
theorem w_codes : ∀ c ∈ words1.filter isCode, c.before args0 about1 = true := by
  rw [codes_eq]
  intro c hc
  simp only [codes1, List.mem_cons, List.not_mem_nil, or_false] at hc
  rcases hc with rfl | rfl | rfl | rfl | rfl | rfl
  · exact w_c0
  · exact w_c1
  · exact w_c2
  · exact w_c3
  · exact w_c4
  · exact w_c5
set_option maxRecDepth 65536 in
theorem w_t1 : (words1.take 24).all (fun c => isCode c || c.before args0 about1) = true := by decide +kernel
set_option maxRecDepth 65536 in
theorem w_t2 : (words1.drop 24).all (fun c => isCode c || c.before args0 about1) = true := by decide +kernel
theorem w_tables : (allAtoms (Jvm.Cond.code x code maxLocals ret :: tables_1)).before args0 about1 = true := by
  rw [allAtoms_all]
  show words1.all (fun c => c.before args0 about1) = true
  refine all_split ?_ w_codes
  rw [← List.take_append_drop 24 words1, List.all_append, w_t1, w_t2]
  rfl
set_option maxRecDepth 65536 in
theorem w_case : (Jvm.Cond.and given_1 narrow_1).before args0 about1 = true := by decide +kernel
theorem w_applies : (headSpec (Jvm.Cond.code x code maxLocals ret :: tables_1) room_1).applies x e0.platform about1 = true :=
  (Spec.applies_iff w_frames).mpr ⟨w_running, w_runnable, w_alone, w_named, w_hears, w_ripe, w_room, w_tables⟩
theorem atStart : AtStart classFile x code maxLocals ret World_1 tables_1 room_1 Calls_1 rest_1 Pre_1 launch0 p0 e0 about1 theMethod args0 below0 :=
  ⟨lists_1, trivial, launch0.admits_env _ _ _, launch0.least_env, fairChoices_fair.cas, fairChoices_fair.clock, w_frames, w_args, w_heap, w_applies, trivial, trivial, w_case⟩
end start1
theorem witness_1 : WitnessClaimed_1 := ⟨start1.p0, start1.e0, start1.about1, start1.theMethod, start1.args0, start1.below0, start1.atStart⟩
end Jvm.Pilot.@@N@@
