import JvmDerived
import JvmDerived.Pilot.@@N@@Statement
import JvmDerived.Pilot.@@N@@Code
set_option linter.unusedVariables false
set_option linter.unusedSimpArgs false
@@BLOCK:NumsL.lean.txt@@
namespace Jvm.RoadKit
open Sem ClassFile Op Lib Jvm.Stand Jvm.Free Jvm.LawKit
section New
variable {p : Program} {l : Launch} {e : Env} {R : Room} {s : State} {m : MethodId} {args : Array Value} {below : List Frame} {meth : Method} {c : Code} {T : State} {locs : List Loc} {cells slots : Nat}
theorem retI (X : Stand p l e R s m args below meth c T locs cells slots) (hx : p.tables.exec = Jvm.exec) {pc : Nat} {Ls : Array Slot} {z : Int32} {rest : List Value} (hret : meth.sig.returnType = some .int) (hd : decode c.code pc = .ok (.ireturn, 1)) {fs : List Frame}
    (hl : ∀ (f : JFrame) (acts : List Action), f.method = m → f.locked = none → f.entered = [] → (doReturn e (T.setTop f) acts (some (.int z))).1 = T.setFrames fs) : Steps p.tables e below (T.setTop (mkF m pc Ls (.int z :: rest))) (T.setFrames fs) := by
  have hm' : T.vm.method? m = some meth := X.method'
  have hn : narrow .int (.int z) = .int z := rfl
  show Steps p.tables e below (T.setTop { method := m, pc := pc, locals := Ls, stack := _ :: rest, locked := none }) _
  jvm_step X.here [X.here.top, hx, hd, hm', hret, hn]
  first | (intro acts; rw [hl _ acts rfl rfl rfl]) | rw [hl _ _ rfl rfl rfl]
  exact Steps.refl _
end New
end Jvm.RoadKit
namespace Jvm.Pilot.@@N@@
open Jvm Jvm.ClassFile Sem Op Lib Jvm.Free Jvm.Stand Jvm.LawKit Jvm.RoadKit Bundle Jvm.Pilot.@@N@@.Jvm.D
theorem own_nt {b : Bool} (h : b = false) : ¬ b = true := fun q => by rw [h] at q; cases q
theorem own_ts_ne {α : Type} {o : Option α} {a b : α} (h : o = some b) (ne : b ≠ a) : ¬ o = some a := fun q => ne (Option.some.inj (h.symm.trans q))
/-- what lcmp pushes; Java's shifts and the remainder of longs -/
def own_cmp (x y : Int64) : Int32 := lcmpW x y
def own_iushr (x y : Int32) : Int32 := (x.toUInt32 >>> (y &&& 31).toUInt32).toInt32
def own_lushr (x : Int64) (y : Int32) : Int64 := (x.toUInt64 >>> (y &&& 0x3f).toInt64.toUInt64).toInt64
def own_lshl (x : Int64) (y : Int32) : Int64 := x <<< (y &&& 0x3f).toInt64
def own_lshr (x : Int64) (y : Int32) : Int64 := x >>> (y &&& 0x3f).toInt64
def own_lrem (x y : Int64) : Int64 := x - (x / y) * y
theorem own_xlcmp {tb : Tables} [Ours tb] {e : Env} {below : List Frame} {T target : State} {m : MethodId} {c : Code} {g : JFrame} (h : At T m c below) (hx : tb.exec = Jvm.exec) (hg : g.method = m) {x : Int64} {y : Int64} {rest : List Value} (hd : decode c.code g.pc = .ok (.lcmp, 1)) (hs : g.stack = .long y :: .long x :: rest) (hr : Steps tb e below (T.setTop { g with pc := g.pc + 1, stack := .int (own_cmp x y) :: rest }) target) : Steps tb e below (T.setTop g) target := XS.lcmp h hx hg hd hs hr
theorem own_xiushr {tb : Tables} [Ours tb] {e : Env} {below : List Frame} {T target : State} {m : MethodId} {c : Code} {g : JFrame} (h : At T m c below) (hx : tb.exec = Jvm.exec) (hg : g.method = m) {x : Int32} {y : Int32} {rest : List Value} (hd : decode c.code g.pc = .ok (.iushr, 1)) (hs : g.stack = .int y :: .int x :: rest) (hr : Steps tb e below (T.setTop { g with pc := g.pc + 1, stack := .int (own_iushr x y) :: rest }) target) : Steps tb e below (T.setTop g) target := XS.iushr h hx hg hd hs hr
theorem own_xlushr {tb : Tables} [Ours tb] {e : Env} {below : List Frame} {T target : State} {m : MethodId} {c : Code} {g : JFrame} (h : At T m c below) (hx : tb.exec = Jvm.exec) (hg : g.method = m) {x : Int64} {y : Int32} {rest : List Value} (hd : decode c.code g.pc = .ok (.lushr, 1)) (hs : g.stack = .int y :: .long x :: rest) (hr : Steps tb e below (T.setTop { g with pc := g.pc + 1, stack := .long (own_lushr x y) :: rest }) target) : Steps tb e below (T.setTop g) target := XS.lushr h hx hg hd hs hr
theorem own_xlshl {tb : Tables} [Ours tb] {e : Env} {below : List Frame} {T target : State} {m : MethodId} {c : Code} {g : JFrame} (h : At T m c below) (hx : tb.exec = Jvm.exec) (hg : g.method = m) {x : Int64} {y : Int32} {rest : List Value} (hd : decode c.code g.pc = .ok (.lshl, 1)) (hs : g.stack = .int y :: .long x :: rest) (hr : Steps tb e below (T.setTop { g with pc := g.pc + 1, stack := .long (own_lshl x y) :: rest }) target) : Steps tb e below (T.setTop g) target := XS.lshl h hx hg hd hs hr
theorem own_xlshr {tb : Tables} [Ours tb] {e : Env} {below : List Frame} {T target : State} {m : MethodId} {c : Code} {g : JFrame} (h : At T m c below) (hx : tb.exec = Jvm.exec) (hg : g.method = m) {x : Int64} {y : Int32} {rest : List Value} (hd : decode c.code g.pc = .ok (.lshr, 1)) (hs : g.stack = .int y :: .long x :: rest) (hr : Steps tb e below (T.setTop { g with pc := g.pc + 1, stack := .long (own_lshr x y) :: rest }) target) : Steps tb e below (T.setTop g) target := XS.lshr h hx hg hd hs hr
theorem own_xlrem {tb : Tables} [Ours tb] {e : Env} {below : List Frame} {T target : State} {m : MethodId} {c : Code} {g : JFrame} (h : At T m c below) (hx : tb.exec = Jvm.exec) (hg : g.method = m) {x : Int64} {y : Int64} {rest : List Value} (hd : decode c.code g.pc = .ok (.lrem, 1)) (hs : g.stack = .long y :: .long x :: rest) (hy : y ≠ 0) (hr : Steps tb e below (T.setTop { g with pc := g.pc + 1, stack := .long (own_lrem x y) :: rest }) target) : Steps tb e below (T.setTop g) target := XS.lrem h hx hg hd hs hy hr
theorem own_ieq (x y : Int32) : (if_icmp.holds .eq x y = true) = (x.toInt = y.toInt) := by
  rw [show if_icmp.holds .eq x y = (x == y) from rfl, beq_iff_eq, Int32.toInt_inj]
theorem own_ine (x y : Int32) : (if_icmp.holds .ne x y = true) = (x.toInt ≠ y.toInt) := by
  rw [show if_icmp.holds .ne x y = (x != y) from rfl, bne_iff_ne, ne_eq, ne_eq, Int32.toInt_inj]
theorem own_ilt (x y : Int32) : (if_icmp.holds .lt x y = true) = (x.toInt < y.toInt) := by
  rw [show if_icmp.holds .lt x y = decide (x < y) from rfl, decide_eq_true_eq, Int32.lt_iff_toInt_lt]
theorem own_ige (x y : Int32) : (if_icmp.holds .ge x y = true) = (y.toInt ≤ x.toInt) := by
  rw [show if_icmp.holds .ge x y = decide (y ≤ x) from rfl, decide_eq_true_eq, Int32.le_iff_toInt_le]
theorem own_igt (x y : Int32) : (if_icmp.holds .gt x y = true) = (y.toInt < x.toInt) := by
  rw [show if_icmp.holds .gt x y = decide (y < x) from rfl, decide_eq_true_eq, Int32.lt_iff_toInt_lt]
theorem own_ile (x y : Int32) : (if_icmp.holds .le x y = true) = (x.toInt ≤ y.toInt) := by
  rw [show if_icmp.holds .le x y = decide (x ≤ y) from rfl, decide_eq_true_eq, Int32.le_iff_toInt_le]
theorem own_z32 : (0 : Int32).toInt = 0 := rfl
theorem own_eq0 (x : Int32) : (ifCond.holds .eq x = true) = (x.toInt = 0) := by rw [if0, own_ieq, own_z32]
theorem own_ne0 (x : Int32) : (ifCond.holds .ne x = true) = (x.toInt ≠ 0) := by rw [if0, own_ine, own_z32]
theorem own_lt0 (x : Int32) : (ifCond.holds .lt x = true) = (x.toInt < 0) := by rw [if0, own_ilt, own_z32]
theorem own_ge0 (x : Int32) : (ifCond.holds .ge x = true) = (0 ≤ x.toInt) := by rw [if0, own_ige, own_z32]
theorem own_gt0 (x : Int32) : (ifCond.holds .gt x = true) = (0 < x.toInt) := by rw [if0, own_igt, own_z32]
theorem own_le0 (x : Int32) : (ifCond.holds .le x = true) = (x.toInt ≤ 0) := by rw [if0, own_ile, own_z32]
theorem own_cmp3 (x y : Int64) : (x.toInt < y.toInt ∧ (own_cmp x y).toInt = -1) ∨ (x.toInt = y.toInt ∧ (own_cmp x y).toInt = 0) ∨ (y.toInt < x.toInt ∧ (own_cmp x y).toInt = 1) := by
  obtain ⟨h1, h2, h3⟩ := c_lcmp x y
  have e : own_cmp x y = lcmpW x y := rfl
  rw [e]
  rcases Int.lt_trichotomy x.toInt y.toInt with h | h | h
  · exact Or.inl ⟨h, h1 h⟩
  · exact Or.inr (Or.inl ⟨h, h2 h⟩)
  · exact Or.inr (Or.inr ⟨h, h3 h⟩)
theorem own_ceq (x y : Int64) : (ifCond.holds .eq (own_cmp x y) = true) = (x.toInt = y.toInt) := by
  rw [own_eq0]; have := own_cmp3 x y; exact propext ⟨fun h => by omega, fun h => by omega⟩
theorem own_cne (x y : Int64) : (ifCond.holds .ne (own_cmp x y) = true) = (x.toInt ≠ y.toInt) := by
  rw [own_ne0]; have := own_cmp3 x y; exact propext ⟨fun h => by omega, fun h => by omega⟩
theorem own_clt (x y : Int64) : (ifCond.holds .lt (own_cmp x y) = true) = (x.toInt < y.toInt) := by
  rw [own_lt0]; have := own_cmp3 x y; exact propext ⟨fun h => by omega, fun h => by omega⟩
theorem own_cge (x y : Int64) : (ifCond.holds .ge (own_cmp x y) = true) = (y.toInt ≤ x.toInt) := by
  rw [own_ge0]; have := own_cmp3 x y; exact propext ⟨fun h => by omega, fun h => by omega⟩
theorem own_cgt (x y : Int64) : (ifCond.holds .gt (own_cmp x y) = true) = (y.toInt < x.toInt) := by
  rw [own_gt0]; have := own_cmp3 x y; exact propext ⟨fun h => by omega, fun h => by omega⟩
theorem own_cle (x y : Int64) : (ifCond.holds .le (own_cmp x y) = true) = (x.toInt ≤ y.toInt) := by
  rw [own_le0]; have := own_cmp3 x y; exact propext ⟨fun h => by omega, fun h => by omega⟩
theorem own_nar1 {x : Int32} (h : x = 1) : nar .boolean x = 1 := by rw [h]; rfl
theorem own_nar0 {x : Int32} (h : x = 0) : nar .boolean x = 0 := by rw [h]; rfl
/-- the last row of a law: a comparison that isn't met gives 0, else 1 -/
theorem own_last {c : Prop} [Decidable c] (h : ¬ c) : nar .boolean (if c then (0 : Int32) else 1) = 1 := by rw [if_neg h]; rfl
theorem own_n32 (x : Int32) : (x.toBitVec.toNat : Int) = x.toInt % 4294967296 := by
  have h := x.toBitVec.isLt
  show _ = x.toBitVec.toInt % _
  rw [BitVec.toInt_eq_toNat_cond]
  split <;> omega
theorem own_n64 (x : Int64) : (x.toBitVec.toNat : Int) = x.toInt % 18446744073709551616 := by
  have h := x.toBitVec.isLt
  show _ = x.toBitVec.toInt % _
  rw [BitVec.toInt_eq_toNat_cond]
  split <;> omega
theorem own_iushr_nat (x y : Int32) : (own_iushr x y).toBitVec.toNat = x.toBitVec.toNat / 2 ^ (y.toBitVec.toNat % 32) := by
  have h1 : (y &&& 31).toBitVec.toNat = y.toBitVec.toNat % 32 := by
    show (y.toBitVec &&& (31 : Int32).toBitVec).toNat = _
    rw [BitVec.toNat_and, show (31 : Int32).toBitVec.toNat = 2 ^ 5 - 1 from by decide, Nat.and_two_pow_sub_one_eq_mod]
  show (x.toBitVec >>> ((y &&& 31).toBitVec % 32)).toNat = _
  rw [BitVec.ushiftRight_eq', BitVec.toNat_ushiftRight, Nat.shiftRight_eq_div_pow, BitVec.toNat_umod, h1, show (32 : BitVec 32).toNat = 32 from rfl, Nat.mod_mod]
theorem own_lushr_nat (x : Int64) (y : Int32) : (own_lushr x y).toBitVec.toNat = x.toBitVec.toNat / 2 ^ (y.toBitVec.toNat % 64) := by
  obtain ⟨h1, h2⟩ := sm64 y _ rfl
  show (x.toBitVec >>> ((y &&& 0x3f).toInt64.toBitVec % 64)).toNat = _
  rw [BitVec.ushiftRight_eq', BitVec.toNat_ushiftRight, Nat.shiftRight_eq_div_pow, BitVec.toNat_umod, h1, BitVec.toNat_ofNat]
  congr 2
  show y.toBitVec.toNat % 64 % 2 ^ 64 % 64 = _
  omega
theorem own_iushr_nn (x y : Int32) (h : 0 ≤ x.toInt) : 0 ≤ (own_iushr x y).toInt ∧ (own_iushr x y).toInt ≤ x.toInt := by
  have a := own_iushr_nat x y
  have b := Nat.div_le_self x.toBitVec.toNat (2 ^ (y.toBitVec.toNat % 32))
  have c := own_n32 x
  have d := own_n32 (own_iushr x y)
  have r := rng32 x
  have r2 := rng32 (own_iushr x y)
  omega
theorem own_lushr_nn (x : Int64) (y : Int32) (h : 0 ≤ x.toInt) : 0 ≤ (own_lushr x y).toInt ∧ (own_lushr x y).toInt ≤ x.toInt := by
  have a := own_lushr_nat x y
  have b := Nat.div_le_self x.toBitVec.toNat (2 ^ (y.toBitVec.toNat % 64))
  have c := own_n64 x
  have d := own_n64 (own_lushr x y)
  have r := rng64 x
  have r2 := rng64 (own_lushr x y)
  omega
theorem own_ff {b : Bool} (h : ¬ b = true) : b = false := by cases b <;> first | rfl | exact absurd rfl h
theorem own_clt_f {x y : Int64} (h : ¬ x.toInt < y.toInt) : ifCond.holds .lt (own_cmp x y) = false := own_ff fun q => h ((own_clt x y).mp q)
theorem own_nz {x : Int64} (h : (0 : Int64).toInt < x.toInt) : x ≠ 0 := fun q => by rw [q] at h; exact absurd h (Int.lt_irrefl _)
theorem own_max (x : Int64) : x.toInt ≤ (9223372036854775807 : Int64).toInt := by
  have r := rng64 x
  have e : (9223372036854775807 : Int64).toInt = 9223372036854775807 := rfl
  omega
theorem own_addE {x y : Int64} {a b : Int} (hx : x.toInt = a) (hy : y.toInt = b) (h : -9223372036854775808 ≤ a + b ∧ a + b < 9223372036854775808) : (x + y).toInt = a + b := by subst hx hy; exact Kit.i64_add (by omega) (by omega)
theorem own_subE {x y : Int64} {a b : Int} (hx : x.toInt = a) (hy : y.toInt = b) (h : -9223372036854775808 ≤ a - b ∧ a - b < 9223372036854775808) : (x - y).toInt = a - b := by subst hx hy; exact Kit.i64_sub (by omega) (by omega)
theorem own_mulE {x y : Int64} {a b : Int} (hx : x.toInt = a) (hy : y.toInt = b) (h : -9223372036854775808 ≤ a * b ∧ a * b < 9223372036854775808) : (x * y).toInt = a * b := by subst hx hy; exact Kit.i64_mul (by omega) (by omega)
theorem own_i2lE {x : Int32} {a : Int} (hx : x.toInt = a) : x.toInt64.toInt = a := (c_i2l x).trans hx
theorem own_l2iE {x : Int64} {a : Int} (hx : x.toInt = a) (h : -2147483648 ≤ a ∧ a < 2147483648) : x.toInt32.toInt = a := by subst hx; exact Kit.i32_of_i64 (by omega) (by omega)
theorem own_iaddE {x y : Int32} {a b : Int} (hx : x.toInt = a) (hy : y.toInt = b) (h : -2147483648 ≤ a + b ∧ a + b < 2147483648) : (x + y).toInt = a + b := by subst hx hy; exact Kit.i32_add (by omega) (by omega)
theorem own_isubE {x y : Int32} {a b : Int} (hx : x.toInt = a) (hy : y.toInt = b) (h : -2147483648 ≤ a - b ∧ a - b < 2147483648) : (x - y).toInt = a - b := by subst hx hy; exact Kit.i32_sub (by omega) (by omega)
theorem own_divE {x y : Int64} {a b : Int} (hx : x.toInt = a) (hy : y.toInt = b) (h : 0 ≤ a) (hb : 0 < b) : (x / y).toInt = a / b := by
  subst hx hy
  exact (c_ldiv x y y.toInt rfl (fun q => by rw [q] at hb; exact absurd hb (by decide))).1 h
theorem own_remE {x y : Int64} {a b : Int} (hx : x.toInt = a) (hy : y.toInt = b) (h : 0 ≤ a) : (own_lrem x y).toInt = a % b := by
  subst hx hy
  exact (c_lrem x y y.toInt rfl).1 h
theorem own_ushrE {x : Int64} {a : Int} (q : Int32) (k : Nat) (P : Int) (hx : x.toInt = a) (hk : q.toBitVec.toNat % 64 = k) (h0 : 0 < k) (hP : ((2 ^ k : Nat) : Int) = P) : (own_lushr x q).toInt = a % 18446744073709551616 / P := by
  subst hx hP
  exact c_lushr x q k hk h0
theorem own_shrE {x : Int64} {a : Int} (q : Int32) (k : Nat) (P : Int) (hx : x.toInt = a) (hk : q.toBitVec.toNat % 64 = k) (hP : ((2 ^ k : Nat) : Int) = P) : (own_lshr x q).toInt = a / P := by
  subst hx hP
  exact c_lshr x q k hk

-- body 1: com/example/parley/parley/feed/ShortestDecimalFloorLog10ThreeQuartersPow2PinLaw.floorDiv:(JJ)J
theorem d1_0 : decode method_2_code 0 = .ok (.lload_n 0, 1) := by decide +kernel
theorem d1_1 : decode method_2_code 1 = .ok (.lload_n 2, 1) := by decide +kernel
theorem d1_2 : decode method_2_code 2 = .ok (.ldiv, 1) := by decide +kernel
theorem d1_3 : decode method_2_code 3 = .ok (.lstore 4, 2) := by decide +kernel
theorem d1_5 : decode method_2_code 5 = .ok (.lload_n 0, 1) := by decide +kernel
theorem d1_6 : decode method_2_code 6 = .ok (.lload_n 2, 1) := by decide +kernel
theorem d1_7 : decode method_2_code 7 = .ok (.lrem, 1) := by decide +kernel
theorem d1_8 : decode method_2_code 8 = .ok (.lconst 0, 1) := by decide +kernel
theorem d1_9 : decode method_2_code 9 = .ok (.lcmp, 1) := by decide +kernel
theorem d1_10 : decode method_2_code 10 = .ok (.ifCond .eq 15, 3) := by decide +kernel
theorem d1_13 : decode method_2_code 13 = .ok (.lload_n 0, 1) := by decide +kernel
theorem d1_14 : decode method_2_code 14 = .ok (.lconst 0, 1) := by decide +kernel
theorem d1_15 : decode method_2_code 15 = .ok (.lcmp, 1) := by decide +kernel
theorem d1_16 : decode method_2_code 16 = .ok (.ifCond .ge 9, 3) := by decide +kernel
theorem d1_19 : decode method_2_code 19 = .ok (.lload 4, 2) := by decide +kernel
theorem d1_21 : decode method_2_code 21 = .ok (.lconst 1, 1) := by decide +kernel
theorem d1_22 : decode method_2_code 22 = .ok (.lsub, 1) := by decide +kernel
theorem d1_23 : decode method_2_code 23 = .ok (.lstore 4, 2) := by decide +kernel
theorem d1_25 : decode method_2_code 25 = .ok (.lload 4, 2) := by decide +kernel
theorem d1_27 : decode method_2_code 27 = .ok (.lreturn, 1) := by decide +kernel
theorem pn_0 : plainName "com/example/parley/parley/feed/ShortestDecimalFloorLog10ThreeQuartersPow2PinLaw" = true := by first | (simp [plainName, overriddenIn]; done) | decide +kernel
theorem ef_1 (m : MethodId) (x0 : Int64) (x1 : Int64) : entryFrame m #[(.long x0), (.long x1)] 6 = mkF m 0 #[.val (.long x0), .second, .val (.long x1), .second, .unset, .unset] [] := by first | (simp [entryFrame, mkF, argsToLocals, Value.category]; done) | rfl
def f1_v1 (x0 : Int64) (x1 : Int64) : Int64 := (x0 / x1)
def f1_v6 (x0 : Int64) (x1 : Int64) : Int64 := ((f1_v1 x0 x1) - (1 : Int64))
def f1_j7 (x0 : Int64) (x1 : Int64) : Int64 := if ifCond.holds .ge (own_cmp x0 (0 : Int64)) = true then (f1_v1 x0 x1) else (f1_v6 x0 x1)
def f1_j11 (x0 : Int64) (x1 : Int64) : Int64 := if ifCond.holds .eq (own_cmp (own_lrem x0 x1) (0 : Int64)) = true then (f1_v1 x0 x1) else (f1_j7 x0 x1)
def f1 (x0 : Int64) (x1 : Int64) : Int64 := (f1_j11 x0 x1)
def Q1 (Z : State) (x0 : Int64) (x1 : Int64) (h0 : Heap) (n0 : Nat) (v : Option Value) (h : Heap) (L : List Loc) : Prop := v = some (.long (f1 x0 x1)) ∧ Fr n0 L ∧ h = h0
set_option maxRecDepth 65536 in
set_option maxHeartbeats 40000000 in
theorem rm1 (l : Launch) (Z : State) (a0 : Array Value) (hw : ∀ d ∈ tables_1, d.before a0 Z = true) (ws : List Jvm.Cond) (x0 : Int64) (x1 : Int64) (h0 : Heap) (n0 : Nat) (Z0 : n0 ≤ h0.size) (hnz : ¬ x1 = (0 : Int64)) :
    MetFree l (⟨"com/example/parley/parley/feed/ShortestDecimalFloorLog10ThreeQuartersPow2PinLaw", "floorDiv", "(JJ)J"⟩ : MethodName) (head1 (Jvm.Cond.code (⟨"com/example/parley/parley/feed/ShortestDecimalFloorLog10ThreeQuartersPow2PinLaw", "floorDiv", "(JJ)J"⟩ : MethodName) method_2_code 6 (some .long) :: ws) ({ frames := 0, cells := 0, slots := 0, locals := 0 } : Room)) (fun a U => a = #[(.long x0), (.long x1)] ∧ Z.Warmed39 U.vm ∧ U.heap = h0) (fun _ _ _ _ _ => True) (fun _ U o U' => ∃ v L, o = .returned v ∧ Q1 Z x0 x1 h0 n0 v U'.heap L ∧ FrameEnd U o U' L ({ frames := 0, cells := 0, slots := 0, locals := 0 } : Room).cells ({ frames := 0, cells := 0, slots := 0, locals := 0 } : Room).slots) := by
  refine MetFree.of_bodySF (plainFor_of_name pn_0) hisR ?_
  intro p e s m args below meth c s₁ Bd hml0 hP hK0
  obtain ⟨rfl, hZ, hh⟩ := hP
  have hx := Bd.exec
  have hby := Bd.bytes
  have hml : c.maxLocals = 6 := hml0
  have hown : s.vm.findClass "com/example/parley/parley/feed/ShortestDecimalFloorLog10ThreeQuartersPow2PinLaw" = some m.cls := findClass_of_methodNamed Bd.named
  have hnm := (name_of_methodNamed Bd.named Bd.method).1
  have hret : meth.sig.returnType = some .long := Bd.returns
  have hlk : meth.locks = false := Bd.notSynchronized
  have X0 : Stand p l e ({ frames := 0, cells := 0, slots := 0, locals := 0 } : Room) s m #[(.long x0), (.long x1)] below meth c s₁ [] 0 0 := Stand.of_body Bd
  have e0 : s₁.heap = h0 := by rw [← hh, Bd.state]; rfl
  have N0 := Fr.nil n0
  have pre0 : ∀ t, Steps p.tables e below (s₁.setTop (mkF m 0 #[.val (.long x0), .second, .val (.long x1), .second, .unset, .unset] [])) t → Steps p.tables e below (s₁.setTop (entryFrame m #[(.long x0), (.long x1)] 6)) t := fun t k => castTop (ef_1 m x0 x1) k
  have pre2 : ∀ t, Steps p.tables e below (s₁.setTop (mkF m 10 #[.val (.long x0), .second, .val (.long x1), .second, .val (.long (f1_v1 x0 x1)), .second] [(.int (own_cmp (own_lrem x0 x1) (0 : Int64)))])) t → Steps p.tables e below (s₁.setTop (entryFrame m #[(.long x0), (.long x1)] 6)) t := by
    intro t k
    refine pre0 _ ?_
    show Steps p.tables e below (s₁.setTop (mkF m 0 #[.val (.long x0), .second, .val (.long x1), .second, .unset, .unset] [])) _
    refine XS.lloadN X0.here hx rfl (hb hby d1_0) rfl ?_
    show Steps p.tables e below (s₁.setTop (mkF m 1 #[.val (.long x0), .second, .val (.long x1), .second, .unset, .unset] [(.long x0)])) _
    refine XS.lloadN X0.here hx rfl (hb hby d1_1) rfl ?_
    show Steps p.tables e below (s₁.setTop (mkF m 2 #[.val (.long x0), .second, .val (.long x1), .second, .unset, .unset] [(.long x1), (.long x0)])) _
    refine XS.ldiv X0.here hx rfl (hb hby d1_2) rfl hnz ?_
    show Steps p.tables e below (s₁.setTop (mkF m 3 #[.val (.long x0), .second, .val (.long x1), .second, .unset, .unset] [(.long (x0 / x1))])) _
    refine XS.lstore X0.here hx rfl (hb hby d1_3) rfl (l' := #[.val (.long x0), .second, .val (.long x1), .second, .val (.long (f1_v1 x0 x1)), .second]) rfl ?_
    show Steps p.tables e below (s₁.setTop (mkF m 5 #[.val (.long x0), .second, .val (.long x1), .second, .val (.long (f1_v1 x0 x1)), .second] [])) _
    refine XS.lloadN X0.here hx rfl (hb hby d1_5) rfl ?_
    show Steps p.tables e below (s₁.setTop (mkF m 6 #[.val (.long x0), .second, .val (.long x1), .second, .val (.long (f1_v1 x0 x1)), .second] [(.long x0)])) _
    refine XS.lloadN X0.here hx rfl (hb hby d1_6) rfl ?_
    show Steps p.tables e below (s₁.setTop (mkF m 7 #[.val (.long x0), .second, .val (.long x1), .second, .val (.long (f1_v1 x0 x1)), .second] [(.long x1), (.long x0)])) _
    refine own_xlrem X0.here hx rfl (hb hby d1_7) rfl hnz ?_
    show Steps p.tables e below (s₁.setTop (mkF m 8 #[.val (.long x0), .second, .val (.long x1), .second, .val (.long (f1_v1 x0 x1)), .second] [(.long (own_lrem x0 x1))])) _
    refine XS.lconst X0.here hx rfl (hb hby d1_8) ?_
    show Steps p.tables e below (s₁.setTop (mkF m 9 #[.val (.long x0), .second, .val (.long x1), .second, .val (.long (f1_v1 x0 x1)), .second] [(.long (0 : Int64)), (.long (own_lrem x0 x1))])) _
    refine own_xlcmp X0.here hx rfl (hb hby d1_9) rfl ?_
    exact k
  obtain ⟨T12, L12, X12, N12, e12, pre12⟩ : ∃ (T' : State) (L' : List Loc), Stand p l e ({ frames := 0, cells := 0, slots := 0, locals := 0 } : Room) s m #[(.long x0), (.long x1)] below meth c T' L' 0 0 ∧ Fr n0 L' ∧ T'.heap = h0 ∧ ∀ t, Steps p.tables e below (T'.setTop (mkF m 25 #[.val (.long x0), .second, .val (.long x1), .second, .val (.long (f1_j11 x0 x1)), .second] [])) t → Steps p.tables e below (s₁.setTop (entryFrame m #[(.long x0), (.long x1)] 6)) t := by
    rcases Bool.eq_false_or_eq_true (ifCond.holds .eq (own_cmp (own_lrem x0 x1) (0 : Int64))) with hc3 | hc3
    · have pre13 : ∀ t, Steps p.tables e below (s₁.setTop (mkF m 25 #[.val (.long x0), .second, .val (.long x1), .second, .val (.long (f1_v1 x0 x1)), .second] [])) t → Steps p.tables e below (s₁.setTop (entryFrame m #[(.long x0), (.long x1)] 6)) t := by
        intro t k
        refine pre2 _ ?_
        show Steps p.tables e below (s₁.setTop (mkF m 10 #[.val (.long x0), .second, .val (.long x1), .second, .val (.long (f1_v1 x0 x1)), .second] [(.int (own_cmp (own_lrem x0 x1) (0 : Int64)))])) _
        refine XS.ifYes X0.here hx rfl (pc0 := 10) (pc' := 25) rfl (hb hby d1_10) rfl hc3 (by decide) (by decide) ?_
        exact k
      have qj0 : (f1_j11 x0 x1) = (f1_v1 x0 x1) := if_pos hc3
      refine ⟨s₁, _, X0, N0, e0, fun t k => pre13 _ ?_⟩
      rw [qj0] at k
      exact k
    · have pre4 : ∀ t, Steps p.tables e below (s₁.setTop (mkF m 16 #[.val (.long x0), .second, .val (.long x1), .second, .val (.long (f1_v1 x0 x1)), .second] [(.int (own_cmp x0 (0 : Int64)))])) t → Steps p.tables e below (s₁.setTop (entryFrame m #[(.long x0), (.long x1)] 6)) t := by
        intro t k
        refine pre2 _ ?_
        show Steps p.tables e below (s₁.setTop (mkF m 10 #[.val (.long x0), .second, .val (.long x1), .second, .val (.long (f1_v1 x0 x1)), .second] [(.int (own_cmp (own_lrem x0 x1) (0 : Int64)))])) _
        refine XS.ifNo X0.here hx rfl (hb hby d1_10) rfl hc3 ?_
        show Steps p.tables e below (s₁.setTop (mkF m 13 #[.val (.long x0), .second, .val (.long x1), .second, .val (.long (f1_v1 x0 x1)), .second] [])) _
        refine XS.lloadN X0.here hx rfl (hb hby d1_13) rfl ?_
        show Steps p.tables e below (s₁.setTop (mkF m 14 #[.val (.long x0), .second, .val (.long x1), .second, .val (.long (f1_v1 x0 x1)), .second] [(.long x0)])) _
        refine XS.lconst X0.here hx rfl (hb hby d1_14) ?_
        show Steps p.tables e below (s₁.setTop (mkF m 15 #[.val (.long x0), .second, .val (.long x1), .second, .val (.long (f1_v1 x0 x1)), .second] [(.long (0 : Int64)), (.long x0)])) _
        refine own_xlcmp X0.here hx rfl (hb hby d1_15) rfl ?_
        exact k
      obtain ⟨T8, L8, X8, N8, e8, pre8⟩ : ∃ (T' : State) (L' : List Loc), Stand p l e ({ frames := 0, cells := 0, slots := 0, locals := 0 } : Room) s m #[(.long x0), (.long x1)] below meth c T' L' 0 0 ∧ Fr n0 L' ∧ T'.heap = h0 ∧ ∀ t, Steps p.tables e below (T'.setTop (mkF m 25 #[.val (.long x0), .second, .val (.long x1), .second, .val (.long (f1_j7 x0 x1)), .second] [])) t → Steps p.tables e below (s₁.setTop (entryFrame m #[(.long x0), (.long x1)] 6)) t := by
        rcases Bool.eq_false_or_eq_true (ifCond.holds .ge (own_cmp x0 (0 : Int64))) with hc5 | hc5
        · have pre9 : ∀ t, Steps p.tables e below (s₁.setTop (mkF m 25 #[.val (.long x0), .second, .val (.long x1), .second, .val (.long (f1_v1 x0 x1)), .second] [])) t → Steps p.tables e below (s₁.setTop (entryFrame m #[(.long x0), (.long x1)] 6)) t := by
            intro t k
            refine pre4 _ ?_
            show Steps p.tables e below (s₁.setTop (mkF m 16 #[.val (.long x0), .second, .val (.long x1), .second, .val (.long (f1_v1 x0 x1)), .second] [(.int (own_cmp x0 (0 : Int64)))])) _
            refine XS.ifYes X0.here hx rfl (pc0 := 16) (pc' := 25) rfl (hb hby d1_16) rfl hc5 (by decide) (by decide) ?_
            exact k
          have qj0 : (f1_j7 x0 x1) = (f1_v1 x0 x1) := if_pos hc5
          refine ⟨s₁, _, X0, N0, e0, fun t k => pre9 _ ?_⟩
          rw [qj0] at k
          exact k
        · have pre10 : ∀ t, Steps p.tables e below (s₁.setTop (mkF m 25 #[.val (.long x0), .second, .val (.long x1), .second, .val (.long (f1_v6 x0 x1)), .second] [])) t → Steps p.tables e below (s₁.setTop (entryFrame m #[(.long x0), (.long x1)] 6)) t := by
            intro t k
            refine pre4 _ ?_
            show Steps p.tables e below (s₁.setTop (mkF m 16 #[.val (.long x0), .second, .val (.long x1), .second, .val (.long (f1_v1 x0 x1)), .second] [(.int (own_cmp x0 (0 : Int64)))])) _
            refine XS.ifNo X0.here hx rfl (hb hby d1_16) rfl hc5 ?_
            show Steps p.tables e below (s₁.setTop (mkF m 19 #[.val (.long x0), .second, .val (.long x1), .second, .val (.long (f1_v1 x0 x1)), .second] [])) _
            refine XS.lload X0.here hx rfl (hb hby d1_19) rfl ?_
            show Steps p.tables e below (s₁.setTop (mkF m 21 #[.val (.long x0), .second, .val (.long x1), .second, .val (.long (f1_v1 x0 x1)), .second] [(.long (f1_v1 x0 x1))])) _
            refine XS.lconst X0.here hx rfl (hb hby d1_21) ?_
            show Steps p.tables e below (s₁.setTop (mkF m 22 #[.val (.long x0), .second, .val (.long x1), .second, .val (.long (f1_v1 x0 x1)), .second] [(.long (1 : Int64)), (.long (f1_v1 x0 x1))])) _
            refine XS.lsub X0.here hx rfl (hb hby d1_22) rfl ?_
            show Steps p.tables e below (s₁.setTop (mkF m 23 #[.val (.long x0), .second, .val (.long x1), .second, .val (.long (f1_v1 x0 x1)), .second] [(.long ((f1_v1 x0 x1) - (1 : Int64)))])) _
            refine XS.lstore X0.here hx rfl (hb hby d1_23) rfl (l' := #[.val (.long x0), .second, .val (.long x1), .second, .val (.long (f1_v6 x0 x1)), .second]) rfl ?_
            exact k
          have qj0 : (f1_j7 x0 x1) = (f1_v6 x0 x1) := if_neg (own_nt hc5)
          refine ⟨s₁, _, X0, N0, e0, fun t k => pre10 _ ?_⟩
          rw [qj0] at k
          exact k
      have qj0 : (f1_j11 x0 x1) = (f1_j7 x0 x1) := if_neg (own_nt hc3)
      refine ⟨T8, _, X8, N8, e8, fun t k => pre8 _ ?_⟩
      rw [qj0] at k
      exact k
  obtain ⟨fs, hr, hrun, hended, hW, hsame⟩ := X12.leave (v := some (.long (f1_j11 x0 x1))) (fun h => by rw [hret] at h; cases h)
  refine ⟨_, _, pre12 _ ?_, hrun, hended, _, _, rfl, ?_, ⟨_, rfl⟩, hW, hsame.mono (by decide) (by decide)⟩
  · show Steps p.tables e below (T12.setTop (mkF m 25 #[.val (.long x0), .second, .val (.long x1), .second, .val (.long (f1_j11 x0 x1)), .second] [])) _
    refine XS.lload X12.here hx rfl (hb hby d1_25) rfl ?_
    show Steps p.tables e below (T12.setTop (mkF m 27 #[.val (.long x0), .second, .val (.long x1), .second, .val (.long (f1_j11 x0 x1)), .second] [(.long (f1_j11 x0 x1))])) _
    exact X12.lreturnOut hx hret (hb hby d1_27) hr
  · show Q1 Z x0 x1 h0 n0 _ T12.heap _
    rw [e12]
    have rr : f1 x0 x1 = (f1_j11 x0 x1) := rfl
    exact ⟨congrArg (fun z => some (Value.long z)) rr.symm, N12, rfl⟩
-- body 2: com/example/parley/parley/feed/ShortestDecimal.floorLog10ThreeQuartersPow2:(I)I
theorem d2_0 : decode prog_11_method_6_code 0 = .ok (.iload_n 0, 1) := by decide +kernel
theorem d2_1 : decode prog_11_method_6_code 1 = .ok (.i2l, 1) := by decide +kernel
theorem d2_2 : decode prog_11_method_6_code 2 = .ok (.ldc2_w 76, 3) := by decide +kernel
theorem d2_5 : decode prog_11_method_6_code 5 = .ok (.lmul, 1) := by decide +kernel
theorem d2_6 : decode prog_11_method_6_code 6 = .ok (.ldc2_w 78, 3) := by decide +kernel
theorem d2_9 : decode prog_11_method_6_code 9 = .ok (.ladd, 1) := by decide +kernel
theorem d2_10 : decode prog_11_method_6_code 10 = .ok (.bipush 41, 2) := by decide +kernel
theorem d2_12 : decode prog_11_method_6_code 12 = .ok (.lshr, 1) := by decide +kernel
theorem d2_13 : decode prog_11_method_6_code 13 = .ok (.l2i, 1) := by decide +kernel
theorem d2_14 : decode prog_11_method_6_code 14 = .ok (.ireturn, 1) := by decide +kernel
theorem pn_1 : plainName "com/example/parley/parley/feed/ShortestDecimal" = true := by first | (simp [plainName, overriddenIn]; done) | decide +kernel
theorem ef_2 (m : MethodId) (x0 : Int32) : entryFrame m #[(.int x0)] 1 = mkF m 0 #[.val (.int x0)] [] := by first | (simp [entryFrame, mkF, argsToLocals, Value.category]; done) | rfl
def f2 (x0 : Int32) : Int32 := ((own_lshr (((x0.toInt64) * (661971961083 : Int64)) + (-274743187321 : Int64)) (41 : Int32)).toInt32)
def Q2 (Z : State) (x0 : Int32) (h0 : Heap) (n0 : Nat) (v : Option Value) (h : Heap) (L : List Loc) : Prop := v = some (.int (f2 x0)) ∧ Fr n0 L ∧ h = h0
set_option maxRecDepth 65536 in
set_option maxHeartbeats 40000000 in
theorem rm2 (l : Launch) (Z : State) (a0 : Array Value) (hw : ∀ d ∈ tables_1, d.before a0 Z = true) (ws : List Jvm.Cond) (x0 : Int32) (h0 : Heap) (n0 : Nat) (Z0 : n0 ≤ h0.size) :
    MetFree l (⟨"com/example/parley/parley/feed/ShortestDecimal", "floorLog10ThreeQuartersPow2", "(I)I"⟩ : MethodName) (head1 (Jvm.Cond.code (⟨"com/example/parley/parley/feed/ShortestDecimal", "floorLog10ThreeQuartersPow2", "(I)I"⟩ : MethodName) prog_11_method_6_code 1 (some .int) :: ws) ({ frames := 0, cells := 0, slots := 0, locals := 0 } : Room)) (fun a U => a = #[(.int x0)] ∧ Z.Warmed39 U.vm ∧ U.heap = h0) (fun _ _ _ _ _ => True) (fun _ U o U' => ∃ v L, o = .returned v ∧ Q2 Z x0 h0 n0 v U'.heap L ∧ FrameEnd U o U' L ({ frames := 0, cells := 0, slots := 0, locals := 0 } : Room).cells ({ frames := 0, cells := 0, slots := 0, locals := 0 } : Room).slots) := by
  refine MetFree.of_bodySF (plainFor_of_name pn_1) hisR ?_
  intro p e s m args below meth c s₁ Bd hml0 hP hK0
  obtain ⟨rfl, hZ, hh⟩ := hP
  have hx := Bd.exec
  have hby := Bd.bytes
  have hml : c.maxLocals = 1 := hml0
  have hown : s.vm.findClass "com/example/parley/parley/feed/ShortestDecimal" = some m.cls := findClass_of_methodNamed Bd.named
  have hnm := (name_of_methodNamed Bd.named Bd.method).1
  have hret : meth.sig.returnType = some .int := Bd.returns
  have hlk : meth.locks = false := Bd.notSynchronized
  have X0 : Stand p l e ({ frames := 0, cells := 0, slots := 0, locals := 0 } : Room) s m #[(.int x0)] below meth c s₁ [] 0 0 := Stand.of_body Bd
  have e0 : s₁.heap = h0 := by rw [← hh, Bd.state]; rfl
  have N0 := Fr.nil n0
  have pre0 : ∀ t, Steps p.tables e below (s₁.setTop (mkF m 0 #[.val (.int x0)] [])) t → Steps p.tables e below (s₁.setTop (entryFrame m #[(.int x0)] 1)) t := fun t k => castTop (ef_2 m x0) k
  obtain ⟨fs, hr, hrun, hended, hW, hsame⟩ := X0.leave (v := some (.int ((own_lshr (((x0.toInt64) * (661971961083 : Int64)) + (-274743187321 : Int64)) (41 : Int32)).toInt32))) (fun h => by rw [hret] at h; cases h)
  refine ⟨_, _, pre0 _ ?_, hrun, hended, _, _, rfl, ?_, ⟨_, rfl⟩, hW, hsame.mono (by decide) (by decide)⟩
  · show Steps p.tables e below (s₁.setTop (mkF m 0 #[.val (.int x0)] [])) _
    refine XS.iloadN X0.here hx rfl (hb hby d2_0) rfl ?_
    show Steps p.tables e below (s₁.setTop (mkF m 1 #[.val (.int x0)] [(.int x0)])) _
    refine XS.i2l X0.here hx rfl (hb hby d2_1) rfl ?_
    show Steps p.tables e below (s₁.setTop (mkF m 2 #[.val (.int x0)] [(.long (x0.toInt64))])) _
    refine X0.ldc2Long hx hown (mvT hZ (hw _ (List.mem_of_getElem? (i := 12) rfl))) (g := (mkF m 2 #[.val (.int x0)] [(.long (x0.toInt64))])) rfl (hb hby d2_2) _ ?_
    show Steps p.tables e below (s₁.setTop (mkF m 5 #[.val (.int x0)] [(.long (661971961083 : Int64)), (.long (x0.toInt64))])) _
    refine XS.lmul X0.here hx rfl (hb hby d2_5) rfl ?_
    show Steps p.tables e below (s₁.setTop (mkF m 6 #[.val (.int x0)] [(.long ((x0.toInt64) * (661971961083 : Int64)))])) _
    refine X0.ldc2Long hx hown (mvT hZ (hw _ (List.mem_of_getElem? (i := 13) rfl))) (g := (mkF m 6 #[.val (.int x0)] [(.long ((x0.toInt64) * (661971961083 : Int64)))])) rfl (hb hby d2_6) _ ?_
    show Steps p.tables e below (s₁.setTop (mkF m 9 #[.val (.int x0)] [(.long (-274743187321 : Int64)), (.long ((x0.toInt64) * (661971961083 : Int64)))])) _
    refine XS.ladd X0.here hx rfl (hb hby d2_9) rfl ?_
    show Steps p.tables e below (s₁.setTop (mkF m 10 #[.val (.int x0)] [(.long (((x0.toInt64) * (661971961083 : Int64)) + (-274743187321 : Int64)))])) _
    refine XS.bipush X0.here hx rfl (hb hby d2_10) ?_
    show Steps p.tables e below (s₁.setTop (mkF m 12 #[.val (.int x0)] [(.int (41 : Int32)), (.long (((x0.toInt64) * (661971961083 : Int64)) + (-274743187321 : Int64)))])) _
    refine own_xlshr X0.here hx rfl (hb hby d2_12) rfl ?_
    show Steps p.tables e below (s₁.setTop (mkF m 13 #[.val (.int x0)] [(.long (own_lshr (((x0.toInt64) * (661971961083 : Int64)) + (-274743187321 : Int64)) (41 : Int32)))])) _
    refine XS.l2i X0.here hx rfl (hb hby d2_13) rfl ?_
    show Steps p.tables e below (s₁.setTop (mkF m 14 #[.val (.int x0)] [(.int ((own_lshr (((x0.toInt64) * (661971961083 : Int64)) + (-274743187321 : Int64)) (41 : Int32)).toInt32))])) _
    exact retI X0 hx hret (hb hby d2_14) hr
  · show Q2 Z x0 h0 n0 _ s₁.heap _
    rw [e0]
    have rr : f2 x0 = ((own_lshr (((x0.toInt64) * (661971961083 : Int64)) + (-274743187321 : Int64)) (41 : Int32)).toInt32) := rfl
    exact ⟨congrArg (fun z => some (Value.int z)) rr.symm, N0, rfl⟩
theorem pd_0 : parseMethodDescriptor "(JJ)J" = some ⟨[.long, .long], some .long⟩ := by decide +kernel
theorem pd_1 : parseMethodDescriptor "(I)I" = some ⟨[.int], some .int⟩ := by decide +kernel
-- body 0: com/example/parley/parley/feed/ShortestDecimalFloorLog10ThreeQuartersPow2PinLaw.law:(I)Z
theorem ef_0 (m : MethodId) (x0 : Int32) : entryFrame m #[(.int x0)] maxLocals = mkF m 0 #[.val (.int x0), .unset, .unset, .unset, .unset, .unset, .unset] [] := by first | (simp [entryFrame, mkF, argsToLocals, Value.category, maxLocals]; done) | rfl
def f0_v1 (x0 : Int32) : Int32 := ((-1074 : Int32) + ((x0 &&& (2147483647 : Int32)) % (2046 : Int32)))
def f0_v2 (x0 : Int32) : Int64 := (((((f0_v1 x0) - (2 : Int32)).toInt64) * (301029995663981 : Int64)) + (477121254719662 : Int64))
def f0_v4 (x0 : Int32) : Int64 := (f1 (f0_v2 x0) (1000000000000000 : Int64))
def f0_v6 (x0 : Int32) : Int32 := (f2 (f0_v1 x0))
def f0_j9 (x0 : Int32) : Int32 := if ifCond.holds .ne (own_cmp ((f0_v6 x0).toInt64) (f0_v4 x0)) = true then (0 : Int32) else (1 : Int32)
def f0 (x0 : Int32) : Int32 := (nar .boolean (f0_j9 x0))
def Q0 (Z : State) (x0 : Int32) (h0 : Heap) (n0 : Nat) (v : Option Value) (h : Heap) (L : List Loc) : Prop := v = some (.int (f0 x0)) ∧ Fr n0 L
set_option maxRecDepth 65536 in
set_option maxHeartbeats 40000000 in
theorem rm0 (l : Launch) (Z : State) (a0 : Array Value) (hw : ∀ d ∈ tables_1, d.before a0 Z = true) (ws : List Jvm.Cond) (x0 : Int32) (h0 : Heap) (n0 : Nat) (Z0 : n0 ≤ h0.size) :
    MetFree l x (head1 (Jvm.Cond.code x code maxLocals ret :: ws) room_1) (fun a U => a = #[(.int x0)] ∧ Z.Warmed39 U.vm ∧ U.heap = h0) (fun _ _ _ _ _ => True) (fun _ U o U' => ∃ v L, o = .returned v ∧ Q0 Z x0 h0 n0 v U'.heap L ∧ FrameEnd U o U' L 0 0) := by
  refine MetFree.of_bodySF (plainFor_of_name pn_0) hisR ?_
  intro p e s m args below meth c s₁ Bd hml0 hP hK0
  obtain ⟨rfl, hZ, hh⟩ := hP
  have hx := Bd.exec
  have hby := Bd.bytes
  have hml : c.maxLocals = 7 := hml0
  have hown : s.vm.findClass "com/example/parley/parley/feed/ShortestDecimalFloorLog10ThreeQuartersPow2PinLaw" = some m.cls := findClass_of_methodNamed Bd.named
  have hnm := (name_of_methodNamed Bd.named Bd.method).1
  have hret : meth.sig.returnType = ret := Bd.returns
  have hlk : meth.locks = false := Bd.notSynchronized
  have X0 : Stand p l e room_1 s m #[(.int x0)] below meth c s₁ [] 0 0 := Stand.of_body Bd
  have e0 : s₁.heap = h0 := by rw [← hh, Bd.state]; rfl
  have N0 := Fr.nil n0
  have pre0 : ∀ t, Steps p.tables e below (s₁.setTop (mkF m 0 #[.val (.int x0), .unset, .unset, .unset, .unset, .unset, .unset] [])) t → Steps p.tables e below (s₁.setTop (entryFrame m #[(.int x0)] maxLocals)) t := fun t k => castTop (ef_0 m x0) k
  obtain ⟨_, _, ⟨T3, L3, k3, n3⟩, -, X3, ⟨Lc3, hQ3, l3, y3, z3⟩, st3⟩ := Jvm.LawKit.callS X0 hx (y := (⟨"com/example/parley/parley/feed/ShortestDecimalFloorLog10ThreeQuartersPow2PinLaw", "floorDiv", "(JJ)J"⟩ : MethodName)) hown (mvT hZ (hw _ (List.mem_of_getElem? (i := 4) rfl))) (mvT hZ (hw _ (List.mem_of_getElem? (i := 5) rfl))) (mvT hZ (hw _ (List.mem_of_getElem? (i := 6) rfl))) (mvT hZ (hw _ (List.mem_of_getElem? (i := 7) rfl))) (by decide) (backOf (W := 0) (rm1 l Z a0 hw [] (f0_v2 x0) (1000000000000000 : Int64) h0 n0 Z0 (by decide)) hZ (hw _ (List.mem_of_getElem? (i := 7) rfl)) (hw _ (List.mem_of_getElem? (i := 6) rfl)) (by decide) (by decide)) (g := (mkF m 30 #[.val (.int x0), .val (.int (f0_v1 x0)), .val (.long (f0_v2 x0)), .second, .unset, .unset, .unset] [(.long (1000000000000000 : Int64)), (.long (f0_v2 x0))])) rfl (by rw [hml]; rfl) (argsL := [(.long (f0_v2 x0)), (.long (1000000000000000 : Int64))]) (rest := []) (lenOf pd_0 rfl) rfl (by show 2 * 0 + _ ≤ _; exact Nat.le_of_eq rfl) (hb hby at_30) (fun _ _ => ⟨rfl, e0, (by decide : 0 + 0 ≤ _), (by decide : 0 + 0 ≤ _)⟩)
  dsimp only [Pt.U, Pt.locs, Pt.cells, Pt.slots] at X3 l3 y3 z3 st3 hQ3
  subst l3 y3 z3
  obtain ⟨rfl, Nq3, e3⟩ := hQ3
  have N3 := Fr.app N0 Nq3
  obtain ⟨_, _, ⟨T5, L5, k5, n5⟩, -, X5, ⟨Lc5, hQ5, l5, y5, z5⟩, st5⟩ := Jvm.LawKit.callS X3 hx (y := (⟨"com/example/parley/parley/feed/ShortestDecimal", "floorLog10ThreeQuartersPow2", "(I)I"⟩ : MethodName)) hown (mvT hZ (hw _ (List.mem_of_getElem? (i := 8) rfl))) (mvT hZ (hw _ (List.mem_of_getElem? (i := 9) rfl))) (mvT hZ (hw _ (List.mem_of_getElem? (i := 10) rfl))) (mvT hZ (hw _ (List.mem_of_getElem? (i := 11) rfl))) (by decide) (backOf (W := 0) (rm2 l Z a0 hw [] (f0_v1 x0) h0 n0 Z0) hZ (hw _ (List.mem_of_getElem? (i := 11) rfl)) (hw _ (List.mem_of_getElem? (i := 10) rfl)) (by decide) (by decide)) (g := (mkF m 36 #[.val (.int x0), .val (.int (f0_v1 x0)), .val (.long (f0_v2 x0)), .second, .val (.long (f0_v4 x0)), .second, .unset] [(.int (f0_v1 x0))])) rfl (by rw [hml]; rfl) (argsL := [(.int (f0_v1 x0))]) (rest := []) (lenOf pd_1 rfl) rfl (by show 2 * 0 + _ ≤ _; exact Nat.le_of_eq rfl) (hb hby at_36) (fun _ _ => ⟨rfl, e3, (by decide : 0 + 0 ≤ _), (by decide : 0 + 0 ≤ _)⟩)
  dsimp only [Pt.U, Pt.locs, Pt.cells, Pt.slots] at X5 l5 y5 z5 st5 hQ5
  subst l5 y5 z5
  obtain ⟨rfl, Nq5, e5⟩ := hQ5
  have N5 := Fr.app N3 Nq5
  have pre7 : ∀ t, Steps p.tables e below (T5.setTop (mkF m 47 #[.val (.int x0), .val (.int (f0_v1 x0)), .val (.long (f0_v2 x0)), .second, .val (.long (f0_v4 x0)), .second, .val (.int (f0_v6 x0))] [(.int (own_cmp ((f0_v6 x0).toInt64) (f0_v4 x0)))])) t → Steps p.tables e below (s₁.setTop (entryFrame m #[(.int x0)] maxLocals)) t := by
    intro t k
    refine pre0 _ ?_
    show Steps p.tables e below (s₁.setTop (mkF m 0 #[.val (.int x0), .unset, .unset, .unset, .unset, .unset, .unset] [])) _
    refine XS.sipush X0.here hx rfl (hb hby at_0) ?_
    show Steps p.tables e below (s₁.setTop (mkF m 3 #[.val (.int x0), .unset, .unset, .unset, .unset, .unset, .unset] [(.int (-1074 : Int32))])) _
    refine XS.iloadN X0.here hx rfl (hb hby at_3) rfl ?_
    show Steps p.tables e below (s₁.setTop (mkF m 4 #[.val (.int x0), .unset, .unset, .unset, .unset, .unset, .unset] [(.int x0), (.int (-1074 : Int32))])) _
    refine X0.ldcInt hx hown (mvT hZ (hw _ (List.mem_of_getElem? (i := 0) rfl))) (g := (mkF m 4 #[.val (.int x0), .unset, .unset, .unset, .unset, .unset, .unset] [(.int x0), (.int (-1074 : Int32))])) rfl (hb hby at_4) _ ?_
    show Steps p.tables e below (s₁.setTop (mkF m 6 #[.val (.int x0), .unset, .unset, .unset, .unset, .unset, .unset] [(.int (2147483647 : Int32)), (.int x0), (.int (-1074 : Int32))])) _
    refine XS.iand X0.here hx rfl (hb hby at_6) rfl ?_
    show Steps p.tables e below (s₁.setTop (mkF m 7 #[.val (.int x0), .unset, .unset, .unset, .unset, .unset, .unset] [(.int (x0 &&& (2147483647 : Int32))), (.int (-1074 : Int32))])) _
    refine XS.sipush X0.here hx rfl (hb hby at_7) ?_
    show Steps p.tables e below (s₁.setTop (mkF m 10 #[.val (.int x0), .unset, .unset, .unset, .unset, .unset, .unset] [(.int (2046 : Int32)), (.int (x0 &&& (2147483647 : Int32))), (.int (-1074 : Int32))])) _
    refine iremM X0 hx rfl (hb hby at_10) rfl (by decide) ?_
    show Steps p.tables e below (s₁.setTop (mkF m 11 #[.val (.int x0), .unset, .unset, .unset, .unset, .unset, .unset] [(.int ((x0 &&& (2147483647 : Int32)) % (2046 : Int32))), (.int (-1074 : Int32))])) _
    refine XS.iadd X0.here hx rfl (hb hby at_11) rfl ?_
    show Steps p.tables e below (s₁.setTop (mkF m 12 #[.val (.int x0), .unset, .unset, .unset, .unset, .unset, .unset] [(.int ((-1074 : Int32) + ((x0 &&& (2147483647 : Int32)) % (2046 : Int32))))])) _
    refine XS.istoreN X0.here hx rfl (hb hby at_12) rfl (l' := #[.val (.int x0), .val (.int (f0_v1 x0)), .unset, .unset, .unset, .unset, .unset]) rfl ?_
    show Steps p.tables e below (s₁.setTop (mkF m 13 #[.val (.int x0), .val (.int (f0_v1 x0)), .unset, .unset, .unset, .unset, .unset] [])) _
    refine XS.iloadN X0.here hx rfl (hb hby at_13) rfl ?_
    show Steps p.tables e below (s₁.setTop (mkF m 14 #[.val (.int x0), .val (.int (f0_v1 x0)), .unset, .unset, .unset, .unset, .unset] [(.int (f0_v1 x0))])) _
    refine XS.iconst X0.here hx rfl (hb hby at_14) ?_
    show Steps p.tables e below (s₁.setTop (mkF m 15 #[.val (.int x0), .val (.int (f0_v1 x0)), .unset, .unset, .unset, .unset, .unset] [(.int (2 : Int32)), (.int (f0_v1 x0))])) _
    refine XS.isub X0.here hx rfl (hb hby at_15) rfl ?_
    show Steps p.tables e below (s₁.setTop (mkF m 16 #[.val (.int x0), .val (.int (f0_v1 x0)), .unset, .unset, .unset, .unset, .unset] [(.int ((f0_v1 x0) - (2 : Int32)))])) _
    refine XS.i2l X0.here hx rfl (hb hby at_16) rfl ?_
    show Steps p.tables e below (s₁.setTop (mkF m 17 #[.val (.int x0), .val (.int (f0_v1 x0)), .unset, .unset, .unset, .unset, .unset] [(.long (((f0_v1 x0) - (2 : Int32)).toInt64))])) _
    refine X0.ldc2Long hx hown (mvT hZ (hw _ (List.mem_of_getElem? (i := 1) rfl))) (g := (mkF m 17 #[.val (.int x0), .val (.int (f0_v1 x0)), .unset, .unset, .unset, .unset, .unset] [(.long (((f0_v1 x0) - (2 : Int32)).toInt64))])) rfl (hb hby at_17) _ ?_
    show Steps p.tables e below (s₁.setTop (mkF m 20 #[.val (.int x0), .val (.int (f0_v1 x0)), .unset, .unset, .unset, .unset, .unset] [(.long (301029995663981 : Int64)), (.long (((f0_v1 x0) - (2 : Int32)).toInt64))])) _
    refine XS.lmul X0.here hx rfl (hb hby at_20) rfl ?_
    show Steps p.tables e below (s₁.setTop (mkF m 21 #[.val (.int x0), .val (.int (f0_v1 x0)), .unset, .unset, .unset, .unset, .unset] [(.long ((((f0_v1 x0) - (2 : Int32)).toInt64) * (301029995663981 : Int64)))])) _
    refine X0.ldc2Long hx hown (mvT hZ (hw _ (List.mem_of_getElem? (i := 2) rfl))) (g := (mkF m 21 #[.val (.int x0), .val (.int (f0_v1 x0)), .unset, .unset, .unset, .unset, .unset] [(.long ((((f0_v1 x0) - (2 : Int32)).toInt64) * (301029995663981 : Int64)))])) rfl (hb hby at_21) _ ?_
    show Steps p.tables e below (s₁.setTop (mkF m 24 #[.val (.int x0), .val (.int (f0_v1 x0)), .unset, .unset, .unset, .unset, .unset] [(.long (477121254719662 : Int64)), (.long ((((f0_v1 x0) - (2 : Int32)).toInt64) * (301029995663981 : Int64)))])) _
    refine XS.ladd X0.here hx rfl (hb hby at_24) rfl ?_
    show Steps p.tables e below (s₁.setTop (mkF m 25 #[.val (.int x0), .val (.int (f0_v1 x0)), .unset, .unset, .unset, .unset, .unset] [(.long (((((f0_v1 x0) - (2 : Int32)).toInt64) * (301029995663981 : Int64)) + (477121254719662 : Int64)))])) _
    refine XS.lstoreN X0.here hx rfl (hb hby at_25) rfl (l' := #[.val (.int x0), .val (.int (f0_v1 x0)), .val (.long (f0_v2 x0)), .second, .unset, .unset, .unset]) rfl ?_
    show Steps p.tables e below (s₁.setTop (mkF m 26 #[.val (.int x0), .val (.int (f0_v1 x0)), .val (.long (f0_v2 x0)), .second, .unset, .unset, .unset] [])) _
    refine XS.lloadN X0.here hx rfl (hb hby at_26) rfl ?_
    show Steps p.tables e below (s₁.setTop (mkF m 27 #[.val (.int x0), .val (.int (f0_v1 x0)), .val (.long (f0_v2 x0)), .second, .unset, .unset, .unset] [(.long (f0_v2 x0))])) _
    refine X0.ldc2Long hx hown (mvT hZ (hw _ (List.mem_of_getElem? (i := 3) rfl))) (g := (mkF m 27 #[.val (.int x0), .val (.int (f0_v1 x0)), .val (.long (f0_v2 x0)), .second, .unset, .unset, .unset] [(.long (f0_v2 x0))])) rfl (hb hby at_27) _ ?_
    show Steps p.tables e below (s₁.setTop (mkF m 30 #[.val (.int x0), .val (.int (f0_v1 x0)), .val (.long (f0_v2 x0)), .second, .unset, .unset, .unset] [(.long (1000000000000000 : Int64)), (.long (f0_v2 x0))])) _
    refine st3 _ ?_
    show Steps p.tables e below (T3.setTop (mkF m 33 #[.val (.int x0), .val (.int (f0_v1 x0)), .val (.long (f0_v2 x0)), .second, .unset, .unset, .unset] [(.long (f1 (f0_v2 x0) (1000000000000000 : Int64)))])) _
    refine XS.lstore X3.here hx rfl (hb hby at_33) rfl (l' := #[.val (.int x0), .val (.int (f0_v1 x0)), .val (.long (f0_v2 x0)), .second, .val (.long (f0_v4 x0)), .second, .unset]) rfl ?_
    show Steps p.tables e below (T3.setTop (mkF m 35 #[.val (.int x0), .val (.int (f0_v1 x0)), .val (.long (f0_v2 x0)), .second, .val (.long (f0_v4 x0)), .second, .unset] [])) _
    refine XS.iloadN X3.here hx rfl (hb hby at_35) rfl ?_
    show Steps p.tables e below (T3.setTop (mkF m 36 #[.val (.int x0), .val (.int (f0_v1 x0)), .val (.long (f0_v2 x0)), .second, .val (.long (f0_v4 x0)), .second, .unset] [(.int (f0_v1 x0))])) _
    refine st5 _ ?_
    show Steps p.tables e below (T5.setTop (mkF m 39 #[.val (.int x0), .val (.int (f0_v1 x0)), .val (.long (f0_v2 x0)), .second, .val (.long (f0_v4 x0)), .second, .unset] [(.int (f2 (f0_v1 x0)))])) _
    refine XS.istore X5.here hx rfl (hb hby at_39) rfl (l' := #[.val (.int x0), .val (.int (f0_v1 x0)), .val (.long (f0_v2 x0)), .second, .val (.long (f0_v4 x0)), .second, .val (.int (f0_v6 x0))]) rfl ?_
    show Steps p.tables e below (T5.setTop (mkF m 41 #[.val (.int x0), .val (.int (f0_v1 x0)), .val (.long (f0_v2 x0)), .second, .val (.long (f0_v4 x0)), .second, .val (.int (f0_v6 x0))] [])) _
    refine XS.iload X5.here hx rfl (hb hby at_41) rfl ?_
    show Steps p.tables e below (T5.setTop (mkF m 43 #[.val (.int x0), .val (.int (f0_v1 x0)), .val (.long (f0_v2 x0)), .second, .val (.long (f0_v4 x0)), .second, .val (.int (f0_v6 x0))] [(.int (f0_v6 x0))])) _
    refine XS.i2l X5.here hx rfl (hb hby at_43) rfl ?_
    show Steps p.tables e below (T5.setTop (mkF m 44 #[.val (.int x0), .val (.int (f0_v1 x0)), .val (.long (f0_v2 x0)), .second, .val (.long (f0_v4 x0)), .second, .val (.int (f0_v6 x0))] [(.long ((f0_v6 x0).toInt64))])) _
    refine XS.lload X5.here hx rfl (hb hby at_44) rfl ?_
    show Steps p.tables e below (T5.setTop (mkF m 46 #[.val (.int x0), .val (.int (f0_v1 x0)), .val (.long (f0_v2 x0)), .second, .val (.long (f0_v4 x0)), .second, .val (.int (f0_v6 x0))] [(.long (f0_v4 x0)), (.long ((f0_v6 x0).toInt64))])) _
    refine own_xlcmp X5.here hx rfl (hb hby at_46) rfl ?_
    exact k
  obtain ⟨T10, L10, X10, N10, e10, pre10⟩ : ∃ (T' : State) (L' : List Loc), Stand p l e room_1 s m #[(.int x0)] below meth c T' L' 0 0 ∧ Fr n0 L' ∧ T'.heap = h0 ∧ ∀ t, Steps p.tables e below (T'.setTop (mkF m 55 #[.val (.int x0), .val (.int (f0_v1 x0)), .val (.long (f0_v2 x0)), .second, .val (.long (f0_v4 x0)), .second, .val (.int (f0_v6 x0))] [(.int (f0_j9 x0))])) t → Steps p.tables e below (s₁.setTop (entryFrame m #[(.int x0)] maxLocals)) t := by
    rcases Bool.eq_false_or_eq_true (ifCond.holds .ne (own_cmp ((f0_v6 x0).toInt64) (f0_v4 x0))) with hc8 | hc8
    · have pre11 : ∀ t, Steps p.tables e below (T5.setTop (mkF m 55 #[.val (.int x0), .val (.int (f0_v1 x0)), .val (.long (f0_v2 x0)), .second, .val (.long (f0_v4 x0)), .second, .val (.int (f0_v6 x0))] [(.int (0 : Int32))])) t → Steps p.tables e below (s₁.setTop (entryFrame m #[(.int x0)] maxLocals)) t := by
        intro t k
        refine pre7 _ ?_
        show Steps p.tables e below (T5.setTop (mkF m 47 #[.val (.int x0), .val (.int (f0_v1 x0)), .val (.long (f0_v2 x0)), .second, .val (.long (f0_v4 x0)), .second, .val (.int (f0_v6 x0))] [(.int (own_cmp ((f0_v6 x0).toInt64) (f0_v4 x0)))])) _
        refine XS.ifYes X5.here hx rfl (pc0 := 47) (pc' := 54) rfl (hb hby at_47) rfl hc8 (by decide) (by decide) ?_
        show Steps p.tables e below (T5.setTop (mkF m 54 #[.val (.int x0), .val (.int (f0_v1 x0)), .val (.long (f0_v2 x0)), .second, .val (.long (f0_v4 x0)), .second, .val (.int (f0_v6 x0))] [])) _
        refine XS.iconst X5.here hx rfl (hb hby at_54) ?_
        exact k
      have qj0 : (f0_j9 x0) = (0 : Int32) := if_pos hc8
      refine ⟨T5, _, X5, N5, e5, fun t k => pre11 _ ?_⟩
      rw [qj0] at k
      exact k
    · have pre12 : ∀ t, Steps p.tables e below (T5.setTop (mkF m 55 #[.val (.int x0), .val (.int (f0_v1 x0)), .val (.long (f0_v2 x0)), .second, .val (.long (f0_v4 x0)), .second, .val (.int (f0_v6 x0))] [(.int (1 : Int32))])) t → Steps p.tables e below (s₁.setTop (entryFrame m #[(.int x0)] maxLocals)) t := by
        intro t k
        refine pre7 _ ?_
        show Steps p.tables e below (T5.setTop (mkF m 47 #[.val (.int x0), .val (.int (f0_v1 x0)), .val (.long (f0_v2 x0)), .second, .val (.long (f0_v4 x0)), .second, .val (.int (f0_v6 x0))] [(.int (own_cmp ((f0_v6 x0).toInt64) (f0_v4 x0)))])) _
        refine XS.ifNo X5.here hx rfl (hb hby at_47) rfl hc8 ?_
        show Steps p.tables e below (T5.setTop (mkF m 50 #[.val (.int x0), .val (.int (f0_v1 x0)), .val (.long (f0_v2 x0)), .second, .val (.long (f0_v4 x0)), .second, .val (.int (f0_v6 x0))] [])) _
        refine XS.iconst X5.here hx rfl (hb hby at_50) ?_
        show Steps p.tables e below (T5.setTop (mkF m 51 #[.val (.int x0), .val (.int (f0_v1 x0)), .val (.long (f0_v2 x0)), .second, .val (.long (f0_v4 x0)), .second, .val (.int (f0_v6 x0))] [(.int (1 : Int32))])) _
        refine XS.goto X5.here hx rfl (pc0 := 51) (pc' := 55) rfl (hb hby at_51) (by decide) (by decide) ?_
        exact k
      have qj0 : (f0_j9 x0) = (1 : Int32) := if_neg (own_nt hc8)
      refine ⟨T5, _, X5, N5, e5, fun t k => pre12 _ ?_⟩
      rw [qj0] at k
      exact k
  obtain ⟨fs, hr, hrun, hended, hW, hsame⟩ := X10.leave (v := some (.int (nar .boolean (f0_j9 x0)))) (fun h => by rw [hret] at h; cases h)
  refine ⟨_, _, pre10 _ ?_, hrun, hended, _, _, rfl, ?_, ⟨_, rfl⟩, hW, hsame.mono (by decide) (by decide)⟩
  · show Steps p.tables e below (T10.setTop (mkF m 55 #[.val (.int x0), .val (.int (f0_v1 x0)), .val (.long (f0_v2 x0)), .second, .val (.long (f0_v4 x0)), .second, .val (.int (f0_v6 x0))] [(.int (f0_j9 x0))])) _
    exact retN X10 hx (t := .boolean) hret (by simp) (hb hby at_55) hr
  · show Q0 Z x0 h0 n0 _ T10.heap _
    rw [e10]
    have rr : f0 x0 = (nar .boolean (f0_j9 x0)) := rfl
    exact ⟨congrArg (fun z => some (Value.int z)) rr.symm, N10⟩
theorem own_tab : ∀ k : Fin 2046, (((k.val : Int) - 1074) * 661971961083 + (-274743187321)) / 2199023255552 = (((k.val : Int) - 1076) * 301029995663981 + 477121254719662) / 1000000000000000 := by decide +kernel
theorem own_floor (x : Int64) : (f1 x 1000000000000000).toInt = x.toInt / 1000000000000000 := by
  have e0 : (0 : Int64).toInt = 0 := rfl
  have e1 : (1 : Int64).toInt = 1 := rfl
  have hx := rng64 x
  have c1 := c_ldiv x 1000000000000000 1000000000000000 rfl (by decide)
  have c2 := c_lrem x 1000000000000000 1000000000000000 rfl
  have c3 := c_lsub (x / 1000000000000000) 1
  have c4 := rng64 (x / 1000000000000000 - 1)
  have c5 : own_lrem x 1000000000000000 = x - x / 1000000000000000 * 1000000000000000 := rfl
  rw [← c5] at c2
  unfold f1 f1_j11 f1_j7 f1_v6 f1_v1
  simp only [own_ceq, own_cge]
  by_cases h1 : 0 ≤ x.toInt
  · have d1 := c1.1 h1
    have d2 := c2.1 h1
    rw [if_pos (show (0 : Int64).toInt ≤ x.toInt by omega)]
    split <;> omega
  · have d1 := c1.2 (by omega)
    have d2 := c2.2 (by omega)
    rw [if_neg (show ¬ (0 : Int64).toInt ≤ x.toInt by omega)]
    split <;> omega
theorem own_law (x0 : Int32) : f0 x0 = 1 := by
  have a1 : (x0 &&& (2147483647 : Int32)).toInt = x0.toInt % 2147483648 := c_mask x0 2147483647 31 (by decide) (by decide)
  have a2 := (c_irem (x0 &&& (2147483647 : Int32)) 2046 2046 rfl).1 (by omega)
  have e1 : (-1074 : Int32).toInt = -1074 := rfl
  have e2 : (2 : Int32).toInt = 2 := rfl
  have e3 : (301029995663981 : Int64).toInt = 301029995663981 := rfl
  have e4 : (477121254719662 : Int64).toInt = 477121254719662 := rfl
  have e5 : (661971961083 : Int64).toInt = 661971961083 := rfl
  have e6 : (-274743187321 : Int64).toInt = -274743187321 := rfl
  obtain ⟨k, hk⟩ : ∃ k : Nat, (k : Int) = x0.toInt % 2147483648 % 2046 := ⟨(x0.toInt % 2147483648 % 2046).toNat, by omega⟩
  have hk2 : k < 2046 := by omega
  obtain ⟨q, hq⟩ : ∃ q, q = f0_v1 x0 := ⟨_, rfl⟩
  have b1 : q.toInt = (k : Int) - 1074 := by
    have c1 := c_iadd (-1074) ((x0 &&& (2147483647 : Int32)) % 2046)
    have c2 := rng32 ((-1074) + (x0 &&& (2147483647 : Int32)) % 2046)
    rw [hq]
    unfold f0_v1
    omega
  clear hk a1 a2
  have b2 : (f0_v2 x0).toInt = ((k : Int) - 1074 - 2) * 301029995663981 + 477121254719662 := by
    have e : f0_v2 x0 = (q - 2).toInt64 * 301029995663981 + 477121254719662 := by rw [hq]; rfl
    rw [e]
    exact own_addE (own_mulE (own_i2lE (own_isubE b1 e2 (by omega))) e3 (by omega)) e4 (by omega)
  have b3 : (f0_v6 x0).toInt = (((k : Int) - 1074) * 661971961083 + (-274743187321)) / 2199023255552 := by
    have e : f0_v6 x0 = (own_lshr (q.toInt64 * 661971961083 + (-274743187321)) 41).toInt32 := by rw [hq]; rfl
    rw [e]
    exact own_l2iE (own_shrE 41 41 2199023255552 (own_addE (own_mulE (own_i2lE b1) e5 (by omega)) e6 (by omega)) (by decide) (by decide)) (by omega)
  have tab : (((k : Int) - 1074) * 661971961083 + (-274743187321)) / 2199023255552 = (((k : Int) - 1076) * 301029995663981 + 477121254719662) / 1000000000000000 := own_tab ⟨k, hk2⟩
  have b4 := own_floor (f0_v2 x0)
  have b5 := c_i2l (f0_v6 x0)
  unfold f0 f0_j9
  refine own_last ?_
  rw [own_cne]
  unfold f0_v4
  rw [b5, b3, b4, b2, tab, show (k : Int) - 1074 - 2 = (k : Int) - 1076 by omega]
  exact fun z => z rfl
set_option maxRecDepth 65536 in
set_option maxHeartbeats 40000000 in
theorem comes_1 {Post : Tables → Env → Array Value → State → Outcome → State → Prop} (hpost : ∀ tb e args s v u, (limb_1_1.after args s (.returned v) u = true ∧ limb_1_2.after args s (.returned v) u = true ∧ True) → FrameEnd s (.returned v) u (Jvm.fieldLocs frame_1_writes args s ++ Jvm.arrayLocs frame_1_arrays args s ++ Jvm.staticLocs frame_1_statics s) 0 0 → Post tb e args s (.returned v) u) :
    ArmFor flags0 classFile x code maxLocals ret World_1 tables_1 room_1 Calls_1 rest_1 Pre_1 Post := by
  intro l hfl _ _ p e ha hc hk s m args below hf hA hF happ hP
  obtain ⟨hcalls, hrest, hpre⟩ := hP
  obtain ⟨-, -, -, hnamed, -, -, -, hat⟩ := (Spec.applies_iff hf).mp happ
  obtain ⟨hg, hn⟩ := and_e (Cond.before_iff.mp (show (Jvm.Cond.and given_1 narrow_1).before args s = true from hpre))
  obtain ⟨g1, g2⟩ := and_e hg
  obtain ⟨w0, rfl⟩ : ∃ w0 : Value, args = #[w0] := by
    have hs : args.size = 1 := by simpa [Cond.value, given_1] using g1
    obtain ⟨L⟩ := args
    match L, hs with
    | [w0], _ => exact ⟨w0, rfl⟩
  have hw := fun d (hd : d ∈ tables_1) => atoms_spec (ws := Jvm.Cond.code x code maxLocals ret :: tables_1) hat d (List.mem_cons_of_mem _ hd)
  obtain ⟨i0, ei0⟩ := is_v g2
  obtain rfl : w0 = (.int i0) := Option.some.inj ei0
  obtain ⟨n, o, h1, h2, h3, v, L, rfl, ⟨hv, N⟩, hq⟩ := rm0 l s _ hw tables_1 i0 s.heap s.heap.size (Nat.le_refl _) p e ha hc hk s m _ below hf ((Spec.applies_iff_loose hf).mp happ).1 ⟨rfl, State.Warmed39.refl s, rfl⟩ trivial
  rw [own_law] at hv
  subst hv
  refine ⟨n, _, h1, h2, h3, hpost _ _ _ _ _ _ ⟨Cond.after_iff.mpr rfl, Cond.after_iff.mpr (eq_i res_at (Term.int_eval (1)) rfl), trivial⟩ ⟨hq.1, hq.2.1, (hq.2.2.sift fun y hy => Or.inr (N y hy)).mono (by decide) (by decide)⟩⟩
theorem main_1_1 : Claimed_1_1 := comes_1 fun _ _ _ _ _ _ h hF => ⟨h.1, hF⟩
theorem main_1_2 : Claimed_1_2 := comes_1 fun _ _ _ _ _ _ h hF => ⟨h.2.1, hF⟩
end Jvm.Pilot.@@N@@
namespace Jvm.Pilot.@@N@@
open Jvm Jvm.ClassFile Sem Op Lib Jvm.Free Jvm.Stand Jvm.Pilot.@@N@@.Jvm.D
/-! MADE BY PROGRAM (witnessworld.py) out of the Statement's table words and the real class files: 10 classes; the members and pool entries that the words name. The judged class is class 1, her method 2. -/
namespace start1
open Jvm.ClassFile
def u (s : String) : CpInfo := .utf8 (stringToUtf16 s)
/-- a pool by its gaps: so many unusable entries, then the entry; so many at the end -/
def gap : Nat → List CpInfo → List CpInfo
  | 0, r => r
  | n + 1, r => .unusable :: gap n r
def poolList (es : List (Nat × CpInfo)) (last : Nat) : List CpInfo := es.foldr (fun e r => gap e.1 (e.2 :: r)) (gap last [])
def pool (es : List (Nat × CpInfo)) (last : Nat) : Array CpInfo := ⟨poolList es last⟩
def fileOf (pool : Array CpInfo) (this : Nat) (attrs : Array Attribute := #[]) (ms : Array MethodInfo := #[]) (fl : Nat := 33) (sup : Nat := 0) (ifs : Array Nat := #[]) (fds : Array FieldInfo := #[]) : ClassFile where
  minorVersion := 0
  majorVersion := 65
  constantPool := pool
  accessFlags := fl
  thisClass := this
  superClass := sup
  interfaces := ifs
  fields := fds
  methods := ms
  attributes := attrs
def plain (name : String) (sup : Option ClassId) : Class where
  name := name
  kind := .ordinary
  loader := none
  accessFlags := 33
  super := sup
  interfaces := #[]
  cf := none
  fields := #[]
  methods := #[]
  instanceTypes := #[]
  staticTypes := #[]
  resolved := #[]
  callSites := []
  init := .initialized
  statics := none
  mirror := none

def pool0 : Array CpInfo := pool [(5, u "<init>"), (0, u "()V"), (1, .class_ 10), (1, u "java/lang/Object")] 113

def k0m0 : Method := { name := "<init>", desc := "()V", sig := { parameters := [], returnType := none }, accessFlags := 1, code := none }
/-- java/lang/Object -/
def k0 : Class := { plain "java/lang/Object" none with
  accessFlags := 33
  interfaces := #[]
  cf := some (fileOf pool0 8 #[] #[{ accessFlags := 1, nameIndex := 5, descriptorIndex := 6, attributes := #[] }] 33 0 #[] #[])
  fields := #[]
  methods := #[k0m0]
  instanceTypes := #[]
  staticTypes := #[]
  resolved := Array.replicate 124 none
  statics := none }

def pool1 : Array CpInfo := pool [(2, .class_ 4), (1, u "java/lang/Object"), (0, u "<init>"), (0, u "()V"), (0, .integer 2147483647), (0, .class_ 9), (0, u "com/example/parley/parley/feed/ShortestDecimalFloorLog10ThreeQuartersPow2PinLaw"), (0, .long 301029995663981), (1, .long 477121254719662), (1, .long 1000000000000000), (1, .methodref 8 17), (0, .nameAndType 18 19), (0, u "floorDiv"), (0, u "(JJ)J"), (0, .methodref 21 22), (0, .class_ 23), (0, .nameAndType 24 25), (0, u "com/example/parley/parley/feed/ShortestDecimal"), (0, u "floorLog10ThreeQuartersPow2"), (0, u "(I)I"), (0, u "L2"), (0, u "J"), (1, u "L3"), (0, u "SCALE"), (3, u "law"), (0, u "(I)Z")] 2

def k1m0 : Method := { name := "<init>", desc := "()V", sig := { parameters := [], returnType := none }, accessFlags := 1, code := none }
def k1c1 : Code := { maxStack := 4, maxLocals := 6, code := method_2_code, exceptionTable := #[], attributes := #[] }
def k1m1 : Method := { name := "floorDiv", desc := "(JJ)J", sig := { parameters := [.long, .long], returnType := some .long }, accessFlags := 10, code := some k1c1 }
def k1c2 : Code := { maxStack := 4, maxLocals := 7, code := code, exceptionTable := #[], attributes := #[] }
def k1m2 : Method := { name := "law", desc := "(I)Z", sig := { parameters := [.int], returnType := some .boolean }, accessFlags := 9, code := some k1c2 }
/-- com/example/parley/parley/feed/ShortestDecimalFloorLog10ThreeQuartersPow2PinLaw -/
def k1 : Class := { plain "com/example/parley/parley/feed/ShortestDecimalFloorLog10ThreeQuartersPow2PinLaw" (some 0) with
  accessFlags := 49
  interfaces := #[]
  cf := some (fileOf pool1 8 #[] #[{ accessFlags := 1, nameIndex := 5, descriptorIndex := 6, attributes := #[] }, { accessFlags := 10, nameIndex := 18, descriptorIndex := 19, attributes := #[] }, { accessFlags := 9, nameIndex := 34, descriptorIndex := 35, attributes := #[] }] 49 2 #[] #[{ accessFlags := 26, nameIndex := 26, descriptorIndex := 27, attributes := #[] }, { accessFlags := 26, nameIndex := 29, descriptorIndex := 27, attributes := #[] }, { accessFlags := 26, nameIndex := 30, descriptorIndex := 27, attributes := #[] }])
  fields := #[{ name := "L2", type := .long, accessFlags := 26, slot := 0, constantValue := 0 }, { name := "L3", type := .long, accessFlags := 26, slot := 1, constantValue := 0 }, { name := "SCALE", type := .long, accessFlags := 26, slot := 2, constantValue := 0 }]
  methods := #[k1m0, k1m1, k1m2]
  instanceTypes := #[]
  staticTypes := #[.long, .long, .long]
  resolved := Array.replicate 38 none
  statics := none }

def pool2 : Array CpInfo := pool [(2, .class_ 4), (1, u "java/lang/Object"), (0, u "<init>"), (0, u "()V"), (0, .class_ 8), (0, u "java/lang/Record")] 13

def k2m0 : Method := { name := "<init>", desc := "()V", sig := { parameters := [], returnType := none }, accessFlags := 4, code := none }
/-- java/lang/Record -/
def k2 : Class := { plain "java/lang/Record" (some 0) with
  accessFlags := 1057
  interfaces := #[]
  cf := some (fileOf pool2 7 #[] #[{ accessFlags := 4, nameIndex := 5, descriptorIndex := 6, attributes := #[] }] 1057 2 #[] #[])
  fields := #[]
  methods := #[k2m0]
  instanceTypes := #[]
  staticTypes := #[]
  resolved := Array.replicate 22 none
  statics := none }

def pool3 : Array CpInfo := pool [(1, .class_ 2), (0, u "com/example/parley/parley/feed/ShortestDecimal"), (3, .class_ 8), (1, u "java/lang/Record"), (4, u "significand"), (0, u "J"), (2, u "exponent"), (0, u "I"), (12, u "floorLog10ThreeQuartersPow2"), (0, u "(I)I"), (5, u "POWER_LOG2"), (0, u "[I"), (2, u "POWER_HIGH"), (0, u "[J"), (2, u "POWER_LOW"), (29, .long 661971961083), (1, .long 18446743798966364295), (57, u "FRACTION_BITS"), (2, u "FRACTION_MASK"), (0, u "MIN_BINARY_EXPONENT"), (1, u "MAX_BINARY_EXPONENT"), (1, u "EXPONENT_OFFSET"), (1, u "MIN_K"), (1, u "MAX_K"), (1, u "POWER_BITS"), (1, u "LOW_63"), (0, u "LOG10_2"), (0, u "LOG10_THREE_QUARTERS"), (0, u "LOG10_SCALE")] 33

def k3c0 : Code := { maxStack := 4, maxLocals := 1, code := prog_11_method_6_code, exceptionTable := #[], attributes := #[] }
def k3m0 : Method := { name := "floorLog10ThreeQuartersPow2", desc := "(I)I", sig := { parameters := [.int], returnType := some .int }, accessFlags := 8, code := some k3c0 }
/-- com/example/parley/parley/feed/ShortestDecimal -/
def k3 : Class := { plain "com/example/parley/parley/feed/ShortestDecimal" (some 2) with
  accessFlags := 48
  interfaces := #[]
  cf := some (fileOf pool3 1 #[] #[{ accessFlags := 8, nameIndex := 31, descriptorIndex := 32, attributes := #[] }] 48 6 #[] #[{ accessFlags := 18, nameIndex := 13, descriptorIndex := 14, attributes := #[] }, { accessFlags := 18, nameIndex := 17, descriptorIndex := 18, attributes := #[] }, { accessFlags := 26, nameIndex := 136, descriptorIndex := 18, attributes := #[] }, { accessFlags := 26, nameIndex := 139, descriptorIndex := 14, attributes := #[] }, { accessFlags := 24, nameIndex := 140, descriptorIndex := 18, attributes := #[] }, { accessFlags := 24, nameIndex := 142, descriptorIndex := 18, attributes := #[] }, { accessFlags := 26, nameIndex := 144, descriptorIndex := 18, attributes := #[] }, { accessFlags := 24, nameIndex := 146, descriptorIndex := 18, attributes := #[] }, { accessFlags := 24, nameIndex := 148, descriptorIndex := 18, attributes := #[] }, { accessFlags := 26, nameIndex := 150, descriptorIndex := 18, attributes := #[] }, { accessFlags := 26, nameIndex := 152, descriptorIndex := 14, attributes := #[] }, { accessFlags := 26, nameIndex := 153, descriptorIndex := 14, attributes := #[] }, { accessFlags := 26, nameIndex := 154, descriptorIndex := 14, attributes := #[] }, { accessFlags := 26, nameIndex := 155, descriptorIndex := 18, attributes := #[] }, { accessFlags := 26, nameIndex := 42, descriptorIndex := 43, attributes := #[] }, { accessFlags := 26, nameIndex := 46, descriptorIndex := 43, attributes := #[] }, { accessFlags := 26, nameIndex := 38, descriptorIndex := 39, attributes := #[] }])
  fields := #[{ name := "significand", type := .long, accessFlags := 18, slot := 0, constantValue := 0 }, { name := "exponent", type := .int, accessFlags := 18, slot := 1, constantValue := 0 }, { name := "FRACTION_BITS", type := .int, accessFlags := 26, slot := 0, constantValue := 0 }, { name := "FRACTION_MASK", type := .long, accessFlags := 26, slot := 1, constantValue := 0 }, { name := "MIN_BINARY_EXPONENT", type := .int, accessFlags := 24, slot := 2, constantValue := 0 }, { name := "MAX_BINARY_EXPONENT", type := .int, accessFlags := 24, slot := 3, constantValue := 0 }, { name := "EXPONENT_OFFSET", type := .int, accessFlags := 26, slot := 4, constantValue := 0 }, { name := "MIN_K", type := .int, accessFlags := 24, slot := 5, constantValue := 0 }, { name := "MAX_K", type := .int, accessFlags := 24, slot := 6, constantValue := 0 }, { name := "POWER_BITS", type := .int, accessFlags := 26, slot := 7, constantValue := 0 }, { name := "LOW_63", type := .long, accessFlags := 26, slot := 8, constantValue := 0 }, { name := "LOG10_2", type := .long, accessFlags := 26, slot := 9, constantValue := 0 }, { name := "LOG10_THREE_QUARTERS", type := .long, accessFlags := 26, slot := 10, constantValue := 0 }, { name := "LOG10_SCALE", type := .int, accessFlags := 26, slot := 11, constantValue := 0 }, { name := "POWER_HIGH", type := (.array .long), accessFlags := 26, slot := 12, constantValue := 0 }, { name := "POWER_LOW", type := (.array .long), accessFlags := 26, slot := 13, constantValue := 0 }, { name := "POWER_LOG2", type := (.array .int), accessFlags := 26, slot := 14, constantValue := 0 }]
  methods := #[k3m0]
  instanceTypes := #[.long, .int]
  staticTypes := #[.int, .long, .int, .int, .int, .int, .int, .int, .long, .long, .long, .int, (.array .long), (.array .long), (.array .int)]
  resolved := Array.replicate 189 none
  statics := none }

def pool4 : Array CpInfo := pool [(1, u "java/lang/Cloneable"), (0, .class_ 1), (0, u "java/lang/Object"), (0, .class_ 3)] 3

/-- java/lang/Cloneable -/
def k4 : Class := { plain "java/lang/Cloneable" (some 0) with
  accessFlags := 1537
  interfaces := #[]
  cf := some (fileOf pool4 2 #[] #[] 1537 4 #[] #[])
  fields := #[]
  methods := #[]
  instanceTypes := #[]
  staticTypes := #[]
  resolved := Array.replicate 8 none
  statics := none }

def pool5 : Array CpInfo := pool [(1, u "java/io/Serializable"), (0, .class_ 1), (0, u "java/lang/Object"), (0, .class_ 3)] 3

/-- java/io/Serializable -/
def k5 : Class := { plain "java/io/Serializable" (some 0) with
  accessFlags := 1537
  interfaces := #[]
  cf := some (fileOf pool5 2 #[] #[] 1537 4 #[] #[])
  fields := #[]
  methods := #[]
  instanceTypes := #[]
  staticTypes := #[]
  resolved := Array.replicate 8 none
  statics := none }

/-- the primitive byte -/
def k6 : Class := { plain "byte" none with kind := .primitive 'B', accessFlags := 0x411 }
/-- [B -/
def k7 : Class := { plain "[B" (some 0) with kind := .array 6 .byte, interfaces := #[4, 5], accessFlags := 1041 }

/-- the primitive int -/
def k8 : Class := { plain "int" none with kind := .primitive 'I', accessFlags := 0x411 }
/-- [I -/
def k9 : Class := { plain "[I" (some 0) with kind := .array 8 .int, interfaces := #[4, 5], accessFlags := 1041 }

def heap : Heap := #[]
def classes : Array Class := #[k0, k1, k2, k3, k4, k5, k6, k7, k8, k9]
def interned : List (Array UInt16 × Addr) := []
def slotsUsed : Nat := 0
def theMethod : MethodId := ⟨1, 2⟩
def args0 : Array Value := #[.int 5]
def aboutOver (below : List Frame) : State where
  vm := { classes := classes, interned := interned.toArray }
  heap := heap
  slotsUsed := slotsUsed
  threads := #[{ frames := .invoking theMethod args0 :: below }]
def below0 : List Frame := [.native { method := ⟨0, 0⟩, args := #[] }]
def about1 : State := aboutOver below0
def p0 : Program := .bare "" "" ""
def e0 : Env := launch0.env 0 0 0
theorem w_frames : about1.frames = Frame.invoking theMethod args0 :: below0 := rfl
set_option maxRecDepth 65536 in
theorem w_args : argsFit about1.vm theMethod args0 = true := by decide +kernel
set_option maxRecDepth 65536 in
theorem w_heap : heapFits about1 = true := by decide +kernel
set_option maxRecDepth 65536 in
theorem w_runnable : about1.curStatus? = some .runnable := by decide +kernel
set_option maxRecDepth 65536 in
theorem w_alone : about1.alone = true := by decide +kernel
set_option maxRecDepth 65536 in
theorem w_named : about1.methodNamed? x = some theMethod := by decide +kernel
set_option maxRecDepth 65536 in
theorem w_hears : about1.hears theMethod below0 = true := by decide +kernel
set_option maxRecDepth 65536 in
theorem w_ripe : about1.ripe theMethod args0 below0 = true := by decide +kernel
theorem w_running : about1.status = .running := rfl
set_option maxRecDepth 65536 in
theorem w_room : about1.hasRoom e0.platform room_1 = true :=
  launch0.hasRoom_least _ room_1 (by decide +kernel) (by decide +kernel) (by decide +kernel) (by decide +kernel) (by decide +kernel) (by decide +kernel)
theorem allAtoms_all (ts : List Jvm.Cond) (a : Array Jvm.Value) (st : Jvm.State) : (allAtoms ts).before a st = ts.all (fun c => c.before a st) := by
  induction ts with
  | nil => rfl
  | cons c t ih =>
    show (Jvm.Cond.and c (allAtoms t)).before a st = _
    rw [Jvm.Cond.before_and, ih, List.all_cons]
def words1 : List Jvm.Cond := Jvm.Cond.code x code maxLocals ret :: tables_1
/-- a 'code' word, met by the world's own term for the bytes: nothing is compared byte by byte -/
theorem code_word {y : MethodName} {bytes : ByteArray} {mx : Nat} {rt : Option FieldType} {a : Array Value} {s : State} {m : MethodId} {meth : Method} {c : Code} (h1 : s.methodNamed? y = some m) (h2 : s.vm.method? m = some meth) (h3 : meth.code = some c) (h4 : c.code = bytes)
    (h5 : (c.maxLocals == mx && c.exceptionTable.isEmpty && decide (c.maxStack ≤ mostOperands) && decide (meth.sig.returnType = rt) && !meth.locks && decide (parseMethodDescriptor y.desc = some meth.sig)) = true) : (Jvm.Cond.code y bytes mx rt).before a s = true := by
  simp only [Bool.and_eq_true, beq_iff_eq, Bool.not_eq_true', decide_eq_true_eq] at h5
  obtain ⟨⟨⟨⟨⟨g1, g2⟩, g3⟩, g4⟩, g5⟩, g6⟩ := h5
  simp [Cond.before, Cond.holds, Cond.value, h1, h2, h3, h4, g1, g2, g3, g4, g5, g6]
def isCode : Jvm.Cond → Bool
  | .code _ _ _ _ => true
  | _ => false
theorem all_split {L : List Jvm.Cond} {P : Jvm.Cond → Bool} (h1 : L.all (fun c => isCode c || P c) = true) (h2 : ∀ c ∈ L.filter isCode, P c = true) : L.all P = true := by
  refine List.all_eq_true.mpr fun c hc => ?_
  have h := List.all_eq_true.mp h1 c hc
  rcases Bool.eq_false_or_eq_true (isCode c) with hi | hi
  · exact h2 c (List.mem_filter.mpr ⟨hc, hi⟩)
  · simpa [hi] using h
set_option maxRecDepth 65536 in
theorem w_c0 : (Jvm.Cond.code x code maxLocals ret).before args0 about1 = true := code_word (m := ⟨1, 2⟩) (meth := k1m2) (c := k1c2) (by decide +kernel) rfl rfl rfl (by decide +kernel)
set_option maxRecDepth 65536 in
theorem w_c1 : (Jvm.Cond.code ({ cls := "com/example/parley/parley/feed/ShortestDecimalFloorLog10ThreeQuartersPow2PinLaw", name := "floorDiv", desc := "(JJ)J" } : Jvm.MethodName) method_2_code (6 : Nat) (Option.some Jvm.ClassFile.FieldType.long)).before args0 about1 = true := code_word (m := ⟨1, 1⟩) (meth := k1m1) (c := k1c1) (by decide +kernel) rfl rfl rfl (by decide +kernel)
set_option maxRecDepth 65536 in
theorem w_c2 : (Jvm.Cond.code ({ cls := "com/example/parley/parley/feed/ShortestDecimal", name := "floorLog10ThreeQuartersPow2", desc := "(I)I" } : Jvm.MethodName) prog_11_method_6_code (1 : Nat) (Option.some Jvm.ClassFile.FieldType.int)).before args0 about1 = true := code_word (m := ⟨3, 0⟩) (meth := k3m0) (c := k3c0) (by decide +kernel) rfl rfl rfl (by decide +kernel)
def codes1 : List Jvm.Cond := [Jvm.Cond.code x code maxLocals ret, Jvm.Cond.code ({ cls := "com/example/parley/parley/feed/ShortestDecimalFloorLog10ThreeQuartersPow2PinLaw", name := "floorDiv", desc := "(JJ)J" } : Jvm.MethodName) method_2_code (6 : Nat) (Option.some Jvm.ClassFile.FieldType.long), Jvm.Cond.code ({ cls := "com/example/parley/parley/feed/ShortestDecimal", name := "floorLog10ThreeQuartersPow2", desc := "(I)I" } : Jvm.MethodName) prog_11_method_6_code (1 : Nat) (Option.some Jvm.ClassFile.FieldType.int)]
set_option maxRecDepth 65536 in
theorem codes_eq : words1.filter isCode = codes1 := rfl
theorem w_codes : ∀ c ∈ words1.filter isCode, c.before args0 about1 = true := by
  rw [codes_eq]
  intro c hc
  simp only [codes1, List.mem_cons, List.not_mem_nil, or_false] at hc
  rcases hc with rfl | rfl | rfl
  · exact w_c0
  · exact w_c1
  · exact w_c2
set_option maxRecDepth 65536 in
theorem w_t1 : words1.all (fun c => isCode c || c.before args0 about1) = true := by decide +kernel
theorem w_tables : (allAtoms (Jvm.Cond.code x code maxLocals ret :: tables_1)).before args0 about1 = true := by
  rw [allAtoms_all]
  show words1.all (fun c => c.before args0 about1) = true
  refine all_split ?_ w_codes
  rw [w_t1]
set_option maxRecDepth 65536 in
theorem w_case : (Jvm.Cond.and given_1 narrow_1).before args0 about1 = true := by decide +kernel
theorem w_applies : (headSpec (Jvm.Cond.code x code maxLocals ret :: tables_1) room_1).applies x e0.platform about1 = true :=
  (Spec.applies_iff w_frames).mpr ⟨w_running, w_runnable, w_alone, w_named, w_hears, w_ripe, w_room, w_tables⟩
theorem atStart : AtStart classFile x code maxLocals ret World_1 tables_1 room_1 Calls_1 rest_1 Pre_1 launch0 p0 e0 about1 theMethod args0 below0 :=
  ⟨lists_1, trivial, launch0.admits_env _ _ _, launch0.least_env, fairChoices_fair.cas, fairChoices_fair.clock, w_frames, w_args, w_heap, w_applies, trivial, trivial, w_case⟩
end start1
theorem witness_1 : WitnessClaimed_1 := ⟨start1.p0, start1.e0, start1.about1, start1.theMethod, start1.args0, start1.below0, start1.atStart⟩
end Jvm.Pilot.@@N@@
