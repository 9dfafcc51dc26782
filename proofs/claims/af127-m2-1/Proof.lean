import JvmDerived
import JvmDerived.Pilot.@@N@@Statement
import JvmDerived.Pilot.@@N@@Code
set_option linter.unusedVariables false
set_option linter.unusedSimpArgs false
@@BLOCK:NumsL.lean.txt@@
namespace Jvm.RoadKit
open Sem ClassFile Op Lib Jvm.Stand Jvm.Free Jvm.LawKit
section New
variable {p : Program} {l : Launch} {e : Env} {R : Room} {s : State} {m : MethodId} {args : Array Value} {below : List Frame} {meth : Method} {c : Code} {T : State} {locs : List Loc} {cells slots : Nat}
theorem retI (X : Stand p l e R s m args below meth c T locs cells slots) (hx : p.tables.exec = Jvm.exec) {pc : Nat} {Ls : Array Slot} {z : Int32} {rest : List Value} (hret : meth.sig.returnType = some .int) (hd : decode c.code pc = .ok (.ireturn, 1)) {fs : List Frame}
    (hl : ∀ (f : JFrame) (acts : List Action), f.method = m → f.locked = none → f.entered = [] → (doReturn e (T.setTop f) acts (some (.int z))).1 = T.setFrames fs) : Steps p.tables e below (T.setTop (mkF m pc Ls (.int z :: rest))) (T.setFrames fs) := by
  have hm' : T.vm.method? m = some meth := X.method'
  have hn : narrow .int (.int z) = .int z := rfl
  show Steps p.tables e below (T.setTop { method := m, pc := pc, locals := Ls, stack := _ :: rest, locked := none }) _
  jvm_step X.here [X.here.top, hx, hd, hm', hret, hn]
  first | (intro acts; rw [hl _ acts rfl rfl rfl]) | rw [hl _ _ rfl rfl rfl]
  exact Steps.refl _
end New
end Jvm.RoadKit
namespace Jvm.Pilot.@@N@@
open Jvm Jvm.ClassFile Sem Op Lib Jvm.Free Jvm.Stand Jvm.LawKit Jvm.RoadKit Bundle Jvm.Pilot.@@N@@.Jvm.D
theorem own_nt {b : Bool} (h : b = false) : ¬ b = true := fun q => by rw [h] at q; cases q
theorem own_ts_ne {α : Type} {o : Option α} {a b : α} (h : o = some b) (ne : b ≠ a) : ¬ o = some a := fun q => ne (Option.some.inj (h.symm.trans q))
/-- what lcmp pushes; Java's shifts and the remainder of longs -/
def own_cmp (x y : Int64) : Int32 := lcmpW x y
def own_iushr (x y : Int32) : Int32 := (x.toUInt32 >>> (y &&& 31).toUInt32).toInt32
def own_lushr (x : Int64) (y : Int32) : Int64 := (x.toUInt64 >>> (y &&& 0x3f).toInt64.toUInt64).toInt64
def own_lshl (x : Int64) (y : Int32) : Int64 := x <<< (y &&& 0x3f).toInt64
def own_lshr (x : Int64) (y : Int32) : Int64 := x >>> (y &&& 0x3f).toInt64
def own_lrem (x y : Int64) : Int64 := x - (x / y) * y
theorem own_xlcmp {tb : Tables} [Ours tb] {e : Env} {below : List Frame} {T target : State} {m : MethodId} {c : Code} {g : JFrame} (h : At T m c below) (hx : tb.exec = Jvm.exec) (hg : g.method = m) {x : Int64} {y : Int64} {rest : List Value} (hd : decode c.code g.pc = .ok (.lcmp, 1)) (hs : g.stack = .long y :: .long x :: rest) (hr : Steps tb e below (T.setTop { g with pc := g.pc + 1, stack := .int (own_cmp x y) :: rest }) target) : Steps tb e below (T.setTop g) target := XS.lcmp h hx hg hd hs hr
theorem own_xiushr {tb : Tables} [Ours tb] {e : Env} {below : List Frame} {T target : State} {m : MethodId} {c : Code} {g : JFrame} (h : At T m c below) (hx : tb.exec = Jvm.exec) (hg : g.method = m) {x : Int32} {y : Int32} {rest : List Value} (hd : decode c.code g.pc = .ok (.iushr, 1)) (hs : g.stack = .int y :: .int x :: rest) (hr : Steps tb e below (T.setTop { g with pc := g.pc + 1, stack := .int (own_iushr x y) :: rest }) target) : Steps tb e below (T.setTop g) target := XS.iushr h hx hg hd hs hr
theorem own_xlushr {tb : Tables} [Ours tb] {e : Env} {below : List Frame} {T target : State} {m : MethodId} {c : Code} {g : JFrame} (h : At T m c below) (hx : tb.exec = Jvm.exec) (hg : g.method = m) {x : Int64} {y : Int32} {rest : List Value} (hd : decode c.code g.pc = .ok (.lushr, 1)) (hs : g.stack = .int y :: .long x :: rest) (hr : Steps tb e below (T.setTop { g with pc := g.pc + 1, stack := .long (own_lushr x y) :: rest }) target) : Steps tb e below (T.setTop g) target := XS.lushr h hx hg hd hs hr
theorem own_xlshl {tb : Tables} [Ours tb] {e : Env} {below : List Frame} {T target : State} {m : MethodId} {c : Code} {g : JFrame} (h : At T m c below) (hx : tb.exec = Jvm.exec) (hg : g.method = m) {x : Int64} {y : Int32} {rest : List Value} (hd : decode c.code g.pc = .ok (.lshl, 1)) (hs : g.stack = .int y :: .long x :: rest) (hr : Steps tb e below (T.setTop { g with pc := g.pc + 1, stack := .long (own_lshl x y) :: rest }) target) : Steps tb e below (T.setTop g) target := XS.lshl h hx hg hd hs hr
theorem own_xlshr {tb : Tables} [Ours tb] {e : Env} {below : List Frame} {T target : State} {m : MethodId} {c : Code} {g : JFrame} (h : At T m c below) (hx : tb.exec = Jvm.exec) (hg : g.method = m) {x : Int64} {y : Int32} {rest : List Value} (hd : decode c.code g.pc = .ok (.lshr, 1)) (hs : g.stack = .int y :: .long x :: rest) (hr : Steps tb e below (T.setTop { g with pc := g.pc + 1, stack := .long (own_lshr x y) :: rest }) target) : Steps tb e below (T.setTop g) target := XS.lshr h hx hg hd hs hr
theorem own_xlrem {tb : Tables} [Ours tb] {e : Env} {below : List Frame} {T target : State} {m : MethodId} {c : Code} {g : JFrame} (h : At T m c below) (hx : tb.exec = Jvm.exec) (hg : g.method = m) {x : Int64} {y : Int64} {rest : List Value} (hd : decode c.code g.pc = .ok (.lrem, 1)) (hs : g.stack = .long y :: .long x :: rest) (hy : y ≠ 0) (hr : Steps tb e below (T.setTop { g with pc := g.pc + 1, stack := .long (own_lrem x y) :: rest }) target) : Steps tb e below (T.setTop g) target := XS.lrem h hx hg hd hs hy hr
theorem own_ieq (x y : Int32) : (if_icmp.holds .eq x y = true) = (x.toInt = y.toInt) := by
  rw [show if_icmp.holds .eq x y = (x == y) from rfl, beq_iff_eq, Int32.toInt_inj]
theorem own_ine (x y : Int32) : (if_icmp.holds .ne x y = true) = (x.toInt ≠ y.toInt) := by
  rw [show if_icmp.holds .ne x y = (x != y) from rfl, bne_iff_ne, ne_eq, ne_eq, Int32.toInt_inj]
theorem own_ilt (x y : Int32) : (if_icmp.holds .lt x y = true) = (x.toInt < y.toInt) := by
  rw [show if_icmp.holds .lt x y = decide (x < y) from rfl, decide_eq_true_eq, Int32.lt_iff_toInt_lt]
theorem own_ige (x y : Int32) : (if_icmp.holds .ge x y = true) = (y.toInt ≤ x.toInt) := by
  rw [show if_icmp.holds .ge x y = decide (y ≤ x) from rfl, decide_eq_true_eq, Int32.le_iff_toInt_le]
theorem own_igt (x y : Int32) : (if_icmp.holds .gt x y = true) = (y.toInt < x.toInt) := by
  rw [show if_icmp.holds .gt x y = decide (y < x) from rfl, decide_eq_true_eq, Int32.lt_iff_toInt_lt]
theorem own_ile (x y : Int32) : (if_icmp.holds .le x y = true) = (x.toInt ≤ y.toInt) := by
  rw [show if_icmp.holds .le x y = decide (x ≤ y) from rfl, decide_eq_true_eq, Int32.le_iff_toInt_le]
theorem own_z32 : (0 : Int32).toInt = 0 := rfl
theorem own_eq0 (x : Int32) : (ifCond.holds .eq x = true) = (x.toInt = 0) := by rw [if0, own_ieq, own_z32]
theorem own_ne0 (x : Int32) : (ifCond.holds .ne x = true) = (x.toInt ≠ 0) := by rw [if0, own_ine, own_z32]
theorem own_lt0 (x : Int32) : (ifCond.holds .lt x = true) = (x.toInt < 0) := by rw [if0, own_ilt, own_z32]
theorem own_ge0 (x : Int32) : (ifCond.holds .ge x = true) = (0 ≤ x.toInt) := by rw [if0, own_ige, own_z32]
theorem own_gt0 (x : Int32) : (ifCond.holds .gt x = true) = (0 < x.toInt) := by rw [if0, own_igt, own_z32]
theorem own_le0 (x : Int32) : (ifCond.holds .le x = true) = (x.toInt ≤ 0) := by rw [if0, own_ile, own_z32]
theorem own_cmp3 (x y : Int64) : (x.toInt < y.toInt ∧ (own_cmp x y).toInt = -1) ∨ (x.toInt = y.toInt ∧ (own_cmp x y).toInt = 0) ∨ (y.toInt < x.toInt ∧ (own_cmp x y).toInt = 1) := by
  obtain ⟨h1, h2, h3⟩ := c_lcmp x y
  have e : own_cmp x y = lcmpW x y := rfl
  rw [e]
  rcases Int.lt_trichotomy x.toInt y.toInt with h | h | h
  · exact Or.inl ⟨h, h1 h⟩
  · exact Or.inr (Or.inl ⟨h, h2 h⟩)
  · exact Or.inr (Or.inr ⟨h, h3 h⟩)
theorem own_ceq (x y : Int64) : (ifCond.holds .eq (own_cmp x y) = true) = (x.toInt = y.toInt) := by
  rw [own_eq0]; have := own_cmp3 x y; exact propext ⟨fun h => by omega, fun h => by omega⟩
theorem own_cne (x y : Int64) : (ifCond.holds .ne (own_cmp x y) = true) = (x.toInt ≠ y.toInt) := by
  rw [own_ne0]; have := own_cmp3 x y; exact propext ⟨fun h => by omega, fun h => by omega⟩
theorem own_clt (x y : Int64) : (ifCond.holds .lt (own_cmp x y) = true) = (x.toInt < y.toInt) := by
  rw [own_lt0]; have := own_cmp3 x y; exact propext ⟨fun h => by omega, fun h => by omega⟩
theorem own_cge (x y : Int64) : (ifCond.holds .ge (own_cmp x y) = true) = (y.toInt ≤ x.toInt) := by
  rw [own_ge0]; have := own_cmp3 x y; exact propext ⟨fun h => by omega, fun h => by omega⟩
theorem own_cgt (x y : Int64) : (ifCond.holds .gt (own_cmp x y) = true) = (y.toInt < x.toInt) := by
  rw [own_gt0]; have := own_cmp3 x y; exact propext ⟨fun h => by omega, fun h => by omega⟩
theorem own_cle (x y : Int64) : (ifCond.holds .le (own_cmp x y) = true) = (x.toInt ≤ y.toInt) := by
  rw [own_le0]; have := own_cmp3 x y; exact propext ⟨fun h => by omega, fun h => by omega⟩
theorem own_nar1 {x : Int32} (h : x = 1) : nar .boolean x = 1 := by rw [h]; rfl
theorem own_nar0 {x : Int32} (h : x = 0) : nar .boolean x = 0 := by rw [h]; rfl
/-- the last row of a law: a comparison that isn't met gives 0, else 1 -/
theorem own_last {c : Prop} [Decidable c] (h : ¬ c) : nar .boolean (if c then (0 : Int32) else 1) = 1 := by rw [if_neg h]; rfl
theorem own_n32 (x : Int32) : (x.toBitVec.toNat : Int) = x.toInt % 4294967296 := by
  have h := x.toBitVec.isLt
  show _ = x.toBitVec.toInt % _
  rw [BitVec.toInt_eq_toNat_cond]
  split <;> omega
theorem own_n64 (x : Int64) : (x.toBitVec.toNat : Int) = x.toInt % 18446744073709551616 := by
  have h := x.toBitVec.isLt
  show _ = x.toBitVec.toInt % _
  rw [BitVec.toInt_eq_toNat_cond]
  split <;> omega
theorem own_iushr_nat (x y : Int32) : (own_iushr x y).toBitVec.toNat = x.toBitVec.toNat / 2 ^ (y.toBitVec.toNat % 32) := by
  have h1 : (y &&& 31).toBitVec.toNat = y.toBitVec.toNat % 32 := by
    show (y.toBitVec &&& (31 : Int32).toBitVec).toNat = _
    rw [BitVec.toNat_and, show (31 : Int32).toBitVec.toNat = 2 ^ 5 - 1 from by decide, Nat.and_two_pow_sub_one_eq_mod]
  show (x.toBitVec >>> ((y &&& 31).toBitVec % 32)).toNat = _
  rw [BitVec.ushiftRight_eq', BitVec.toNat_ushiftRight, Nat.shiftRight_eq_div_pow, BitVec.toNat_umod, h1, show (32 : BitVec 32).toNat = 32 from rfl, Nat.mod_mod]
theorem own_lushr_nat (x : Int64) (y : Int32) : (own_lushr x y).toBitVec.toNat = x.toBitVec.toNat / 2 ^ (y.toBitVec.toNat % 64) := by
  obtain ⟨h1, h2⟩ := sm64 y _ rfl
  show (x.toBitVec >>> ((y &&& 0x3f).toInt64.toBitVec % 64)).toNat = _
  rw [BitVec.ushiftRight_eq', BitVec.toNat_ushiftRight, Nat.shiftRight_eq_div_pow, BitVec.toNat_umod, h1, BitVec.toNat_ofNat]
  congr 2
  show y.toBitVec.toNat % 64 % 2 ^ 64 % 64 = _
  omega
theorem own_iushr_nn (x y : Int32) (h : 0 ≤ x.toInt) : 0 ≤ (own_iushr x y).toInt ∧ (own_iushr x y).toInt ≤ x.toInt := by
  have a := own_iushr_nat x y
  have b := Nat.div_le_self x.toBitVec.toNat (2 ^ (y.toBitVec.toNat % 32))
  have c := own_n32 x
  have d := own_n32 (own_iushr x y)
  have r := rng32 x
  have r2 := rng32 (own_iushr x y)
  omega
theorem own_lushr_nn (x : Int64) (y : Int32) (h : 0 ≤ x.toInt) : 0 ≤ (own_lushr x y).toInt ∧ (own_lushr x y).toInt ≤ x.toInt := by
  have a := own_lushr_nat x y
  have b := Nat.div_le_self x.toBitVec.toNat (2 ^ (y.toBitVec.toNat % 64))
  have c := own_n64 x
  have d := own_n64 (own_lushr x y)
  have r := rng64 x
  have r2 := rng64 (own_lushr x y)
  omega
theorem own_ff {b : Bool} (h : ¬ b = true) : b = false := by cases b <;> first | rfl | exact absurd rfl h
theorem own_clt_f {x y : Int64} (h : ¬ x.toInt < y.toInt) : ifCond.holds .lt (own_cmp x y) = false := own_ff fun q => h ((own_clt x y).mp q)
theorem own_nz {x : Int64} (h : (0 : Int64).toInt < x.toInt) : x ≠ 0 := fun q => by rw [q] at h; exact absurd h (Int.lt_irrefl _)
theorem own_max (x : Int64) : x.toInt ≤ (9223372036854775807 : Int64).toInt := by
  have r := rng64 x
  have e : (9223372036854775807 : Int64).toInt = 9223372036854775807 := rfl
  omega
theorem own_addE {x y : Int64} {a b : Int} (hx : x.toInt = a) (hy : y.toInt = b) (h : -9223372036854775808 ≤ a + b ∧ a + b < 9223372036854775808) : (x + y).toInt = a + b := by subst hx hy; exact Kit.i64_add (by omega) (by omega)
theorem own_subE {x y : Int64} {a b : Int} (hx : x.toInt = a) (hy : y.toInt = b) (h : -9223372036854775808 ≤ a - b ∧ a - b < 9223372036854775808) : (x - y).toInt = a - b := by subst hx hy; exact Kit.i64_sub (by omega) (by omega)
theorem own_mulE {x y : Int64} {a b : Int} (hx : x.toInt = a) (hy : y.toInt = b) (h : -9223372036854775808 ≤ a * b ∧ a * b < 9223372036854775808) : (x * y).toInt = a * b := by subst hx hy; exact Kit.i64_mul (by omega) (by omega)
theorem own_i2lE {x : Int32} {a : Int} (hx : x.toInt = a) : x.toInt64.toInt = a := (c_i2l x).trans hx
theorem own_l2iE {x : Int64} {a : Int} (hx : x.toInt = a) (h : -2147483648 ≤ a ∧ a < 2147483648) : x.toInt32.toInt = a := by subst hx; exact Kit.i32_of_i64 (by omega) (by omega)
theorem own_iaddE {x y : Int32} {a b : Int} (hx : x.toInt = a) (hy : y.toInt = b) (h : -2147483648 ≤ a + b ∧ a + b < 2147483648) : (x + y).toInt = a + b := by subst hx hy; exact Kit.i32_add (by omega) (by omega)
theorem own_isubE {x y : Int32} {a b : Int} (hx : x.toInt = a) (hy : y.toInt = b) (h : -2147483648 ≤ a - b ∧ a - b < 2147483648) : (x - y).toInt = a - b := by subst hx hy; exact Kit.i32_sub (by omega) (by omega)
theorem own_divE {x y : Int64} {a b : Int} (hx : x.toInt = a) (hy : y.toInt = b) (h : 0 ≤ a) (hb : 0 < b) : (x / y).toInt = a / b := by
  subst hx hy
  exact (c_ldiv x y y.toInt rfl (fun q => by rw [q] at hb; exact absurd hb (by decide))).1 h
theorem own_remE {x y : Int64} {a b : Int} (hx : x.toInt = a) (hy : y.toInt = b) (h : 0 ≤ a) : (own_lrem x y).toInt = a % b := by
  subst hx hy
  exact (c_lrem x y y.toInt rfl).1 h
theorem own_ushrE {x : Int64} {a : Int} (q : Int32) (k : Nat) (P : Int) (hx : x.toInt = a) (hk : q.toBitVec.toNat % 64 = k) (h0 : 0 < k) (hP : ((2 ^ k : Nat) : Int) = P) : (own_lushr x q).toInt = a % 18446744073709551616 / P := by
  subst hx hP
  exact c_lushr x q k hk h0
theorem own_shrE {x : Int64} {a : Int} (q : Int32) (k : Nat) (P : Int) (hx : x.toInt = a) (hk : q.toBitVec.toNat % 64 = k) (hP : ((2 ^ k : Nat) : Int) = P) : (own_lshr x q).toInt = a / P := by
  subst hx hP
  exact c_lshr x q k hk

-- body 1: com/example/pulseline/pulseline/NtpTimestamp.toEpochMicros:(J)J
theorem d1_0 : decode prog_14_method_3_code 0 = .ok (.lload_n 0, 1) := by decide +kernel
theorem d1_1 : decode prog_14_method_3_code 1 = .ok (.bipush 32, 2) := by decide +kernel
theorem d1_3 : decode prog_14_method_3_code 3 = .ok (.lushr, 1) := by decide +kernel
theorem d1_4 : decode prog_14_method_3_code 4 = .ok (.lstore_n 2, 1) := by decide +kernel
theorem d1_5 : decode prog_14_method_3_code 5 = .ok (.lload_n 2, 1) := by decide +kernel
theorem d1_6 : decode prog_14_method_3_code 6 = .ok (.ldc2_w 22, 3) := by decide +kernel
theorem d1_9 : decode prog_14_method_3_code 9 = .ok (.land, 1) := by decide +kernel
theorem d1_10 : decode prog_14_method_3_code 10 = .ok (.lconst 0, 1) := by decide +kernel
theorem d1_11 : decode prog_14_method_3_code 11 = .ok (.lcmp, 1) := by decide +kernel
theorem d1_12 : decode prog_14_method_3_code 12 = .ok (.ifCond .ne 9, 3) := by decide +kernel
theorem d1_15 : decode prog_14_method_3_code 15 = .ok (.lload_n 2, 1) := by decide +kernel
theorem d1_16 : decode prog_14_method_3_code 16 = .ok (.ldc2_w 24, 3) := by decide +kernel
theorem d1_19 : decode prog_14_method_3_code 19 = .ok (.ladd, 1) := by decide +kernel
theorem d1_20 : decode prog_14_method_3_code 20 = .ok (.lstore_n 2, 1) := by decide +kernel
theorem d1_21 : decode prog_14_method_3_code 21 = .ok (.lload_n 0, 1) := by decide +kernel
theorem d1_22 : decode prog_14_method_3_code 22 = .ok (.ldc2_w 26, 3) := by decide +kernel
theorem d1_25 : decode prog_14_method_3_code 25 = .ok (.land, 1) := by decide +kernel
theorem d1_26 : decode prog_14_method_3_code 26 = .ok (.lstore 4, 2) := by decide +kernel
theorem d1_28 : decode prog_14_method_3_code 28 = .ok (.lload 4, 2) := by decide +kernel
theorem d1_30 : decode prog_14_method_3_code 30 = .ok (.ldc2_w 9, 3) := by decide +kernel
theorem d1_33 : decode prog_14_method_3_code 33 = .ok (.lmul, 1) := by decide +kernel
theorem d1_34 : decode prog_14_method_3_code 34 = .ok (.ldc2_w 22, 3) := by decide +kernel
theorem d1_37 : decode prog_14_method_3_code 37 = .ok (.ladd, 1) := by decide +kernel
theorem d1_38 : decode prog_14_method_3_code 38 = .ok (.bipush 32, 2) := by decide +kernel
theorem d1_40 : decode prog_14_method_3_code 40 = .ok (.lushr, 1) := by decide +kernel
theorem d1_41 : decode prog_14_method_3_code 41 = .ok (.lstore 6, 2) := by decide +kernel
theorem d1_43 : decode prog_14_method_3_code 43 = .ok (.lload_n 2, 1) := by decide +kernel
theorem d1_44 : decode prog_14_method_3_code 44 = .ok (.ldc2_w 20, 3) := by decide +kernel
theorem d1_47 : decode prog_14_method_3_code 47 = .ok (.lsub, 1) := by decide +kernel
theorem d1_48 : decode prog_14_method_3_code 48 = .ok (.ldc2_w 9, 3) := by decide +kernel
theorem d1_51 : decode prog_14_method_3_code 51 = .ok (.lmul, 1) := by decide +kernel
theorem d1_52 : decode prog_14_method_3_code 52 = .ok (.lload 6, 2) := by decide +kernel
theorem d1_54 : decode prog_14_method_3_code 54 = .ok (.ladd, 1) := by decide +kernel
theorem d1_55 : decode prog_14_method_3_code 55 = .ok (.lreturn, 1) := by decide +kernel
theorem pn_0 : plainName "com/example/pulseline/pulseline/NtpTimestamp" = true := by first | (simp [plainName, overriddenIn]; done) | decide +kernel
theorem ef_1 (m : MethodId) (x0 : Int64) : entryFrame m #[(.long x0)] 8 = mkF m 0 #[.val (.long x0), .second, .unset, .unset, .unset, .unset, .unset, .unset] [] := by first | (simp [entryFrame, mkF, argsToLocals, Value.category]; done) | rfl
def f1_v1 (x0 : Int64) : Int64 := (own_lushr x0 (32 : Int32))
def f1_v4 (x0 : Int64) : Int64 := ((f1_v1 x0) + (4294967296 : Int64))
def f1_j5 (x0 : Int64) : Int64 := if ifCond.holds .ne (own_cmp ((f1_v1 x0) &&& (2147483648 : Int64)) (0 : Int64)) = true then (f1_v1 x0) else (f1_v4 x0)
def f1_v9 (x0 : Int64) : Int64 := (x0 &&& (4294967295 : Int64))
def f1_v10 (x0 : Int64) : Int64 := (own_lushr (((f1_v9 x0) * (1000000 : Int64)) + (2147483648 : Int64)) (32 : Int32))
def f1 (x0 : Int64) : Int64 := ((((f1_j5 x0) - (2208988800 : Int64)) * (1000000 : Int64)) + (f1_v10 x0))
def Q1 (Z : State) (x0 : Int64) (h0 : Heap) (n0 : Nat) (v : Option Value) (h : Heap) (L : List Loc) : Prop := v = some (.long (f1 x0)) ∧ Fr n0 L ∧ h = h0
set_option maxRecDepth 65536 in
set_option maxHeartbeats 40000000 in
theorem rm1 (l : Launch) (Z : State) (a0 : Array Value) (hw : ∀ d ∈ tables_1, d.before a0 Z = true) (ws : List Jvm.Cond) (x0 : Int64) (h0 : Heap) (n0 : Nat) (Z0 : n0 ≤ h0.size) :
    MetFree l (⟨"com/example/pulseline/pulseline/NtpTimestamp", "toEpochMicros", "(J)J"⟩ : MethodName) (head1 (Jvm.Cond.code (⟨"com/example/pulseline/pulseline/NtpTimestamp", "toEpochMicros", "(J)J"⟩ : MethodName) prog_14_method_3_code 8 (some .long) :: ws) ({ frames := 0, cells := 0, slots := 0, locals := 0 } : Room)) (fun a U => a = #[(.long x0)] ∧ Z.Warmed39 U.vm ∧ U.heap = h0) (fun _ _ _ _ _ => True) (fun _ U o U' => ∃ v L, o = .returned v ∧ Q1 Z x0 h0 n0 v U'.heap L ∧ FrameEnd U o U' L ({ frames := 0, cells := 0, slots := 0, locals := 0 } : Room).cells ({ frames := 0, cells := 0, slots := 0, locals := 0 } : Room).slots) := by
  refine MetFree.of_bodySF (plainFor_of_name pn_0) hisR ?_
  intro p e s m args below meth c s₁ Bd hml0 hP hK0
  obtain ⟨rfl, hZ, hh⟩ := hP
  have hx := Bd.exec
  have hby := Bd.bytes
  have hml : c.maxLocals = 8 := hml0
  have hown : s.vm.findClass "com/example/pulseline/pulseline/NtpTimestamp" = some m.cls := findClass_of_methodNamed Bd.named
  have hnm := (name_of_methodNamed Bd.named Bd.method).1
  have hret : meth.sig.returnType = some .long := Bd.returns
  have hlk : meth.locks = false := Bd.notSynchronized
  have X0 : Stand p l e ({ frames := 0, cells := 0, slots := 0, locals := 0 } : Room) s m #[(.long x0)] below meth c s₁ [] 0 0 := Stand.of_body Bd
  have e0 : s₁.heap = h0 := by rw [← hh, Bd.state]; rfl
  have N0 := Fr.nil n0
  have pre0 : ∀ t, Steps p.tables e below (s₁.setTop (mkF m 0 #[.val (.long x0), .second, .unset, .unset, .unset, .unset, .unset, .unset] [])) t → Steps p.tables e below (s₁.setTop (entryFrame m #[(.long x0)] 8)) t := fun t k => castTop (ef_1 m x0) k
  have pre2 : ∀ t, Steps p.tables e below (s₁.setTop (mkF m 12 #[.val (.long x0), .second, .val (.long (f1_v1 x0)), .second, .unset, .unset, .unset, .unset] [(.int (own_cmp ((f1_v1 x0) &&& (2147483648 : Int64)) (0 : Int64)))])) t → Steps p.tables e below (s₁.setTop (entryFrame m #[(.long x0)] 8)) t := by
    intro t k
    refine pre0 _ ?_
    show Steps p.tables e below (s₁.setTop (mkF m 0 #[.val (.long x0), .second, .unset, .unset, .unset, .unset, .unset, .unset] [])) _
    refine XS.lloadN X0.here hx rfl (hb hby d1_0) rfl ?_
    show Steps p.tables e below (s₁.setTop (mkF m 1 #[.val (.long x0), .second, .unset, .unset, .unset, .unset, .unset, .unset] [(.long x0)])) _
    refine XS.bipush X0.here hx rfl (hb hby d1_1) ?_
    show Steps p.tables e below (s₁.setTop (mkF m 3 #[.val (.long x0), .second, .unset, .unset, .unset, .unset, .unset, .unset] [(.int (32 : Int32)), (.long x0)])) _
    refine own_xlushr X0.here hx rfl (hb hby d1_3) rfl ?_
    show Steps p.tables e below (s₁.setTop (mkF m 4 #[.val (.long x0), .second, .unset, .unset, .unset, .unset, .unset, .unset] [(.long (own_lushr x0 (32 : Int32)))])) _
    refine XS.lstoreN X0.here hx rfl (hb hby d1_4) rfl (l' := #[.val (.long x0), .second, .val (.long (f1_v1 x0)), .second, .unset, .unset, .unset, .unset]) rfl ?_
    show Steps p.tables e below (s₁.setTop (mkF m 5 #[.val (.long x0), .second, .val (.long (f1_v1 x0)), .second, .unset, .unset, .unset, .unset] [])) _
    refine XS.lloadN X0.here hx rfl (hb hby d1_5) rfl ?_
    show Steps p.tables e below (s₁.setTop (mkF m 6 #[.val (.long x0), .second, .val (.long (f1_v1 x0)), .second, .unset, .unset, .unset, .unset] [(.long (f1_v1 x0))])) _
    refine X0.ldc2Long hx hown (mvT hZ (hw _ (List.mem_of_getElem? (i := 5) rfl))) (g := (mkF m 6 #[.val (.long x0), .second, .val (.long (f1_v1 x0)), .second, .unset, .unset, .unset, .unset] [(.long (f1_v1 x0))])) rfl (hb hby d1_6) _ ?_
    show Steps p.tables e below (s₁.setTop (mkF m 9 #[.val (.long x0), .second, .val (.long (f1_v1 x0)), .second, .unset, .unset, .unset, .unset] [(.long (2147483648 : Int64)), (.long (f1_v1 x0))])) _
    refine XS.land X0.here hx rfl (hb hby d1_9) rfl ?_
    show Steps p.tables e below (s₁.setTop (mkF m 10 #[.val (.long x0), .second, .val (.long (f1_v1 x0)), .second, .unset, .unset, .unset, .unset] [(.long ((f1_v1 x0) &&& (2147483648 : Int64)))])) _
    refine XS.lconst X0.here hx rfl (hb hby d1_10) ?_
    show Steps p.tables e below (s₁.setTop (mkF m 11 #[.val (.long x0), .second, .val (.long (f1_v1 x0)), .second, .unset, .unset, .unset, .unset] [(.long (0 : Int64)), (.long ((f1_v1 x0) &&& (2147483648 : Int64)))])) _
    refine own_xlcmp X0.here hx rfl (hb hby d1_11) rfl ?_
    exact k
  obtain ⟨T6, L6, X6, N6, e6, pre6⟩ : ∃ (T' : State) (L' : List Loc), Stand p l e ({ frames := 0, cells := 0, slots := 0, locals := 0 } : Room) s m #[(.long x0)] below meth c T' L' 0 0 ∧ Fr n0 L' ∧ T'.heap = h0 ∧ ∀ t, Steps p.tables e below (T'.setTop (mkF m 21 #[.val (.long x0), .second, .val (.long (f1_j5 x0)), .second, .unset, .unset, .unset, .unset] [])) t → Steps p.tables e below (s₁.setTop (entryFrame m #[(.long x0)] 8)) t := by
    rcases Bool.eq_false_or_eq_true (ifCond.holds .ne (own_cmp ((f1_v1 x0) &&& (2147483648 : Int64)) (0 : Int64))) with hc3 | hc3
    · have pre7 : ∀ t, Steps p.tables e below (s₁.setTop (mkF m 21 #[.val (.long x0), .second, .val (.long (f1_v1 x0)), .second, .unset, .unset, .unset, .unset] [])) t → Steps p.tables e below (s₁.setTop (entryFrame m #[(.long x0)] 8)) t := by
        intro t k
        refine pre2 _ ?_
        show Steps p.tables e below (s₁.setTop (mkF m 12 #[.val (.long x0), .second, .val (.long (f1_v1 x0)), .second, .unset, .unset, .unset, .unset] [(.int (own_cmp ((f1_v1 x0) &&& (2147483648 : Int64)) (0 : Int64)))])) _
        refine XS.ifYes X0.here hx rfl (pc0 := 12) (pc' := 21) rfl (hb hby d1_12) rfl hc3 (by decide) (by decide) ?_
        exact k
      have qj0 : (f1_j5 x0) = (f1_v1 x0) := if_pos hc3
      refine ⟨s₁, _, X0, N0, e0, fun t k => pre7 _ ?_⟩
      rw [qj0] at k
      exact k
    · have pre8 : ∀ t, Steps p.tables e below (s₁.setTop (mkF m 21 #[.val (.long x0), .second, .val (.long (f1_v4 x0)), .second, .unset, .unset, .unset, .unset] [])) t → Steps p.tables e below (s₁.setTop (entryFrame m #[(.long x0)] 8)) t := by
        intro t k
        refine pre2 _ ?_
        show Steps p.tables e below (s₁.setTop (mkF m 12 #[.val (.long x0), .second, .val (.long (f1_v1 x0)), .second, .unset, .unset, .unset, .unset] [(.int (own_cmp ((f1_v1 x0) &&& (2147483648 : Int64)) (0 : Int64)))])) _
        refine XS.ifNo X0.here hx rfl (hb hby d1_12) rfl hc3 ?_
        show Steps p.tables e below (s₁.setTop (mkF m 15 #[.val (.long x0), .second, .val (.long (f1_v1 x0)), .second, .unset, .unset, .unset, .unset] [])) _
        refine XS.lloadN X0.here hx rfl (hb hby d1_15) rfl ?_
        show Steps p.tables e below (s₁.setTop (mkF m 16 #[.val (.long x0), .second, .val (.long (f1_v1 x0)), .second, .unset, .unset, .unset, .unset] [(.long (f1_v1 x0))])) _
        refine X0.ldc2Long hx hown (mvT hZ (hw _ (List.mem_of_getElem? (i := 6) rfl))) (g := (mkF m 16 #[.val (.long x0), .second, .val (.long (f1_v1 x0)), .second, .unset, .unset, .unset, .unset] [(.long (f1_v1 x0))])) rfl (hb hby d1_16) _ ?_
        show Steps p.tables e below (s₁.setTop (mkF m 19 #[.val (.long x0), .second, .val (.long (f1_v1 x0)), .second, .unset, .unset, .unset, .unset] [(.long (4294967296 : Int64)), (.long (f1_v1 x0))])) _
        refine XS.ladd X0.here hx rfl (hb hby d1_19) rfl ?_
        show Steps p.tables e below (s₁.setTop (mkF m 20 #[.val (.long x0), .second, .val (.long (f1_v1 x0)), .second, .unset, .unset, .unset, .unset] [(.long ((f1_v1 x0) + (4294967296 : Int64)))])) _
        refine XS.lstoreN X0.here hx rfl (hb hby d1_20) rfl (l' := #[.val (.long x0), .second, .val (.long (f1_v4 x0)), .second, .unset, .unset, .unset, .unset]) rfl ?_
        exact k
      have qj0 : (f1_j5 x0) = (f1_v4 x0) := if_neg (own_nt hc3)
      refine ⟨s₁, _, X0, N0, e0, fun t k => pre8 _ ?_⟩
      rw [qj0] at k
      exact k
  obtain ⟨fs, hr, hrun, hended, hW, hsame⟩ := X6.leave (v := some (.long ((((f1_j5 x0) - (2208988800 : Int64)) * (1000000 : Int64)) + (f1_v10 x0)))) (fun h => by rw [hret] at h; cases h)
  refine ⟨_, _, pre6 _ ?_, hrun, hended, _, _, rfl, ?_, ⟨_, rfl⟩, hW, hsame.mono (by decide) (by decide)⟩
  · show Steps p.tables e below (T6.setTop (mkF m 21 #[.val (.long x0), .second, .val (.long (f1_j5 x0)), .second, .unset, .unset, .unset, .unset] [])) _
    refine XS.lloadN X6.here hx rfl (hb hby d1_21) rfl ?_
    show Steps p.tables e below (T6.setTop (mkF m 22 #[.val (.long x0), .second, .val (.long (f1_j5 x0)), .second, .unset, .unset, .unset, .unset] [(.long x0)])) _
    refine X6.ldc2Long hx hown (mvT hZ (hw _ (List.mem_of_getElem? (i := 7) rfl))) (g := (mkF m 22 #[.val (.long x0), .second, .val (.long (f1_j5 x0)), .second, .unset, .unset, .unset, .unset] [(.long x0)])) rfl (hb hby d1_22) _ ?_
    show Steps p.tables e below (T6.setTop (mkF m 25 #[.val (.long x0), .second, .val (.long (f1_j5 x0)), .second, .unset, .unset, .unset, .unset] [(.long (4294967295 : Int64)), (.long x0)])) _
    refine XS.land X6.here hx rfl (hb hby d1_25) rfl ?_
    show Steps p.tables e below (T6.setTop (mkF m 26 #[.val (.long x0), .second, .val (.long (f1_j5 x0)), .second, .unset, .unset, .unset, .unset] [(.long (x0 &&& (4294967295 : Int64)))])) _
    refine XS.lstore X6.here hx rfl (hb hby d1_26) rfl (l' := #[.val (.long x0), .second, .val (.long (f1_j5 x0)), .second, .val (.long (f1_v9 x0)), .second, .unset, .unset]) rfl ?_
    show Steps p.tables e below (T6.setTop (mkF m 28 #[.val (.long x0), .second, .val (.long (f1_j5 x0)), .second, .val (.long (f1_v9 x0)), .second, .unset, .unset] [])) _
    refine XS.lload X6.here hx rfl (hb hby d1_28) rfl ?_
    show Steps p.tables e below (T6.setTop (mkF m 30 #[.val (.long x0), .second, .val (.long (f1_j5 x0)), .second, .val (.long (f1_v9 x0)), .second, .unset, .unset] [(.long (f1_v9 x0))])) _
    refine X6.ldc2Long hx hown (mvT hZ (hw _ (List.mem_of_getElem? (i := 8) rfl))) (g := (mkF m 30 #[.val (.long x0), .second, .val (.long (f1_j5 x0)), .second, .val (.long (f1_v9 x0)), .second, .unset, .unset] [(.long (f1_v9 x0))])) rfl (hb hby d1_30) _ ?_
    show Steps p.tables e below (T6.setTop (mkF m 33 #[.val (.long x0), .second, .val (.long (f1_j5 x0)), .second, .val (.long (f1_v9 x0)), .second, .unset, .unset] [(.long (1000000 : Int64)), (.long (f1_v9 x0))])) _
    refine XS.lmul X6.here hx rfl (hb hby d1_33) rfl ?_
    show Steps p.tables e below (T6.setTop (mkF m 34 #[.val (.long x0), .second, .val (.long (f1_j5 x0)), .second, .val (.long (f1_v9 x0)), .second, .unset, .unset] [(.long ((f1_v9 x0) * (1000000 : Int64)))])) _
    refine X6.ldc2Long hx hown (mvT hZ (hw _ (List.mem_of_getElem? (i := 5) rfl))) (g := (mkF m 34 #[.val (.long x0), .second, .val (.long (f1_j5 x0)), .second, .val (.long (f1_v9 x0)), .second, .unset, .unset] [(.long ((f1_v9 x0) * (1000000 : Int64)))])) rfl (hb hby d1_34) _ ?_
    show Steps p.tables e below (T6.setTop (mkF m 37 #[.val (.long x0), .second, .val (.long (f1_j5 x0)), .second, .val (.long (f1_v9 x0)), .second, .unset, .unset] [(.long (2147483648 : Int64)), (.long ((f1_v9 x0) * (1000000 : Int64)))])) _
    refine XS.ladd X6.here hx rfl (hb hby d1_37) rfl ?_
    show Steps p.tables e below (T6.setTop (mkF m 38 #[.val (.long x0), .second, .val (.long (f1_j5 x0)), .second, .val (.long (f1_v9 x0)), .second, .unset, .unset] [(.long (((f1_v9 x0) * (1000000 : Int64)) + (2147483648 : Int64)))])) _
    refine XS.bipush X6.here hx rfl (hb hby d1_38) ?_
    show Steps p.tables e below (T6.setTop (mkF m 40 #[.val (.long x0), .second, .val (.long (f1_j5 x0)), .second, .val (.long (f1_v9 x0)), .second, .unset, .unset] [(.int (32 : Int32)), (.long (((f1_v9 x0) * (1000000 : Int64)) + (2147483648 : Int64)))])) _
    refine own_xlushr X6.here hx rfl (hb hby d1_40) rfl ?_
    show Steps p.tables e below (T6.setTop (mkF m 41 #[.val (.long x0), .second, .val (.long (f1_j5 x0)), .second, .val (.long (f1_v9 x0)), .second, .unset, .unset] [(.long (own_lushr (((f1_v9 x0) * (1000000 : Int64)) + (2147483648 : Int64)) (32 : Int32)))])) _
    refine XS.lstore X6.here hx rfl (hb hby d1_41) rfl (l' := #[.val (.long x0), .second, .val (.long (f1_j5 x0)), .second, .val (.long (f1_v9 x0)), .second, .val (.long (f1_v10 x0)), .second]) rfl ?_
    show Steps p.tables e below (T6.setTop (mkF m 43 #[.val (.long x0), .second, .val (.long (f1_j5 x0)), .second, .val (.long (f1_v9 x0)), .second, .val (.long (f1_v10 x0)), .second] [])) _
    refine XS.lloadN X6.here hx rfl (hb hby d1_43) rfl ?_
    show Steps p.tables e below (T6.setTop (mkF m 44 #[.val (.long x0), .second, .val (.long (f1_j5 x0)), .second, .val (.long (f1_v9 x0)), .second, .val (.long (f1_v10 x0)), .second] [(.long (f1_j5 x0))])) _
    refine X6.ldc2Long hx hown (mvT hZ (hw _ (List.mem_of_getElem? (i := 9) rfl))) (g := (mkF m 44 #[.val (.long x0), .second, .val (.long (f1_j5 x0)), .second, .val (.long (f1_v9 x0)), .second, .val (.long (f1_v10 x0)), .second] [(.long (f1_j5 x0))])) rfl (hb hby d1_44) _ ?_
    show Steps p.tables e below (T6.setTop (mkF m 47 #[.val (.long x0), .second, .val (.long (f1_j5 x0)), .second, .val (.long (f1_v9 x0)), .second, .val (.long (f1_v10 x0)), .second] [(.long (2208988800 : Int64)), (.long (f1_j5 x0))])) _
    refine XS.lsub X6.here hx rfl (hb hby d1_47) rfl ?_
    show Steps p.tables e below (T6.setTop (mkF m 48 #[.val (.long x0), .second, .val (.long (f1_j5 x0)), .second, .val (.long (f1_v9 x0)), .second, .val (.long (f1_v10 x0)), .second] [(.long ((f1_j5 x0) - (2208988800 : Int64)))])) _
    refine X6.ldc2Long hx hown (mvT hZ (hw _ (List.mem_of_getElem? (i := 8) rfl))) (g := (mkF m 48 #[.val (.long x0), .second, .val (.long (f1_j5 x0)), .second, .val (.long (f1_v9 x0)), .second, .val (.long (f1_v10 x0)), .second] [(.long ((f1_j5 x0) - (2208988800 : Int64)))])) rfl (hb hby d1_48) _ ?_
    show Steps p.tables e below (T6.setTop (mkF m 51 #[.val (.long x0), .second, .val (.long (f1_j5 x0)), .second, .val (.long (f1_v9 x0)), .second, .val (.long (f1_v10 x0)), .second] [(.long (1000000 : Int64)), (.long ((f1_j5 x0) - (2208988800 : Int64)))])) _
    refine XS.lmul X6.here hx rfl (hb hby d1_51) rfl ?_
    show Steps p.tables e below (T6.setTop (mkF m 52 #[.val (.long x0), .second, .val (.long (f1_j5 x0)), .second, .val (.long (f1_v9 x0)), .second, .val (.long (f1_v10 x0)), .second] [(.long (((f1_j5 x0) - (2208988800 : Int64)) * (1000000 : Int64)))])) _
    refine XS.lload X6.here hx rfl (hb hby d1_52) rfl ?_
    show Steps p.tables e below (T6.setTop (mkF m 54 #[.val (.long x0), .second, .val (.long (f1_j5 x0)), .second, .val (.long (f1_v9 x0)), .second, .val (.long (f1_v10 x0)), .second] [(.long (f1_v10 x0)), (.long (((f1_j5 x0) - (2208988800 : Int64)) * (1000000 : Int64)))])) _
    refine XS.ladd X6.here hx rfl (hb hby d1_54) rfl ?_
    show Steps p.tables e below (T6.setTop (mkF m 55 #[.val (.long x0), .second, .val (.long (f1_j5 x0)), .second, .val (.long (f1_v9 x0)), .second, .val (.long (f1_v10 x0)), .second] [(.long ((((f1_j5 x0) - (2208988800 : Int64)) * (1000000 : Int64)) + (f1_v10 x0)))])) _
    exact X6.lreturnOut hx hret (hb hby d1_55) hr
  · show Q1 Z x0 h0 n0 _ T6.heap _
    rw [e6]
    have rr : f1 x0 = ((((f1_j5 x0) - (2208988800 : Int64)) * (1000000 : Int64)) + (f1_v10 x0)) := rfl
    exact ⟨congrArg (fun z => some (Value.long z)) rr.symm, N6, rfl⟩
theorem pd_0 : parseMethodDescriptor "(J)J" = some ⟨[.long], some .long⟩ := by decide +kernel
-- body 0: com/example/pulseline/pulseline/NtpTimestampToEpochMicrosPinLaw.law:(II)Z
theorem pn_1 : plainName "com/example/pulseline/pulseline/NtpTimestampToEpochMicrosPinLaw" = true := by first | (simp [plainName, overriddenIn]; done) | decide +kernel
theorem ef_0 (m : MethodId) (x0 : Int32) (x1 : Int32) : entryFrame m #[(.int x0), (.int x1)] maxLocals = mkF m 0 #[.val (.int x0), .val (.int x1), .unset, .unset, .unset, .unset, .unset, .unset, .unset, .unset, .unset, .unset, .unset, .unset, .unset, .unset, .unset, .unset, .unset, .unset] [] := by first | (simp [entryFrame, mkF, argsToLocals, Value.category, maxLocals]; done) | rfl
def f0_v1 (x0 : Int32) (x1 : Int32) : Int64 := ((own_lshl (x0.toInt64) (32 : Int32)) ||| ((x1.toInt64) &&& (4294967295 : Int64)))
def f0_v3 (x0 : Int32) (x1 : Int32) : Int64 := (f1 (f0_v1 x0 x1))
def f0_v4 (x0 : Int32) (x1 : Int32) : Int64 := ((x0.toInt64) + (4294967296 : Int64))
def f0_v5 (x0 : Int32) (x1 : Int32) : Int64 := ((x1.toInt64) &&& (4294967295 : Int64))
def f0_v6 (x0 : Int32) (x1 : Int32) : Int64 := ((f0_v5 x0 x1) * (1000000 : Int64))
def f0_v7 (x0 : Int32) (x1 : Int32) : Int64 := ((f0_v6 x0 x1) / (4294967296 : Int64))
def f0_v8 (x0 : Int32) (x1 : Int32) : Int64 := (own_lrem (f0_v6 x0 x1) (4294967296 : Int64))
def f0_v11 (x0 : Int32) (x1 : Int32) : Int64 := ((f0_v7 x0 x1) + (1 : Int64))
def f0_j12 (x0 : Int32) (x1 : Int32) : Int64 := if ifCond.holds .lt (own_cmp (f0_v8 x0 x1) (2147483648 : Int64)) = true then (f0_v7 x0 x1) else (f0_v11 x0 x1)
def f0_v16 (x0 : Int32) (x1 : Int32) : Int64 := ((((f0_v4 x0 x1) - (2208988800 : Int64)) * (1000000 : Int64)) + (f0_j12 x0 x1))
def f0_j19 (x0 : Int32) (x1 : Int32) : Int32 := if ifCond.holds .ne (own_cmp (f0_v3 x0 x1) (f0_v16 x0 x1)) = true then (0 : Int32) else (1 : Int32)
def f0 (x0 : Int32) (x1 : Int32) : Int32 := (nar .boolean (f0_j19 x0 x1))
def Q0 (Z : State) (x0 : Int32) (x1 : Int32) (h0 : Heap) (n0 : Nat) (v : Option Value) (h : Heap) (L : List Loc) : Prop := v = some (.int (f0 x0 x1)) ∧ Fr n0 L
set_option maxRecDepth 65536 in
set_option maxHeartbeats 40000000 in
theorem rm0 (l : Launch) (Z : State) (a0 : Array Value) (hw : ∀ d ∈ tables_1, d.before a0 Z = true) (ws : List Jvm.Cond) (x0 : Int32) (x1 : Int32) (h0 : Heap) (n0 : Nat) (Z0 : n0 ≤ h0.size) :
    MetFree l x (head1 (Jvm.Cond.code x code maxLocals ret :: ws) room_1) (fun a U => a = #[(.int x0), (.int x1)] ∧ Z.Warmed39 U.vm ∧ U.heap = h0) (fun _ _ _ _ _ => True) (fun _ U o U' => ∃ v L, o = .returned v ∧ Q0 Z x0 x1 h0 n0 v U'.heap L ∧ FrameEnd U o U' L 0 0) := by
  refine MetFree.of_bodySF (plainFor_of_name pn_1) hisR ?_
  intro p e s m args below meth c s₁ Bd hml0 hP hK0
  obtain ⟨rfl, hZ, hh⟩ := hP
  have hx := Bd.exec
  have hby := Bd.bytes
  have hml : c.maxLocals = 20 := hml0
  have hown : s.vm.findClass "com/example/pulseline/pulseline/NtpTimestampToEpochMicrosPinLaw" = some m.cls := findClass_of_methodNamed Bd.named
  have hnm := (name_of_methodNamed Bd.named Bd.method).1
  have hret : meth.sig.returnType = ret := Bd.returns
  have hlk : meth.locks = false := Bd.notSynchronized
  have X0 : Stand p l e room_1 s m #[(.int x0), (.int x1)] below meth c s₁ [] 0 0 := Stand.of_body Bd
  have e0 : s₁.heap = h0 := by rw [← hh, Bd.state]; rfl
  have N0 := Fr.nil n0
  have pre0 : ∀ t, Steps p.tables e below (s₁.setTop (mkF m 0 #[.val (.int x0), .val (.int x1), .unset, .unset, .unset, .unset, .unset, .unset, .unset, .unset, .unset, .unset, .unset, .unset, .unset, .unset, .unset, .unset, .unset, .unset] [])) t → Steps p.tables e below (s₁.setTop (entryFrame m #[(.int x0), (.int x1)] maxLocals)) t := fun t k => castTop (ef_0 m x0 x1) k
  obtain ⟨_, _, ⟨T2, L2, k2, n2⟩, -, X2, ⟨Lc2, hQ2, l2, y2, z2⟩, st2⟩ := Jvm.LawKit.callS X0 hx (y := (⟨"com/example/pulseline/pulseline/NtpTimestamp", "toEpochMicros", "(J)J"⟩ : MethodName)) hown (mvT hZ (hw _ (List.mem_of_getElem? (i := 1) rfl))) (mvT hZ (hw _ (List.mem_of_getElem? (i := 2) rfl))) (mvT hZ (hw _ (List.mem_of_getElem? (i := 3) rfl))) (mvT hZ (hw _ (List.mem_of_getElem? (i := 4) rfl))) (by decide) (backOf (W := 0) (rm1 l Z a0 hw [] (f0_v1 x0 x1) h0 n0 Z0) hZ (hw _ (List.mem_of_getElem? (i := 4) rfl)) (hw _ (List.mem_of_getElem? (i := 3) rfl)) (by decide) (by decide)) (g := (mkF m 14 #[.val (.int x0), .val (.int x1), .val (.long (f0_v1 x0 x1)), .second, .unset, .unset, .unset, .unset, .unset, .unset, .unset, .unset, .unset, .unset, .unset, .unset, .unset, .unset, .unset, .unset] [(.long (f0_v1 x0 x1))])) rfl (by rw [hml]; rfl) (argsL := [(.long (f0_v1 x0 x1))]) (rest := []) (lenOf pd_0 rfl) rfl (by show 2 * 0 + _ ≤ _; exact Nat.le_of_eq rfl) (hb hby at_14) (fun _ _ => ⟨rfl, e0, (by decide : 0 + 0 ≤ _), (by decide : 0 + 0 ≤ _)⟩)
  dsimp only [Pt.U, Pt.locs, Pt.cells, Pt.slots] at X2 l2 y2 z2 st2 hQ2
  subst l2 y2 z2
  obtain ⟨rfl, Nq2, e2⟩ := hQ2
  have N2 := Fr.app N0 Nq2
  have pre9 : ∀ t, Steps p.tables e below (T2.setTop (mkF m 69 #[.val (.int x0), .val (.int x1), .val (.long (f0_v1 x0 x1)), .second, .val (.long (f0_v3 x0 x1)), .second, .val (.long (f0_v4 x0 x1)), .second, .val (.long (f0_v5 x0 x1)), .second, .val (.long (f0_v6 x0 x1)), .second, .val (.long (f0_v7 x0 x1)), .second, .val (.long (f0_v8 x0 x1)), .second, .val (.long (f0_v7 x0 x1)), .second, .unset, .unset] [(.int (own_cmp (f0_v8 x0 x1) (2147483648 : Int64)))])) t → Steps p.tables e below (s₁.setTop (entryFrame m #[(.int x0), (.int x1)] maxLocals)) t := by
    intro t k
    refine pre0 _ ?_
    show Steps p.tables e below (s₁.setTop (mkF m 0 #[.val (.int x0), .val (.int x1), .unset, .unset, .unset, .unset, .unset, .unset, .unset, .unset, .unset, .unset, .unset, .unset, .unset, .unset, .unset, .unset, .unset, .unset] [])) _
    refine XS.iloadN X0.here hx rfl (hb hby at_0) rfl ?_
    show Steps p.tables e below (s₁.setTop (mkF m 1 #[.val (.int x0), .val (.int x1), .unset, .unset, .unset, .unset, .unset, .unset, .unset, .unset, .unset, .unset, .unset, .unset, .unset, .unset, .unset, .unset, .unset, .unset] [(.int x0)])) _
    refine XS.i2l X0.here hx rfl (hb hby at_1) rfl ?_
    show Steps p.tables e below (s₁.setTop (mkF m 2 #[.val (.int x0), .val (.int x1), .unset, .unset, .unset, .unset, .unset, .unset, .unset, .unset, .unset, .unset, .unset, .unset, .unset, .unset, .unset, .unset, .unset, .unset] [(.long (x0.toInt64))])) _
    refine XS.bipush X0.here hx rfl (hb hby at_2) ?_
    show Steps p.tables e below (s₁.setTop (mkF m 4 #[.val (.int x0), .val (.int x1), .unset, .unset, .unset, .unset, .unset, .unset, .unset, .unset, .unset, .unset, .unset, .unset, .unset, .unset, .unset, .unset, .unset, .unset] [(.int (32 : Int32)), (.long (x0.toInt64))])) _
    refine own_xlshl X0.here hx rfl (hb hby at_4) rfl ?_
    show Steps p.tables e below (s₁.setTop (mkF m 5 #[.val (.int x0), .val (.int x1), .unset, .unset, .unset, .unset, .unset, .unset, .unset, .unset, .unset, .unset, .unset, .unset, .unset, .unset, .unset, .unset, .unset, .unset] [(.long (own_lshl (x0.toInt64) (32 : Int32)))])) _
    refine XS.iloadN X0.here hx rfl (hb hby at_5) rfl ?_
    show Steps p.tables e below (s₁.setTop (mkF m 6 #[.val (.int x0), .val (.int x1), .unset, .unset, .unset, .unset, .unset, .unset, .unset, .unset, .unset, .unset, .unset, .unset, .unset, .unset, .unset, .unset, .unset, .unset] [(.int x1), (.long (own_lshl (x0.toInt64) (32 : Int32)))])) _
    refine XS.i2l X0.here hx rfl (hb hby at_6) rfl ?_
    show Steps p.tables e below (s₁.setTop (mkF m 7 #[.val (.int x0), .val (.int x1), .unset, .unset, .unset, .unset, .unset, .unset, .unset, .unset, .unset, .unset, .unset, .unset, .unset, .unset, .unset, .unset, .unset, .unset] [(.long (x1.toInt64)), (.long (own_lshl (x0.toInt64) (32 : Int32)))])) _
    refine X0.ldc2Long hx hown (mvT hZ (hw _ (List.mem_of_getElem? (i := 0) rfl))) (g := (mkF m 7 #[.val (.int x0), .val (.int x1), .unset, .unset, .unset, .unset, .unset, .unset, .unset, .unset, .unset, .unset, .unset, .unset, .unset, .unset, .unset, .unset, .unset, .unset] [(.long (x1.toInt64)), (.long (own_lshl (x0.toInt64) (32 : Int32)))])) rfl (hb hby at_7) _ ?_
    show Steps p.tables e below (s₁.setTop (mkF m 10 #[.val (.int x0), .val (.int x1), .unset, .unset, .unset, .unset, .unset, .unset, .unset, .unset, .unset, .unset, .unset, .unset, .unset, .unset, .unset, .unset, .unset, .unset] [(.long (4294967295 : Int64)), (.long (x1.toInt64)), (.long (own_lshl (x0.toInt64) (32 : Int32)))])) _
    refine XS.land X0.here hx rfl (hb hby at_10) rfl ?_
    show Steps p.tables e below (s₁.setTop (mkF m 11 #[.val (.int x0), .val (.int x1), .unset, .unset, .unset, .unset, .unset, .unset, .unset, .unset, .unset, .unset, .unset, .unset, .unset, .unset, .unset, .unset, .unset, .unset] [(.long ((x1.toInt64) &&& (4294967295 : Int64))), (.long (own_lshl (x0.toInt64) (32 : Int32)))])) _
    refine XS.lor X0.here hx rfl (hb hby at_11) rfl ?_
    show Steps p.tables e below (s₁.setTop (mkF m 12 #[.val (.int x0), .val (.int x1), .unset, .unset, .unset, .unset, .unset, .unset, .unset, .unset, .unset, .unset, .unset, .unset, .unset, .unset, .unset, .unset, .unset, .unset] [(.long ((own_lshl (x0.toInt64) (32 : Int32)) ||| ((x1.toInt64) &&& (4294967295 : Int64))))])) _
    refine XS.lstoreN X0.here hx rfl (hb hby at_12) rfl (l' := #[.val (.int x0), .val (.int x1), .val (.long (f0_v1 x0 x1)), .second, .unset, .unset, .unset, .unset, .unset, .unset, .unset, .unset, .unset, .unset, .unset, .unset, .unset, .unset, .unset, .unset]) rfl ?_
    show Steps p.tables e below (s₁.setTop (mkF m 13 #[.val (.int x0), .val (.int x1), .val (.long (f0_v1 x0 x1)), .second, .unset, .unset, .unset, .unset, .unset, .unset, .unset, .unset, .unset, .unset, .unset, .unset, .unset, .unset, .unset, .unset] [])) _
    refine XS.lloadN X0.here hx rfl (hb hby at_13) rfl ?_
    show Steps p.tables e below (s₁.setTop (mkF m 14 #[.val (.int x0), .val (.int x1), .val (.long (f0_v1 x0 x1)), .second, .unset, .unset, .unset, .unset, .unset, .unset, .unset, .unset, .unset, .unset, .unset, .unset, .unset, .unset, .unset, .unset] [(.long (f0_v1 x0 x1))])) _
    refine st2 _ ?_
    show Steps p.tables e below (T2.setTop (mkF m 17 #[.val (.int x0), .val (.int x1), .val (.long (f0_v1 x0 x1)), .second, .unset, .unset, .unset, .unset, .unset, .unset, .unset, .unset, .unset, .unset, .unset, .unset, .unset, .unset, .unset, .unset] [(.long (f1 (f0_v1 x0 x1)))])) _
    refine XS.lstore X2.here hx rfl (hb hby at_17) rfl (l' := #[.val (.int x0), .val (.int x1), .val (.long (f0_v1 x0 x1)), .second, .val (.long (f0_v3 x0 x1)), .second, .unset, .unset, .unset, .unset, .unset, .unset, .unset, .unset, .unset, .unset, .unset, .unset, .unset, .unset]) rfl ?_
    show Steps p.tables e below (T2.setTop (mkF m 19 #[.val (.int x0), .val (.int x1), .val (.long (f0_v1 x0 x1)), .second, .val (.long (f0_v3 x0 x1)), .second, .unset, .unset, .unset, .unset, .unset, .unset, .unset, .unset, .unset, .unset, .unset, .unset, .unset, .unset] [])) _
    refine XS.iloadN X2.here hx rfl (hb hby at_19) rfl ?_
    show Steps p.tables e below (T2.setTop (mkF m 20 #[.val (.int x0), .val (.int x1), .val (.long (f0_v1 x0 x1)), .second, .val (.long (f0_v3 x0 x1)), .second, .unset, .unset, .unset, .unset, .unset, .unset, .unset, .unset, .unset, .unset, .unset, .unset, .unset, .unset] [(.int x0)])) _
    refine XS.i2l X2.here hx rfl (hb hby at_20) rfl ?_
    show Steps p.tables e below (T2.setTop (mkF m 21 #[.val (.int x0), .val (.int x1), .val (.long (f0_v1 x0 x1)), .second, .val (.long (f0_v3 x0 x1)), .second, .unset, .unset, .unset, .unset, .unset, .unset, .unset, .unset, .unset, .unset, .unset, .unset, .unset, .unset] [(.long (x0.toInt64))])) _
    refine X2.ldc2Long hx hown (mvT hZ (hw _ (List.mem_of_getElem? (i := 10) rfl))) (g := (mkF m 21 #[.val (.int x0), .val (.int x1), .val (.long (f0_v1 x0 x1)), .second, .val (.long (f0_v3 x0 x1)), .second, .unset, .unset, .unset, .unset, .unset, .unset, .unset, .unset, .unset, .unset, .unset, .unset, .unset, .unset] [(.long (x0.toInt64))])) rfl (hb hby at_21) _ ?_
    show Steps p.tables e below (T2.setTop (mkF m 24 #[.val (.int x0), .val (.int x1), .val (.long (f0_v1 x0 x1)), .second, .val (.long (f0_v3 x0 x1)), .second, .unset, .unset, .unset, .unset, .unset, .unset, .unset, .unset, .unset, .unset, .unset, .unset, .unset, .unset] [(.long (4294967296 : Int64)), (.long (x0.toInt64))])) _
    refine XS.ladd X2.here hx rfl (hb hby at_24) rfl ?_
    show Steps p.tables e below (T2.setTop (mkF m 25 #[.val (.int x0), .val (.int x1), .val (.long (f0_v1 x0 x1)), .second, .val (.long (f0_v3 x0 x1)), .second, .unset, .unset, .unset, .unset, .unset, .unset, .unset, .unset, .unset, .unset, .unset, .unset, .unset, .unset] [(.long ((x0.toInt64) + (4294967296 : Int64)))])) _
    refine XS.lstore X2.here hx rfl (hb hby at_25) rfl (l' := #[.val (.int x0), .val (.int x1), .val (.long (f0_v1 x0 x1)), .second, .val (.long (f0_v3 x0 x1)), .second, .val (.long (f0_v4 x0 x1)), .second, .unset, .unset, .unset, .unset, .unset, .unset, .unset, .unset, .unset, .unset, .unset, .unset]) rfl ?_
    show Steps p.tables e below (T2.setTop (mkF m 27 #[.val (.int x0), .val (.int x1), .val (.long (f0_v1 x0 x1)), .second, .val (.long (f0_v3 x0 x1)), .second, .val (.long (f0_v4 x0 x1)), .second, .unset, .unset, .unset, .unset, .unset, .unset, .unset, .unset, .unset, .unset, .unset, .unset] [])) _
    refine XS.iloadN X2.here hx rfl (hb hby at_27) rfl ?_
    show Steps p.tables e below (T2.setTop (mkF m 28 #[.val (.int x0), .val (.int x1), .val (.long (f0_v1 x0 x1)), .second, .val (.long (f0_v3 x0 x1)), .second, .val (.long (f0_v4 x0 x1)), .second, .unset, .unset, .unset, .unset, .unset, .unset, .unset, .unset, .unset, .unset, .unset, .unset] [(.int x1)])) _
    refine XS.i2l X2.here hx rfl (hb hby at_28) rfl ?_
    show Steps p.tables e below (T2.setTop (mkF m 29 #[.val (.int x0), .val (.int x1), .val (.long (f0_v1 x0 x1)), .second, .val (.long (f0_v3 x0 x1)), .second, .val (.long (f0_v4 x0 x1)), .second, .unset, .unset, .unset, .unset, .unset, .unset, .unset, .unset, .unset, .unset, .unset, .unset] [(.long (x1.toInt64))])) _
    refine X2.ldc2Long hx hown (mvT hZ (hw _ (List.mem_of_getElem? (i := 0) rfl))) (g := (mkF m 29 #[.val (.int x0), .val (.int x1), .val (.long (f0_v1 x0 x1)), .second, .val (.long (f0_v3 x0 x1)), .second, .val (.long (f0_v4 x0 x1)), .second, .unset, .unset, .unset, .unset, .unset, .unset, .unset, .unset, .unset, .unset, .unset, .unset] [(.long (x1.toInt64))])) rfl (hb hby at_29) _ ?_
    show Steps p.tables e below (T2.setTop (mkF m 32 #[.val (.int x0), .val (.int x1), .val (.long (f0_v1 x0 x1)), .second, .val (.long (f0_v3 x0 x1)), .second, .val (.long (f0_v4 x0 x1)), .second, .unset, .unset, .unset, .unset, .unset, .unset, .unset, .unset, .unset, .unset, .unset, .unset] [(.long (4294967295 : Int64)), (.long (x1.toInt64))])) _
    refine XS.land X2.here hx rfl (hb hby at_32) rfl ?_
    show Steps p.tables e below (T2.setTop (mkF m 33 #[.val (.int x0), .val (.int x1), .val (.long (f0_v1 x0 x1)), .second, .val (.long (f0_v3 x0 x1)), .second, .val (.long (f0_v4 x0 x1)), .second, .unset, .unset, .unset, .unset, .unset, .unset, .unset, .unset, .unset, .unset, .unset, .unset] [(.long ((x1.toInt64) &&& (4294967295 : Int64)))])) _
    refine XS.lstore X2.here hx rfl (hb hby at_33) rfl (l' := #[.val (.int x0), .val (.int x1), .val (.long (f0_v1 x0 x1)), .second, .val (.long (f0_v3 x0 x1)), .second, .val (.long (f0_v4 x0 x1)), .second, .val (.long (f0_v5 x0 x1)), .second, .unset, .unset, .unset, .unset, .unset, .unset, .unset, .unset, .unset, .unset]) rfl ?_
    show Steps p.tables e below (T2.setTop (mkF m 35 #[.val (.int x0), .val (.int x1), .val (.long (f0_v1 x0 x1)), .second, .val (.long (f0_v3 x0 x1)), .second, .val (.long (f0_v4 x0 x1)), .second, .val (.long (f0_v5 x0 x1)), .second, .unset, .unset, .unset, .unset, .unset, .unset, .unset, .unset, .unset, .unset] [])) _
    refine XS.lload X2.here hx rfl (hb hby at_35) rfl ?_
    show Steps p.tables e below (T2.setTop (mkF m 37 #[.val (.int x0), .val (.int x1), .val (.long (f0_v1 x0 x1)), .second, .val (.long (f0_v3 x0 x1)), .second, .val (.long (f0_v4 x0 x1)), .second, .val (.long (f0_v5 x0 x1)), .second, .unset, .unset, .unset, .unset, .unset, .unset, .unset, .unset, .unset, .unset] [(.long (f0_v5 x0 x1))])) _
    refine X2.ldc2Long hx hown (mvT hZ (hw _ (List.mem_of_getElem? (i := 11) rfl))) (g := (mkF m 37 #[.val (.int x0), .val (.int x1), .val (.long (f0_v1 x0 x1)), .second, .val (.long (f0_v3 x0 x1)), .second, .val (.long (f0_v4 x0 x1)), .second, .val (.long (f0_v5 x0 x1)), .second, .unset, .unset, .unset, .unset, .unset, .unset, .unset, .unset, .unset, .unset] [(.long (f0_v5 x0 x1))])) rfl (hb hby at_37) _ ?_
    show Steps p.tables e below (T2.setTop (mkF m 40 #[.val (.int x0), .val (.int x1), .val (.long (f0_v1 x0 x1)), .second, .val (.long (f0_v3 x0 x1)), .second, .val (.long (f0_v4 x0 x1)), .second, .val (.long (f0_v5 x0 x1)), .second, .unset, .unset, .unset, .unset, .unset, .unset, .unset, .unset, .unset, .unset] [(.long (1000000 : Int64)), (.long (f0_v5 x0 x1))])) _
    refine XS.lmul X2.here hx rfl (hb hby at_40) rfl ?_
    show Steps p.tables e below (T2.setTop (mkF m 41 #[.val (.int x0), .val (.int x1), .val (.long (f0_v1 x0 x1)), .second, .val (.long (f0_v3 x0 x1)), .second, .val (.long (f0_v4 x0 x1)), .second, .val (.long (f0_v5 x0 x1)), .second, .unset, .unset, .unset, .unset, .unset, .unset, .unset, .unset, .unset, .unset] [(.long ((f0_v5 x0 x1) * (1000000 : Int64)))])) _
    refine XS.lstore X2.here hx rfl (hb hby at_41) rfl (l' := #[.val (.int x0), .val (.int x1), .val (.long (f0_v1 x0 x1)), .second, .val (.long (f0_v3 x0 x1)), .second, .val (.long (f0_v4 x0 x1)), .second, .val (.long (f0_v5 x0 x1)), .second, .val (.long (f0_v6 x0 x1)), .second, .unset, .unset, .unset, .unset, .unset, .unset, .unset, .unset]) rfl ?_
    show Steps p.tables e below (T2.setTop (mkF m 43 #[.val (.int x0), .val (.int x1), .val (.long (f0_v1 x0 x1)), .second, .val (.long (f0_v3 x0 x1)), .second, .val (.long (f0_v4 x0 x1)), .second, .val (.long (f0_v5 x0 x1)), .second, .val (.long (f0_v6 x0 x1)), .second, .unset, .unset, .unset, .unset, .unset, .unset, .unset, .unset] [])) _
    refine XS.lload X2.here hx rfl (hb hby at_43) rfl ?_
    show Steps p.tables e below (T2.setTop (mkF m 45 #[.val (.int x0), .val (.int x1), .val (.long (f0_v1 x0 x1)), .second, .val (.long (f0_v3 x0 x1)), .second, .val (.long (f0_v4 x0 x1)), .second, .val (.long (f0_v5 x0 x1)), .second, .val (.long (f0_v6 x0 x1)), .second, .unset, .unset, .unset, .unset, .unset, .unset, .unset, .unset] [(.long (f0_v6 x0 x1))])) _
    refine X2.ldc2Long hx hown (mvT hZ (hw _ (List.mem_of_getElem? (i := 10) rfl))) (g := (mkF m 45 #[.val (.int x0), .val (.int x1), .val (.long (f0_v1 x0 x1)), .second, .val (.long (f0_v3 x0 x1)), .second, .val (.long (f0_v4 x0 x1)), .second, .val (.long (f0_v5 x0 x1)), .second, .val (.long (f0_v6 x0 x1)), .second, .unset, .unset, .unset, .unset, .unset, .unset, .unset, .unset] [(.long (f0_v6 x0 x1))])) rfl (hb hby at_45) _ ?_
    show Steps p.tables e below (T2.setTop (mkF m 48 #[.val (.int x0), .val (.int x1), .val (.long (f0_v1 x0 x1)), .second, .val (.long (f0_v3 x0 x1)), .second, .val (.long (f0_v4 x0 x1)), .second, .val (.long (f0_v5 x0 x1)), .second, .val (.long (f0_v6 x0 x1)), .second, .unset, .unset, .unset, .unset, .unset, .unset, .unset, .unset] [(.long (4294967296 : Int64)), (.long (f0_v6 x0 x1))])) _
    refine XS.ldiv X2.here hx rfl (hb hby at_48) rfl (by decide) ?_
    show Steps p.tables e below (T2.setTop (mkF m 49 #[.val (.int x0), .val (.int x1), .val (.long (f0_v1 x0 x1)), .second, .val (.long (f0_v3 x0 x1)), .second, .val (.long (f0_v4 x0 x1)), .second, .val (.long (f0_v5 x0 x1)), .second, .val (.long (f0_v6 x0 x1)), .second, .unset, .unset, .unset, .unset, .unset, .unset, .unset, .unset] [(.long ((f0_v6 x0 x1) / (4294967296 : Int64)))])) _
    refine XS.lstore X2.here hx rfl (hb hby at_49) rfl (l' := #[.val (.int x0), .val (.int x1), .val (.long (f0_v1 x0 x1)), .second, .val (.long (f0_v3 x0 x1)), .second, .val (.long (f0_v4 x0 x1)), .second, .val (.long (f0_v5 x0 x1)), .second, .val (.long (f0_v6 x0 x1)), .second, .val (.long (f0_v7 x0 x1)), .second, .unset, .unset, .unset, .unset, .unset, .unset]) rfl ?_
    show Steps p.tables e below (T2.setTop (mkF m 51 #[.val (.int x0), .val (.int x1), .val (.long (f0_v1 x0 x1)), .second, .val (.long (f0_v3 x0 x1)), .second, .val (.long (f0_v4 x0 x1)), .second, .val (.long (f0_v5 x0 x1)), .second, .val (.long (f0_v6 x0 x1)), .second, .val (.long (f0_v7 x0 x1)), .second, .unset, .unset, .unset, .unset, .unset, .unset] [])) _
    refine XS.lload X2.here hx rfl (hb hby at_51) rfl ?_
    show Steps p.tables e below (T2.setTop (mkF m 53 #[.val (.int x0), .val (.int x1), .val (.long (f0_v1 x0 x1)), .second, .val (.long (f0_v3 x0 x1)), .second, .val (.long (f0_v4 x0 x1)), .second, .val (.long (f0_v5 x0 x1)), .second, .val (.long (f0_v6 x0 x1)), .second, .val (.long (f0_v7 x0 x1)), .second, .unset, .unset, .unset, .unset, .unset, .unset] [(.long (f0_v6 x0 x1))])) _
    refine X2.ldc2Long hx hown (mvT hZ (hw _ (List.mem_of_getElem? (i := 10) rfl))) (g := (mkF m 53 #[.val (.int x0), .val (.int x1), .val (.long (f0_v1 x0 x1)), .second, .val (.long (f0_v3 x0 x1)), .second, .val (.long (f0_v4 x0 x1)), .second, .val (.long (f0_v5 x0 x1)), .second, .val (.long (f0_v6 x0 x1)), .second, .val (.long (f0_v7 x0 x1)), .second, .unset, .unset, .unset, .unset, .unset, .unset] [(.long (f0_v6 x0 x1))])) rfl (hb hby at_53) _ ?_
    show Steps p.tables e below (T2.setTop (mkF m 56 #[.val (.int x0), .val (.int x1), .val (.long (f0_v1 x0 x1)), .second, .val (.long (f0_v3 x0 x1)), .second, .val (.long (f0_v4 x0 x1)), .second, .val (.long (f0_v5 x0 x1)), .second, .val (.long (f0_v6 x0 x1)), .second, .val (.long (f0_v7 x0 x1)), .second, .unset, .unset, .unset, .unset, .unset, .unset] [(.long (4294967296 : Int64)), (.long (f0_v6 x0 x1))])) _
    refine own_xlrem X2.here hx rfl (hb hby at_56) rfl (by decide) ?_
    show Steps p.tables e below (T2.setTop (mkF m 57 #[.val (.int x0), .val (.int x1), .val (.long (f0_v1 x0 x1)), .second, .val (.long (f0_v3 x0 x1)), .second, .val (.long (f0_v4 x0 x1)), .second, .val (.long (f0_v5 x0 x1)), .second, .val (.long (f0_v6 x0 x1)), .second, .val (.long (f0_v7 x0 x1)), .second, .unset, .unset, .unset, .unset, .unset, .unset] [(.long (own_lrem (f0_v6 x0 x1) (4294967296 : Int64)))])) _
    refine XS.lstore X2.here hx rfl (hb hby at_57) rfl (l' := #[.val (.int x0), .val (.int x1), .val (.long (f0_v1 x0 x1)), .second, .val (.long (f0_v3 x0 x1)), .second, .val (.long (f0_v4 x0 x1)), .second, .val (.long (f0_v5 x0 x1)), .second, .val (.long (f0_v6 x0 x1)), .second, .val (.long (f0_v7 x0 x1)), .second, .val (.long (f0_v8 x0 x1)), .second, .unset, .unset, .unset, .unset]) rfl ?_
    show Steps p.tables e below (T2.setTop (mkF m 59 #[.val (.int x0), .val (.int x1), .val (.long (f0_v1 x0 x1)), .second, .val (.long (f0_v3 x0 x1)), .second, .val (.long (f0_v4 x0 x1)), .second, .val (.long (f0_v5 x0 x1)), .second, .val (.long (f0_v6 x0 x1)), .second, .val (.long (f0_v7 x0 x1)), .second, .val (.long (f0_v8 x0 x1)), .second, .unset, .unset, .unset, .unset] [])) _
    refine XS.lload X2.here hx rfl (hb hby at_59) rfl ?_
    show Steps p.tables e below (T2.setTop (mkF m 61 #[.val (.int x0), .val (.int x1), .val (.long (f0_v1 x0 x1)), .second, .val (.long (f0_v3 x0 x1)), .second, .val (.long (f0_v4 x0 x1)), .second, .val (.long (f0_v5 x0 x1)), .second, .val (.long (f0_v6 x0 x1)), .second, .val (.long (f0_v7 x0 x1)), .second, .val (.long (f0_v8 x0 x1)), .second, .unset, .unset, .unset, .unset] [(.long (f0_v7 x0 x1))])) _
    refine XS.lstore X2.here hx rfl (hb hby at_61) rfl (l' := #[.val (.int x0), .val (.int x1), .val (.long (f0_v1 x0 x1)), .second, .val (.long (f0_v3 x0 x1)), .second, .val (.long (f0_v4 x0 x1)), .second, .val (.long (f0_v5 x0 x1)), .second, .val (.long (f0_v6 x0 x1)), .second, .val (.long (f0_v7 x0 x1)), .second, .val (.long (f0_v8 x0 x1)), .second, .val (.long (f0_v7 x0 x1)), .second, .unset, .unset]) rfl ?_
    show Steps p.tables e below (T2.setTop (mkF m 63 #[.val (.int x0), .val (.int x1), .val (.long (f0_v1 x0 x1)), .second, .val (.long (f0_v3 x0 x1)), .second, .val (.long (f0_v4 x0 x1)), .second, .val (.long (f0_v5 x0 x1)), .second, .val (.long (f0_v6 x0 x1)), .second, .val (.long (f0_v7 x0 x1)), .second, .val (.long (f0_v8 x0 x1)), .second, .val (.long (f0_v7 x0 x1)), .second, .unset, .unset] [])) _
    refine XS.lload X2.here hx rfl (hb hby at_63) rfl ?_
    show Steps p.tables e below (T2.setTop (mkF m 65 #[.val (.int x0), .val (.int x1), .val (.long (f0_v1 x0 x1)), .second, .val (.long (f0_v3 x0 x1)), .second, .val (.long (f0_v4 x0 x1)), .second, .val (.long (f0_v5 x0 x1)), .second, .val (.long (f0_v6 x0 x1)), .second, .val (.long (f0_v7 x0 x1)), .second, .val (.long (f0_v8 x0 x1)), .second, .val (.long (f0_v7 x0 x1)), .second, .unset, .unset] [(.long (f0_v8 x0 x1))])) _
    refine X2.ldc2Long hx hown (mvT hZ (hw _ (List.mem_of_getElem? (i := 12) rfl))) (g := (mkF m 65 #[.val (.int x0), .val (.int x1), .val (.long (f0_v1 x0 x1)), .second, .val (.long (f0_v3 x0 x1)), .second, .val (.long (f0_v4 x0 x1)), .second, .val (.long (f0_v5 x0 x1)), .second, .val (.long (f0_v6 x0 x1)), .second, .val (.long (f0_v7 x0 x1)), .second, .val (.long (f0_v8 x0 x1)), .second, .val (.long (f0_v7 x0 x1)), .second, .unset, .unset] [(.long (f0_v8 x0 x1))])) rfl (hb hby at_65) _ ?_
    show Steps p.tables e below (T2.setTop (mkF m 68 #[.val (.int x0), .val (.int x1), .val (.long (f0_v1 x0 x1)), .second, .val (.long (f0_v3 x0 x1)), .second, .val (.long (f0_v4 x0 x1)), .second, .val (.long (f0_v5 x0 x1)), .second, .val (.long (f0_v6 x0 x1)), .second, .val (.long (f0_v7 x0 x1)), .second, .val (.long (f0_v8 x0 x1)), .second, .val (.long (f0_v7 x0 x1)), .second, .unset, .unset] [(.long (2147483648 : Int64)), (.long (f0_v8 x0 x1))])) _
    refine own_xlcmp X2.here hx rfl (hb hby at_68) rfl ?_
    exact k
  obtain ⟨T13, L13, X13, N13, e13, pre13⟩ : ∃ (T' : State) (L' : List Loc), Stand p l e room_1 s m #[(.int x0), (.int x1)] below meth c T' L' 0 0 ∧ Fr n0 L' ∧ T'.heap = h0 ∧ ∀ t, Steps p.tables e below (T'.setTop (mkF m 78 #[.val (.int x0), .val (.int x1), .val (.long (f0_v1 x0 x1)), .second, .val (.long (f0_v3 x0 x1)), .second, .val (.long (f0_v4 x0 x1)), .second, .val (.long (f0_v5 x0 x1)), .second, .val (.long (f0_v6 x0 x1)), .second, .val (.long (f0_v7 x0 x1)), .second, .val (.long (f0_v8 x0 x1)), .second, .val (.long (f0_j12 x0 x1)), .second, .unset, .unset] [])) t → Steps p.tables e below (s₁.setTop (entryFrame m #[(.int x0), (.int x1)] maxLocals)) t := by
    rcases Bool.eq_false_or_eq_true (ifCond.holds .lt (own_cmp (f0_v8 x0 x1) (2147483648 : Int64))) with hc10 | hc10
    · have pre14 : ∀ t, Steps p.tables e below (T2.setTop (mkF m 78 #[.val (.int x0), .val (.int x1), .val (.long (f0_v1 x0 x1)), .second, .val (.long (f0_v3 x0 x1)), .second, .val (.long (f0_v4 x0 x1)), .second, .val (.long (f0_v5 x0 x1)), .second, .val (.long (f0_v6 x0 x1)), .second, .val (.long (f0_v7 x0 x1)), .second, .val (.long (f0_v8 x0 x1)), .second, .val (.long (f0_v7 x0 x1)), .second, .unset, .unset] [])) t → Steps p.tables e below (s₁.setTop (entryFrame m #[(.int x0), (.int x1)] maxLocals)) t := by
        intro t k
        refine pre9 _ ?_
        show Steps p.tables e below (T2.setTop (mkF m 69 #[.val (.int x0), .val (.int x1), .val (.long (f0_v1 x0 x1)), .second, .val (.long (f0_v3 x0 x1)), .second, .val (.long (f0_v4 x0 x1)), .second, .val (.long (f0_v5 x0 x1)), .second, .val (.long (f0_v6 x0 x1)), .second, .val (.long (f0_v7 x0 x1)), .second, .val (.long (f0_v8 x0 x1)), .second, .val (.long (f0_v7 x0 x1)), .second, .unset, .unset] [(.int (own_cmp (f0_v8 x0 x1) (2147483648 : Int64)))])) _
        refine XS.ifYes X2.here hx rfl (pc0 := 69) (pc' := 78) rfl (hb hby at_69) rfl hc10 (by decide) (by decide) ?_
        exact k
      have qj0 : (f0_j12 x0 x1) = (f0_v7 x0 x1) := if_pos hc10
      refine ⟨T2, _, X2, N2, e2, fun t k => pre14 _ ?_⟩
      rw [qj0] at k
      exact k
    · have pre15 : ∀ t, Steps p.tables e below (T2.setTop (mkF m 78 #[.val (.int x0), .val (.int x1), .val (.long (f0_v1 x0 x1)), .second, .val (.long (f0_v3 x0 x1)), .second, .val (.long (f0_v4 x0 x1)), .second, .val (.long (f0_v5 x0 x1)), .second, .val (.long (f0_v6 x0 x1)), .second, .val (.long (f0_v7 x0 x1)), .second, .val (.long (f0_v8 x0 x1)), .second, .val (.long (f0_v11 x0 x1)), .second, .unset, .unset] [])) t → Steps p.tables e below (s₁.setTop (entryFrame m #[(.int x0), (.int x1)] maxLocals)) t := by
        intro t k
        refine pre9 _ ?_
        show Steps p.tables e below (T2.setTop (mkF m 69 #[.val (.int x0), .val (.int x1), .val (.long (f0_v1 x0 x1)), .second, .val (.long (f0_v3 x0 x1)), .second, .val (.long (f0_v4 x0 x1)), .second, .val (.long (f0_v5 x0 x1)), .second, .val (.long (f0_v6 x0 x1)), .second, .val (.long (f0_v7 x0 x1)), .second, .val (.long (f0_v8 x0 x1)), .second, .val (.long (f0_v7 x0 x1)), .second, .unset, .unset] [(.int (own_cmp (f0_v8 x0 x1) (2147483648 : Int64)))])) _
        refine XS.ifNo X2.here hx rfl (hb hby at_69) rfl hc10 ?_
        show Steps p.tables e below (T2.setTop (mkF m 72 #[.val (.int x0), .val (.int x1), .val (.long (f0_v1 x0 x1)), .second, .val (.long (f0_v3 x0 x1)), .second, .val (.long (f0_v4 x0 x1)), .second, .val (.long (f0_v5 x0 x1)), .second, .val (.long (f0_v6 x0 x1)), .second, .val (.long (f0_v7 x0 x1)), .second, .val (.long (f0_v8 x0 x1)), .second, .val (.long (f0_v7 x0 x1)), .second, .unset, .unset] [])) _
        refine XS.lload X2.here hx rfl (hb hby at_72) rfl ?_
        show Steps p.tables e below (T2.setTop (mkF m 74 #[.val (.int x0), .val (.int x1), .val (.long (f0_v1 x0 x1)), .second, .val (.long (f0_v3 x0 x1)), .second, .val (.long (f0_v4 x0 x1)), .second, .val (.long (f0_v5 x0 x1)), .second, .val (.long (f0_v6 x0 x1)), .second, .val (.long (f0_v7 x0 x1)), .second, .val (.long (f0_v8 x0 x1)), .second, .val (.long (f0_v7 x0 x1)), .second, .unset, .unset] [(.long (f0_v7 x0 x1))])) _
        refine XS.lconst X2.here hx rfl (hb hby at_74) ?_
        show Steps p.tables e below (T2.setTop (mkF m 75 #[.val (.int x0), .val (.int x1), .val (.long (f0_v1 x0 x1)), .second, .val (.long (f0_v3 x0 x1)), .second, .val (.long (f0_v4 x0 x1)), .second, .val (.long (f0_v5 x0 x1)), .second, .val (.long (f0_v6 x0 x1)), .second, .val (.long (f0_v7 x0 x1)), .second, .val (.long (f0_v8 x0 x1)), .second, .val (.long (f0_v7 x0 x1)), .second, .unset, .unset] [(.long (1 : Int64)), (.long (f0_v7 x0 x1))])) _
        refine XS.ladd X2.here hx rfl (hb hby at_75) rfl ?_
        show Steps p.tables e below (T2.setTop (mkF m 76 #[.val (.int x0), .val (.int x1), .val (.long (f0_v1 x0 x1)), .second, .val (.long (f0_v3 x0 x1)), .second, .val (.long (f0_v4 x0 x1)), .second, .val (.long (f0_v5 x0 x1)), .second, .val (.long (f0_v6 x0 x1)), .second, .val (.long (f0_v7 x0 x1)), .second, .val (.long (f0_v8 x0 x1)), .second, .val (.long (f0_v7 x0 x1)), .second, .unset, .unset] [(.long ((f0_v7 x0 x1) + (1 : Int64)))])) _
        refine XS.lstore X2.here hx rfl (hb hby at_76) rfl (l' := #[.val (.int x0), .val (.int x1), .val (.long (f0_v1 x0 x1)), .second, .val (.long (f0_v3 x0 x1)), .second, .val (.long (f0_v4 x0 x1)), .second, .val (.long (f0_v5 x0 x1)), .second, .val (.long (f0_v6 x0 x1)), .second, .val (.long (f0_v7 x0 x1)), .second, .val (.long (f0_v8 x0 x1)), .second, .val (.long (f0_v11 x0 x1)), .second, .unset, .unset]) rfl ?_
        exact k
      have qj0 : (f0_j12 x0 x1) = (f0_v11 x0 x1) := if_neg (own_nt hc10)
      refine ⟨T2, _, X2, N2, e2, fun t k => pre15 _ ?_⟩
      rw [qj0] at k
      exact k
  have pre17 : ∀ t, Steps p.tables e below (T13.setTop (mkF m 98 #[.val (.int x0), .val (.int x1), .val (.long (f0_v1 x0 x1)), .second, .val (.long (f0_v3 x0 x1)), .second, .val (.long (f0_v4 x0 x1)), .second, .val (.long (f0_v5 x0 x1)), .second, .val (.long (f0_v6 x0 x1)), .second, .val (.long (f0_v7 x0 x1)), .second, .val (.long (f0_v8 x0 x1)), .second, .val (.long (f0_j12 x0 x1)), .second, .val (.long (f0_v16 x0 x1)), .second] [(.int (own_cmp (f0_v3 x0 x1) (f0_v16 x0 x1)))])) t → Steps p.tables e below (s₁.setTop (entryFrame m #[(.int x0), (.int x1)] maxLocals)) t := by
    intro t k
    refine pre13 _ ?_
    show Steps p.tables e below (T13.setTop (mkF m 78 #[.val (.int x0), .val (.int x1), .val (.long (f0_v1 x0 x1)), .second, .val (.long (f0_v3 x0 x1)), .second, .val (.long (f0_v4 x0 x1)), .second, .val (.long (f0_v5 x0 x1)), .second, .val (.long (f0_v6 x0 x1)), .second, .val (.long (f0_v7 x0 x1)), .second, .val (.long (f0_v8 x0 x1)), .second, .val (.long (f0_j12 x0 x1)), .second, .unset, .unset] [])) _
    refine XS.lload X13.here hx rfl (hb hby at_78) rfl ?_
    show Steps p.tables e below (T13.setTop (mkF m 80 #[.val (.int x0), .val (.int x1), .val (.long (f0_v1 x0 x1)), .second, .val (.long (f0_v3 x0 x1)), .second, .val (.long (f0_v4 x0 x1)), .second, .val (.long (f0_v5 x0 x1)), .second, .val (.long (f0_v6 x0 x1)), .second, .val (.long (f0_v7 x0 x1)), .second, .val (.long (f0_v8 x0 x1)), .second, .val (.long (f0_j12 x0 x1)), .second, .unset, .unset] [(.long (f0_v4 x0 x1))])) _
    refine X13.ldc2Long hx hown (mvT hZ (hw _ (List.mem_of_getElem? (i := 13) rfl))) (g := (mkF m 80 #[.val (.int x0), .val (.int x1), .val (.long (f0_v1 x0 x1)), .second, .val (.long (f0_v3 x0 x1)), .second, .val (.long (f0_v4 x0 x1)), .second, .val (.long (f0_v5 x0 x1)), .second, .val (.long (f0_v6 x0 x1)), .second, .val (.long (f0_v7 x0 x1)), .second, .val (.long (f0_v8 x0 x1)), .second, .val (.long (f0_j12 x0 x1)), .second, .unset, .unset] [(.long (f0_v4 x0 x1))])) rfl (hb hby at_80) _ ?_
    show Steps p.tables e below (T13.setTop (mkF m 83 #[.val (.int x0), .val (.int x1), .val (.long (f0_v1 x0 x1)), .second, .val (.long (f0_v3 x0 x1)), .second, .val (.long (f0_v4 x0 x1)), .second, .val (.long (f0_v5 x0 x1)), .second, .val (.long (f0_v6 x0 x1)), .second, .val (.long (f0_v7 x0 x1)), .second, .val (.long (f0_v8 x0 x1)), .second, .val (.long (f0_j12 x0 x1)), .second, .unset, .unset] [(.long (2208988800 : Int64)), (.long (f0_v4 x0 x1))])) _
    refine XS.lsub X13.here hx rfl (hb hby at_83) rfl ?_
    show Steps p.tables e below (T13.setTop (mkF m 84 #[.val (.int x0), .val (.int x1), .val (.long (f0_v1 x0 x1)), .second, .val (.long (f0_v3 x0 x1)), .second, .val (.long (f0_v4 x0 x1)), .second, .val (.long (f0_v5 x0 x1)), .second, .val (.long (f0_v6 x0 x1)), .second, .val (.long (f0_v7 x0 x1)), .second, .val (.long (f0_v8 x0 x1)), .second, .val (.long (f0_j12 x0 x1)), .second, .unset, .unset] [(.long ((f0_v4 x0 x1) - (2208988800 : Int64)))])) _
    refine X13.ldc2Long hx hown (mvT hZ (hw _ (List.mem_of_getElem? (i := 11) rfl))) (g := (mkF m 84 #[.val (.int x0), .val (.int x1), .val (.long (f0_v1 x0 x1)), .second, .val (.long (f0_v3 x0 x1)), .second, .val (.long (f0_v4 x0 x1)), .second, .val (.long (f0_v5 x0 x1)), .second, .val (.long (f0_v6 x0 x1)), .second, .val (.long (f0_v7 x0 x1)), .second, .val (.long (f0_v8 x0 x1)), .second, .val (.long (f0_j12 x0 x1)), .second, .unset, .unset] [(.long ((f0_v4 x0 x1) - (2208988800 : Int64)))])) rfl (hb hby at_84) _ ?_
    show Steps p.tables e below (T13.setTop (mkF m 87 #[.val (.int x0), .val (.int x1), .val (.long (f0_v1 x0 x1)), .second, .val (.long (f0_v3 x0 x1)), .second, .val (.long (f0_v4 x0 x1)), .second, .val (.long (f0_v5 x0 x1)), .second, .val (.long (f0_v6 x0 x1)), .second, .val (.long (f0_v7 x0 x1)), .second, .val (.long (f0_v8 x0 x1)), .second, .val (.long (f0_j12 x0 x1)), .second, .unset, .unset] [(.long (1000000 : Int64)), (.long ((f0_v4 x0 x1) - (2208988800 : Int64)))])) _
    refine XS.lmul X13.here hx rfl (hb hby at_87) rfl ?_
    show Steps p.tables e below (T13.setTop (mkF m 88 #[.val (.int x0), .val (.int x1), .val (.long (f0_v1 x0 x1)), .second, .val (.long (f0_v3 x0 x1)), .second, .val (.long (f0_v4 x0 x1)), .second, .val (.long (f0_v5 x0 x1)), .second, .val (.long (f0_v6 x0 x1)), .second, .val (.long (f0_v7 x0 x1)), .second, .val (.long (f0_v8 x0 x1)), .second, .val (.long (f0_j12 x0 x1)), .second, .unset, .unset] [(.long (((f0_v4 x0 x1) - (2208988800 : Int64)) * (1000000 : Int64)))])) _
    refine XS.lload X13.here hx rfl (hb hby at_88) rfl ?_
    show Steps p.tables e below (T13.setTop (mkF m 90 #[.val (.int x0), .val (.int x1), .val (.long (f0_v1 x0 x1)), .second, .val (.long (f0_v3 x0 x1)), .second, .val (.long (f0_v4 x0 x1)), .second, .val (.long (f0_v5 x0 x1)), .second, .val (.long (f0_v6 x0 x1)), .second, .val (.long (f0_v7 x0 x1)), .second, .val (.long (f0_v8 x0 x1)), .second, .val (.long (f0_j12 x0 x1)), .second, .unset, .unset] [(.long (f0_j12 x0 x1)), (.long (((f0_v4 x0 x1) - (2208988800 : Int64)) * (1000000 : Int64)))])) _
    refine XS.ladd X13.here hx rfl (hb hby at_90) rfl ?_
    show Steps p.tables e below (T13.setTop (mkF m 91 #[.val (.int x0), .val (.int x1), .val (.long (f0_v1 x0 x1)), .second, .val (.long (f0_v3 x0 x1)), .second, .val (.long (f0_v4 x0 x1)), .second, .val (.long (f0_v5 x0 x1)), .second, .val (.long (f0_v6 x0 x1)), .second, .val (.long (f0_v7 x0 x1)), .second, .val (.long (f0_v8 x0 x1)), .second, .val (.long (f0_j12 x0 x1)), .second, .unset, .unset] [(.long ((((f0_v4 x0 x1) - (2208988800 : Int64)) * (1000000 : Int64)) + (f0_j12 x0 x1)))])) _
    refine XS.lstore X13.here hx rfl (hb hby at_91) rfl (l' := #[.val (.int x0), .val (.int x1), .val (.long (f0_v1 x0 x1)), .second, .val (.long (f0_v3 x0 x1)), .second, .val (.long (f0_v4 x0 x1)), .second, .val (.long (f0_v5 x0 x1)), .second, .val (.long (f0_v6 x0 x1)), .second, .val (.long (f0_v7 x0 x1)), .second, .val (.long (f0_v8 x0 x1)), .second, .val (.long (f0_j12 x0 x1)), .second, .val (.long (f0_v16 x0 x1)), .second]) rfl ?_
    show Steps p.tables e below (T13.setTop (mkF m 93 #[.val (.int x0), .val (.int x1), .val (.long (f0_v1 x0 x1)), .second, .val (.long (f0_v3 x0 x1)), .second, .val (.long (f0_v4 x0 x1)), .second, .val (.long (f0_v5 x0 x1)), .second, .val (.long (f0_v6 x0 x1)), .second, .val (.long (f0_v7 x0 x1)), .second, .val (.long (f0_v8 x0 x1)), .second, .val (.long (f0_j12 x0 x1)), .second, .val (.long (f0_v16 x0 x1)), .second] [])) _
    refine XS.lload X13.here hx rfl (hb hby at_93) rfl ?_
    show Steps p.tables e below (T13.setTop (mkF m 95 #[.val (.int x0), .val (.int x1), .val (.long (f0_v1 x0 x1)), .second, .val (.long (f0_v3 x0 x1)), .second, .val (.long (f0_v4 x0 x1)), .second, .val (.long (f0_v5 x0 x1)), .second, .val (.long (f0_v6 x0 x1)), .second, .val (.long (f0_v7 x0 x1)), .second, .val (.long (f0_v8 x0 x1)), .second, .val (.long (f0_j12 x0 x1)), .second, .val (.long (f0_v16 x0 x1)), .second] [(.long (f0_v3 x0 x1))])) _
    refine XS.lload X13.here hx rfl (hb hby at_95) rfl ?_
    show Steps p.tables e below (T13.setTop (mkF m 97 #[.val (.int x0), .val (.int x1), .val (.long (f0_v1 x0 x1)), .second, .val (.long (f0_v3 x0 x1)), .second, .val (.long (f0_v4 x0 x1)), .second, .val (.long (f0_v5 x0 x1)), .second, .val (.long (f0_v6 x0 x1)), .second, .val (.long (f0_v7 x0 x1)), .second, .val (.long (f0_v8 x0 x1)), .second, .val (.long (f0_j12 x0 x1)), .second, .val (.long (f0_v16 x0 x1)), .second] [(.long (f0_v16 x0 x1)), (.long (f0_v3 x0 x1))])) _
    refine own_xlcmp X13.here hx rfl (hb hby at_97) rfl ?_
    exact k
  obtain ⟨T20, L20, X20, N20, e20, pre20⟩ : ∃ (T' : State) (L' : List Loc), Stand p l e room_1 s m #[(.int x0), (.int x1)] below meth c T' L' 0 0 ∧ Fr n0 L' ∧ T'.heap = h0 ∧ ∀ t, Steps p.tables e below (T'.setTop (mkF m 106 #[.val (.int x0), .val (.int x1), .val (.long (f0_v1 x0 x1)), .second, .val (.long (f0_v3 x0 x1)), .second, .val (.long (f0_v4 x0 x1)), .second, .val (.long (f0_v5 x0 x1)), .second, .val (.long (f0_v6 x0 x1)), .second, .val (.long (f0_v7 x0 x1)), .second, .val (.long (f0_v8 x0 x1)), .second, .val (.long (f0_j12 x0 x1)), .second, .val (.long (f0_v16 x0 x1)), .second] [(.int (f0_j19 x0 x1))])) t → Steps p.tables e below (s₁.setTop (entryFrame m #[(.int x0), (.int x1)] maxLocals)) t := by
    rcases Bool.eq_false_or_eq_true (ifCond.holds .ne (own_cmp (f0_v3 x0 x1) (f0_v16 x0 x1))) with hc18 | hc18
    · have pre21 : ∀ t, Steps p.tables e below (T13.setTop (mkF m 106 #[.val (.int x0), .val (.int x1), .val (.long (f0_v1 x0 x1)), .second, .val (.long (f0_v3 x0 x1)), .second, .val (.long (f0_v4 x0 x1)), .second, .val (.long (f0_v5 x0 x1)), .second, .val (.long (f0_v6 x0 x1)), .second, .val (.long (f0_v7 x0 x1)), .second, .val (.long (f0_v8 x0 x1)), .second, .val (.long (f0_j12 x0 x1)), .second, .val (.long (f0_v16 x0 x1)), .second] [(.int (0 : Int32))])) t → Steps p.tables e below (s₁.setTop (entryFrame m #[(.int x0), (.int x1)] maxLocals)) t := by
        intro t k
        refine pre17 _ ?_
        show Steps p.tables e below (T13.setTop (mkF m 98 #[.val (.int x0), .val (.int x1), .val (.long (f0_v1 x0 x1)), .second, .val (.long (f0_v3 x0 x1)), .second, .val (.long (f0_v4 x0 x1)), .second, .val (.long (f0_v5 x0 x1)), .second, .val (.long (f0_v6 x0 x1)), .second, .val (.long (f0_v7 x0 x1)), .second, .val (.long (f0_v8 x0 x1)), .second, .val (.long (f0_j12 x0 x1)), .second, .val (.long (f0_v16 x0 x1)), .second] [(.int (own_cmp (f0_v3 x0 x1) (f0_v16 x0 x1)))])) _
        refine XS.ifYes X13.here hx rfl (pc0 := 98) (pc' := 105) rfl (hb hby at_98) rfl hc18 (by decide) (by decide) ?_
        show Steps p.tables e below (T13.setTop (mkF m 105 #[.val (.int x0), .val (.int x1), .val (.long (f0_v1 x0 x1)), .second, .val (.long (f0_v3 x0 x1)), .second, .val (.long (f0_v4 x0 x1)), .second, .val (.long (f0_v5 x0 x1)), .second, .val (.long (f0_v6 x0 x1)), .second, .val (.long (f0_v7 x0 x1)), .second, .val (.long (f0_v8 x0 x1)), .second, .val (.long (f0_j12 x0 x1)), .second, .val (.long (f0_v16 x0 x1)), .second] [])) _
        refine XS.iconst X13.here hx rfl (hb hby at_105) ?_
        exact k
      have qj0 : (f0_j19 x0 x1) = (0 : Int32) := if_pos hc18
      refine ⟨T13, _, X13, N13, e13, fun t k => pre21 _ ?_⟩
      rw [qj0] at k
      exact k
    · have pre22 : ∀ t, Steps p.tables e below (T13.setTop (mkF m 106 #[.val (.int x0), .val (.int x1), .val (.long (f0_v1 x0 x1)), .second, .val (.long (f0_v3 x0 x1)), .second, .val (.long (f0_v4 x0 x1)), .second, .val (.long (f0_v5 x0 x1)), .second, .val (.long (f0_v6 x0 x1)), .second, .val (.long (f0_v7 x0 x1)), .second, .val (.long (f0_v8 x0 x1)), .second, .val (.long (f0_j12 x0 x1)), .second, .val (.long (f0_v16 x0 x1)), .second] [(.int (1 : Int32))])) t → Steps p.tables e below (s₁.setTop (entryFrame m #[(.int x0), (.int x1)] maxLocals)) t := by
        intro t k
        refine pre17 _ ?_
        show Steps p.tables e below (T13.setTop (mkF m 98 #[.val (.int x0), .val (.int x1), .val (.long (f0_v1 x0 x1)), .second, .val (.long (f0_v3 x0 x1)), .second, .val (.long (f0_v4 x0 x1)), .second, .val (.long (f0_v5 x0 x1)), .second, .val (.long (f0_v6 x0 x1)), .second, .val (.long (f0_v7 x0 x1)), .second, .val (.long (f0_v8 x0 x1)), .second, .val (.long (f0_j12 x0 x1)), .second, .val (.long (f0_v16 x0 x1)), .second] [(.int (own_cmp (f0_v3 x0 x1) (f0_v16 x0 x1)))])) _
        refine XS.ifNo X13.here hx rfl (hb hby at_98) rfl hc18 ?_
        show Steps p.tables e below (T13.setTop (mkF m 101 #[.val (.int x0), .val (.int x1), .val (.long (f0_v1 x0 x1)), .second, .val (.long (f0_v3 x0 x1)), .second, .val (.long (f0_v4 x0 x1)), .second, .val (.long (f0_v5 x0 x1)), .second, .val (.long (f0_v6 x0 x1)), .second, .val (.long (f0_v7 x0 x1)), .second, .val (.long (f0_v8 x0 x1)), .second, .val (.long (f0_j12 x0 x1)), .second, .val (.long (f0_v16 x0 x1)), .second] [])) _
        refine XS.iconst X13.here hx rfl (hb hby at_101) ?_
        show Steps p.tables e below (T13.setTop (mkF m 102 #[.val (.int x0), .val (.int x1), .val (.long (f0_v1 x0 x1)), .second, .val (.long (f0_v3 x0 x1)), .second, .val (.long (f0_v4 x0 x1)), .second, .val (.long (f0_v5 x0 x1)), .second, .val (.long (f0_v6 x0 x1)), .second, .val (.long (f0_v7 x0 x1)), .second, .val (.long (f0_v8 x0 x1)), .second, .val (.long (f0_j12 x0 x1)), .second, .val (.long (f0_v16 x0 x1)), .second] [(.int (1 : Int32))])) _
        refine XS.goto X13.here hx rfl (pc0 := 102) (pc' := 106) rfl (hb hby at_102) (by decide) (by decide) ?_
        exact k
      have qj0 : (f0_j19 x0 x1) = (1 : Int32) := if_neg (own_nt hc18)
      refine ⟨T13, _, X13, N13, e13, fun t k => pre22 _ ?_⟩
      rw [qj0] at k
      exact k
  obtain ⟨fs, hr, hrun, hended, hW, hsame⟩ := X20.leave (v := some (.int (nar .boolean (f0_j19 x0 x1)))) (fun h => by rw [hret] at h; cases h)
  refine ⟨_, _, pre20 _ ?_, hrun, hended, _, _, rfl, ?_, ⟨_, rfl⟩, hW, hsame.mono (by decide) (by decide)⟩
  · show Steps p.tables e below (T20.setTop (mkF m 106 #[.val (.int x0), .val (.int x1), .val (.long (f0_v1 x0 x1)), .second, .val (.long (f0_v3 x0 x1)), .second, .val (.long (f0_v4 x0 x1)), .second, .val (.long (f0_v5 x0 x1)), .second, .val (.long (f0_v6 x0 x1)), .second, .val (.long (f0_v7 x0 x1)), .second, .val (.long (f0_v8 x0 x1)), .second, .val (.long (f0_j12 x0 x1)), .second, .val (.long (f0_v16 x0 x1)), .second] [(.int (f0_j19 x0 x1))])) _
    exact retN X20 hx (t := .boolean) hret (by simp) (hb hby at_106) hr
  · show Q0 Z x0 x1 h0 n0 _ T20.heap _
    rw [e20]
    have rr : f0 x0 x1 = (nar .boolean (f0_j19 x0 x1)) := rfl
    exact ⟨congrArg (fun z => some (Value.int z)) rr.symm, N20⟩
theorem own_or (a b : Int64) (k : Nat) (ha : a.toBitVec.toNat % 2 ^ k = 0) (hb : b.toBitVec.toNat < 2 ^ k) : (a ||| b).toBitVec.toNat = a.toBitVec.toNat + b.toBitVec.toNat := by
  have q := Nat.two_pow_add_eq_or_of_lt hb (a.toBitVec.toNat / 2 ^ k)
  rw [Nat.mul_div_cancel' (Nat.dvd_of_mod_eq_zero ha)] at q
  show (a.toBitVec ||| b.toBitVec).toNat = _
  rw [BitVec.toNat_or]
  exact q.symm
theorem own_bit31 (x : Int64) : (x &&& (2147483648 : Int64)).toBitVec.toNat = x.toBitVec.toNat / 2147483648 % 2 * 2147483648 := by
  have e : (x &&& (2147483648 : Int64)).toBitVec.toNat = x.toBitVec.toNat &&& 2 ^ 31 := by
    show (x.toBitVec &&& (2147483648 : Int64).toBitVec).toNat = _
    rw [BitVec.toNat_and]
    rfl
  have q1 : (x.toBitVec.toNat &&& 2 ^ 31) % 2 ^ 31 = 0 := by rw [Nat.and_mod_two_pow, Nat.mod_self, Nat.and_zero]
  have q2 : (x.toBitVec.toNat &&& 2 ^ 31) / 2 ^ 31 = x.toBitVec.toNat / 2 ^ 31 % 2 := by rw [Nat.and_div_two_pow, Nat.div_self (by decide), Nat.and_one_is_mod]
  rw [← e] at q1 q2
  omega
/-- the timestamp as a number -/
theorem own_t (x0 x1 : Int32) : (f0_v1 x0 x1).toInt % 18446744073709551616 = x0.toInt % 4294967296 * 4294967296 + x1.toInt % 4294967296 := by
  have a1 : ((own_lshl x0.toInt64 32).toInt - x0.toInt64.toInt * 4294967296) % 18446744073709551616 = 0 := c_lshl x0.toInt64 32 32 (by decide)
  rw [c_i2l x0] at a1
  have a4 : (x1.toInt64 &&& (4294967295 : Int64)).toInt = x1.toInt64.toInt % 4294967296 := c_maskL x1.toInt64 4294967295 32 (by decide) (by decide)
  rw [c_i2l x1] at a4
  have e : f0_v1 x0 x1 = own_lshl x0.toInt64 32 ||| (x1.toInt64 &&& (4294967295 : Int64)) := rfl
  rw [e]
  generalize own_lshl x0.toInt64 32 = A at *
  generalize x1.toInt64 &&& (4294967295 : Int64) = B at *
  have n1 := own_n64 A
  have n2 := own_n64 B
  have o := own_or A B 32 (by omega) (by omega)
  have n3 := own_n64 (A ||| B)
  generalize A ||| B = C at *
  omega
theorem own_law (x0 x1 : Int32) : f0 x0 x1 = 1 := by
  have h0 := own_t x0 x1
  have hx0 := rng32 x0
  obtain ⟨t, ht⟩ : ∃ t, t = f0_v1 x0 x1 := ⟨_, rfl⟩
  rw [← ht] at h0
  have e1 : (4294967296 : Int64).toInt = 4294967296 := rfl
  have e2 : (2208988800 : Int64).toInt = 2208988800 := rfl
  have e3 : (1000000 : Int64).toInt = 1000000 := rfl
  have e4 : (2147483648 : Int64).toInt = 2147483648 := rfl
  have e5 : (1 : Int64).toInt = 1 := rfl
  have e6 : (0 : Int64).toInt = 0 := rfl
  obtain ⟨H, hH⟩ : ∃ H : Int, x0.toInt = H := ⟨_, rfl⟩
  obtain ⟨W, hW⟩ : ∃ W : Int, x1.toInt % 4294967296 = W := ⟨_, rfl⟩
  have hWr : 0 ≤ W ∧ W < 4294967296 := by omega
  rw [hH, hW] at h0
  rw [hH] at hx0
  -- the callee
  have b1 : (f1_v1 t).toInt = t.toInt % 18446744073709551616 / 4294967296 := own_ushrE 32 32 4294967296 rfl (by decide) (by decide) (by decide)
  have b2 : (f1_v9 t).toInt = t.toInt % 4294967296 := c_maskL t 4294967295 32 (by decide) (by decide)
  obtain ⟨s, hs⟩ : ∃ s, s = f1_v1 t := ⟨_, rfl⟩
  obtain ⟨w, hw⟩ : ∃ w, w = f1_v9 t := ⟨_, rfl⟩
  rw [← hs] at b1
  rw [← hw] at b2
  have bs : s.toInt = H % 4294967296 := by omega
  have bw : w.toInt = W := by omega
  clear b1 b2 h0
  have b3 : (f1_j5 t).toInt = H + 4294967296 := by
    have e : f1_j5 t = if ifCond.holds .ne (own_cmp (s &&& 2147483648) 0) = true then s else s + 4294967296 := by rw [hs]; rfl
    have c1 := own_bit31 s
    have c2 := own_n64 s
    have c3 := own_n64 (s &&& 2147483648)
    have c4 := rng64 (s &&& 2147483648)
    rw [e]
    generalize s &&& (2147483648 : Int64) = z at *
    by_cases hb : s.toInt < 2147483648
    · have hz0 : z.toInt = 0 := by omega
      rw [if_neg (by rw [own_cne, hz0]; exact fun q => q rfl), own_addE (rfl : s.toInt = s.toInt) e1 (by omega)]
      omega
    · have hz0 : z.toInt ≠ 0 := by omega
      rw [if_pos (by rw [own_cne]; exact hz0)]
      omega
  have b4 : (f1_v10 t).toInt = (W * 1000000 + 2147483648) / 4294967296 := by
    have e : f1_v10 t = own_lushr (w * 1000000 + 2147483648) 32 := by rw [hw]; rfl
    rw [e, own_ushrE 32 32 4294967296 (own_addE (own_mulE bw e3 (by omega)) e4 (by omega)) (by decide) (by decide) (by decide)]
    omega
  have b5 : (f1 t).toInt = (H + 4294967296 - 2208988800) * 1000000 + (W * 1000000 + 2147483648) / 4294967296 := by
    have e : f1 t = (f1_j5 t - 2208988800) * 1000000 + f1_v10 t := rfl
    rw [e]
    exact own_addE (own_mulE (own_subE b3 e2 (by clear b3 b4; omega)) e3 (by clear b3 b4; omega)) b4 (by clear b3 b4; omega)
  clear b3 b4 bs bw
  -- the law's own reckoning
  have d3 : (f0_v5 x0 x1).toInt = W := by
    have c : (f0_v5 x0 x1).toInt = x1.toInt64.toInt % 4294967296 := c_maskL x1.toInt64 4294967295 32 (by decide) (by decide)
    rw [c, c_i2l, hW]
  have d4 : (f0_v6 x0 x1).toInt = W * 1000000 := own_mulE d3 e3 (by clear d3 b5; omega)
  obtain ⟨P, hP⟩ : ∃ P, P = f0_v6 x0 x1 := ⟨_, rfl⟩
  rw [← hP] at d4
  have d7 : (f0_j12 x0 x1).toInt = (W * 1000000 + 2147483648) / 4294967296 := by
    have e : f0_j12 x0 x1 = if ifCond.holds .lt (own_cmp (own_lrem P 4294967296) 2147483648) = true then P / 4294967296 else P / 4294967296 + 1 := by rw [hP]; rfl
    have q1 : (P / 4294967296).toInt = W * 1000000 / 4294967296 := own_divE d4 e1 (by clear d3 b5; omega) (by decide)
    have q2 : (own_lrem P 4294967296).toInt = W * 1000000 % 4294967296 := own_remE d4 e1 (by clear d3 b5 q1; omega)
    rw [e]
    generalize P / 4294967296 = A at *
    generalize own_lrem P 4294967296 = B at *
    clear d3 b5
    by_cases hb : B.toInt < 2147483648
    · rw [if_pos (by rw [own_clt, e4]; exact hb), q1]
      omega
    · rw [if_neg (by rw [own_clt, e4]; exact hb), own_addE q1 e5 (by omega)]
      omega
  have d2 : (f0_v4 x0 x1).toInt = H + 4294967296 := own_addE (own_i2lE hH) e1 (by clear d3 b5 d7; omega)
  have d8 : (f0_v16 x0 x1).toInt = (H + 4294967296 - 2208988800) * 1000000 + (W * 1000000 + 2147483648) / 4294967296 := by
    have e : f0_v16 x0 x1 = (f0_v4 x0 x1 - 2208988800) * 1000000 + f0_j12 x0 x1 := rfl
    rw [e]
    exact own_addE (own_mulE (own_subE d2 e2 (by clear d2 d3 d7 b5; omega)) e3 (by clear d2 d3 d7 b5; omega)) d7 (by clear d2 d3 d7 b5; omega)
  have k1 : (f0_v3 x0 x1).toInt = (f1 t).toInt := by rw [ht]; rfl
  unfold f0 f0_j19
  refine own_last ?_
  rw [own_cne, k1, b5, d8]
  exact fun q => q rfl
set_option maxRecDepth 65536 in
set_option maxHeartbeats 40000000 in
theorem comes_1 {Post : Tables → Env → Array Value → State → Outcome → State → Prop} (hpost : ∀ tb e args s v u, (limb_1_1.after args s (.returned v) u = true ∧ limb_1_2.after args s (.returned v) u = true ∧ True) → FrameEnd s (.returned v) u (Jvm.fieldLocs frame_1_writes args s ++ Jvm.arrayLocs frame_1_arrays args s ++ Jvm.staticLocs frame_1_statics s) 0 0 → Post tb e args s (.returned v) u) :
    ArmFor flags0 classFile x code maxLocals ret World_1 tables_1 room_1 Calls_1 rest_1 Pre_1 Post := by
  intro l hfl _ _ p e ha hc hk s m args below hf hA hF happ hP
  obtain ⟨hcalls, hrest, hpre⟩ := hP
  obtain ⟨-, -, -, hnamed, -, -, -, hat⟩ := (Spec.applies_iff hf).mp happ
  obtain ⟨hg, hn⟩ := and_e (Cond.before_iff.mp (show (Jvm.Cond.and given_1 narrow_1).before args s = true from hpre))
  obtain ⟨g1, g2⟩ := and_e hg
  obtain ⟨g3, g4⟩ := and_e g2
  obtain ⟨w0, w1, rfl⟩ : ∃ w0 w1 : Value, args = #[w0, w1] := by
    have hs : args.size = 2 := by simpa [Cond.value, given_1] using g1
    obtain ⟨L⟩ := args
    match L, hs with
    | [w0, w1], _ => exact ⟨w0, w1, rfl⟩
  have hw := fun d (hd : d ∈ tables_1) => atoms_spec (ws := Jvm.Cond.code x code maxLocals ret :: tables_1) hat d (List.mem_cons_of_mem _ hd)
  obtain ⟨i0, ei0⟩ := is_v g3
  obtain rfl : w0 = (.int i0) := Option.some.inj ei0
  obtain ⟨i1, ei1⟩ := is_v g4
  obtain rfl : w1 = (.int i1) := Option.some.inj ei1
  obtain ⟨n, o, h1, h2, h3, v, L, rfl, ⟨hv, N⟩, hq⟩ := rm0 l s _ hw tables_1 i0 i1 s.heap s.heap.size (Nat.le_refl _) p e ha hc hk s m _ below hf ((Spec.applies_iff_loose hf).mp happ).1 ⟨rfl, State.Warmed39.refl s, rfl⟩ trivial
  rw [own_law] at hv
  subst hv
  refine ⟨n, _, h1, h2, h3, hpost _ _ _ _ _ _ ⟨Cond.after_iff.mpr rfl, Cond.after_iff.mpr (eq_i res_at (Term.int_eval (1)) rfl), trivial⟩ ⟨hq.1, hq.2.1, (hq.2.2.sift fun y hy => Or.inr (N y hy)).mono (by decide) (by decide)⟩⟩
theorem main_1_1 : Claimed_1_1 := comes_1 fun _ _ _ _ _ _ h hF => ⟨h.1, hF⟩
theorem main_1_2 : Claimed_1_2 := comes_1 fun _ _ _ _ _ _ h hF => ⟨h.2.1, hF⟩
end Jvm.Pilot.@@N@@
namespace Jvm.Pilot.@@N@@
open Jvm Jvm.ClassFile Sem Op Lib Jvm.Free Jvm.Stand Jvm.Pilot.@@N@@.Jvm.D
/-! MADE BY PROGRAM (witnessworld.py) out of the Statement's table words and the real class files: 9 classes; the members and pool entries that the words name. The judged class is class 1, her method 1. -/
namespace start1
open Jvm.ClassFile
def u (s : String) : CpInfo := .utf8 (stringToUtf16 s)
/-- a pool by its gaps: so many unusable entries, then the entry; so many at the end -/
def gap : Nat → List CpInfo → List CpInfo
  | 0, r => r
  | n + 1, r => .unusable :: gap n r
def poolList (es : List (Nat × CpInfo)) (last : Nat) : List CpInfo := es.foldr (fun e r => gap e.1 (e.2 :: r)) (gap last [])
def pool (es : List (Nat × CpInfo)) (last : Nat) : Array CpInfo := ⟨poolList es last⟩
def fileOf (pool : Array CpInfo) (this : Nat) (attrs : Array Attribute := #[]) (ms : Array MethodInfo := #[]) (fl : Nat := 33) (sup : Nat := 0) (ifs : Array Nat := #[]) (fds : Array FieldInfo := #[]) : ClassFile where
  minorVersion := 0
  majorVersion := 65
  constantPool := pool
  accessFlags := fl
  thisClass := this
  superClass := sup
  interfaces := ifs
  fields := fds
  methods := ms
  attributes := attrs
def plain (name : String) (sup : Option ClassId) : Class where
  name := name
  kind := .ordinary
  loader := none
  accessFlags := 33
  super := sup
  interfaces := #[]
  cf := none
  fields := #[]
  methods := #[]
  instanceTypes := #[]
  staticTypes := #[]
  resolved := #[]
  callSites := []
  init := .initialized
  statics := none
  mirror := none

def pool0 : Array CpInfo := pool [(5, u "<init>"), (0, u "()V"), (1, .class_ 10), (1, u "java/lang/Object")] 113

def k0m0 : Method := { name := "<init>", desc := "()V", sig := { parameters := [], returnType := none }, accessFlags := 1, code := none }
/-- java/lang/Object -/
def k0 : Class := { plain "java/lang/Object" none with
  accessFlags := 33
  interfaces := #[]
  cf := some (fileOf pool0 8 #[] #[{ accessFlags := 1, nameIndex := 5, descriptorIndex := 6, attributes := #[] }] 33 0 #[] #[])
  fields := #[]
  methods := #[k0m0]
  instanceTypes := #[]
  staticTypes := #[]
  resolved := Array.replicate 124 none
  statics := none }

def pool1 : Array CpInfo := pool [(2, .class_ 4), (1, u "java/lang/Object"), (0, u "<init>"), (0, u "()V"), (0, .long 4294967295), (1, .methodref 10 11), (0, .class_ 12), (0, .nameAndType 13 14), (0, u "com/example/pulseline/pulseline/NtpTimestamp"), (0, u "toEpochMicros"), (0, u "(J)J"), (0, .long 4294967296), (1, .long 1000000), (1, .long 2147483648), (1, .long 2208988800), (1, .class_ 24), (0, u "com/example/pulseline/pulseline/NtpTimestampToEpochMicrosPinLaw"), (2, u "law"), (0, u "(II)Z")] 3

def k1m0 : Method := { name := "<init>", desc := "()V", sig := { parameters := [], returnType := none }, accessFlags := 1, code := none }
def k1c1 : Code := { maxStack := 6, maxLocals := 20, code := code, exceptionTable := #[], attributes := #[] }
def k1m1 : Method := { name := "law", desc := "(II)Z", sig := { parameters := [.int, .int], returnType := some .boolean }, accessFlags := 9, code := some k1c1 }
/-- com/example/pulseline/pulseline/NtpTimestampToEpochMicrosPinLaw -/
def k1 : Class := { plain "com/example/pulseline/pulseline/NtpTimestampToEpochMicrosPinLaw" (some 0) with
  accessFlags := 49
  interfaces := #[]
  cf := some (fileOf pool1 23 #[] #[{ accessFlags := 1, nameIndex := 5, descriptorIndex := 6, attributes := #[] }, { accessFlags := 9, nameIndex := 27, descriptorIndex := 28, attributes := #[] }] 49 2 #[] #[])
  fields := #[]
  methods := #[k1m0, k1m1]
  instanceTypes := #[]
  staticTypes := #[]
  resolved := Array.replicate 32 none
  statics := none }

def pool2 : Array CpInfo := pool [(2, .class_ 4), (1, u "java/lang/Object"), (0, u "<init>"), (0, u "()V"), (0, .class_ 8), (0, u "com/example/pulseline/pulseline/NtpTimestamp"), (0, .long 1000000), (10, .long 2208988800), (1, .long 2147483648), (1, .long 4294967296), (1, .long 4294967295), (1, u "UNIX_EPOCH_IN_NTP_SECONDS"), (0, u "J"), (1, u "ERA_SECONDS"), (0, u "LOW_32_BITS"), (0, u "MICROS_PER_SECOND"), (3, u "(J)J"), (0, u "toEpochMicros")] 3

def k2m0 : Method := { name := "<init>", desc := "()V", sig := { parameters := [], returnType := none }, accessFlags := 2, code := none }
def k2c1 : Code := { maxStack := 4, maxLocals := 8, code := prog_14_method_3_code, exceptionTable := #[], attributes := #[] }
def k2m1 : Method := { name := "toEpochMicros", desc := "(J)J", sig := { parameters := [.long], returnType := some .long }, accessFlags := 8, code := some k2c1 }
/-- com/example/pulseline/pulseline/NtpTimestamp -/
def k2 : Class := { plain "com/example/pulseline/pulseline/NtpTimestamp" (some 0) with
  accessFlags := 48
  interfaces := #[]
  cf := some (fileOf pool2 7 #[] #[{ accessFlags := 2, nameIndex := 5, descriptorIndex := 6, attributes := #[] }, { accessFlags := 8, nameIndex := 38, descriptorIndex := 37, attributes := #[] }] 48 2 #[] #[{ accessFlags := 26, nameIndex := 28, descriptorIndex := 29, attributes := #[] }, { accessFlags := 26, nameIndex := 31, descriptorIndex := 29, attributes := #[] }, { accessFlags := 26, nameIndex := 32, descriptorIndex := 29, attributes := #[] }, { accessFlags := 26, nameIndex := 33, descriptorIndex := 29, attributes := #[] }])
  fields := #[{ name := "UNIX_EPOCH_IN_NTP_SECONDS", type := .long, accessFlags := 26, slot := 0, constantValue := 0 }, { name := "ERA_SECONDS", type := .long, accessFlags := 26, slot := 1, constantValue := 0 }, { name := "LOW_32_BITS", type := .long, accessFlags := 26, slot := 2, constantValue := 0 }, { name := "MICROS_PER_SECOND", type := .long, accessFlags := 26, slot := 3, constantValue := 0 }]
  methods := #[k2m0, k2m1]
  instanceTypes := #[]
  staticTypes := #[.long, .long, .long, .long]
  resolved := Array.replicate 42 none
  statics := none }

def pool3 : Array CpInfo := pool [(1, u "java/lang/Cloneable"), (0, .class_ 1), (0, u "java/lang/Object"), (0, .class_ 3)] 3

/-- java/lang/Cloneable -/
def k3 : Class := { plain "java/lang/Cloneable" (some 0) with
  accessFlags := 1537
  interfaces := #[]
  cf := some (fileOf pool3 2 #[] #[] 1537 4 #[] #[])
  fields := #[]
  methods := #[]
  instanceTypes := #[]
  staticTypes := #[]
  resolved := Array.replicate 8 none
  statics := none }

def pool4 : Array CpInfo := pool [(1, u "java/io/Serializable"), (0, .class_ 1), (0, u "java/lang/Object"), (0, .class_ 3)] 3

/-- java/io/Serializable -/
def k4 : Class := { plain "java/io/Serializable" (some 0) with
  accessFlags := 1537
  interfaces := #[]
  cf := some (fileOf pool4 2 #[] #[] 1537 4 #[] #[])
  fields := #[]
  methods := #[]
  instanceTypes := #[]
  staticTypes := #[]
  resolved := Array.replicate 8 none
  statics := none }

/-- the primitive byte -/
def k5 : Class := { plain "byte" none with kind := .primitive 'B', accessFlags := 0x411 }
/-- [B -/
def k6 : Class := { plain "[B" (some 0) with kind := .array 5 .byte, interfaces := #[3, 4], accessFlags := 1041 }

/-- the primitive int -/
def k7 : Class := { plain "int" none with kind := .primitive 'I', accessFlags := 0x411 }
/-- [I -/
def k8 : Class := { plain "[I" (some 0) with kind := .array 7 .int, interfaces := #[3, 4], accessFlags := 1041 }

def heap : Heap := #[]
def classes : Array Class := #[k0, k1, k2, k3, k4, k5, k6, k7, k8]
def interned : List (Array UInt16 × Addr) := []
def slotsUsed : Nat := 0
def theMethod : MethodId := ⟨1, 1⟩
def args0 : Array Value := #[.int 5, .int 300]
def aboutOver (below : List Frame) : State where
  vm := { classes := classes, interned := interned.toArray }
  heap := heap
  slotsUsed := slotsUsed
  threads := #[{ frames := .invoking theMethod args0 :: below }]
def below0 : List Frame := [.native { method := ⟨0, 0⟩, args := #[] }]
def about1 : State := aboutOver below0
def p0 : Program := .bare "" "" ""
def e0 : Env := launch0.env 0 0 0
theorem w_frames : about1.frames = Frame.invoking theMethod args0 :: below0 := rfl
set_option maxRecDepth 65536 in
theorem w_args : argsFit about1.vm theMethod args0 = true := by decide +kernel
set_option maxRecDepth 65536 in
theorem w_heap : heapFits about1 = true := by decide +kernel
set_option maxRecDepth 65536 in
theorem w_runnable : about1.curStatus? = some .runnable := by decide +kernel
set_option maxRecDepth 65536 in
theorem w_alone : about1.alone = true := by decide +kernel
set_option maxRecDepth 65536 in
theorem w_named : about1.methodNamed? x = some theMethod := by decide +kernel
set_option maxRecDepth 65536 in
theorem w_hears : about1.hears theMethod below0 = true := by decide +kernel
set_option maxRecDepth 65536 in
theorem w_ripe : about1.ripe theMethod args0 below0 = true := by decide +kernel
theorem w_running : about1.status = .running := rfl
set_option maxRecDepth 65536 in
theorem w_room : about1.hasRoom e0.platform room_1 = true :=
  launch0.hasRoom_least _ room_1 (by decide +kernel) (by decide +kernel) (by decide +kernel) (by decide +kernel) (by decide +kernel) (by decide +kernel)
theorem allAtoms_all (ts : List Jvm.Cond) (a : Array Jvm.Value) (st : Jvm.State) : (allAtoms ts).before a st = ts.all (fun c => c.before a st) := by
  induction ts with
  | nil => rfl
  | cons c t ih =>
    show (Jvm.Cond.and c (allAtoms t)).before a st = _
    rw [Jvm.Cond.before_and, ih, List.all_cons]
def words1 : List Jvm.Cond := Jvm.Cond.code x code maxLocals ret :: tables_1
/-- a 'code' word, met by the world's own term for the bytes: nothing is compared byte by byte -/
theorem code_word {y : MethodName} {bytes : ByteArray} {mx : Nat} {rt : Option FieldType} {a : Array Value} {s : State} {m : MethodId} {meth : Method} {c : Code} (h1 : s.methodNamed? y = some m) (h2 : s.vm.method? m = some meth) (h3 : meth.code = some c) (h4 : c.code = bytes)
    (h5 : (c.maxLocals == mx && c.exceptionTable.isEmpty && decide (c.maxStack ≤ mostOperands) && decide (meth.sig.returnType = rt) && !meth.locks && decide (parseMethodDescriptor y.desc = some meth.sig)) = true) : (Jvm.Cond.code y bytes mx rt).before a s = true := by
  simp only [Bool.and_eq_true, beq_iff_eq, Bool.not_eq_true', decide_eq_true_eq] at h5
  obtain ⟨⟨⟨⟨⟨g1, g2⟩, g3⟩, g4⟩, g5⟩, g6⟩ := h5
  simp [Cond.before, Cond.holds, Cond.value, h1, h2, h3, h4, g1, g2, g3, g4, g5, g6]
def isCode : Jvm.Cond → Bool
  | .code _ _ _ _ => true
  | _ => false
theorem all_split {L : List Jvm.Cond} {P : Jvm.Cond → Bool} (h1 : L.all (fun c => isCode c || P c) = true) (h2 : ∀ c ∈ L.filter isCode, P c = true) : L.all P = true := by
  refine List.all_eq_true.mpr fun c hc => ?_
  have h := List.all_eq_true.mp h1 c hc
  rcases Bool.eq_false_or_eq_true (isCode c) with hi | hi
  · exact h2 c (List.mem_filter.mpr ⟨hc, hi⟩)
  · simpa [hi] using h
set_option maxRecDepth 65536 in
theorem w_c0 : (Jvm.Cond.code x code maxLocals ret).before args0 about1 = true := code_word (m := ⟨1, 1⟩) (meth := k1m1) (c := k1c1) (by decide +kernel) rfl rfl rfl (by decide +kernel)
set_option maxRecDepth 65536 in
theorem w_c1 : (Jvm.Cond.code ({ cls := "com/example/pulseline/pulseline/NtpTimestamp", name := "toEpochMicros", desc := "(J)J" } : Jvm.MethodName) prog_14_method_3_code (8 : Nat) (Option.some Jvm.ClassFile.FieldType.long)).before args0 about1 = true := code_word (m := ⟨2, 1⟩) (meth := k2m1) (c := k2c1) (by decide +kernel) rfl rfl rfl (by decide +kernel)
def codes1 : List Jvm.Cond := [Jvm.Cond.code x code maxLocals ret, Jvm.Cond.code ({ cls := "com/example/pulseline/pulseline/NtpTimestamp", name := "toEpochMicros", desc := "(J)J" } : Jvm.MethodName) prog_14_method_3_code (8 : Nat) (Option.some Jvm.ClassFile.FieldType.long)]
set_option maxRecDepth 65536 in
theorem codes_eq : words1.filter isCode = codes1 := rfl
theorem w_codes : ∀ c ∈ words1.filter isCode, c.before args0 about1 = true := by
  rw [codes_eq]
  intro c hc
  simp only [codes1, List.mem_cons, List.not_mem_nil, or_false] at hc
  rcases hc with rfl | rfl
  · exact w_c0
  · exact w_c1
set_option maxRecDepth 65536 in
theorem w_t1 : words1.all (fun c => isCode c || c.before args0 about1) = true := by decide +kernel
theorem w_tables : (allAtoms (Jvm.Cond.code x code maxLocals ret :: tables_1)).before args0 about1 = true := by
  rw [allAtoms_all]
  show words1.all (fun c => c.before args0 about1) = true
  refine all_split ?_ w_codes
  rw [w_t1]
set_option maxRecDepth 65536 in
theorem w_case : (Jvm.Cond.and given_1 narrow_1).before args0 about1 = true := by decide +kernel
theorem w_applies : (headSpec (Jvm.Cond.code x code maxLocals ret :: tables_1) room_1).applies x e0.platform about1 = true :=
  (Spec.applies_iff w_frames).mpr ⟨w_running, w_runnable, w_alone, w_named, w_hears, w_ripe, w_room, w_tables⟩
theorem atStart : AtStart classFile x code maxLocals ret World_1 tables_1 room_1 Calls_1 rest_1 Pre_1 launch0 p0 e0 about1 theMethod args0 below0 :=
  ⟨lists_1, trivial, launch0.admits_env _ _ _, launch0.least_env, fairChoices_fair.cas, fairChoices_fair.clock, w_frames, w_args, w_heap, w_applies, trivial, trivial, w_case⟩
end start1
theorem witness_1 : WitnessClaimed_1 := ⟨start1.p0, start1.e0, start1.about1, start1.theMethod, start1.args0, start1.below0, start1.atStart⟩
end Jvm.Pilot.@@N@@
