import JvmDerived
import JvmDerived.Pilot.@@N@@Statement
import JvmDerived.Pilot.@@N@@Code
set_option linter.unusedVariables false
set_option linter.unusedSimpArgs false
@@BLOCK:NumsL.lean.txt@@
namespace Jvm.RoadKit
open Sem ClassFile Op Lib Jvm.Stand Jvm.Free Jvm.LawKit
section New
variable {p : Program} {l : Launch} {e : Env} {R : Room} {s : State} {m : MethodId} {args : Array Value} {below : List Frame} {meth : Method} {c : Code} {T : State} {locs : List Loc} {cells slots : Nat}
theorem retI (X : Stand p l e R s m args below meth c T locs cells slots) (hx : p.tables.exec = Jvm.exec) {pc : Nat} {Ls : Array Slot} {z : Int32} {rest : List Value} (hret : meth.sig.returnType = some .int) (hd : decode c.code pc = .ok (.ireturn, 1)) {fs : List Frame}
    (hl : ∀ (f : JFrame) (acts : List Action), f.method = m → f.locked = none → f.entered = [] → (doReturn e (T.setTop f) acts (some (.int z))).1 = T.setFrames fs) : Steps p.tables e below (T.setTop (mkF m pc Ls (.int z :: rest))) (T.setFrames fs) := by
  have hm' : T.vm.method? m = some meth := X.method'
  have hn : narrow .int (.int z) = .int z := rfl
  show Steps p.tables e below (T.setTop { method := m, pc := pc, locals := Ls, stack := _ :: rest, locked := none }) _
  jvm_step X.here [X.here.top, hx, hd, hm', hret, hn]
  first | (intro acts; rw [hl _ acts rfl rfl rfl]) | rw [hl _ _ rfl rfl rfl]
  exact Steps.refl _
end New
end Jvm.RoadKit
namespace Jvm.Pilot.@@N@@
open Jvm Jvm.ClassFile Sem Op Lib Jvm.Free Jvm.Stand Jvm.LawKit Jvm.RoadKit Bundle Jvm.Pilot.@@N@@.Jvm.D
theorem own_nt {b : Bool} (h : b = false) : ¬ b = true := fun q => by rw [h] at q; cases q
theorem own_ts_ne {α : Type} {o : Option α} {a b : α} (h : o = some b) (ne : b ≠ a) : ¬ o = some a := fun q => ne (Option.some.inj (h.symm.trans q))
/-- what lcmp pushes; Java's shifts and the remainder of longs -/
def own_cmp (x y : Int64) : Int32 := lcmpW x y
def own_iushr (x y : Int32) : Int32 := (x.toUInt32 >>> (y &&& 31).toUInt32).toInt32
def own_lushr (x : Int64) (y : Int32) : Int64 := (x.toUInt64 >>> (y &&& 0x3f).toInt64.toUInt64).toInt64
def own_lshl (x : Int64) (y : Int32) : Int64 := x <<< (y &&& 0x3f).toInt64
def own_lshr (x : Int64) (y : Int32) : Int64 := x >>> (y &&& 0x3f).toInt64
def own_lrem (x y : Int64) : Int64 := x - (x / y) * y
theorem own_xlcmp {tb : Tables} [Ours tb] {e : Env} {below : List Frame} {T target : State} {m : MethodId} {c : Code} {g : JFrame} (h : At T m c below) (hx : tb.exec = Jvm.exec) (hg : g.method = m) {x : Int64} {y : Int64} {rest : List Value} (hd : decode c.code g.pc = .ok (.lcmp, 1)) (hs : g.stack = .long y :: .long x :: rest) (hr : Steps tb e below (T.setTop { g with pc := g.pc + 1, stack := .int (own_cmp x y) :: rest }) target) : Steps tb e below (T.setTop g) target := XS.lcmp h hx hg hd hs hr
theorem own_xiushr {tb : Tables} [Ours tb] {e : Env} {below : List Frame} {T target : State} {m : MethodId} {c : Code} {g : JFrame} (h : At T m c below) (hx : tb.exec = Jvm.exec) (hg : g.method = m) {x : Int32} {y : Int32} {rest : List Value} (hd : decode c.code g.pc = .ok (.iushr, 1)) (hs : g.stack = .int y :: .int x :: rest) (hr : Steps tb e below (T.setTop { g with pc := g.pc + 1, stack := .int (own_iushr x y) :: rest }) target) : Steps tb e below (T.setTop g) target := XS.iushr h hx hg hd hs hr
theorem own_xlushr {tb : Tables} [Ours tb] {e : Env} {below : List Frame} {T target : State} {m : MethodId} {c : Code} {g : JFrame} (h : At T m c below) (hx : tb.exec = Jvm.exec) (hg : g.method = m) {x : Int64} {y : Int32} {rest : List Value} (hd : decode c.code g.pc = .ok (.lushr, 1)) (hs : g.stack = .int y :: .long x :: rest) (hr : Steps tb e below (T.setTop { g with pc := g.pc + 1, stack := .long (own_lushr x y) :: rest }) target) : Steps tb e below (T.setTop g) target := XS.lushr h hx hg hd hs hr
theorem own_xlshl {tb : Tables} [Ours tb] {e : Env} {below : List Frame} {T target : State} {m : MethodId} {c : Code} {g : JFrame} (h : At T m c below) (hx : tb.exec = Jvm.exec) (hg : g.method = m) {x : Int64} {y : Int32} {rest : List Value} (hd : decode c.code g.pc = .ok (.lshl, 1)) (hs : g.stack = .int y :: .long x :: rest) (hr : Steps tb e below (T.setTop { g with pc := g.pc + 1, stack := .long (own_lshl x y) :: rest }) target) : Steps tb e below (T.setTop g) target := XS.lshl h hx hg hd hs hr
theorem own_xlshr {tb : Tables} [Ours tb] {e : Env} {below : List Frame} {T target : State} {m : MethodId} {c : Code} {g : JFrame} (h : At T m c below) (hx : tb.exec = Jvm.exec) (hg : g.method = m) {x : Int64} {y : Int32} {rest : List Value} (hd : decode c.code g.pc = .ok (.lshr, 1)) (hs : g.stack = .int y :: .long x :: rest) (hr : Steps tb e below (T.setTop { g with pc := g.pc + 1, stack := .long (own_lshr x y) :: rest }) target) : Steps tb e below (T.setTop g) target := XS.lshr h hx hg hd hs hr
theorem own_xlrem {tb : Tables} [Ours tb] {e : Env} {below : List Frame} {T target : State} {m : MethodId} {c : Code} {g : JFrame} (h : At T m c below) (hx : tb.exec = Jvm.exec) (hg : g.method = m) {x : Int64} {y : Int64} {rest : List Value} (hd : decode c.code g.pc = .ok (.lrem, 1)) (hs : g.stack = .long y :: .long x :: rest) (hy : y ≠ 0) (hr : Steps tb e below (T.setTop { g with pc := g.pc + 1, stack := .long (own_lrem x y) :: rest }) target) : Steps tb e below (T.setTop g) target := XS.lrem h hx hg hd hs hy hr
theorem own_ieq (x y : Int32) : (if_icmp.holds .eq x y = true) = (x.toInt = y.toInt) := by
  rw [show if_icmp.holds .eq x y = (x == y) from rfl, beq_iff_eq, Int32.toInt_inj]
theorem own_ine (x y : Int32) : (if_icmp.holds .ne x y = true) = (x.toInt ≠ y.toInt) := by
  rw [show if_icmp.holds .ne x y = (x != y) from rfl, bne_iff_ne, ne_eq, ne_eq, Int32.toInt_inj]
theorem own_ilt (x y : Int32) : (if_icmp.holds .lt x y = true) = (x.toInt < y.toInt) := by
  rw [show if_icmp.holds .lt x y = decide (x < y) from rfl, decide_eq_true_eq, Int32.lt_iff_toInt_lt]
theorem own_ige (x y : Int32) : (if_icmp.holds .ge x y = true) = (y.toInt ≤ x.toInt) := by
  rw [show if_icmp.holds .ge x y = decide (y ≤ x) from rfl, decide_eq_true_eq, Int32.le_iff_toInt_le]
theorem own_igt (x y : Int32) : (if_icmp.holds .gt x y = true) = (y.toInt < x.toInt) := by
  rw [show if_icmp.holds .gt x y = decide (y < x) from rfl, decide_eq_true_eq, Int32.lt_iff_toInt_lt]
theorem own_ile (x y : Int32) : (if_icmp.holds .le x y = true) = (x.toInt ≤ y.toInt) := by
  rw [show if_icmp.holds .le x y = decide (x ≤ y) from rfl, decide_eq_true_eq, Int32.le_iff_toInt_le]
theorem own_z32 : (0 : Int32).toInt = 0 := rfl
theorem own_eq0 (x : Int32) : (ifCond.holds .eq x = true) = (x.toInt = 0) := by rw [if0, own_ieq, own_z32]
theorem own_ne0 (x : Int32) : (ifCond.holds .ne x = true) = (x.toInt ≠ 0) := by rw [if0, own_ine, own_z32]
theorem own_lt0 (x : Int32) : (ifCond.holds .lt x = true) = (x.toInt < 0) := by rw [if0, own_ilt, own_z32]
theorem own_ge0 (x : Int32) : (ifCond.holds .ge x = true) = (0 ≤ x.toInt) := by rw [if0, own_ige, own_z32]
theorem own_gt0 (x : Int32) : (ifCond.holds .gt x = true) = (0 < x.toInt) := by rw [if0, own_igt, own_z32]
theorem own_le0 (x : Int32) : (ifCond.holds .le x = true) = (x.toInt ≤ 0) := by rw [if0, own_ile, own_z32]
theorem own_cmp3 (x y : Int64) : (x.toInt < y.toInt ∧ (own_cmp x y).toInt = -1) ∨ (x.toInt = y.toInt ∧ (own_cmp x y).toInt = 0) ∨ (y.toInt < x.toInt ∧ (own_cmp x y).toInt = 1) := by
  obtain ⟨h1, h2, h3⟩ := c_lcmp x y
  have e : own_cmp x y = lcmpW x y := rfl
  rw [e]
  rcases Int.lt_trichotomy x.toInt y.toInt with h | h | h
  · exact Or.inl ⟨h, h1 h⟩
  · exact Or.inr (Or.inl ⟨h, h2 h⟩)
  · exact Or.inr (Or.inr ⟨h, h3 h⟩)
theorem own_ceq (x y : Int64) : (ifCond.holds .eq (own_cmp x y) = true) = (x.toInt = y.toInt) := by
  rw [own_eq0]; have := own_cmp3 x y; exact propext ⟨fun h => by omega, fun h => by omega⟩
theorem own_cne (x y : Int64) : (ifCond.holds .ne (own_cmp x y) = true) = (x.toInt ≠ y.toInt) := by
  rw [own_ne0]; have := own_cmp3 x y; exact propext ⟨fun h => by omega, fun h => by omega⟩
theorem own_clt (x y : Int64) : (ifCond.holds .lt (own_cmp x y) = true) = (x.toInt < y.toInt) := by
  rw [own_lt0]; have := own_cmp3 x y; exact propext ⟨fun h => by omega, fun h => by omega⟩
theorem own_cge (x y : Int64) : (ifCond.holds .ge (own_cmp x y) = true) = (y.toInt ≤ x.toInt) := by
  rw [own_ge0]; have := own_cmp3 x y; exact propext ⟨fun h => by omega, fun h => by omega⟩
theorem own_cgt (x y : Int64) : (ifCond.holds .gt (own_cmp x y) = true) = (y.toInt < x.toInt) := by
  rw [own_gt0]; have := own_cmp3 x y; exact propext ⟨fun h => by omega, fun h => by omega⟩
theorem own_cle (x y : Int64) : (ifCond.holds .le (own_cmp x y) = true) = (x.toInt ≤ y.toInt) := by
  rw [own_le0]; have := own_cmp3 x y; exact propext ⟨fun h => by omega, fun h => by omega⟩
theorem own_nar1 {x : Int32} (h : x = 1) : nar .boolean x = 1 := by rw [h]; rfl
theorem own_nar0 {x : Int32} (h : x = 0) : nar .boolean x = 0 := by rw [h]; rfl
/-- the last row of a law: a comparison that isn't met gives 0, else 1 -/
theorem own_last {c : Prop} [Decidable c] (h : ¬ c) : nar .boolean (if c then (0 : Int32) else 1) = 1 := by rw [if_neg h]; rfl
theorem own_n32 (x : Int32) : (x.toBitVec.toNat : Int) = x.toInt % 4294967296 := by
  have h := x.toBitVec.isLt
  show _ = x.toBitVec.toInt % _
  rw [BitVec.toInt_eq_toNat_cond]
  split <;> omega
theorem own_n64 (x : Int64) : (x.toBitVec.toNat : Int) = x.toInt % 18446744073709551616 := by
  have h := x.toBitVec.isLt
  show _ = x.toBitVec.toInt % _
  rw [BitVec.toInt_eq_toNat_cond]
  split <;> omega
theorem own_iushr_nat (x y : Int32) : (own_iushr x y).toBitVec.toNat = x.toBitVec.toNat / 2 ^ (y.toBitVec.toNat % 32) := by
  have h1 : (y &&& 31).toBitVec.toNat = y.toBitVec.toNat % 32 := by
    show (y.toBitVec &&& (31 : Int32).toBitVec).toNat = _
    rw [BitVec.toNat_and, show (31 : Int32).toBitVec.toNat = 2 ^ 5 - 1 from by decide, Nat.and_two_pow_sub_one_eq_mod]
  show (x.toBitVec >>> ((y &&& 31).toBitVec % 32)).toNat = _
  rw [BitVec.ushiftRight_eq', BitVec.toNat_ushiftRight, Nat.shiftRight_eq_div_pow, BitVec.toNat_umod, h1, show (32 : BitVec 32).toNat = 32 from rfl, Nat.mod_mod]
theorem own_lushr_nat (x : Int64) (y : Int32) : (own_lushr x y).toBitVec.toNat = x.toBitVec.toNat / 2 ^ (y.toBitVec.toNat % 64) := by
  obtain ⟨h1, h2⟩ := sm64 y _ rfl
  show (x.toBitVec >>> ((y &&& 0x3f).toInt64.toBitVec % 64)).toNat = _
  rw [BitVec.ushiftRight_eq', BitVec.toNat_ushiftRight, Nat.shiftRight_eq_div_pow, BitVec.toNat_umod, h1, BitVec.toNat_ofNat]
  congr 2
  show y.toBitVec.toNat % 64 % 2 ^ 64 % 64 = _
  omega
theorem own_iushr_nn (x y : Int32) (h : 0 ≤ x.toInt) : 0 ≤ (own_iushr x y).toInt ∧ (own_iushr x y).toInt ≤ x.toInt := by
  have a := own_iushr_nat x y
  have b := Nat.div_le_self x.toBitVec.toNat (2 ^ (y.toBitVec.toNat % 32))
  have c := own_n32 x
  have d := own_n32 (own_iushr x y)
  have r := rng32 x
  have r2 := rng32 (own_iushr x y)
  omega
theorem own_lushr_nn (x : Int64) (y : Int32) (h : 0 ≤ x.toInt) : 0 ≤ (own_lushr x y).toInt ∧ (own_lushr x y).toInt ≤ x.toInt := by
  have a := own_lushr_nat x y
  have b := Nat.div_le_self x.toBitVec.toNat (2 ^ (y.toBitVec.toNat % 64))
  have c := own_n64 x
  have d := own_n64 (own_lushr x y)
  have r := rng64 x
  have r2 := rng64 (own_lushr x y)
  omega
theorem own_ff {b : Bool} (h : ¬ b = true) : b = false := by cases b <;> first | rfl | exact absurd rfl h
theorem own_clt_f {x y : Int64} (h : ¬ x.toInt < y.toInt) : ifCond.holds .lt (own_cmp x y) = false := own_ff fun q => h ((own_clt x y).mp q)
theorem own_nz {x : Int64} (h : (0 : Int64).toInt < x.toInt) : x ≠ 0 := fun q => by rw [q] at h; exact absurd h (Int.lt_irrefl _)
theorem own_max (x : Int64) : x.toInt ≤ (9223372036854775807 : Int64).toInt := by
  have r := rng64 x
  have e : (9223372036854775807 : Int64).toInt = 9223372036854775807 := rfl
  omega
theorem own_addE {x y : Int64} {a b : Int} (hx : x.toInt = a) (hy : y.toInt = b) (h : -9223372036854775808 ≤ a + b ∧ a + b < 9223372036854775808) : (x + y).toInt = a + b := by subst hx hy; exact Kit.i64_add (by omega) (by omega)
theorem own_subE {x y : Int64} {a b : Int} (hx : x.toInt = a) (hy : y.toInt = b) (h : -9223372036854775808 ≤ a - b ∧ a - b < 9223372036854775808) : (x - y).toInt = a - b := by subst hx hy; exact Kit.i64_sub (by omega) (by omega)
theorem own_mulE {x y : Int64} {a b : Int} (hx : x.toInt = a) (hy : y.toInt = b) (h : -9223372036854775808 ≤ a * b ∧ a * b < 9223372036854775808) : (x * y).toInt = a * b := by subst hx hy; exact Kit.i64_mul (by omega) (by omega)
theorem own_i2lE {x : Int32} {a : Int} (hx : x.toInt = a) : x.toInt64.toInt = a := (c_i2l x).trans hx
theorem own_l2iE {x : Int64} {a : Int} (hx : x.toInt = a) (h : -2147483648 ≤ a ∧ a < 2147483648) : x.toInt32.toInt = a := by subst hx; exact Kit.i32_of_i64 (by omega) (by omega)
theorem own_iaddE {x y : Int32} {a b : Int} (hx : x.toInt = a) (hy : y.toInt = b) (h : -2147483648 ≤ a + b ∧ a + b < 2147483648) : (x + y).toInt = a + b := by subst hx hy; exact Kit.i32_add (by omega) (by omega)
theorem own_isubE {x y : Int32} {a b : Int} (hx : x.toInt = a) (hy : y.toInt = b) (h : -2147483648 ≤ a - b ∧ a - b < 2147483648) : (x - y).toInt = a - b := by subst hx hy; exact Kit.i32_sub (by omega) (by omega)
theorem own_divE {x y : Int64} {a b : Int} (hx : x.toInt = a) (hy : y.toInt = b) (h : 0 ≤ a) (hb : 0 < b) : (x / y).toInt = a / b := by
  subst hx hy
  exact (c_ldiv x y y.toInt rfl (fun q => by rw [q] at hb; exact absurd hb (by decide))).1 h
theorem own_remE {x y : Int64} {a b : Int} (hx : x.toInt = a) (hy : y.toInt = b) (h : 0 ≤ a) : (own_lrem x y).toInt = a % b := by
  subst hx hy
  exact (c_lrem x y y.toInt rfl).1 h
theorem own_ushrE {x : Int64} {a : Int} (q : Int32) (k : Nat) (P : Int) (hx : x.toInt = a) (hk : q.toBitVec.toNat % 64 = k) (h0 : 0 < k) (hP : ((2 ^ k : Nat) : Int) = P) : (own_lushr x q).toInt = a % 18446744073709551616 / P := by
  subst hx hP
  exact c_lushr x q k hk h0
theorem own_shrE {x : Int64} {a : Int} (q : Int32) (k : Nat) (P : Int) (hx : x.toInt = a) (hk : q.toBitVec.toNat % 64 = k) (hP : ((2 ^ k : Nat) : Int) = P) : (own_lshr x q).toInt = a / P := by
  subst hx hP
  exact c_lshr x q k hk
theorem own_addM (x y : Int64) : (x + y).toInt % 18446744073709551616 = (x.toInt + y.toInt) % 18446744073709551616 := by have := c_ladd x y; omega
theorem own_subM (x y : Int64) : (x - y).toInt % 18446744073709551616 = (x.toInt - y.toInt) % 18446744073709551616 := by have := c_lsub x y; omega
theorem own_mulM (x y : Int64) : (x * y).toInt % 18446744073709551616 = (x.toInt * y.toInt) % 18446744073709551616 := by have := c_lmul x y; omega
theorem own_am (a y z : Int) (h : y % 18446744073709551616 = z % 18446744073709551616) : (a + y) % 18446744073709551616 = (a + z) % 18446744073709551616 := by omega
theorem own_sm (a y z : Int) (h : y % 18446744073709551616 = z % 18446744073709551616) : (a - y) % 18446744073709551616 = (a - z) % 18446744073709551616 := by omega
theorem own_me (b c : Int) (hb : -9223372036854775808 ≤ b ∧ b < 9223372036854775808) (hc : -9223372036854775808 ≤ c ∧ c < 9223372036854775808) (h : b % 18446744073709551616 = c % 18446744073709551616) : b = c := by omega
theorem own_dm (r T R : Int) (h : r % 18446744073709551616 = R) (hT : 0 ≤ T ∧ T ≤ R) : (r - T) % 18446744073709551616 = R - T := by omega

-- body 3: dev/stratumaudio/SideInformation$Granule.<init>:()V
theorem d3_0 : decode prog_82_method_1_code 0 = .ok (.aload_n 0, 1) := by decide +kernel
theorem d3_1 : decode prog_82_method_1_code 1 = .ok (.invokespecial 1, 3) := by decide +kernel
theorem d3_4 : decode prog_82_method_1_code 4 = .ok (.aload_n 0, 1) := by decide +kernel
theorem d3_5 : decode prog_82_method_1_code 5 = .ok (.iconst 3, 1) := by decide +kernel
theorem d3_6 : decode prog_82_method_1_code 6 = .ok (.newarray .int, 2) := by decide +kernel
theorem d3_8 : decode prog_82_method_1_code 8 = .ok (.putfield 7, 3) := by decide +kernel
theorem d3_11 : decode prog_82_method_1_code 11 = .ok (.aload_n 0, 1) := by decide +kernel
theorem d3_12 : decode prog_82_method_1_code 12 = .ok (.iconst 3, 1) := by decide +kernel
theorem d3_13 : decode prog_82_method_1_code 13 = .ok (.newarray .int, 2) := by decide +kernel
theorem d3_15 : decode prog_82_method_1_code 15 = .ok (.putfield 13, 3) := by decide +kernel
theorem d3_18 : decode prog_82_method_1_code 18 = .ok (.return_, 1) := by decide +kernel
theorem pn_0 : plainName "dev/stratumaudio/SideInformation$Granule" = true := by first | (simp [plainName, overriddenIn]; done) | decide +kernel
theorem ef_3 (m : MethodId) (x0 : Addr) : entryFrame m #[(.ref x0)] 1 = mkF m 0 #[.val (.ref x0)] [] := by first | (simp [entryFrame, mkF, argsToLocals, Value.category]; done) | rfl
def Q3 (Z : State) (x0 : Addr) (u_part23Length_x0 : Value) (u_bigValues_x0 : Value) (u_region0Count_x0 : Value) (u_region1Count_x0 : Value) (u_tableSelect_x0 : Value) (u_subblockGain_x0 : Value) (h0 : Heap) (n0 : Nat) (v : Option Value) (h : Heap) (L : List Loc) : Prop := v = none ∧ Fr n0 L ∧ Keep h0 h [x0] ∧ Fld Z h x0 "dev/stratumaudio/SideInformation$Granule" "part23Length" "I" u_part23Length_x0 ∧ Fld Z h x0 "dev/stratumaudio/SideInformation$Granule" "bigValues" "I" u_bigValues_x0 ∧ Fld Z h x0 "dev/stratumaudio/SideInformation$Granule" "region0Count" "I" u_region0Count_x0 ∧ Fld Z h x0 "dev/stratumaudio/SideInformation$Granule" "region1Count" "I" u_region1Count_x0 ∧ Exa Z h x0 "dev/stratumaudio/SideInformation$Granule"
set_option maxRecDepth 65536 in
set_option maxHeartbeats 40000000 in
theorem rm3 (l : Launch) (Z : State) (a0 : Array Value) (hw : ∀ d ∈ tables_1, d.before a0 Z = true) (ws : List Jvm.Cond) (x0 : Addr) (u_part23Length_x0 : Value) (u_bigValues_x0 : Value) (u_region0Count_x0 : Value) (u_region1Count_x0 : Value) (u_tableSelect_x0 : Value) (u_subblockGain_x0 : Value) (h0 : Heap) (n0 : Nat) (Z0 : n0 ≤ h0.size) (F_x0_part23Length : Fld Z h0 x0 "dev/stratumaudio/SideInformation$Granule" "part23Length" "I" u_part23Length_x0) (F_x0_bigValues : Fld Z h0 x0 "dev/stratumaudio/SideInformation$Granule" "bigValues" "I" u_bigValues_x0) (F_x0_region0Count : Fld Z h0 x0 "dev/stratumaudio/SideInformation$Granule" "region0Count" "I" u_region0Count_x0) (F_x0_region1Count : Fld Z h0 x0 "dev/stratumaudio/SideInformation$Granule" "region1Count" "I" u_region1Count_x0) (E_x0 : Exa Z h0 x0 "dev/stratumaudio/SideInformation$Granule") (g_x0 : n0 ≤ x0) (F_x0_tableSelect : Fld Z h0 x0 "dev/stratumaudio/SideInformation$Granule" "tableSelect" "[I" u_tableSelect_x0) (F_x0_subblockGain : Fld Z h0 x0 "dev/stratumaudio/SideInformation$Granule" "subblockGain" "[I" u_subblockGain_x0) :
    MetFree l (⟨"dev/stratumaudio/SideInformation$Granule", "<init>", "()V"⟩ : MethodName) (head1 (Jvm.Cond.code (⟨"dev/stratumaudio/SideInformation$Granule", "<init>", "()V"⟩ : MethodName) prog_82_method_1_code 1 (none) :: ws) ({ frames := 1, cells := 2, slots := 6, locals := 12 } : Room)) (fun a U => a = #[(.ref x0)] ∧ Z.Warmed39 U.vm ∧ U.heap = h0) (fun _ _ _ _ _ => True) (fun _ U o U' => ∃ v L, o = .returned v ∧ Q3 Z x0 u_part23Length_x0 u_bigValues_x0 u_region0Count_x0 u_region1Count_x0 u_tableSelect_x0 u_subblockGain_x0 h0 n0 v U'.heap L ∧ FrameEnd U o U' L ({ frames := 1, cells := 2, slots := 6, locals := 12 } : Room).cells ({ frames := 1, cells := 2, slots := 6, locals := 12 } : Room).slots) := by
  refine MetFree.of_bodySF (plainFor_of_name pn_0) hisR ?_
  intro p e s m args below meth c s₁ Bd hml0 hP hK0
  obtain ⟨rfl, hZ, hh⟩ := hP
  have hx := Bd.exec
  have hby := Bd.bytes
  have hml : c.maxLocals = 1 := hml0
  have hown : s.vm.findClass "dev/stratumaudio/SideInformation$Granule" = some m.cls := findClass_of_methodNamed Bd.named
  have hnm := (name_of_methodNamed Bd.named Bd.method).1
  have hret : meth.sig.returnType = none := Bd.returns
  have hlk : meth.locks = false := Bd.notSynchronized
  have X0 : Stand p l e ({ frames := 1, cells := 2, slots := 6, locals := 12 } : Room) s m #[(.ref x0)] below meth c s₁ [] 0 0 := Stand.of_body Bd
  have e0 : s₁.heap = h0 := by rw [← hh, Bd.state]; rfl
  have N0 := Fr.nil n0
  have pre0 : ∀ t, Steps p.tables e below (s₁.setTop (mkF m 0 #[.val (.ref x0)] [])) t → Steps p.tables e below (s₁.setTop (entryFrame m #[(.ref x0)] 1)) t := fun t k => castTop (ef_3 m x0) k
  obtain ⟨T1, X1, e1, st1⟩ := initO X0 hx hZ hown (hw _ (List.mem_of_getElem? (i := 24) rfl)) (hw _ (List.mem_of_getElem? (i := 8) rfl)) (hw _ (List.mem_of_getElem? (i := 9) rfl)) e0 (g := (mkF m 1 #[.val (.ref x0)] [(.ref x0)])) rfl (by rw [hml]; rfl) rfl (hb hby d3_1) (by decide) (W := 0) (by show 2 * 0 + _ ≤ _; exact Nat.le_of_eq rfl) (by decide)
  obtain ⟨T2, h2, k2, X2, e2, E2, A2, st2⟩ := newP X1 hx hZ (hw _ (List.mem_of_getElem? (i := 25) rfl)) e1 (g := (mkF m 6 #[.val (.ref x0)] [(.int (3 : Int32)), (.ref x0)])) rfl (hb hby d3_6) rfl (by decide) (cap := 3) (by decide) (by decide) (by decide) (by decide)
  obtain ⟨b2, gg2⟩ : ∃ z, z = h0.size := ⟨_, rfl⟩
  rw [← gg2] at A2 st2
  have ne_x0_b2 : x0 ≠ b2 := Nat.ne_of_lt (Nat.lt_of_lt_of_le F_x0_part23Length.lt (Nat.le_of_eq gg2.symm))
  have g_b2 : n0 ≤ b2 := Nat.le_trans Z0 (Nat.le_of_eq gg2.symm)
  have sz_b2 : h0.size ≤ b2 := Nat.le_trans (Keep.refl h0 [x0]).1 (Nat.le_of_eq gg2.symm)
  have Z2 : n0 ≤ h2.size := Nat.le_trans Z0 E2.1
  have K2 : Keep h0 h2 [x0] := Keep.ext (Keep.refl h0 [x0]) E2
  have P3 := F_x0_part23Length.ext E2
  have P4 := F_x0_bigValues.ext E2
  have P5 := F_x0_region0Count.ext E2
  have P6 := F_x0_region1Count.ext E2
  have P7 := E_x0.ext E2
  have P8 := F_x0_tableSelect.ext E2
  have P9 := F_x0_subblockGain.ext E2
  obtain ⟨T10, h10, X10, e10, W10, st10⟩ := putF X2 hx hZ hown (host := "") (Or.inl (hw _ (List.mem_of_getElem? (i := 26) rfl))) Via.refl e2 P8 P7 (Or.inr ⟨(hw _ (List.mem_of_getElem? (i := 27) rfl)), rfl, hnm⟩) (hw _ (List.mem_of_getElem? (i := 19) rfl)) (ty := (.array .int)) (by decide) rfl rfl (g := (mkF m 8 #[.val (.ref x0)] [(.ref b2), (.ref x0)])) rfl rfl (hb hby d3_8)
  have N10 := Fr.snoc X10 N0 g_x0
  have Z10 : n0 ≤ h10.size := Nat.le_trans Z2 (Keep.of_wr W10).1
  have K10 : Keep h0 h10 [x0] := Keep.wr K2 W10 (Or.inl (List.mem_of_getElem? (i := 0) rfl))
  have P11 := P3.other W10 (Or.inr (slot_ne (Or.inl (hw _ (List.mem_of_getElem? (i := 45) rfl))) (Or.inr (hw _ (List.mem_of_getElem? (i := 27) rfl))) (by decide) (t := .int) (t' := (.array .int)) (by decide) (by decide)))
  have P12 := P4.other W10 (Or.inr (slot_ne (Or.inl (hw _ (List.mem_of_getElem? (i := 48) rfl))) (Or.inr (hw _ (List.mem_of_getElem? (i := 27) rfl))) (by decide) (t := .int) (t' := (.array .int)) (by decide) (by decide)))
  have P13 := P5.other W10 (Or.inr (slot_ne (Or.inl (hw _ (List.mem_of_getElem? (i := 51) rfl))) (Or.inr (hw _ (List.mem_of_getElem? (i := 27) rfl))) (by decide) (t := .int) (t' := (.array .int)) (by decide) (by decide)))
  have P14 := P6.other W10 (Or.inr (slot_ne (Or.inl (hw _ (List.mem_of_getElem? (i := 54) rfl))) (Or.inr (hw _ (List.mem_of_getElem? (i := 27) rfl))) (by decide) (t := .int) (t' := (.array .int)) (by decide) (by decide)))
  have P15 := P7.wr W10
  have P16 := P8.same W10
  have P17 := P9.other W10 (Or.inr (slot_ne (Or.inr (hw _ (List.mem_of_getElem? (i := 29) rfl))) (Or.inr (hw _ (List.mem_of_getElem? (i := 27) rfl))) (by decide) (t := (.array .int)) (t' := (.array .int)) (by decide) (by decide)))
  obtain ⟨T18, h18, k18, X18, e18, E18, A18, st18⟩ := newP X10 hx hZ (hw _ (List.mem_of_getElem? (i := 25) rfl)) e10 (g := (mkF m 13 #[.val (.ref x0)] [(.int (3 : Int32)), (.ref x0)])) rfl (hb hby d3_13) rfl (by decide) (cap := 3) (by decide) (by decide) (by decide) (by decide)
  obtain ⟨b18, gg18⟩ : ∃ z, z = h10.size := ⟨_, rfl⟩
  rw [← gg18] at A18 st18
  have ne_x0_b18 : x0 ≠ b18 := Nat.ne_of_lt (Nat.lt_of_lt_of_le P11.lt (Nat.le_of_eq gg18.symm))
  have g_b18 : n0 ≤ b18 := Nat.le_trans Z10 (Nat.le_of_eq gg18.symm)
  have sz_b18 : h0.size ≤ b18 := Nat.le_trans K10.1 (Nat.le_of_eq gg18.symm)
  have Z18 : n0 ≤ h18.size := Nat.le_trans Z10 E18.1
  have K18 : Keep h0 h18 [x0] := Keep.ext K10 E18
  have P19 := P11.ext E18
  have P20 := P12.ext E18
  have P21 := P13.ext E18
  have P22 := P14.ext E18
  have P23 := P15.ext E18
  have P24 := P16.ext E18
  have P25 := P17.ext E18
  obtain ⟨T26, h26, X26, e26, W26, st26⟩ := putF X18 hx hZ hown (host := "") (Or.inl (hw _ (List.mem_of_getElem? (i := 28) rfl))) Via.refl e18 P25 P23 (Or.inr ⟨(hw _ (List.mem_of_getElem? (i := 29) rfl)), rfl, hnm⟩) (hw _ (List.mem_of_getElem? (i := 19) rfl)) (ty := (.array .int)) (by decide) rfl rfl (g := (mkF m 15 #[.val (.ref x0)] [(.ref b18), (.ref x0)])) rfl rfl (hb hby d3_15)
  have N26 := Fr.snoc X26 N10 g_x0
  have Z26 : n0 ≤ h26.size := Nat.le_trans Z18 (Keep.of_wr W26).1
  have K26 : Keep h0 h26 [x0] := Keep.wr K18 W26 (Or.inl (List.mem_of_getElem? (i := 0) rfl))
  have P27 := P19.other W26 (Or.inr (slot_ne (Or.inl (hw _ (List.mem_of_getElem? (i := 45) rfl))) (Or.inr (hw _ (List.mem_of_getElem? (i := 29) rfl))) (by decide) (t := .int) (t' := (.array .int)) (by decide) (by decide)))
  have P28 := P20.other W26 (Or.inr (slot_ne (Or.inl (hw _ (List.mem_of_getElem? (i := 48) rfl))) (Or.inr (hw _ (List.mem_of_getElem? (i := 29) rfl))) (by decide) (t := .int) (t' := (.array .int)) (by decide) (by decide)))
  have P29 := P21.other W26 (Or.inr (slot_ne (Or.inl (hw _ (List.mem_of_getElem? (i := 51) rfl))) (Or.inr (hw _ (List.mem_of_getElem? (i := 29) rfl))) (by decide) (t := .int) (t' := (.array .int)) (by decide) (by decide)))
  have P30 := P22.other W26 (Or.inr (slot_ne (Or.inl (hw _ (List.mem_of_getElem? (i := 54) rfl))) (Or.inr (hw _ (List.mem_of_getElem? (i := 29) rfl))) (by decide) (t := .int) (t' := (.array .int)) (by decide) (by decide)))
  have P31 := P23.wr W26
  have P32 := P24.other W26 (Or.inr (slot_ne (Or.inr (hw _ (List.mem_of_getElem? (i := 27) rfl))) (Or.inr (hw _ (List.mem_of_getElem? (i := 29) rfl))) (by decide) (t := (.array .int)) (t' := (.array .int)) (by decide) (by decide)))
  have P33 := P25.same W26
  obtain ⟨fs, hr, hrun, hended, hW, hsame⟩ := X26.leave (v := none) (fun _ => rfl)
  refine ⟨_, _, pre0 _ ?_, hrun, hended, _, _, rfl, ?_, ⟨_, rfl⟩, hW, hsame.mono (by decide) (by decide)⟩
  · show Steps p.tables e below (s₁.setTop (mkF m 0 #[.val (.ref x0)] [])) _
    refine XS.aloadN X0.here hx rfl (hb hby d3_0) rfl rfl ?_
    show Steps p.tables e below (s₁.setTop (mkF m 1 #[.val (.ref x0)] [(.ref x0)])) _
    refine st1 _ ?_
    show Steps p.tables e below (T1.setTop (mkF m 4 #[.val (.ref x0)] [])) _
    refine XS.aloadN X1.here hx rfl (hb hby d3_4) rfl rfl ?_
    show Steps p.tables e below (T1.setTop (mkF m 5 #[.val (.ref x0)] [(.ref x0)])) _
    refine XS.iconst X1.here hx rfl (hb hby d3_5) ?_
    show Steps p.tables e below (T1.setTop (mkF m 6 #[.val (.ref x0)] [(.int (3 : Int32)), (.ref x0)])) _
    refine st2 _ ?_
    show Steps p.tables e below (T2.setTop (mkF m 8 #[.val (.ref x0)] [(.ref b2), (.ref x0)])) _
    refine st10 _ ?_
    show Steps p.tables e below (T10.setTop (mkF m 11 #[.val (.ref x0)] [])) _
    refine XS.aloadN X10.here hx rfl (hb hby d3_11) rfl rfl ?_
    show Steps p.tables e below (T10.setTop (mkF m 12 #[.val (.ref x0)] [(.ref x0)])) _
    refine XS.iconst X10.here hx rfl (hb hby d3_12) ?_
    show Steps p.tables e below (T10.setTop (mkF m 13 #[.val (.ref x0)] [(.int (3 : Int32)), (.ref x0)])) _
    refine st18 _ ?_
    show Steps p.tables e below (T18.setTop (mkF m 15 #[.val (.ref x0)] [(.ref b18), (.ref x0)])) _
    refine st26 _ ?_
    show Steps p.tables e below (T26.setTop (mkF m 18 #[.val (.ref x0)] [])) _
    exact X26.returnOut hx hret (hb hby d3_18) hr
  · show Q3 Z x0 u_part23Length_x0 u_bigValues_x0 u_region0Count_x0 u_region1Count_x0 u_tableSelect_x0 u_subblockGain_x0 h0 n0 _ T26.heap _
    rw [e26]
    exact ⟨rfl, N26, K26, P27, P28, P29, P30, P31⟩
theorem pd_0 : parseMethodDescriptor "()V" = some ⟨[], none⟩ := by decide +kernel
-- body 1: dev/stratumaudio/SideInformation.<init>:()V
theorem d1_0 : decode prog_81_method_1_code 0 = .ok (.aload_n 0, 1) := by decide +kernel
theorem d1_1 : decode prog_81_method_1_code 1 = .ok (.invokespecial 3, 3) := by decide +kernel
theorem d1_4 : decode prog_81_method_1_code 4 = .ok (.aload_n 0, 1) := by decide +kernel
theorem d1_5 : decode prog_81_method_1_code 5 = .ok (.iconst 2, 1) := by decide +kernel
theorem d1_6 : decode prog_81_method_1_code 6 = .ok (.iconst 4, 1) := by decide +kernel
theorem d1_7 : decode prog_81_method_1_code 7 = .ok (.multianewarray 11 2, 4) := by decide +kernel
theorem d1_11 : decode prog_81_method_1_code 11 = .ok (.putfield 13, 3) := by decide +kernel
theorem d1_14 : decode prog_81_method_1_code 14 = .ok (.aload_n 0, 1) := by decide +kernel
theorem d1_15 : decode prog_81_method_1_code 15 = .ok (.iconst 2, 1) := by decide +kernel
theorem d1_16 : decode prog_81_method_1_code 16 = .ok (.anewarray 16, 3) := by decide +kernel
theorem d1_19 : decode prog_81_method_1_code 19 = .ok (.dup, 1) := by decide +kernel
theorem d1_20 : decode prog_81_method_1_code 20 = .ok (.iconst 0, 1) := by decide +kernel
theorem d1_21 : decode prog_81_method_1_code 21 = .ok (.iconst 2, 1) := by decide +kernel
theorem d1_22 : decode prog_81_method_1_code 22 = .ok (.anewarray 18, 3) := by decide +kernel
theorem d1_25 : decode prog_81_method_1_code 25 = .ok (.dup, 1) := by decide +kernel
theorem d1_26 : decode prog_81_method_1_code 26 = .ok (.iconst 0, 1) := by decide +kernel
theorem d1_27 : decode prog_81_method_1_code 27 = .ok (.new 18, 3) := by decide +kernel
theorem d1_30 : decode prog_81_method_1_code 30 = .ok (.dup, 1) := by decide +kernel
theorem d1_31 : decode prog_81_method_1_code 31 = .ok (.invokespecial 20, 3) := by decide +kernel
theorem d1_34 : decode prog_81_method_1_code 34 = .ok (.aastore, 1) := by decide +kernel
theorem d1_35 : decode prog_81_method_1_code 35 = .ok (.dup, 1) := by decide +kernel
theorem d1_36 : decode prog_81_method_1_code 36 = .ok (.iconst 1, 1) := by decide +kernel
theorem d1_37 : decode prog_81_method_1_code 37 = .ok (.new 18, 3) := by decide +kernel
theorem d1_40 : decode prog_81_method_1_code 40 = .ok (.dup, 1) := by decide +kernel
theorem d1_41 : decode prog_81_method_1_code 41 = .ok (.invokespecial 20, 3) := by decide +kernel
theorem d1_44 : decode prog_81_method_1_code 44 = .ok (.aastore, 1) := by decide +kernel
theorem d1_45 : decode prog_81_method_1_code 45 = .ok (.aastore, 1) := by decide +kernel
theorem d1_46 : decode prog_81_method_1_code 46 = .ok (.dup, 1) := by decide +kernel
theorem d1_47 : decode prog_81_method_1_code 47 = .ok (.iconst 1, 1) := by decide +kernel
theorem d1_48 : decode prog_81_method_1_code 48 = .ok (.iconst 2, 1) := by decide +kernel
theorem d1_49 : decode prog_81_method_1_code 49 = .ok (.anewarray 18, 3) := by decide +kernel
theorem d1_52 : decode prog_81_method_1_code 52 = .ok (.dup, 1) := by decide +kernel
theorem d1_53 : decode prog_81_method_1_code 53 = .ok (.iconst 0, 1) := by decide +kernel
theorem d1_54 : decode prog_81_method_1_code 54 = .ok (.new 18, 3) := by decide +kernel
theorem d1_57 : decode prog_81_method_1_code 57 = .ok (.dup, 1) := by decide +kernel
theorem d1_58 : decode prog_81_method_1_code 58 = .ok (.invokespecial 20, 3) := by decide +kernel
theorem d1_61 : decode prog_81_method_1_code 61 = .ok (.aastore, 1) := by decide +kernel
theorem d1_62 : decode prog_81_method_1_code 62 = .ok (.dup, 1) := by decide +kernel
theorem d1_63 : decode prog_81_method_1_code 63 = .ok (.iconst 1, 1) := by decide +kernel
theorem d1_64 : decode prog_81_method_1_code 64 = .ok (.new 18, 3) := by decide +kernel
theorem d1_67 : decode prog_81_method_1_code 67 = .ok (.dup, 1) := by decide +kernel
theorem d1_68 : decode prog_81_method_1_code 68 = .ok (.invokespecial 20, 3) := by decide +kernel
theorem d1_71 : decode prog_81_method_1_code 71 = .ok (.aastore, 1) := by decide +kernel
theorem d1_72 : decode prog_81_method_1_code 72 = .ok (.aastore, 1) := by decide +kernel
theorem d1_73 : decode prog_81_method_1_code 73 = .ok (.putfield 21, 3) := by decide +kernel
theorem d1_76 : decode prog_81_method_1_code 76 = .ok (.return_, 1) := by decide +kernel
theorem pn_1 : plainName "dev/stratumaudio/SideInformation" = true := by first | (simp [plainName, overriddenIn]; done) | decide +kernel
theorem ef_1 (m : MethodId) (x0 : Addr) : entryFrame m #[(.ref x0)] 1 = mkF m 0 #[.val (.ref x0)] [] := by first | (simp [entryFrame, mkF, argsToLocals, Value.category]; done) | rfl
def Q1 (Z : State) (x0 : Addr) (u_granuleCount_x0 : Value) (u_channelCount_x0 : Value) (u_scfsi_x0 : Value) (u_granules_x0 : Value) (h0 : Heap) (n0 : Nat) (v : Option Value) (h : Heap) (L : List Loc) : Prop := ∃ (b14 : Addr) (b20 : Addr) (b147 : Addr) (b28 : Addr) (b70 : Addr) (b167 : Addr) (b245 : Addr) (k14 : ClassId) (k20 : ClassId) (k147 : ClassId), v = none ∧ Fr n0 L ∧ Keep h0 h [x0] ∧ h0.size ≤ b14 ∧ h0.size ≤ b20 ∧ h0.size ≤ b147 ∧ h0.size ≤ b28 ∧ h0.size ≤ b70 ∧ h0.size ≤ b167 ∧ h0.size ≤ b245 ∧ x0 ≠ b14 ∧ x0 ≠ b20 ∧ x0 ≠ b147 ∧ x0 ≠ b28 ∧ x0 ≠ b70 ∧ x0 ≠ b167 ∧ x0 ≠ b245 ∧ b14 ≠ b20 ∧ b14 ≠ b147 ∧ b14 ≠ b28 ∧ b14 ≠ b70 ∧ b14 ≠ b167 ∧ b14 ≠ b245 ∧ b20 ≠ b147 ∧ b20 ≠ b28 ∧ b20 ≠ b70 ∧ b20 ≠ b167 ∧ b20 ≠ b245 ∧ b147 ≠ b28 ∧ b147 ≠ b70 ∧ b147 ≠ b167 ∧ b147 ≠ b245 ∧ b28 ≠ b70 ∧ b28 ≠ b167 ∧ b28 ≠ b245 ∧ b70 ≠ b167 ∧ b70 ≠ b245 ∧ b167 ≠ b245 ∧ Fld Z h x0 "dev/stratumaudio/SideInformation" "granuleCount" "I" u_granuleCount_x0 ∧ Fld Z h x0 "dev/stratumaudio/SideInformation" "channelCount" "I" u_channelCount_x0 ∧ Exa Z h x0 "dev/stratumaudio/SideInformation" ∧ Fld Z h x0 "dev/stratumaudio/SideInformation" "granules" "[[Ldev/stratumaudio/SideInformation$Granule;" (.ref b14) ∧ Arv Z h b14 k14 (.array (.object "dev/stratumaudio/SideInformation$Granule")) (2 : Int32) [(.ref b20), (.ref b147)] .null ∧ Exa Z h b14 "[[Ldev/stratumaudio/SideInformation$Granule;" ∧ Arv Z h b20 k20 (.object "dev/stratumaudio/SideInformation$Granule") (2 : Int32) [(.ref b28), (.ref b70)] .null ∧ Exa Z h b20 "[Ldev/stratumaudio/SideInformation$Granule;" ∧ Exa Z h b28 "dev/stratumaudio/SideInformation$Granule" ∧ Fld Z h b28 "dev/stratumaudio/SideInformation$Granule" "part23Length" "I" (.int (0 : Int32)) ∧ Fld Z h b28 "dev/stratumaudio/SideInformation$Granule" "bigValues" "I" (.int (0 : Int32)) ∧ Fld Z h b28 "dev/stratumaudio/SideInformation$Granule" "region0Count" "I" (.int (0 : Int32)) ∧ Fld Z h b28 "dev/stratumaudio/SideInformation$Granule" "region1Count" "I" (.int (0 : Int32)) ∧ Exa Z h b70 "dev/stratumaudio/SideInformation$Granule" ∧ Fld Z h b70 "dev/stratumaudio/SideInformation$Granule" "part23Length" "I" (.int (0 : Int32)) ∧ Fld Z h b70 "dev/stratumaudio/SideInformation$Granule" "bigValues" "I" (.int (0 : Int32)) ∧ Fld Z h b70 "dev/stratumaudio/SideInformation$Granule" "region0Count" "I" (.int (0 : Int32)) ∧ Fld Z h b70 "dev/stratumaudio/SideInformation$Granule" "region1Count" "I" (.int (0 : Int32)) ∧ Arv Z h b147 k147 (.object "dev/stratumaudio/SideInformation$Granule") (2 : Int32) [(.ref b167), (.ref b245)] .null ∧ Exa Z h b147 "[Ldev/stratumaudio/SideInformation$Granule;" ∧ Exa Z h b167 "dev/stratumaudio/SideInformation$Granule" ∧ Fld Z h b167 "dev/stratumaudio/SideInformation$Granule" "part23Length" "I" (.int (0 : Int32)) ∧ Fld Z h b167 "dev/stratumaudio/SideInformation$Granule" "bigValues" "I" (.int (0 : Int32)) ∧ Fld Z h b167 "dev/stratumaudio/SideInformation$Granule" "region0Count" "I" (.int (0 : Int32)) ∧ Fld Z h b167 "dev/stratumaudio/SideInformation$Granule" "region1Count" "I" (.int (0 : Int32)) ∧ Exa Z h b245 "dev/stratumaudio/SideInformation$Granule" ∧ Fld Z h b245 "dev/stratumaudio/SideInformation$Granule" "part23Length" "I" (.int (0 : Int32)) ∧ Fld Z h b245 "dev/stratumaudio/SideInformation$Granule" "bigValues" "I" (.int (0 : Int32)) ∧ Fld Z h b245 "dev/stratumaudio/SideInformation$Granule" "region0Count" "I" (.int (0 : Int32)) ∧ Fld Z h b245 "dev/stratumaudio/SideInformation$Granule" "region1Count" "I" (.int (0 : Int32))
set_option maxRecDepth 65536 in
set_option maxHeartbeats 40000000 in
theorem rm1 (l : Launch) (Z : State) (a0 : Array Value) (hw : ∀ d ∈ tables_1, d.before a0 Z = true) (ws : List Jvm.Cond) (x0 : Addr) (u_granuleCount_x0 : Value) (u_channelCount_x0 : Value) (u_scfsi_x0 : Value) (u_granules_x0 : Value) (h0 : Heap) (n0 : Nat) (Z0 : n0 ≤ h0.size) (F_x0_granuleCount : Fld Z h0 x0 "dev/stratumaudio/SideInformation" "granuleCount" "I" u_granuleCount_x0) (F_x0_channelCount : Fld Z h0 x0 "dev/stratumaudio/SideInformation" "channelCount" "I" u_channelCount_x0) (E_x0 : Exa Z h0 x0 "dev/stratumaudio/SideInformation") (g_x0 : n0 ≤ x0) (F_x0_scfsi : Fld Z h0 x0 "dev/stratumaudio/SideInformation" "scfsi" "[[Z" u_scfsi_x0) (F_x0_granules : Fld Z h0 x0 "dev/stratumaudio/SideInformation" "granules" "[[Ldev/stratumaudio/SideInformation$Granule;" u_granules_x0) :
    MetFree l (⟨"dev/stratumaudio/SideInformation", "<init>", "()V"⟩ : MethodName) (head1 (Jvm.Cond.code (⟨"dev/stratumaudio/SideInformation", "<init>", "()V"⟩ : MethodName) prog_81_method_1_code 1 (none) :: ws) ({ frames := 2, cells := 18, slots := 96, locals := 32 } : Room)) (fun a U => a = #[(.ref x0)] ∧ Z.Warmed39 U.vm ∧ U.heap = h0) (fun _ _ _ _ _ => True) (fun _ U o U' => ∃ v L, o = .returned v ∧ Q1 Z x0 u_granuleCount_x0 u_channelCount_x0 u_scfsi_x0 u_granules_x0 h0 n0 v U'.heap L ∧ FrameEnd U o U' L ({ frames := 2, cells := 18, slots := 96, locals := 32 } : Room).cells ({ frames := 2, cells := 18, slots := 96, locals := 32 } : Room).slots) := by
  refine MetFree.of_bodySF (plainFor_of_name pn_1) hisR ?_
  intro p e s m args below meth c s₁ Bd hml0 hP hK0
  obtain ⟨rfl, hZ, hh⟩ := hP
  have hx := Bd.exec
  have hby := Bd.bytes
  have hml : c.maxLocals = 1 := hml0
  have hown : s.vm.findClass "dev/stratumaudio/SideInformation" = some m.cls := findClass_of_methodNamed Bd.named
  have hnm := (name_of_methodNamed Bd.named Bd.method).1
  have hret : meth.sig.returnType = none := Bd.returns
  have hlk : meth.locks = false := Bd.notSynchronized
  have X0 : Stand p l e ({ frames := 2, cells := 18, slots := 96, locals := 32 } : Room) s m #[(.ref x0)] below meth c s₁ [] 0 0 := Stand.of_body Bd
  have e0 : s₁.heap = h0 := by rw [← hh, Bd.state]; rfl
  have N0 := Fr.nil n0
  have pre0 : ∀ t, Steps p.tables e below (s₁.setTop (mkF m 0 #[.val (.ref x0)] [])) t → Steps p.tables e below (s₁.setTop (entryFrame m #[(.ref x0)] 1)) t := fun t k => castTop (ef_1 m x0) k
  obtain ⟨T1, X1, e1, st1⟩ := initO X0 hx hZ hown (hw _ (List.mem_of_getElem? (i := 7) rfl)) (hw _ (List.mem_of_getElem? (i := 8) rfl)) (hw _ (List.mem_of_getElem? (i := 9) rfl)) e0 (g := (mkF m 1 #[.val (.ref x0)] [(.ref x0)])) rfl (by rw [hml]; rfl) rfl (hb hby d1_1) (by decide) (W := 0) (by show 2 * 0 + _ ≤ _; exact Nat.le_of_eq rfl) (by decide)
  obtain ⟨T2, h2, k2, kk2, X2, e2, E2, -, -, -, -, st2⟩ := gridM X1 hx hZ hown (C := "[Z") (ad := "[[Z") (ty := .boolean) (by first | rfl | decide | decide +kernel | (simp [FieldType.toString]; done)) (by first | rfl | decide | decide +kernel | (simp [FieldType.toString]; done)) (hw _ (List.mem_of_getElem? (i := 10) rfl)) (hw _ (List.mem_of_getElem? (i := 11) rfl)) (hw _ (List.mem_of_getElem? (i := 12) rfl)) e1 (g := (mkF m 7 #[.val (.ref x0)] [(.int (4 : Int32)), (.int (2 : Int32)), (.ref x0)])) rfl (hb hby d1_7) rfl (by decide) (by decide) (N := 2) (by decide) rfl (cap := 4) (by decide) (by decide) (by decide) (by decide) (by decide) (by decide) (by decide)
  obtain ⟨b2, gg2⟩ : ∃ z, z = h0.size := ⟨_, rfl⟩
  rw [← gg2] at st2
  have ne_x0_b2 : x0 ≠ b2 := Nat.ne_of_lt (Nat.lt_of_lt_of_le F_x0_granuleCount.lt (Nat.le_of_eq gg2.symm))
  have g_b2 : n0 ≤ b2 := Nat.le_trans Z0 (Nat.le_of_eq gg2.symm)
  have sz_b2 : h0.size ≤ b2 := Nat.le_trans (Keep.refl h0 [x0]).1 (Nat.le_of_eq gg2.symm)
  have Z2 : n0 ≤ h2.size := Nat.le_trans Z0 E2.1
  have K2 : Keep h0 h2 [x0] := Keep.ext (Keep.refl h0 [x0]) E2
  have P3 := F_x0_granuleCount.ext E2
  have P4 := F_x0_channelCount.ext E2
  have P5 := E_x0.ext E2
  have P6 := F_x0_scfsi.ext E2
  have P7 := F_x0_granules.ext E2
  obtain ⟨T8, h8, X8, e8, W8, st8⟩ := putF X2 hx hZ hown (host := "") (Or.inl (hw _ (List.mem_of_getElem? (i := 13) rfl))) Via.refl e2 P6 P5 (Or.inr ⟨(hw _ (List.mem_of_getElem? (i := 14) rfl)), rfl, hnm⟩) (hw _ (List.mem_of_getElem? (i := 2) rfl)) (ty := (.array (.array .boolean))) (by decide) rfl rfl (g := (mkF m 11 #[.val (.ref x0)] [(.ref b2), (.ref x0)])) rfl rfl (hb hby d1_11)
  have N8 := Fr.snoc X8 N0 g_x0
  have Z8 : n0 ≤ h8.size := Nat.le_trans Z2 (Keep.of_wr W8).1
  have K8 : Keep h0 h8 [x0] := Keep.wr K2 W8 (Or.inl (List.mem_of_getElem? (i := 0) rfl))
  have P9 := P3.other W8 (Or.inr (slot_ne (Or.inl (hw _ (List.mem_of_getElem? (i := 35) rfl))) (Or.inr (hw _ (List.mem_of_getElem? (i := 14) rfl))) (by decide) (t := .int) (t' := (.array (.array .boolean))) (by decide) (by decide)))
  have P10 := P4.other W8 (Or.inr (slot_ne (Or.inl (hw _ (List.mem_of_getElem? (i := 37) rfl))) (Or.inr (hw _ (List.mem_of_getElem? (i := 14) rfl))) (by decide) (t := .int) (t' := (.array (.array .boolean))) (by decide) (by decide)))
  have P11 := P5.wr W8
  have P12 := P6.same W8
  have P13 := P7.other W8 (Or.inr (slot_ne (Or.inr (hw _ (List.mem_of_getElem? (i := 33) rfl))) (Or.inr (hw _ (List.mem_of_getElem? (i := 14) rfl))) (by decide) (t := (.array (.array (.object "dev/stratumaudio/SideInformation$Granule")))) (t' := (.array (.array .boolean))) (by decide) (by decide)))
  obtain ⟨T14, h14, k14, X14, e14, E14, A14, Ex14, O14, st14⟩ := newRA X8 hx hZ hown (C := "[Ldev/stratumaudio/SideInformation$Granule;") (ty := (.object "dev/stratumaudio/SideInformation$Granule")) (by first | rfl | decide | decide +kernel | (simp [FieldType.toString]; done)) (hw _ (List.mem_of_getElem? (i := 15) rfl)) (hw _ (List.mem_of_getElem? (i := 16) rfl)) e8 (g := (mkF m 16 #[.val (.ref x0)] [(.int (2 : Int32)), (.ref x0)])) rfl (hb hby d1_16) rfl (by decide) (cap := 2) (by decide) (by decide) (by decide) (by decide) (ad := "[[Ldev/stratumaudio/SideInformation$Granule;") (by first | rfl | decide | decide +kernel | (simp [FieldType.toString]; done))
  obtain ⟨b14, gg14⟩ : ∃ z, z = h8.size := ⟨_, rfl⟩
  rw [← gg14] at A14 Ex14 st14
  have ne_x0_b14 : x0 ≠ b14 := Nat.ne_of_lt (Nat.lt_of_lt_of_le P9.lt (Nat.le_of_eq gg14.symm))
  have g_b14 : n0 ≤ b14 := Nat.le_trans Z8 (Nat.le_of_eq gg14.symm)
  have sz_b14 : h0.size ≤ b14 := Nat.le_trans K8.1 (Nat.le_of_eq gg14.symm)
  have Z14 : n0 ≤ h14.size := Nat.le_trans Z8 E14.1
  have K14 : Keep h0 h14 [x0] := Keep.ext K8 E14
  have P15 := P9.ext E14
  have P16 := P10.ext E14
  have P17 := P11.ext E14
  have P18 := P12.ext E14
  have P19 := P13.ext E14
  have V14 : Arv Z h14 b14 k14 (.array (.object "dev/stratumaudio/SideInformation$Granule")) (2 : Int32) [.null, .null] .null := (Arv.new A14 (by decide)).pad (pad_rep [] .null 2)
  obtain ⟨T20, h20, k20, X20, e20, E20, A20, Ex20, O20, st20⟩ := newRE X14 hx hZ hown (hw _ (List.mem_of_getElem? (i := 17) rfl)) (hw _ (List.mem_of_getElem? (i := 18) rfl)) e14 (g := (mkF m 22 #[.val (.ref x0)] [(.int (2 : Int32)), (.int (0 : Int32)), (.ref b14), (.ref b14), (.ref x0)])) rfl (hb hby d1_22) rfl (by decide) (cap := 2) (by decide) (by decide) (by decide) (by decide) (ad := "[Ldev/stratumaudio/SideInformation$Granule;") (by first | rfl | decide | decide +kernel | (simp [FieldType.toString]; done))
  obtain ⟨b20, gg20⟩ : ∃ z, z = h14.size := ⟨_, rfl⟩
  rw [← gg20] at A20 Ex20 st20
  have ne_x0_b20 : x0 ≠ b20 := Nat.ne_of_lt (Nat.lt_of_lt_of_le P15.lt (Nat.le_of_eq gg20.symm))
  have ne_b14_b20 : b14 ≠ b20 := Nat.ne_of_lt (Nat.lt_of_lt_of_le V14.lt (Nat.le_of_eq gg20.symm))
  have g_b20 : n0 ≤ b20 := Nat.le_trans Z14 (Nat.le_of_eq gg20.symm)
  have sz_b20 : h0.size ≤ b20 := Nat.le_trans K14.1 (Nat.le_of_eq gg20.symm)
  have Z20 : n0 ≤ h20.size := Nat.le_trans Z14 E20.1
  have K20 : Keep h0 h20 [x0] := Keep.ext K14 E20
  have P21 := P15.ext E20
  have P22 := P16.ext E20
  have P23 := P17.ext E20
  have P24 := P18.ext E20
  have P25 := P19.ext E20
  have P26 := V14.ext E20
  have P27 := Ex14.ext E20
  have V20 : Arv Z h20 b20 k20 (.object "dev/stratumaudio/SideInformation$Granule") (2 : Int32) [.null, .null] .null := (Arv.new A20 (by decide)).pad (pad_rep [] .null 2)
  obtain ⟨T28, h28, X28, e28, E28, A28, D28, -, st28⟩ := newO X20 hx hZ hown (hw _ (List.mem_of_getElem? (i := 17) rfl)) (hw _ (List.mem_of_getElem? (i := 19) rfl)) (hw _ (List.mem_of_getElem? (i := 20) rfl)) e20 (g := (mkF m 27 #[.val (.ref x0)] [(.int (0 : Int32)), (.ref b20), (.ref b20), (.int (0 : Int32)), (.ref b14), (.ref b14), (.ref x0)])) rfl (hb hby d1_27) (by decide) (by decide)
  obtain ⟨b28, gg28⟩ : ∃ z, z = h20.size := ⟨_, rfl⟩
  rw [← gg28] at A28 D28 st28
  have ne_x0_b28 : x0 ≠ b28 := Nat.ne_of_lt (Nat.lt_of_lt_of_le P21.lt (Nat.le_of_eq gg28.symm))
  have ne_b14_b28 : b14 ≠ b28 := Nat.ne_of_lt (Nat.lt_of_lt_of_le P26.lt (Nat.le_of_eq gg28.symm))
  have ne_b20_b28 : b20 ≠ b28 := Nat.ne_of_lt (Nat.lt_of_lt_of_le V20.lt (Nat.le_of_eq gg28.symm))
  have g_b28 : n0 ≤ b28 := Nat.le_trans Z20 (Nat.le_of_eq gg28.symm)
  have sz_b28 : h0.size ≤ b28 := Nat.le_trans K20.1 (Nat.le_of_eq gg28.symm)
  have Z28 : n0 ≤ h28.size := Nat.le_trans Z20 E28.1
  have K28 : Keep h0 h28 [x0] := Keep.ext K20 E28
  have P29 := P21.ext E28
  have P30 := P22.ext E28
  have P31 := P23.ext E28
  have P32 := P24.ext E28
  have P33 := P25.ext E28
  have P34 := P26.ext E28
  have P35 := P27.ext E28
  have P36 := V20.ext E28
  have P37 := Ex20.ext E28
  have P38 : Fld Z h28 b28 "dev/stratumaudio/SideInformation$Granule" "tableSelect" "[I" .null := D28 (Or.inr (hw _ (List.mem_of_getElem? (i := 27) rfl))) (ty := (.array .int)) (by decide)
  have P39 : Fld Z h28 b28 "dev/stratumaudio/SideInformation$Granule" "subblockGain" "[I" .null := D28 (Or.inr (hw _ (List.mem_of_getElem? (i := 29) rfl))) (ty := (.array .int)) (by decide)
  have P40 : Fld Z h28 b28 "dev/stratumaudio/SideInformation$Granule" "part23Length" "I" (.int (0 : Int32)) := D28 (Or.inl (hw _ (List.mem_of_getElem? (i := 45) rfl))) (ty := .int) (by decide)
  have P41 : Fld Z h28 b28 "dev/stratumaudio/SideInformation$Granule" "bigValues" "I" (.int (0 : Int32)) := D28 (Or.inl (hw _ (List.mem_of_getElem? (i := 48) rfl))) (ty := .int) (by decide)
  have P42 : Fld Z h28 b28 "dev/stratumaudio/SideInformation$Granule" "region0Count" "I" (.int (0 : Int32)) := D28 (Or.inl (hw _ (List.mem_of_getElem? (i := 51) rfl))) (ty := .int) (by decide)
  have P43 : Fld Z h28 b28 "dev/stratumaudio/SideInformation$Granule" "region1Count" "I" (.int (0 : Int32)) := D28 (Or.inl (hw _ (List.mem_of_getElem? (i := 54) rfl))) (ty := .int) (by decide)
  obtain ⟨_, _, ⟨T44, L44, k44, n44⟩, -, X44, ⟨Lc44, hQ44, l44, y44, z44⟩, st44⟩ := X28.specialBack hx (y := (⟨"dev/stratumaudio/SideInformation$Granule", "<init>", "()V"⟩ : MethodName)) rfl hown (mvT hZ (hw _ (List.mem_of_getElem? (i := 21) rfl))) (mvT hZ (hw _ (List.mem_of_getElem? (i := 22) rfl))) (mvT hZ (hw _ (List.mem_of_getElem? (i := 23) rfl))) (by decide) (backOf (W := 8) (rm3 l Z a0 hw [] b28 (.int (0 : Int32)) (.int (0 : Int32)) (.int (0 : Int32)) (.int (0 : Int32)) .null .null h28 n0 Z28 P40 P41 P42 P43 A28 g_b28 P38 P39) hZ (hw _ (List.mem_of_getElem? (i := 23) rfl)) (hw _ (List.mem_of_getElem? (i := 20) rfl)) (by decide) (by decide)) (g := (mkF m 31 #[.val (.ref x0)] [(.ref b28), (.ref b28), (.int (0 : Int32)), (.ref b20), (.ref b20), (.int (0 : Int32)), (.ref b14), (.ref b14), (.ref x0)])) rfl (by rw [hml]; rfl) (Steps.refl _) (a := b28) (argsL := []) (rest := [(.ref b28), (.int (0 : Int32)), (.ref b20), (.ref b20), (.int (0 : Int32)), (.ref b14), (.ref b14), (.ref x0)]) (lenOf pd_0 rfl) rfl (by show 2 * 0 + _ ≤ _; exact Nat.le_of_eq rfl) (hb hby d1_31) (fun _ _ => ⟨rfl, e28, (by decide : 6 + 2 ≤ _), (by decide : 28 + 6 ≤ _)⟩)
  dsimp only [Pt.U, Pt.locs, Pt.cells, Pt.slots] at X44 l44 y44 z44 st44 hQ44
  subst l44 y44 z44
  obtain ⟨rfl, Nq44, Kq44, G44_0, G44_1, G44_2, G44_3, G44_4⟩ := hQ44
  obtain ⟨h44, e44⟩ : ∃ z, T44.heap = z := ⟨_, rfl⟩
  rw [e44] at Kq44 G44_0 G44_1 G44_2 G44_3 G44_4
  have N44 := Fr.app N8 Nq44
  have Z44 : n0 ≤ h44.size := Nat.le_trans Z28 Kq44.1
  have K44 : Keep h0 h44 [x0] := Keep.trans K28 Kq44 (allS (Or.inr sz_b28) all0)
  have P45 := P29.keep Kq44 (ninS ne_x0_b28 nin0)
  have P46 := P30.keep Kq44 (ninS ne_x0_b28 nin0)
  have P47 := P31.keep Kq44
  have P48 := P32.keep Kq44 (ninS ne_x0_b28 nin0)
  have P49 := P33.keep Kq44 (ninS ne_x0_b28 nin0)
  have P50 := P34.keep Kq44 (ninS ne_b14_b28 nin0)
  have P51 := P35.keep Kq44
  have P52 := P36.keep Kq44 (ninS ne_b20_b28 nin0)
  have P53 := P37.keep Kq44
  have P54 := A28.keep Kq44
  have Vc55 := P52
  obtain ⟨cl55, Ar55, q55, S55, NN55, H55, G55⟩ := Vc55
  have hin55 := inb_of (j := (0 : Int32)) S55 ⟨by decide, by decide⟩
  obtain ⟨T55, h55, X55, e55, W55, st55⟩ := stR X44 hx hZ e44 Ar55 (j := (0 : Int32)) hin55 rfl (Sto.ofV Ar55 q55 O20 (Ins.self G44_4)) (g := (mkF m 34 #[.val (.ref x0)] [(.ref b28), (.int (0 : Int32)), (.ref b20), (.ref b20), (.int (0 : Int32)), (.ref b14), (.ref b14), (.ref x0)])) rfl rfl (hb hby d1_34)
  have N55 := Fr.snoc X55 N44 g_b20
  have Z55 : n0 ≤ h55.size := Nat.le_trans Z44 (Keep.of_wr W55).1
  have K55 : Keep h0 h55 [x0] := Keep.wr K44 W55 (Or.inr sz_b20)
  have P56 := P45.other W55 (Or.inl ne_x0_b20)
  have P57 := P46.other W55 (Or.inl ne_x0_b20)
  have P58 := P47.wr W55
  have P59 := P48.other W55 (Or.inl ne_x0_b20)
  have P60 := P49.other W55 (Or.inl ne_x0_b20)
  have P61 := P50.other W55 ne_b14_b20
  have P62 := P51.wr W55
  have P63 : Arv Z h55 b20 k20 (.object "dev/stratumaudio/SideInformation$Granule") (2 : Int32) [(.ref b28), .null] .null := Arv.set Ar55 q55 S55 NN55 H55 G55 rfl W55 0 rfl (show 0 < 2 by decide)
  have P64 := P53.wr W55
  have P65 := G44_4.wr W55
  have P66 := G44_0.other W55 (Or.inl (Ne.symm ne_b20_b28))
  have P67 := G44_1.other W55 (Or.inl (Ne.symm ne_b20_b28))
  have P68 := G44_2.other W55 (Or.inl (Ne.symm ne_b20_b28))
  have P69 := G44_3.other W55 (Or.inl (Ne.symm ne_b20_b28))
  obtain ⟨T70, h70, X70, e70, E70, A70, D70, -, st70⟩ := newO X55 hx hZ hown (hw _ (List.mem_of_getElem? (i := 17) rfl)) (hw _ (List.mem_of_getElem? (i := 19) rfl)) (hw _ (List.mem_of_getElem? (i := 20) rfl)) e55 (g := (mkF m 37 #[.val (.ref x0)] [(.int (1 : Int32)), (.ref b20), (.ref b20), (.int (0 : Int32)), (.ref b14), (.ref b14), (.ref x0)])) rfl (hb hby d1_37) (by decide) (by decide)
  obtain ⟨b70, gg70⟩ : ∃ z, z = h55.size := ⟨_, rfl⟩
  rw [← gg70] at A70 D70 st70
  have ne_x0_b70 : x0 ≠ b70 := Nat.ne_of_lt (Nat.lt_of_lt_of_le P56.lt (Nat.le_of_eq gg70.symm))
  have ne_b14_b70 : b14 ≠ b70 := Nat.ne_of_lt (Nat.lt_of_lt_of_le P61.lt (Nat.le_of_eq gg70.symm))
  have ne_b20_b70 : b20 ≠ b70 := Nat.ne_of_lt (Nat.lt_of_lt_of_le P63.lt (Nat.le_of_eq gg70.symm))
  have ne_b28_b70 : b28 ≠ b70 := Nat.ne_of_lt (Nat.lt_of_lt_of_le P65.lt (Nat.le_of_eq gg70.symm))
  have g_b70 : n0 ≤ b70 := Nat.le_trans Z55 (Nat.le_of_eq gg70.symm)
  have sz_b70 : h0.size ≤ b70 := Nat.le_trans K55.1 (Nat.le_of_eq gg70.symm)
  have Z70 : n0 ≤ h70.size := Nat.le_trans Z55 E70.1
  have K70 : Keep h0 h70 [x0] := Keep.ext K55 E70
  have P71 := P56.ext E70
  have P72 := P57.ext E70
  have P73 := P58.ext E70
  have P74 := P59.ext E70
  have P75 := P60.ext E70
  have P76 := P61.ext E70
  have P77 := P62.ext E70
  have P78 := P63.ext E70
  have P79 := P64.ext E70
  have P80 := P65.ext E70
  have P81 := P66.ext E70
  have P82 := P67.ext E70
  have P83 := P68.ext E70
  have P84 := P69.ext E70
  have P85 : Fld Z h70 b70 "dev/stratumaudio/SideInformation$Granule" "tableSelect" "[I" .null := D70 (Or.inr (hw _ (List.mem_of_getElem? (i := 27) rfl))) (ty := (.array .int)) (by decide)
  have P86 : Fld Z h70 b70 "dev/stratumaudio/SideInformation$Granule" "subblockGain" "[I" .null := D70 (Or.inr (hw _ (List.mem_of_getElem? (i := 29) rfl))) (ty := (.array .int)) (by decide)
  have P87 : Fld Z h70 b70 "dev/stratumaudio/SideInformation$Granule" "part23Length" "I" (.int (0 : Int32)) := D70 (Or.inl (hw _ (List.mem_of_getElem? (i := 45) rfl))) (ty := .int) (by decide)
  have P88 : Fld Z h70 b70 "dev/stratumaudio/SideInformation$Granule" "bigValues" "I" (.int (0 : Int32)) := D70 (Or.inl (hw _ (List.mem_of_getElem? (i := 48) rfl))) (ty := .int) (by decide)
  have P89 : Fld Z h70 b70 "dev/stratumaudio/SideInformation$Granule" "region0Count" "I" (.int (0 : Int32)) := D70 (Or.inl (hw _ (List.mem_of_getElem? (i := 51) rfl))) (ty := .int) (by decide)
  have P90 : Fld Z h70 b70 "dev/stratumaudio/SideInformation$Granule" "region1Count" "I" (.int (0 : Int32)) := D70 (Or.inl (hw _ (List.mem_of_getElem? (i := 54) rfl))) (ty := .int) (by decide)
  obtain ⟨_, _, ⟨T91, L91, k91, n91⟩, -, X91, ⟨Lc91, hQ91, l91, y91, z91⟩, st91⟩ := X70.specialBack hx (y := (⟨"dev/stratumaudio/SideInformation$Granule", "<init>", "()V"⟩ : MethodName)) rfl hown (mvT hZ (hw _ (List.mem_of_getElem? (i := 21) rfl))) (mvT hZ (hw _ (List.mem_of_getElem? (i := 22) rfl))) (mvT hZ (hw _ (List.mem_of_getElem? (i := 23) rfl))) (by decide) (backOf (W := 8) (rm3 l Z a0 hw [] b70 (.int (0 : Int32)) (.int (0 : Int32)) (.int (0 : Int32)) (.int (0 : Int32)) .null .null h70 n0 Z70 P87 P88 P89 P90 A70 g_b70 P85 P86) hZ (hw _ (List.mem_of_getElem? (i := 23) rfl)) (hw _ (List.mem_of_getElem? (i := 20) rfl)) (by decide) (by decide)) (g := (mkF m 41 #[.val (.ref x0)] [(.ref b70), (.ref b70), (.int (1 : Int32)), (.ref b20), (.ref b20), (.int (0 : Int32)), (.ref b14), (.ref b14), (.ref x0)])) rfl (by rw [hml]; rfl) (Steps.refl _) (a := b70) (argsL := []) (rest := [(.ref b70), (.int (1 : Int32)), (.ref b20), (.ref b20), (.int (0 : Int32)), (.ref b14), (.ref b14), (.ref x0)]) (lenOf pd_0 rfl) rfl (by show 2 * 0 + _ ≤ _; exact Nat.le_of_eq rfl) (hb hby d1_41) (fun _ _ => ⟨rfl, e70, (by decide : 9 + 2 ≤ _), (by decide : 48 + 6 ≤ _)⟩)
  dsimp only [Pt.U, Pt.locs, Pt.cells, Pt.slots] at X91 l91 y91 z91 st91 hQ91
  subst l91 y91 z91
  obtain ⟨rfl, Nq91, Kq91, G91_0, G91_1, G91_2, G91_3, G91_4⟩ := hQ91
  obtain ⟨h91, e91⟩ : ∃ z, T91.heap = z := ⟨_, rfl⟩
  rw [e91] at Kq91 G91_0 G91_1 G91_2 G91_3 G91_4
  have N91 := Fr.app N55 Nq91
  have Z91 : n0 ≤ h91.size := Nat.le_trans Z70 Kq91.1
  have K91 : Keep h0 h91 [x0] := Keep.trans K70 Kq91 (allS (Or.inr sz_b70) all0)
  have P92 := P71.keep Kq91 (ninS ne_x0_b70 nin0)
  have P93 := P72.keep Kq91 (ninS ne_x0_b70 nin0)
  have P94 := P73.keep Kq91
  have P95 := P74.keep Kq91 (ninS ne_x0_b70 nin0)
  have P96 := P75.keep Kq91 (ninS ne_x0_b70 nin0)
  have P97 := P76.keep Kq91 (ninS ne_b14_b70 nin0)
  have P98 := P77.keep Kq91
  have P99 := P78.keep Kq91 (ninS ne_b20_b70 nin0)
  have P100 := P79.keep Kq91
  have P101 := P80.keep Kq91
  have P102 := P81.keep Kq91 (ninS ne_b28_b70 nin0)
  have P103 := P82.keep Kq91 (ninS ne_b28_b70 nin0)
  have P104 := P83.keep Kq91 (ninS ne_b28_b70 nin0)
  have P105 := P84.keep Kq91 (ninS ne_b28_b70 nin0)
  have P106 := A70.keep Kq91
  have Vc107 := P99
  obtain ⟨cl107, Ar107, q107, S107, NN107, H107, G107⟩ := Vc107
  have hin107 := inb_of (j := (1 : Int32)) S107 ⟨by decide, by decide⟩
  obtain ⟨T107, h107, X107, e107, W107, st107⟩ := stR X91 hx hZ e91 Ar107 (j := (1 : Int32)) hin107 rfl (Sto.ofV Ar107 q107 O20 (Ins.self G91_4)) (g := (mkF m 44 #[.val (.ref x0)] [(.ref b70), (.int (1 : Int32)), (.ref b20), (.ref b20), (.int (0 : Int32)), (.ref b14), (.ref b14), (.ref x0)])) rfl rfl (hb hby d1_44)
  have N107 := Fr.snoc X107 N91 g_b20
  have Z107 : n0 ≤ h107.size := Nat.le_trans Z91 (Keep.of_wr W107).1
  have K107 : Keep h0 h107 [x0] := Keep.wr K91 W107 (Or.inr sz_b20)
  have P108 := P92.other W107 (Or.inl ne_x0_b20)
  have P109 := P93.other W107 (Or.inl ne_x0_b20)
  have P110 := P94.wr W107
  have P111 := P95.other W107 (Or.inl ne_x0_b20)
  have P112 := P96.other W107 (Or.inl ne_x0_b20)
  have P113 := P97.other W107 ne_b14_b20
  have P114 := P98.wr W107
  have P115 : Arv Z h107 b20 k20 (.object "dev/stratumaudio/SideInformation$Granule") (2 : Int32) [(.ref b28), (.ref b70)] .null := Arv.set Ar107 q107 S107 NN107 H107 G107 rfl W107 1 rfl (show 1 < 2 by decide)
  have P116 := P100.wr W107
  have P117 := P101.wr W107
  have P118 := P102.other W107 (Or.inl (Ne.symm ne_b20_b28))
  have P119 := P103.other W107 (Or.inl (Ne.symm ne_b20_b28))
  have P120 := P104.other W107 (Or.inl (Ne.symm ne_b20_b28))
  have P121 := P105.other W107 (Or.inl (Ne.symm ne_b20_b28))
  have P122 := G91_4.wr W107
  have P123 := G91_0.other W107 (Or.inl (Ne.symm ne_b20_b70))
  have P124 := G91_1.other W107 (Or.inl (Ne.symm ne_b20_b70))
  have P125 := G91_2.other W107 (Or.inl (Ne.symm ne_b20_b70))
  have P126 := G91_3.other W107 (Or.inl (Ne.symm ne_b20_b70))
  have Vc127 := P113
  obtain ⟨cl127, Ar127, q127, S127, NN127, H127, G127⟩ := Vc127
  have hin127 := inb_of (j := (0 : Int32)) S127 ⟨by decide, by decide⟩
  obtain ⟨T127, h127, X127, e127, W127, st127⟩ := stR X107 hx hZ e107 Ar127 (j := (0 : Int32)) hin127 rfl (Sto.ofVA Ar127 q127 O14 (Ins.self P116)) (g := (mkF m 45 #[.val (.ref x0)] [(.ref b20), (.int (0 : Int32)), (.ref b14), (.ref b14), (.ref x0)])) rfl rfl (hb hby d1_45)
  have N127 := Fr.snoc X127 N107 g_b14
  have Z127 : n0 ≤ h127.size := Nat.le_trans Z107 (Keep.of_wr W127).1
  have K127 : Keep h0 h127 [x0] := Keep.wr K107 W127 (Or.inr sz_b14)
  have P128 := P108.other W127 (Or.inl ne_x0_b14)
  have P129 := P109.other W127 (Or.inl ne_x0_b14)
  have P130 := P110.wr W127
  have P131 := P111.other W127 (Or.inl ne_x0_b14)
  have P132 := P112.other W127 (Or.inl ne_x0_b14)
  have P133 : Arv Z h127 b14 k14 (.array (.object "dev/stratumaudio/SideInformation$Granule")) (2 : Int32) [(.ref b20), .null] .null := Arv.set Ar127 q127 S127 NN127 H127 G127 rfl W127 0 rfl (show 0 < 2 by decide)
  have P134 := P114.wr W127
  have P135 := P115.other W127 (Ne.symm ne_b14_b20)
  have P136 := P116.wr W127
  have P137 := P117.wr W127
  have P138 := P118.other W127 (Or.inl (Ne.symm ne_b14_b28))
  have P139 := P119.other W127 (Or.inl (Ne.symm ne_b14_b28))
  have P140 := P120.other W127 (Or.inl (Ne.symm ne_b14_b28))
  have P141 := P121.other W127 (Or.inl (Ne.symm ne_b14_b28))
  have P142 := P122.wr W127
  have P143 := P123.other W127 (Or.inl (Ne.symm ne_b14_b70))
  have P144 := P124.other W127 (Or.inl (Ne.symm ne_b14_b70))
  have P145 := P125.other W127 (Or.inl (Ne.symm ne_b14_b70))
  have P146 := P126.other W127 (Or.inl (Ne.symm ne_b14_b70))
  obtain ⟨T147, h147, k147, X147, e147, E147, A147, Ex147, O147, st147⟩ := newRE X127 hx hZ hown (hw _ (List.mem_of_getElem? (i := 17) rfl)) (hw _ (List.mem_of_getElem? (i := 18) rfl)) e127 (g := (mkF m 49 #[.val (.ref x0)] [(.int (2 : Int32)), (.int (1 : Int32)), (.ref b14), (.ref b14), (.ref x0)])) rfl (hb hby d1_49) rfl (by decide) (cap := 2) (by decide) (by decide) (by decide) (by decide) (ad := "[Ldev/stratumaudio/SideInformation$Granule;") (by first | rfl | decide | decide +kernel | (simp [FieldType.toString]; done))
  obtain ⟨b147, gg147⟩ : ∃ z, z = h127.size := ⟨_, rfl⟩
  rw [← gg147] at A147 Ex147 st147
  have ne_x0_b147 : x0 ≠ b147 := Nat.ne_of_lt (Nat.lt_of_lt_of_le P128.lt (Nat.le_of_eq gg147.symm))
  have ne_b14_b147 : b14 ≠ b147 := Nat.ne_of_lt (Nat.lt_of_lt_of_le P133.lt (Nat.le_of_eq gg147.symm))
  have ne_b20_b147 : b20 ≠ b147 := Nat.ne_of_lt (Nat.lt_of_lt_of_le P135.lt (Nat.le_of_eq gg147.symm))
  have ne_b28_b147 : b28 ≠ b147 := Nat.ne_of_lt (Nat.lt_of_lt_of_le P137.lt (Nat.le_of_eq gg147.symm))
  have ne_b70_b147 : b70 ≠ b147 := Nat.ne_of_lt (Nat.lt_of_lt_of_le P142.lt (Nat.le_of_eq gg147.symm))
  have g_b147 : n0 ≤ b147 := Nat.le_trans Z127 (Nat.le_of_eq gg147.symm)
  have sz_b147 : h0.size ≤ b147 := Nat.le_trans K127.1 (Nat.le_of_eq gg147.symm)
  have Z147 : n0 ≤ h147.size := Nat.le_trans Z127 E147.1
  have K147 : Keep h0 h147 [x0] := Keep.ext K127 E147
  have P148 := P128.ext E147
  have P149 := P129.ext E147
  have P150 := P130.ext E147
  have P151 := P131.ext E147
  have P152 := P132.ext E147
  have P153 := P133.ext E147
  have P154 := P134.ext E147
  have P155 := P135.ext E147
  have P156 := P136.ext E147
  have P157 := P137.ext E147
  have P158 := P138.ext E147
  have P159 := P139.ext E147
  have P160 := P140.ext E147
  have P161 := P141.ext E147
  have P162 := P142.ext E147
  have P163 := P143.ext E147
  have P164 := P144.ext E147
  have P165 := P145.ext E147
  have P166 := P146.ext E147
  have V147 : Arv Z h147 b147 k147 (.object "dev/stratumaudio/SideInformation$Granule") (2 : Int32) [.null, .null] .null := (Arv.new A147 (by decide)).pad (pad_rep [] .null 2)
  obtain ⟨T167, h167, X167, e167, E167, A167, D167, -, st167⟩ := newO X147 hx hZ hown (hw _ (List.mem_of_getElem? (i := 17) rfl)) (hw _ (List.mem_of_getElem? (i := 19) rfl)) (hw _ (List.mem_of_getElem? (i := 20) rfl)) e147 (g := (mkF m 54 #[.val (.ref x0)] [(.int (0 : Int32)), (.ref b147), (.ref b147), (.int (1 : Int32)), (.ref b14), (.ref b14), (.ref x0)])) rfl (hb hby d1_54) (by decide) (by decide)
  obtain ⟨b167, gg167⟩ : ∃ z, z = h147.size := ⟨_, rfl⟩
  rw [← gg167] at A167 D167 st167
  have ne_x0_b167 : x0 ≠ b167 := Nat.ne_of_lt (Nat.lt_of_lt_of_le P148.lt (Nat.le_of_eq gg167.symm))
  have ne_b14_b167 : b14 ≠ b167 := Nat.ne_of_lt (Nat.lt_of_lt_of_le P153.lt (Nat.le_of_eq gg167.symm))
  have ne_b20_b167 : b20 ≠ b167 := Nat.ne_of_lt (Nat.lt_of_lt_of_le P155.lt (Nat.le_of_eq gg167.symm))
  have ne_b28_b167 : b28 ≠ b167 := Nat.ne_of_lt (Nat.lt_of_lt_of_le P157.lt (Nat.le_of_eq gg167.symm))
  have ne_b70_b167 : b70 ≠ b167 := Nat.ne_of_lt (Nat.lt_of_lt_of_le P162.lt (Nat.le_of_eq gg167.symm))
  have ne_b147_b167 : b147 ≠ b167 := Nat.ne_of_lt (Nat.lt_of_lt_of_le V147.lt (Nat.le_of_eq gg167.symm))
  have g_b167 : n0 ≤ b167 := Nat.le_trans Z147 (Nat.le_of_eq gg167.symm)
  have sz_b167 : h0.size ≤ b167 := Nat.le_trans K147.1 (Nat.le_of_eq gg167.symm)
  have Z167 : n0 ≤ h167.size := Nat.le_trans Z147 E167.1
  have K167 : Keep h0 h167 [x0] := Keep.ext K147 E167
  have P168 := P148.ext E167
  have P169 := P149.ext E167
  have P170 := P150.ext E167
  have P171 := P151.ext E167
  have P172 := P152.ext E167
  have P173 := P153.ext E167
  have P174 := P154.ext E167
  have P175 := P155.ext E167
  have P176 := P156.ext E167
  have P177 := P157.ext E167
  have P178 := P158.ext E167
  have P179 := P159.ext E167
  have P180 := P160.ext E167
  have P181 := P161.ext E167
  have P182 := P162.ext E167
  have P183 := P163.ext E167
  have P184 := P164.ext E167
  have P185 := P165.ext E167
  have P186 := P166.ext E167
  have P187 := V147.ext E167
  have P188 := Ex147.ext E167
  have P189 : Fld Z h167 b167 "dev/stratumaudio/SideInformation$Granule" "tableSelect" "[I" .null := D167 (Or.inr (hw _ (List.mem_of_getElem? (i := 27) rfl))) (ty := (.array .int)) (by decide)
  have P190 : Fld Z h167 b167 "dev/stratumaudio/SideInformation$Granule" "subblockGain" "[I" .null := D167 (Or.inr (hw _ (List.mem_of_getElem? (i := 29) rfl))) (ty := (.array .int)) (by decide)
  have P191 : Fld Z h167 b167 "dev/stratumaudio/SideInformation$Granule" "part23Length" "I" (.int (0 : Int32)) := D167 (Or.inl (hw _ (List.mem_of_getElem? (i := 45) rfl))) (ty := .int) (by decide)
  have P192 : Fld Z h167 b167 "dev/stratumaudio/SideInformation$Granule" "bigValues" "I" (.int (0 : Int32)) := D167 (Or.inl (hw _ (List.mem_of_getElem? (i := 48) rfl))) (ty := .int) (by decide)
  have P193 : Fld Z h167 b167 "dev/stratumaudio/SideInformation$Granule" "region0Count" "I" (.int (0 : Int32)) := D167 (Or.inl (hw _ (List.mem_of_getElem? (i := 51) rfl))) (ty := .int) (by decide)
  have P194 : Fld Z h167 b167 "dev/stratumaudio/SideInformation$Granule" "region1Count" "I" (.int (0 : Int32)) := D167 (Or.inl (hw _ (List.mem_of_getElem? (i := 54) rfl))) (ty := .int) (by decide)
  obtain ⟨_, _, ⟨T195, L195, k195, n195⟩, -, X195, ⟨Lc195, hQ195, l195, y195, z195⟩, st195⟩ := X167.specialBack hx (y := (⟨"dev/stratumaudio/SideInformation$Granule", "<init>", "()V"⟩ : MethodName)) rfl hown (mvT hZ (hw _ (List.mem_of_getElem? (i := 21) rfl))) (mvT hZ (hw _ (List.mem_of_getElem? (i := 22) rfl))) (mvT hZ (hw _ (List.mem_of_getElem? (i := 23) rfl))) (by decide) (backOf (W := 8) (rm3 l Z a0 hw [] b167 (.int (0 : Int32)) (.int (0 : Int32)) (.int (0 : Int32)) (.int (0 : Int32)) .null .null h167 n0 Z167 P191 P192 P193 P194 A167 g_b167 P189 P190) hZ (hw _ (List.mem_of_getElem? (i := 23) rfl)) (hw _ (List.mem_of_getElem? (i := 20) rfl)) (by decide) (by decide)) (g := (mkF m 58 #[.val (.ref x0)] [(.ref b167), (.ref b167), (.int (0 : Int32)), (.ref b147), (.ref b147), (.int (1 : Int32)), (.ref b14), (.ref b14), (.ref x0)])) rfl (by rw [hml]; rfl) (Steps.refl _) (a := b167) (argsL := []) (rest := [(.ref b167), (.int (0 : Int32)), (.ref b147), (.ref b147), (.int (1 : Int32)), (.ref b14), (.ref b14), (.ref x0)]) (lenOf pd_0 rfl) rfl (by show 2 * 0 + _ ≤ _; exact Nat.le_of_eq rfl) (hb hby d1_58) (fun _ _ => ⟨rfl, e167, (by decide : 13 + 2 ≤ _), (by decide : 70 + 6 ≤ _)⟩)
  dsimp only [Pt.U, Pt.locs, Pt.cells, Pt.slots] at X195 l195 y195 z195 st195 hQ195
  subst l195 y195 z195
  obtain ⟨rfl, Nq195, Kq195, G195_0, G195_1, G195_2, G195_3, G195_4⟩ := hQ195
  obtain ⟨h195, e195⟩ : ∃ z, T195.heap = z := ⟨_, rfl⟩
  rw [e195] at Kq195 G195_0 G195_1 G195_2 G195_3 G195_4
  have N195 := Fr.app N127 Nq195
  have Z195 : n0 ≤ h195.size := Nat.le_trans Z167 Kq195.1
  have K195 : Keep h0 h195 [x0] := Keep.trans K167 Kq195 (allS (Or.inr sz_b167) all0)
  have P196 := P168.keep Kq195 (ninS ne_x0_b167 nin0)
  have P197 := P169.keep Kq195 (ninS ne_x0_b167 nin0)
  have P198 := P170.keep Kq195
  have P199 := P171.keep Kq195 (ninS ne_x0_b167 nin0)
  have P200 := P172.keep Kq195 (ninS ne_x0_b167 nin0)
  have P201 := P173.keep Kq195 (ninS ne_b14_b167 nin0)
  have P202 := P174.keep Kq195
  have P203 := P175.keep Kq195 (ninS ne_b20_b167 nin0)
  have P204 := P176.keep Kq195
  have P205 := P177.keep Kq195
  have P206 := P178.keep Kq195 (ninS ne_b28_b167 nin0)
  have P207 := P179.keep Kq195 (ninS ne_b28_b167 nin0)
  have P208 := P180.keep Kq195 (ninS ne_b28_b167 nin0)
  have P209 := P181.keep Kq195 (ninS ne_b28_b167 nin0)
  have P210 := P182.keep Kq195
  have P211 := P183.keep Kq195 (ninS ne_b70_b167 nin0)
  have P212 := P184.keep Kq195 (ninS ne_b70_b167 nin0)
  have P213 := P185.keep Kq195 (ninS ne_b70_b167 nin0)
  have P214 := P186.keep Kq195 (ninS ne_b70_b167 nin0)
  have P215 := P187.keep Kq195 (ninS ne_b147_b167 nin0)
  have P216 := P188.keep Kq195
  have P217 := A167.keep Kq195
  have Vc218 := P215
  obtain ⟨cl218, Ar218, q218, S218, NN218, H218, G218⟩ := Vc218
  have hin218 := inb_of (j := (0 : Int32)) S218 ⟨by decide, by decide⟩
  obtain ⟨T218, h218, X218, e218, W218, st218⟩ := stR X195 hx hZ e195 Ar218 (j := (0 : Int32)) hin218 rfl (Sto.ofV Ar218 q218 O147 (Ins.self G195_4)) (g := (mkF m 61 #[.val (.ref x0)] [(.ref b167), (.int (0 : Int32)), (.ref b147), (.ref b147), (.int (1 : Int32)), (.ref b14), (.ref b14), (.ref x0)])) rfl rfl (hb hby d1_61)
  have N218 := Fr.snoc X218 N195 g_b147
  have Z218 : n0 ≤ h218.size := Nat.le_trans Z195 (Keep.of_wr W218).1
  have K218 : Keep h0 h218 [x0] := Keep.wr K195 W218 (Or.inr sz_b147)
  have P219 := P196.other W218 (Or.inl ne_x0_b147)
  have P220 := P197.other W218 (Or.inl ne_x0_b147)
  have P221 := P198.wr W218
  have P222 := P199.other W218 (Or.inl ne_x0_b147)
  have P223 := P200.other W218 (Or.inl ne_x0_b147)
  have P224 := P201.other W218 ne_b14_b147
  have P225 := P202.wr W218
  have P226 := P203.other W218 ne_b20_b147
  have P227 := P204.wr W218
  have P228 := P205.wr W218
  have P229 := P206.other W218 (Or.inl ne_b28_b147)
  have P230 := P207.other W218 (Or.inl ne_b28_b147)
  have P231 := P208.other W218 (Or.inl ne_b28_b147)
  have P232 := P209.other W218 (Or.inl ne_b28_b147)
  have P233 := P210.wr W218
  have P234 := P211.other W218 (Or.inl ne_b70_b147)
  have P235 := P212.other W218 (Or.inl ne_b70_b147)
  have P236 := P213.other W218 (Or.inl ne_b70_b147)
  have P237 := P214.other W218 (Or.inl ne_b70_b147)
  have P238 : Arv Z h218 b147 k147 (.object "dev/stratumaudio/SideInformation$Granule") (2 : Int32) [(.ref b167), .null] .null := Arv.set Ar218 q218 S218 NN218 H218 G218 rfl W218 0 rfl (show 0 < 2 by decide)
  have P239 := P216.wr W218
  have P240 := G195_4.wr W218
  have P241 := G195_0.other W218 (Or.inl (Ne.symm ne_b147_b167))
  have P242 := G195_1.other W218 (Or.inl (Ne.symm ne_b147_b167))
  have P243 := G195_2.other W218 (Or.inl (Ne.symm ne_b147_b167))
  have P244 := G195_3.other W218 (Or.inl (Ne.symm ne_b147_b167))
  obtain ⟨T245, h245, X245, e245, E245, A245, D245, -, st245⟩ := newO X218 hx hZ hown (hw _ (List.mem_of_getElem? (i := 17) rfl)) (hw _ (List.mem_of_getElem? (i := 19) rfl)) (hw _ (List.mem_of_getElem? (i := 20) rfl)) e218 (g := (mkF m 64 #[.val (.ref x0)] [(.int (1 : Int32)), (.ref b147), (.ref b147), (.int (1 : Int32)), (.ref b14), (.ref b14), (.ref x0)])) rfl (hb hby d1_64) (by decide) (by decide)
  obtain ⟨b245, gg245⟩ : ∃ z, z = h218.size := ⟨_, rfl⟩
  rw [← gg245] at A245 D245 st245
  have ne_x0_b245 : x0 ≠ b245 := Nat.ne_of_lt (Nat.lt_of_lt_of_le P219.lt (Nat.le_of_eq gg245.symm))
  have ne_b14_b245 : b14 ≠ b245 := Nat.ne_of_lt (Nat.lt_of_lt_of_le P224.lt (Nat.le_of_eq gg245.symm))
  have ne_b20_b245 : b20 ≠ b245 := Nat.ne_of_lt (Nat.lt_of_lt_of_le P226.lt (Nat.le_of_eq gg245.symm))
  have ne_b28_b245 : b28 ≠ b245 := Nat.ne_of_lt (Nat.lt_of_lt_of_le P228.lt (Nat.le_of_eq gg245.symm))
  have ne_b70_b245 : b70 ≠ b245 := Nat.ne_of_lt (Nat.lt_of_lt_of_le P233.lt (Nat.le_of_eq gg245.symm))
  have ne_b147_b245 : b147 ≠ b245 := Nat.ne_of_lt (Nat.lt_of_lt_of_le P238.lt (Nat.le_of_eq gg245.symm))
  have ne_b167_b245 : b167 ≠ b245 := Nat.ne_of_lt (Nat.lt_of_lt_of_le P240.lt (Nat.le_of_eq gg245.symm))
  have g_b245 : n0 ≤ b245 := Nat.le_trans Z218 (Nat.le_of_eq gg245.symm)
  have sz_b245 : h0.size ≤ b245 := Nat.le_trans K218.1 (Nat.le_of_eq gg245.symm)
  have Z245 : n0 ≤ h245.size := Nat.le_trans Z218 E245.1
  have K245 : Keep h0 h245 [x0] := Keep.ext K218 E245
  have P246 := P219.ext E245
  have P247 := P220.ext E245
  have P248 := P221.ext E245
  have P249 := P222.ext E245
  have P250 := P223.ext E245
  have P251 := P224.ext E245
  have P252 := P225.ext E245
  have P253 := P226.ext E245
  have P254 := P227.ext E245
  have P255 := P228.ext E245
  have P256 := P229.ext E245
  have P257 := P230.ext E245
  have P258 := P231.ext E245
  have P259 := P232.ext E245
  have P260 := P233.ext E245
  have P261 := P234.ext E245
  have P262 := P235.ext E245
  have P263 := P236.ext E245
  have P264 := P237.ext E245
  have P265 := P238.ext E245
  have P266 := P239.ext E245
  have P267 := P240.ext E245
  have P268 := P241.ext E245
  have P269 := P242.ext E245
  have P270 := P243.ext E245
  have P271 := P244.ext E245
  have P272 : Fld Z h245 b245 "dev/stratumaudio/SideInformation$Granule" "tableSelect" "[I" .null := D245 (Or.inr (hw _ (List.mem_of_getElem? (i := 27) rfl))) (ty := (.array .int)) (by decide)
  have P273 : Fld Z h245 b245 "dev/stratumaudio/SideInformation$Granule" "subblockGain" "[I" .null := D245 (Or.inr (hw _ (List.mem_of_getElem? (i := 29) rfl))) (ty := (.array .int)) (by decide)
  have P274 : Fld Z h245 b245 "dev/stratumaudio/SideInformation$Granule" "part23Length" "I" (.int (0 : Int32)) := D245 (Or.inl (hw _ (List.mem_of_getElem? (i := 45) rfl))) (ty := .int) (by decide)
  have P275 : Fld Z h245 b245 "dev/stratumaudio/SideInformation$Granule" "bigValues" "I" (.int (0 : Int32)) := D245 (Or.inl (hw _ (List.mem_of_getElem? (i := 48) rfl))) (ty := .int) (by decide)
  have P276 : Fld Z h245 b245 "dev/stratumaudio/SideInformation$Granule" "region0Count" "I" (.int (0 : Int32)) := D245 (Or.inl (hw _ (List.mem_of_getElem? (i := 51) rfl))) (ty := .int) (by decide)
  have P277 : Fld Z h245 b245 "dev/stratumaudio/SideInformation$Granule" "region1Count" "I" (.int (0 : Int32)) := D245 (Or.inl (hw _ (List.mem_of_getElem? (i := 54) rfl))) (ty := .int) (by decide)
  obtain ⟨_, _, ⟨T278, L278, k278, n278⟩, -, X278, ⟨Lc278, hQ278, l278, y278, z278⟩, st278⟩ := X245.specialBack hx (y := (⟨"dev/stratumaudio/SideInformation$Granule", "<init>", "()V"⟩ : MethodName)) rfl hown (mvT hZ (hw _ (List.mem_of_getElem? (i := 21) rfl))) (mvT hZ (hw _ (List.mem_of_getElem? (i := 22) rfl))) (mvT hZ (hw _ (List.mem_of_getElem? (i := 23) rfl))) (by decide) (backOf (W := 8) (rm3 l Z a0 hw [] b245 (.int (0 : Int32)) (.int (0 : Int32)) (.int (0 : Int32)) (.int (0 : Int32)) .null .null h245 n0 Z245 P274 P275 P276 P277 A245 g_b245 P272 P273) hZ (hw _ (List.mem_of_getElem? (i := 23) rfl)) (hw _ (List.mem_of_getElem? (i := 20) rfl)) (by decide) (by decide)) (g := (mkF m 68 #[.val (.ref x0)] [(.ref b245), (.ref b245), (.int (1 : Int32)), (.ref b147), (.ref b147), (.int (1 : Int32)), (.ref b14), (.ref b14), (.ref x0)])) rfl (by rw [hml]; rfl) (Steps.refl _) (a := b245) (argsL := []) (rest := [(.ref b245), (.int (1 : Int32)), (.ref b147), (.ref b147), (.int (1 : Int32)), (.ref b14), (.ref b14), (.ref x0)]) (lenOf pd_0 rfl) rfl (by show 2 * 0 + _ ≤ _; exact Nat.le_of_eq rfl) (hb hby d1_68) (fun _ _ => ⟨rfl, e245, (by decide : 16 + 2 ≤ _), (by decide : 90 + 6 ≤ _)⟩)
  dsimp only [Pt.U, Pt.locs, Pt.cells, Pt.slots] at X278 l278 y278 z278 st278 hQ278
  subst l278 y278 z278
  obtain ⟨rfl, Nq278, Kq278, G278_0, G278_1, G278_2, G278_3, G278_4⟩ := hQ278
  obtain ⟨h278, e278⟩ : ∃ z, T278.heap = z := ⟨_, rfl⟩
  rw [e278] at Kq278 G278_0 G278_1 G278_2 G278_3 G278_4
  have N278 := Fr.app N218 Nq278
  have Z278 : n0 ≤ h278.size := Nat.le_trans Z245 Kq278.1
  have K278 : Keep h0 h278 [x0] := Keep.trans K245 Kq278 (allS (Or.inr sz_b245) all0)
  have P279 := P246.keep Kq278 (ninS ne_x0_b245 nin0)
  have P280 := P247.keep Kq278 (ninS ne_x0_b245 nin0)
  have P281 := P248.keep Kq278
  have P282 := P249.keep Kq278 (ninS ne_x0_b245 nin0)
  have P283 := P250.keep Kq278 (ninS ne_x0_b245 nin0)
  have P284 := P251.keep Kq278 (ninS ne_b14_b245 nin0)
  have P285 := P252.keep Kq278
  have P286 := P253.keep Kq278 (ninS ne_b20_b245 nin0)
  have P287 := P254.keep Kq278
  have P288 := P255.keep Kq278
  have P289 := P256.keep Kq278 (ninS ne_b28_b245 nin0)
  have P290 := P257.keep Kq278 (ninS ne_b28_b245 nin0)
  have P291 := P258.keep Kq278 (ninS ne_b28_b245 nin0)
  have P292 := P259.keep Kq278 (ninS ne_b28_b245 nin0)
  have P293 := P260.keep Kq278
  have P294 := P261.keep Kq278 (ninS ne_b70_b245 nin0)
  have P295 := P262.keep Kq278 (ninS ne_b70_b245 nin0)
  have P296 := P263.keep Kq278 (ninS ne_b70_b245 nin0)
  have P297 := P264.keep Kq278 (ninS ne_b70_b245 nin0)
  have P298 := P265.keep Kq278 (ninS ne_b147_b245 nin0)
  have P299 := P266.keep Kq278
  have P300 := P267.keep Kq278
  have P301 := P268.keep Kq278 (ninS ne_b167_b245 nin0)
  have P302 := P269.keep Kq278 (ninS ne_b167_b245 nin0)
  have P303 := P270.keep Kq278 (ninS ne_b167_b245 nin0)
  have P304 := P271.keep Kq278 (ninS ne_b167_b245 nin0)
  have P305 := A245.keep Kq278
  have Vc306 := P298
  obtain ⟨cl306, Ar306, q306, S306, NN306, H306, G306⟩ := Vc306
  have hin306 := inb_of (j := (1 : Int32)) S306 ⟨by decide, by decide⟩
  obtain ⟨T306, h306, X306, e306, W306, st306⟩ := stR X278 hx hZ e278 Ar306 (j := (1 : Int32)) hin306 rfl (Sto.ofV Ar306 q306 O147 (Ins.self G278_4)) (g := (mkF m 71 #[.val (.ref x0)] [(.ref b245), (.int (1 : Int32)), (.ref b147), (.ref b147), (.int (1 : Int32)), (.ref b14), (.ref b14), (.ref x0)])) rfl rfl (hb hby d1_71)
  have N306 := Fr.snoc X306 N278 g_b147
  have Z306 : n0 ≤ h306.size := Nat.le_trans Z278 (Keep.of_wr W306).1
  have K306 : Keep h0 h306 [x0] := Keep.wr K278 W306 (Or.inr sz_b147)
  have P307 := P279.other W306 (Or.inl ne_x0_b147)
  have P308 := P280.other W306 (Or.inl ne_x0_b147)
  have P309 := P281.wr W306
  have P310 := P282.other W306 (Or.inl ne_x0_b147)
  have P311 := P283.other W306 (Or.inl ne_x0_b147)
  have P312 := P284.other W306 ne_b14_b147
  have P313 := P285.wr W306
  have P314 := P286.other W306 ne_b20_b147
  have P315 := P287.wr W306
  have P316 := P288.wr W306
  have P317 := P289.other W306 (Or.inl ne_b28_b147)
  have P318 := P290.other W306 (Or.inl ne_b28_b147)
  have P319 := P291.other W306 (Or.inl ne_b28_b147)
  have P320 := P292.other W306 (Or.inl ne_b28_b147)
  have P321 := P293.wr W306
  have P322 := P294.other W306 (Or.inl ne_b70_b147)
  have P323 := P295.other W306 (Or.inl ne_b70_b147)
  have P324 := P296.other W306 (Or.inl ne_b70_b147)
  have P325 := P297.other W306 (Or.inl ne_b70_b147)
  have P326 : Arv Z h306 b147 k147 (.object "dev/stratumaudio/SideInformation$Granule") (2 : Int32) [(.ref b167), (.ref b245)] .null := Arv.set Ar306 q306 S306 NN306 H306 G306 rfl W306 1 rfl (show 1 < 2 by decide)
  have P327 := P299.wr W306
  have P328 := P300.wr W306
  have P329 := P301.other W306 (Or.inl (Ne.symm ne_b147_b167))
  have P330 := P302.other W306 (Or.inl (Ne.symm ne_b147_b167))
  have P331 := P303.other W306 (Or.inl (Ne.symm ne_b147_b167))
  have P332 := P304.other W306 (Or.inl (Ne.symm ne_b147_b167))
  have P333 := G278_4.wr W306
  have P334 := G278_0.other W306 (Or.inl (Ne.symm ne_b147_b245))
  have P335 := G278_1.other W306 (Or.inl (Ne.symm ne_b147_b245))
  have P336 := G278_2.other W306 (Or.inl (Ne.symm ne_b147_b245))
  have P337 := G278_3.other W306 (Or.inl (Ne.symm ne_b147_b245))
  have Vc338 := P312
  obtain ⟨cl338, Ar338, q338, S338, NN338, H338, G338⟩ := Vc338
  have hin338 := inb_of (j := (1 : Int32)) S338 ⟨by decide, by decide⟩
  obtain ⟨T338, h338, X338, e338, W338, st338⟩ := stR X306 hx hZ e306 Ar338 (j := (1 : Int32)) hin338 rfl (Sto.ofVA Ar338 q338 O14 (Ins.self P327)) (g := (mkF m 72 #[.val (.ref x0)] [(.ref b147), (.int (1 : Int32)), (.ref b14), (.ref b14), (.ref x0)])) rfl rfl (hb hby d1_72)
  have N338 := Fr.snoc X338 N306 g_b14
  have Z338 : n0 ≤ h338.size := Nat.le_trans Z306 (Keep.of_wr W338).1
  have K338 : Keep h0 h338 [x0] := Keep.wr K306 W338 (Or.inr sz_b14)
  have P339 := P307.other W338 (Or.inl ne_x0_b14)
  have P340 := P308.other W338 (Or.inl ne_x0_b14)
  have P341 := P309.wr W338
  have P342 := P310.other W338 (Or.inl ne_x0_b14)
  have P343 := P311.other W338 (Or.inl ne_x0_b14)
  have P344 : Arv Z h338 b14 k14 (.array (.object "dev/stratumaudio/SideInformation$Granule")) (2 : Int32) [(.ref b20), (.ref b147)] .null := Arv.set Ar338 q338 S338 NN338 H338 G338 rfl W338 1 rfl (show 1 < 2 by decide)
  have P345 := P313.wr W338
  have P346 := P314.other W338 (Ne.symm ne_b14_b20)
  have P347 := P315.wr W338
  have P348 := P316.wr W338
  have P349 := P317.other W338 (Or.inl (Ne.symm ne_b14_b28))
  have P350 := P318.other W338 (Or.inl (Ne.symm ne_b14_b28))
  have P351 := P319.other W338 (Or.inl (Ne.symm ne_b14_b28))
  have P352 := P320.other W338 (Or.inl (Ne.symm ne_b14_b28))
  have P353 := P321.wr W338
  have P354 := P322.other W338 (Or.inl (Ne.symm ne_b14_b70))
  have P355 := P323.other W338 (Or.inl (Ne.symm ne_b14_b70))
  have P356 := P324.other W338 (Or.inl (Ne.symm ne_b14_b70))
  have P357 := P325.other W338 (Or.inl (Ne.symm ne_b14_b70))
  have P358 := P326.other W338 (Ne.symm ne_b14_b147)
  have P359 := P327.wr W338
  have P360 := P328.wr W338
  have P361 := P329.other W338 (Or.inl (Ne.symm ne_b14_b167))
  have P362 := P330.other W338 (Or.inl (Ne.symm ne_b14_b167))
  have P363 := P331.other W338 (Or.inl (Ne.symm ne_b14_b167))
  have P364 := P332.other W338 (Or.inl (Ne.symm ne_b14_b167))
  have P365 := P333.wr W338
  have P366 := P334.other W338 (Or.inl (Ne.symm ne_b14_b245))
  have P367 := P335.other W338 (Or.inl (Ne.symm ne_b14_b245))
  have P368 := P336.other W338 (Or.inl (Ne.symm ne_b14_b245))
  have P369 := P337.other W338 (Or.inl (Ne.symm ne_b14_b245))
  obtain ⟨T370, h370, X370, e370, W370, st370⟩ := putF X338 hx hZ hown (host := "") (Or.inl (hw _ (List.mem_of_getElem? (i := 32) rfl))) Via.refl e338 P343 P341 (Or.inr ⟨(hw _ (List.mem_of_getElem? (i := 33) rfl)), rfl, hnm⟩) (hw _ (List.mem_of_getElem? (i := 2) rfl)) (ty := (.array (.array (.object "dev/stratumaudio/SideInformation$Granule")))) (by decide) rfl rfl (g := (mkF m 73 #[.val (.ref x0)] [(.ref b14), (.ref x0)])) rfl rfl (hb hby d1_73)
  have N370 := Fr.snoc X370 N338 g_x0
  have Z370 : n0 ≤ h370.size := Nat.le_trans Z338 (Keep.of_wr W370).1
  have K370 : Keep h0 h370 [x0] := Keep.wr K338 W370 (Or.inl (List.mem_of_getElem? (i := 0) rfl))
  have P371 := P339.other W370 (Or.inr (slot_ne (Or.inl (hw _ (List.mem_of_getElem? (i := 35) rfl))) (Or.inr (hw _ (List.mem_of_getElem? (i := 33) rfl))) (by decide) (t := .int) (t' := (.array (.array (.object "dev/stratumaudio/SideInformation$Granule")))) (by decide) (by decide)))
  have P372 := P340.other W370 (Or.inr (slot_ne (Or.inl (hw _ (List.mem_of_getElem? (i := 37) rfl))) (Or.inr (hw _ (List.mem_of_getElem? (i := 33) rfl))) (by decide) (t := .int) (t' := (.array (.array (.object "dev/stratumaudio/SideInformation$Granule")))) (by decide) (by decide)))
  have P373 := P341.wr W370
  have P374 := P342.other W370 (Or.inr (slot_ne (Or.inr (hw _ (List.mem_of_getElem? (i := 14) rfl))) (Or.inr (hw _ (List.mem_of_getElem? (i := 33) rfl))) (by decide) (t := (.array (.array .boolean))) (t' := (.array (.array (.object "dev/stratumaudio/SideInformation$Granule")))) (by decide) (by decide)))
  have P375 := P343.same W370
  have P376 := P344.other W370 (Ne.symm ne_x0_b14)
  have P377 := P345.wr W370
  have P378 := P346.other W370 (Ne.symm ne_x0_b20)
  have P379 := P347.wr W370
  have P380 := P348.wr W370
  have P381 := P349.other W370 (Or.inl (Ne.symm ne_x0_b28))
  have P382 := P350.other W370 (Or.inl (Ne.symm ne_x0_b28))
  have P383 := P351.other W370 (Or.inl (Ne.symm ne_x0_b28))
  have P384 := P352.other W370 (Or.inl (Ne.symm ne_x0_b28))
  have P385 := P353.wr W370
  have P386 := P354.other W370 (Or.inl (Ne.symm ne_x0_b70))
  have P387 := P355.other W370 (Or.inl (Ne.symm ne_x0_b70))
  have P388 := P356.other W370 (Or.inl (Ne.symm ne_x0_b70))
  have P389 := P357.other W370 (Or.inl (Ne.symm ne_x0_b70))
  have P390 := P358.other W370 (Ne.symm ne_x0_b147)
  have P391 := P359.wr W370
  have P392 := P360.wr W370
  have P393 := P361.other W370 (Or.inl (Ne.symm ne_x0_b167))
  have P394 := P362.other W370 (Or.inl (Ne.symm ne_x0_b167))
  have P395 := P363.other W370 (Or.inl (Ne.symm ne_x0_b167))
  have P396 := P364.other W370 (Or.inl (Ne.symm ne_x0_b167))
  have P397 := P365.wr W370
  have P398 := P366.other W370 (Or.inl (Ne.symm ne_x0_b245))
  have P399 := P367.other W370 (Or.inl (Ne.symm ne_x0_b245))
  have P400 := P368.other W370 (Or.inl (Ne.symm ne_x0_b245))
  have P401 := P369.other W370 (Or.inl (Ne.symm ne_x0_b245))
  obtain ⟨fs, hr, hrun, hended, hW, hsame⟩ := X370.leave (v := none) (fun _ => rfl)
  refine ⟨_, _, pre0 _ ?_, hrun, hended, _, _, rfl, ?_, ⟨_, rfl⟩, hW, hsame.mono (by decide) (by decide)⟩
  · show Steps p.tables e below (s₁.setTop (mkF m 0 #[.val (.ref x0)] [])) _
    refine XS.aloadN X0.here hx rfl (hb hby d1_0) rfl rfl ?_
    show Steps p.tables e below (s₁.setTop (mkF m 1 #[.val (.ref x0)] [(.ref x0)])) _
    refine st1 _ ?_
    show Steps p.tables e below (T1.setTop (mkF m 4 #[.val (.ref x0)] [])) _
    refine XS.aloadN X1.here hx rfl (hb hby d1_4) rfl rfl ?_
    show Steps p.tables e below (T1.setTop (mkF m 5 #[.val (.ref x0)] [(.ref x0)])) _
    refine XS.iconst X1.here hx rfl (hb hby d1_5) ?_
    show Steps p.tables e below (T1.setTop (mkF m 6 #[.val (.ref x0)] [(.int (2 : Int32)), (.ref x0)])) _
    refine XS.iconst X1.here hx rfl (hb hby d1_6) ?_
    show Steps p.tables e below (T1.setTop (mkF m 7 #[.val (.ref x0)] [(.int (4 : Int32)), (.int (2 : Int32)), (.ref x0)])) _
    refine st2 _ ?_
    show Steps p.tables e below (T2.setTop (mkF m 11 #[.val (.ref x0)] [(.ref b2), (.ref x0)])) _
    refine st8 _ ?_
    show Steps p.tables e below (T8.setTop (mkF m 14 #[.val (.ref x0)] [])) _
    refine XS.aloadN X8.here hx rfl (hb hby d1_14) rfl rfl ?_
    show Steps p.tables e below (T8.setTop (mkF m 15 #[.val (.ref x0)] [(.ref x0)])) _
    refine XS.iconst X8.here hx rfl (hb hby d1_15) ?_
    show Steps p.tables e below (T8.setTop (mkF m 16 #[.val (.ref x0)] [(.int (2 : Int32)), (.ref x0)])) _
    refine st14 _ ?_
    show Steps p.tables e below (T14.setTop (mkF m 19 #[.val (.ref x0)] [(.ref b14), (.ref x0)])) _
    refine XS.dup X14.here hx rfl (hb hby d1_19) rfl rfl ?_
    show Steps p.tables e below (T14.setTop (mkF m 20 #[.val (.ref x0)] [(.ref b14), (.ref b14), (.ref x0)])) _
    refine XS.iconst X14.here hx rfl (hb hby d1_20) ?_
    show Steps p.tables e below (T14.setTop (mkF m 21 #[.val (.ref x0)] [(.int (0 : Int32)), (.ref b14), (.ref b14), (.ref x0)])) _
    refine XS.iconst X14.here hx rfl (hb hby d1_21) ?_
    show Steps p.tables e below (T14.setTop (mkF m 22 #[.val (.ref x0)] [(.int (2 : Int32)), (.int (0 : Int32)), (.ref b14), (.ref b14), (.ref x0)])) _
    refine st20 _ ?_
    show Steps p.tables e below (T20.setTop (mkF m 25 #[.val (.ref x0)] [(.ref b20), (.int (0 : Int32)), (.ref b14), (.ref b14), (.ref x0)])) _
    refine XS.dup X20.here hx rfl (hb hby d1_25) rfl rfl ?_
    show Steps p.tables e below (T20.setTop (mkF m 26 #[.val (.ref x0)] [(.ref b20), (.ref b20), (.int (0 : Int32)), (.ref b14), (.ref b14), (.ref x0)])) _
    refine XS.iconst X20.here hx rfl (hb hby d1_26) ?_
    show Steps p.tables e below (T20.setTop (mkF m 27 #[.val (.ref x0)] [(.int (0 : Int32)), (.ref b20), (.ref b20), (.int (0 : Int32)), (.ref b14), (.ref b14), (.ref x0)])) _
    refine st28 _ ?_
    show Steps p.tables e below (T28.setTop (mkF m 30 #[.val (.ref x0)] [(.ref b28), (.int (0 : Int32)), (.ref b20), (.ref b20), (.int (0 : Int32)), (.ref b14), (.ref b14), (.ref x0)])) _
    refine XS.dup X28.here hx rfl (hb hby d1_30) rfl rfl ?_
    show Steps p.tables e below (T28.setTop (mkF m 31 #[.val (.ref x0)] [(.ref b28), (.ref b28), (.int (0 : Int32)), (.ref b20), (.ref b20), (.int (0 : Int32)), (.ref b14), (.ref b14), (.ref x0)])) _
    refine st44.trans ?_
    show Steps p.tables e below (T44.setTop (mkF m 34 #[.val (.ref x0)] [(.ref b28), (.int (0 : Int32)), (.ref b20), (.ref b20), (.int (0 : Int32)), (.ref b14), (.ref b14), (.ref x0)])) _
    refine st55 _ ?_
    show Steps p.tables e below (T55.setTop (mkF m 35 #[.val (.ref x0)] [(.ref b20), (.int (0 : Int32)), (.ref b14), (.ref b14), (.ref x0)])) _
    refine XS.dup X55.here hx rfl (hb hby d1_35) rfl rfl ?_
    show Steps p.tables e below (T55.setTop (mkF m 36 #[.val (.ref x0)] [(.ref b20), (.ref b20), (.int (0 : Int32)), (.ref b14), (.ref b14), (.ref x0)])) _
    refine XS.iconst X55.here hx rfl (hb hby d1_36) ?_
    show Steps p.tables e below (T55.setTop (mkF m 37 #[.val (.ref x0)] [(.int (1 : Int32)), (.ref b20), (.ref b20), (.int (0 : Int32)), (.ref b14), (.ref b14), (.ref x0)])) _
    refine st70 _ ?_
    show Steps p.tables e below (T70.setTop (mkF m 40 #[.val (.ref x0)] [(.ref b70), (.int (1 : Int32)), (.ref b20), (.ref b20), (.int (0 : Int32)), (.ref b14), (.ref b14), (.ref x0)])) _
    refine XS.dup X70.here hx rfl (hb hby d1_40) rfl rfl ?_
    show Steps p.tables e below (T70.setTop (mkF m 41 #[.val (.ref x0)] [(.ref b70), (.ref b70), (.int (1 : Int32)), (.ref b20), (.ref b20), (.int (0 : Int32)), (.ref b14), (.ref b14), (.ref x0)])) _
    refine st91.trans ?_
    show Steps p.tables e below (T91.setTop (mkF m 44 #[.val (.ref x0)] [(.ref b70), (.int (1 : Int32)), (.ref b20), (.ref b20), (.int (0 : Int32)), (.ref b14), (.ref b14), (.ref x0)])) _
    refine st107 _ ?_
    show Steps p.tables e below (T107.setTop (mkF m 45 #[.val (.ref x0)] [(.ref b20), (.int (0 : Int32)), (.ref b14), (.ref b14), (.ref x0)])) _
    refine st127 _ ?_
    show Steps p.tables e below (T127.setTop (mkF m 46 #[.val (.ref x0)] [(.ref b14), (.ref x0)])) _
    refine XS.dup X127.here hx rfl (hb hby d1_46) rfl rfl ?_
    show Steps p.tables e below (T127.setTop (mkF m 47 #[.val (.ref x0)] [(.ref b14), (.ref b14), (.ref x0)])) _
    refine XS.iconst X127.here hx rfl (hb hby d1_47) ?_
    show Steps p.tables e below (T127.setTop (mkF m 48 #[.val (.ref x0)] [(.int (1 : Int32)), (.ref b14), (.ref b14), (.ref x0)])) _
    refine XS.iconst X127.here hx rfl (hb hby d1_48) ?_
    show Steps p.tables e below (T127.setTop (mkF m 49 #[.val (.ref x0)] [(.int (2 : Int32)), (.int (1 : Int32)), (.ref b14), (.ref b14), (.ref x0)])) _
    refine st147 _ ?_
    show Steps p.tables e below (T147.setTop (mkF m 52 #[.val (.ref x0)] [(.ref b147), (.int (1 : Int32)), (.ref b14), (.ref b14), (.ref x0)])) _
    refine XS.dup X147.here hx rfl (hb hby d1_52) rfl rfl ?_
    show Steps p.tables e below (T147.setTop (mkF m 53 #[.val (.ref x0)] [(.ref b147), (.ref b147), (.int (1 : Int32)), (.ref b14), (.ref b14), (.ref x0)])) _
    refine XS.iconst X147.here hx rfl (hb hby d1_53) ?_
    show Steps p.tables e below (T147.setTop (mkF m 54 #[.val (.ref x0)] [(.int (0 : Int32)), (.ref b147), (.ref b147), (.int (1 : Int32)), (.ref b14), (.ref b14), (.ref x0)])) _
    refine st167 _ ?_
    show Steps p.tables e below (T167.setTop (mkF m 57 #[.val (.ref x0)] [(.ref b167), (.int (0 : Int32)), (.ref b147), (.ref b147), (.int (1 : Int32)), (.ref b14), (.ref b14), (.ref x0)])) _
    refine XS.dup X167.here hx rfl (hb hby d1_57) rfl rfl ?_
    show Steps p.tables e below (T167.setTop (mkF m 58 #[.val (.ref x0)] [(.ref b167), (.ref b167), (.int (0 : Int32)), (.ref b147), (.ref b147), (.int (1 : Int32)), (.ref b14), (.ref b14), (.ref x0)])) _
    refine st195.trans ?_
    show Steps p.tables e below (T195.setTop (mkF m 61 #[.val (.ref x0)] [(.ref b167), (.int (0 : Int32)), (.ref b147), (.ref b147), (.int (1 : Int32)), (.ref b14), (.ref b14), (.ref x0)])) _
    refine st218 _ ?_
    show Steps p.tables e below (T218.setTop (mkF m 62 #[.val (.ref x0)] [(.ref b147), (.int (1 : Int32)), (.ref b14), (.ref b14), (.ref x0)])) _
    refine XS.dup X218.here hx rfl (hb hby d1_62) rfl rfl ?_
    show Steps p.tables e below (T218.setTop (mkF m 63 #[.val (.ref x0)] [(.ref b147), (.ref b147), (.int (1 : Int32)), (.ref b14), (.ref b14), (.ref x0)])) _
    refine XS.iconst X218.here hx rfl (hb hby d1_63) ?_
    show Steps p.tables e below (T218.setTop (mkF m 64 #[.val (.ref x0)] [(.int (1 : Int32)), (.ref b147), (.ref b147), (.int (1 : Int32)), (.ref b14), (.ref b14), (.ref x0)])) _
    refine st245 _ ?_
    show Steps p.tables e below (T245.setTop (mkF m 67 #[.val (.ref x0)] [(.ref b245), (.int (1 : Int32)), (.ref b147), (.ref b147), (.int (1 : Int32)), (.ref b14), (.ref b14), (.ref x0)])) _
    refine XS.dup X245.here hx rfl (hb hby d1_67) rfl rfl ?_
    show Steps p.tables e below (T245.setTop (mkF m 68 #[.val (.ref x0)] [(.ref b245), (.ref b245), (.int (1 : Int32)), (.ref b147), (.ref b147), (.int (1 : Int32)), (.ref b14), (.ref b14), (.ref x0)])) _
    refine st278.trans ?_
    show Steps p.tables e below (T278.setTop (mkF m 71 #[.val (.ref x0)] [(.ref b245), (.int (1 : Int32)), (.ref b147), (.ref b147), (.int (1 : Int32)), (.ref b14), (.ref b14), (.ref x0)])) _
    refine st306 _ ?_
    show Steps p.tables e below (T306.setTop (mkF m 72 #[.val (.ref x0)] [(.ref b147), (.int (1 : Int32)), (.ref b14), (.ref b14), (.ref x0)])) _
    refine st338 _ ?_
    show Steps p.tables e below (T338.setTop (mkF m 73 #[.val (.ref x0)] [(.ref b14), (.ref x0)])) _
    refine st370 _ ?_
    show Steps p.tables e below (T370.setTop (mkF m 76 #[.val (.ref x0)] [])) _
    exact X370.returnOut hx hret (hb hby d1_76) hr
  · show Q1 Z x0 u_granuleCount_x0 u_channelCount_x0 u_scfsi_x0 u_granules_x0 h0 n0 _ T370.heap _
    rw [e370]
    exact ⟨b14, b20, b147, b28, b70, b167, b245, k14, k20, k147, rfl, N370, K370, sz_b14, sz_b20, sz_b147, sz_b28, sz_b70, sz_b167, sz_b245, ne_x0_b14, ne_x0_b20, ne_x0_b147, ne_x0_b28, ne_x0_b70, ne_x0_b167, ne_x0_b245, ne_b14_b20, ne_b14_b147, ne_b14_b28, ne_b14_b70, ne_b14_b167, ne_b14_b245, ne_b20_b147, ne_b20_b28, ne_b20_b70, ne_b20_b167, ne_b20_b245, (Ne.symm ne_b28_b147), (Ne.symm ne_b70_b147), ne_b147_b167, ne_b147_b245, ne_b28_b70, ne_b28_b167, ne_b28_b245, ne_b70_b167, ne_b70_b245, ne_b167_b245, P371, P372, P373, P375, P376, P377, P378, P379, P380, P381, P382, P383, P384, P385, P386, P387, P388, P389, P390, P391, P392, P393, P394, P395, P396, P397, P398, P399, P400, P401⟩
-- body 4: dev/stratumaudio/SideInformationIsPossiblePinLaw.put:(Ldev/stratumaudio/SideInformation$Granule;J)V
theorem d4_0 : decode method_2_code 0 = .ok (.aload_n 0, 1) := by decide +kernel
theorem d4_1 : decode method_2_code 1 = .ok (.lload_n 1, 1) := by decide +kernel
theorem d4_2 : decode method_2_code 2 = .ok (.ldc2_w 7, 3) := by decide +kernel
theorem d4_5 : decode method_2_code 5 = .ok (.land, 1) := by decide +kernel
theorem d4_6 : decode method_2_code 6 = .ok (.l2i, 1) := by decide +kernel
theorem d4_7 : decode method_2_code 7 = .ok (.putfield 9, 3) := by decide +kernel
theorem d4_10 : decode method_2_code 10 = .ok (.aload_n 0, 1) := by decide +kernel
theorem d4_11 : decode method_2_code 11 = .ok (.lload_n 1, 1) := by decide +kernel
theorem d4_12 : decode method_2_code 12 = .ok (.bipush 12, 2) := by decide +kernel
theorem d4_14 : decode method_2_code 14 = .ok (.lushr, 1) := by decide +kernel
theorem d4_15 : decode method_2_code 15 = .ok (.ldc2_w 15, 3) := by decide +kernel
theorem d4_18 : decode method_2_code 18 = .ok (.land, 1) := by decide +kernel
theorem d4_19 : decode method_2_code 19 = .ok (.l2i, 1) := by decide +kernel
theorem d4_20 : decode method_2_code 20 = .ok (.putfield 17, 3) := by decide +kernel
theorem d4_23 : decode method_2_code 23 = .ok (.aload_n 0, 1) := by decide +kernel
theorem d4_24 : decode method_2_code 24 = .ok (.lload_n 1, 1) := by decide +kernel
theorem d4_25 : decode method_2_code 25 = .ok (.bipush 21, 2) := by decide +kernel
theorem d4_27 : decode method_2_code 27 = .ok (.lushr, 1) := by decide +kernel
theorem d4_28 : decode method_2_code 28 = .ok (.ldc2_w 20, 3) := by decide +kernel
theorem d4_31 : decode method_2_code 31 = .ok (.land, 1) := by decide +kernel
theorem d4_32 : decode method_2_code 32 = .ok (.l2i, 1) := by decide +kernel
theorem d4_33 : decode method_2_code 33 = .ok (.putfield 22, 3) := by decide +kernel
theorem d4_36 : decode method_2_code 36 = .ok (.aload_n 0, 1) := by decide +kernel
theorem d4_37 : decode method_2_code 37 = .ok (.lload_n 1, 1) := by decide +kernel
theorem d4_38 : decode method_2_code 38 = .ok (.bipush 25, 2) := by decide +kernel
theorem d4_40 : decode method_2_code 40 = .ok (.lushr, 1) := by decide +kernel
theorem d4_41 : decode method_2_code 41 = .ok (.ldc2_w 25, 3) := by decide +kernel
theorem d4_44 : decode method_2_code 44 = .ok (.land, 1) := by decide +kernel
theorem d4_45 : decode method_2_code 45 = .ok (.l2i, 1) := by decide +kernel
theorem d4_46 : decode method_2_code 46 = .ok (.putfield 27, 3) := by decide +kernel
theorem d4_49 : decode method_2_code 49 = .ok (.return_, 1) := by decide +kernel
theorem pn_2 : plainName "dev/stratumaudio/SideInformationIsPossiblePinLaw" = true := by first | (simp [plainName, overriddenIn]; done) | decide +kernel
theorem ef_4 (m : MethodId) (x0 : Addr) (x1 : Int64) : entryFrame m #[(.ref x0), (.long x1)] 3 = mkF m 0 #[.val (.ref x0), .val (.long x1), .second] [] := by first | (simp [entryFrame, mkF, argsToLocals, Value.category]; done) | rfl
def Q4 (Z : State) (x0 : Addr) (x1 : Int64) (u_part23Length_x0 : Value) (u_bigValues_x0 : Value) (u_region0Count_x0 : Value) (u_region1Count_x0 : Value) (h0 : Heap) (n0 : Nat) (v : Option Value) (h : Heap) (L : List Loc) : Prop := v = none ∧ Fr n0 L ∧ Keep h0 h [x0] ∧ Exa Z h x0 "dev/stratumaudio/SideInformation$Granule" ∧ Fld Z h x0 "dev/stratumaudio/SideInformation$Granule" "part23Length" "I" (.int ((x1 &&& (4095 : Int64)).toInt32)) ∧ Fld Z h x0 "dev/stratumaudio/SideInformation$Granule" "bigValues" "I" (.int (((own_lushr x1 (12 : Int32)) &&& (511 : Int64)).toInt32)) ∧ Fld Z h x0 "dev/stratumaudio/SideInformation$Granule" "region0Count" "I" (.int (((own_lushr x1 (21 : Int32)) &&& (15 : Int64)).toInt32)) ∧ Fld Z h x0 "dev/stratumaudio/SideInformation$Granule" "region1Count" "I" (.int (((own_lushr x1 (25 : Int32)) &&& (7 : Int64)).toInt32))
set_option maxRecDepth 65536 in
set_option maxHeartbeats 40000000 in
theorem rm4 (l : Launch) (Z : State) (a0 : Array Value) (hw : ∀ d ∈ tables_1, d.before a0 Z = true) (ws : List Jvm.Cond) (x0 : Addr) (x1 : Int64) (u_part23Length_x0 : Value) (u_bigValues_x0 : Value) (u_region0Count_x0 : Value) (u_region1Count_x0 : Value) (h0 : Heap) (n0 : Nat) (Z0 : n0 ≤ h0.size) (E_x0 : Exa Z h0 x0 "dev/stratumaudio/SideInformation$Granule") (g_x0 : n0 ≤ x0) (F_x0_part23Length : Fld Z h0 x0 "dev/stratumaudio/SideInformation$Granule" "part23Length" "I" u_part23Length_x0) (F_x0_bigValues : Fld Z h0 x0 "dev/stratumaudio/SideInformation$Granule" "bigValues" "I" u_bigValues_x0) (F_x0_region0Count : Fld Z h0 x0 "dev/stratumaudio/SideInformation$Granule" "region0Count" "I" u_region0Count_x0) (F_x0_region1Count : Fld Z h0 x0 "dev/stratumaudio/SideInformation$Granule" "region1Count" "I" u_region1Count_x0) :
    MetFree l (⟨"dev/stratumaudio/SideInformationIsPossiblePinLaw", "put", "(Ldev/stratumaudio/SideInformation$Granule;J)V"⟩ : MethodName) (head1 (Jvm.Cond.code (⟨"dev/stratumaudio/SideInformationIsPossiblePinLaw", "put", "(Ldev/stratumaudio/SideInformation$Granule;J)V"⟩ : MethodName) method_2_code 3 (none) :: ws) ({ frames := 0, cells := 0, slots := 0, locals := 0 } : Room)) (fun a U => a = #[(.ref x0), (.long x1)] ∧ Z.Warmed39 U.vm ∧ U.heap = h0) (fun _ _ _ _ _ => True) (fun _ U o U' => ∃ v L, o = .returned v ∧ Q4 Z x0 x1 u_part23Length_x0 u_bigValues_x0 u_region0Count_x0 u_region1Count_x0 h0 n0 v U'.heap L ∧ FrameEnd U o U' L ({ frames := 0, cells := 0, slots := 0, locals := 0 } : Room).cells ({ frames := 0, cells := 0, slots := 0, locals := 0 } : Room).slots) := by
  refine MetFree.of_bodySF (plainFor_of_name pn_2) hisR ?_
  intro p e s m args below meth c s₁ Bd hml0 hP hK0
  obtain ⟨rfl, hZ, hh⟩ := hP
  have hx := Bd.exec
  have hby := Bd.bytes
  have hml : c.maxLocals = 3 := hml0
  have hown : s.vm.findClass "dev/stratumaudio/SideInformationIsPossiblePinLaw" = some m.cls := findClass_of_methodNamed Bd.named
  have hnm := (name_of_methodNamed Bd.named Bd.method).1
  have hret : meth.sig.returnType = none := Bd.returns
  have hlk : meth.locks = false := Bd.notSynchronized
  have X0 : Stand p l e ({ frames := 0, cells := 0, slots := 0, locals := 0 } : Room) s m #[(.ref x0), (.long x1)] below meth c s₁ [] 0 0 := Stand.of_body Bd
  have e0 : s₁.heap = h0 := by rw [← hh, Bd.state]; rfl
  have N0 := Fr.nil n0
  have pre0 : ∀ t, Steps p.tables e below (s₁.setTop (mkF m 0 #[.val (.ref x0), .val (.long x1), .second] [])) t → Steps p.tables e below (s₁.setTop (entryFrame m #[(.ref x0), (.long x1)] 3)) t := fun t k => castTop (ef_4 m x0 x1) k
  obtain ⟨T1, h1, X1, e1, W1, st1⟩ := putF X0 hx hZ hown (host := "") (Or.inl (hw _ (List.mem_of_getElem? (i := 44) rfl))) Via.refl e0 F_x0_part23Length E_x0 (Or.inl (hw _ (List.mem_of_getElem? (i := 45) rfl))) (hw _ (List.mem_of_getElem? (i := 19) rfl)) (ty := .int) (by decide) rfl rfl (g := (mkF m 7 #[.val (.ref x0), .val (.long x1), .second] [(.int ((x1 &&& (4095 : Int64)).toInt32)), (.ref x0)])) rfl rfl (hb hby d4_7)
  have N1 := Fr.snoc X1 N0 g_x0
  have Z1 : n0 ≤ h1.size := Nat.le_trans Z0 (Keep.of_wr W1).1
  have K1 : Keep h0 h1 [x0] := Keep.wr (Keep.refl h0 [x0]) W1 (Or.inl (List.mem_of_getElem? (i := 0) rfl))
  have P2 := E_x0.wr W1
  have P3 := F_x0_part23Length.same W1
  have P4 := F_x0_bigValues.other W1 (Or.inr (slot_ne (Or.inl (hw _ (List.mem_of_getElem? (i := 48) rfl))) (Or.inl (hw _ (List.mem_of_getElem? (i := 45) rfl))) (by decide) (t := .int) (t' := .int) (by decide) (by decide)))
  have P5 := F_x0_region0Count.other W1 (Or.inr (slot_ne (Or.inl (hw _ (List.mem_of_getElem? (i := 51) rfl))) (Or.inl (hw _ (List.mem_of_getElem? (i := 45) rfl))) (by decide) (t := .int) (t' := .int) (by decide) (by decide)))
  have P6 := F_x0_region1Count.other W1 (Or.inr (slot_ne (Or.inl (hw _ (List.mem_of_getElem? (i := 54) rfl))) (Or.inl (hw _ (List.mem_of_getElem? (i := 45) rfl))) (by decide) (t := .int) (t' := .int) (by decide) (by decide)))
  obtain ⟨T7, h7, X7, e7, W7, st7⟩ := putF X1 hx hZ hown (host := "") (Or.inl (hw _ (List.mem_of_getElem? (i := 47) rfl))) Via.refl e1 P4 P2 (Or.inl (hw _ (List.mem_of_getElem? (i := 48) rfl))) (hw _ (List.mem_of_getElem? (i := 19) rfl)) (ty := .int) (by decide) rfl rfl (g := (mkF m 20 #[.val (.ref x0), .val (.long x1), .second] [(.int (((own_lushr x1 (12 : Int32)) &&& (511 : Int64)).toInt32)), (.ref x0)])) rfl rfl (hb hby d4_20)
  have N7 := Fr.snoc X7 N1 g_x0
  have Z7 : n0 ≤ h7.size := Nat.le_trans Z1 (Keep.of_wr W7).1
  have K7 : Keep h0 h7 [x0] := Keep.wr K1 W7 (Or.inl (List.mem_of_getElem? (i := 0) rfl))
  have P8 := P2.wr W7
  have P9 := P3.other W7 (Or.inr (slot_ne (Or.inl (hw _ (List.mem_of_getElem? (i := 45) rfl))) (Or.inl (hw _ (List.mem_of_getElem? (i := 48) rfl))) (by decide) (t := .int) (t' := .int) (by decide) (by decide)))
  have P10 := P4.same W7
  have P11 := P5.other W7 (Or.inr (slot_ne (Or.inl (hw _ (List.mem_of_getElem? (i := 51) rfl))) (Or.inl (hw _ (List.mem_of_getElem? (i := 48) rfl))) (by decide) (t := .int) (t' := .int) (by decide) (by decide)))
  have P12 := P6.other W7 (Or.inr (slot_ne (Or.inl (hw _ (List.mem_of_getElem? (i := 54) rfl))) (Or.inl (hw _ (List.mem_of_getElem? (i := 48) rfl))) (by decide) (t := .int) (t' := .int) (by decide) (by decide)))
  obtain ⟨T13, h13, X13, e13, W13, st13⟩ := putF X7 hx hZ hown (host := "") (Or.inl (hw _ (List.mem_of_getElem? (i := 50) rfl))) Via.refl e7 P11 P8 (Or.inl (hw _ (List.mem_of_getElem? (i := 51) rfl))) (hw _ (List.mem_of_getElem? (i := 19) rfl)) (ty := .int) (by decide) rfl rfl (g := (mkF m 33 #[.val (.ref x0), .val (.long x1), .second] [(.int (((own_lushr x1 (21 : Int32)) &&& (15 : Int64)).toInt32)), (.ref x0)])) rfl rfl (hb hby d4_33)
  have N13 := Fr.snoc X13 N7 g_x0
  have Z13 : n0 ≤ h13.size := Nat.le_trans Z7 (Keep.of_wr W13).1
  have K13 : Keep h0 h13 [x0] := Keep.wr K7 W13 (Or.inl (List.mem_of_getElem? (i := 0) rfl))
  have P14 := P8.wr W13
  have P15 := P9.other W13 (Or.inr (slot_ne (Or.inl (hw _ (List.mem_of_getElem? (i := 45) rfl))) (Or.inl (hw _ (List.mem_of_getElem? (i := 51) rfl))) (by decide) (t := .int) (t' := .int) (by decide) (by decide)))
  have P16 := P10.other W13 (Or.inr (slot_ne (Or.inl (hw _ (List.mem_of_getElem? (i := 48) rfl))) (Or.inl (hw _ (List.mem_of_getElem? (i := 51) rfl))) (by decide) (t := .int) (t' := .int) (by decide) (by decide)))
  have P17 := P11.same W13
  have P18 := P12.other W13 (Or.inr (slot_ne (Or.inl (hw _ (List.mem_of_getElem? (i := 54) rfl))) (Or.inl (hw _ (List.mem_of_getElem? (i := 51) rfl))) (by decide) (t := .int) (t' := .int) (by decide) (by decide)))
  obtain ⟨T19, h19, X19, e19, W19, st19⟩ := putF X13 hx hZ hown (host := "") (Or.inl (hw _ (List.mem_of_getElem? (i := 53) rfl))) Via.refl e13 P18 P14 (Or.inl (hw _ (List.mem_of_getElem? (i := 54) rfl))) (hw _ (List.mem_of_getElem? (i := 19) rfl)) (ty := .int) (by decide) rfl rfl (g := (mkF m 46 #[.val (.ref x0), .val (.long x1), .second] [(.int (((own_lushr x1 (25 : Int32)) &&& (7 : Int64)).toInt32)), (.ref x0)])) rfl rfl (hb hby d4_46)
  have N19 := Fr.snoc X19 N13 g_x0
  have Z19 : n0 ≤ h19.size := Nat.le_trans Z13 (Keep.of_wr W19).1
  have K19 : Keep h0 h19 [x0] := Keep.wr K13 W19 (Or.inl (List.mem_of_getElem? (i := 0) rfl))
  have P20 := P14.wr W19
  have P21 := P15.other W19 (Or.inr (slot_ne (Or.inl (hw _ (List.mem_of_getElem? (i := 45) rfl))) (Or.inl (hw _ (List.mem_of_getElem? (i := 54) rfl))) (by decide) (t := .int) (t' := .int) (by decide) (by decide)))
  have P22 := P16.other W19 (Or.inr (slot_ne (Or.inl (hw _ (List.mem_of_getElem? (i := 48) rfl))) (Or.inl (hw _ (List.mem_of_getElem? (i := 54) rfl))) (by decide) (t := .int) (t' := .int) (by decide) (by decide)))
  have P23 := P17.other W19 (Or.inr (slot_ne (Or.inl (hw _ (List.mem_of_getElem? (i := 51) rfl))) (Or.inl (hw _ (List.mem_of_getElem? (i := 54) rfl))) (by decide) (t := .int) (t' := .int) (by decide) (by decide)))
  have P24 := P18.same W19
  obtain ⟨fs, hr, hrun, hended, hW, hsame⟩ := X19.leave (v := none) (fun _ => rfl)
  refine ⟨_, _, pre0 _ ?_, hrun, hended, _, _, rfl, ?_, ⟨_, rfl⟩, hW, hsame.mono (by decide) (by decide)⟩
  · show Steps p.tables e below (s₁.setTop (mkF m 0 #[.val (.ref x0), .val (.long x1), .second] [])) _
    refine XS.aloadN X0.here hx rfl (hb hby d4_0) rfl rfl ?_
    show Steps p.tables e below (s₁.setTop (mkF m 1 #[.val (.ref x0), .val (.long x1), .second] [(.ref x0)])) _
    refine XS.lloadN X0.here hx rfl (hb hby d4_1) rfl ?_
    show Steps p.tables e below (s₁.setTop (mkF m 2 #[.val (.ref x0), .val (.long x1), .second] [(.long x1), (.ref x0)])) _
    refine X0.ldc2Long hx hown (mvT hZ (hw _ (List.mem_of_getElem? (i := 43) rfl))) (g := (mkF m 2 #[.val (.ref x0), .val (.long x1), .second] [(.long x1), (.ref x0)])) rfl (hb hby d4_2) _ ?_
    show Steps p.tables e below (s₁.setTop (mkF m 5 #[.val (.ref x0), .val (.long x1), .second] [(.long (4095 : Int64)), (.long x1), (.ref x0)])) _
    refine XS.land X0.here hx rfl (hb hby d4_5) rfl ?_
    show Steps p.tables e below (s₁.setTop (mkF m 6 #[.val (.ref x0), .val (.long x1), .second] [(.long (x1 &&& (4095 : Int64))), (.ref x0)])) _
    refine XS.l2i X0.here hx rfl (hb hby d4_6) rfl ?_
    show Steps p.tables e below (s₁.setTop (mkF m 7 #[.val (.ref x0), .val (.long x1), .second] [(.int ((x1 &&& (4095 : Int64)).toInt32)), (.ref x0)])) _
    refine st1 _ ?_
    show Steps p.tables e below (T1.setTop (mkF m 10 #[.val (.ref x0), .val (.long x1), .second] [])) _
    refine XS.aloadN X1.here hx rfl (hb hby d4_10) rfl rfl ?_
    show Steps p.tables e below (T1.setTop (mkF m 11 #[.val (.ref x0), .val (.long x1), .second] [(.ref x0)])) _
    refine XS.lloadN X1.here hx rfl (hb hby d4_11) rfl ?_
    show Steps p.tables e below (T1.setTop (mkF m 12 #[.val (.ref x0), .val (.long x1), .second] [(.long x1), (.ref x0)])) _
    refine XS.bipush X1.here hx rfl (hb hby d4_12) ?_
    show Steps p.tables e below (T1.setTop (mkF m 14 #[.val (.ref x0), .val (.long x1), .second] [(.int (12 : Int32)), (.long x1), (.ref x0)])) _
    refine own_xlushr X1.here hx rfl (hb hby d4_14) rfl ?_
    show Steps p.tables e below (T1.setTop (mkF m 15 #[.val (.ref x0), .val (.long x1), .second] [(.long (own_lushr x1 (12 : Int32))), (.ref x0)])) _
    refine X1.ldc2Long hx hown (mvT hZ (hw _ (List.mem_of_getElem? (i := 46) rfl))) (g := (mkF m 15 #[.val (.ref x0), .val (.long x1), .second] [(.long (own_lushr x1 (12 : Int32))), (.ref x0)])) rfl (hb hby d4_15) _ ?_
    show Steps p.tables e below (T1.setTop (mkF m 18 #[.val (.ref x0), .val (.long x1), .second] [(.long (511 : Int64)), (.long (own_lushr x1 (12 : Int32))), (.ref x0)])) _
    refine XS.land X1.here hx rfl (hb hby d4_18) rfl ?_
    show Steps p.tables e below (T1.setTop (mkF m 19 #[.val (.ref x0), .val (.long x1), .second] [(.long ((own_lushr x1 (12 : Int32)) &&& (511 : Int64))), (.ref x0)])) _
    refine XS.l2i X1.here hx rfl (hb hby d4_19) rfl ?_
    show Steps p.tables e below (T1.setTop (mkF m 20 #[.val (.ref x0), .val (.long x1), .second] [(.int (((own_lushr x1 (12 : Int32)) &&& (511 : Int64)).toInt32)), (.ref x0)])) _
    refine st7 _ ?_
    show Steps p.tables e below (T7.setTop (mkF m 23 #[.val (.ref x0), .val (.long x1), .second] [])) _
    refine XS.aloadN X7.here hx rfl (hb hby d4_23) rfl rfl ?_
    show Steps p.tables e below (T7.setTop (mkF m 24 #[.val (.ref x0), .val (.long x1), .second] [(.ref x0)])) _
    refine XS.lloadN X7.here hx rfl (hb hby d4_24) rfl ?_
    show Steps p.tables e below (T7.setTop (mkF m 25 #[.val (.ref x0), .val (.long x1), .second] [(.long x1), (.ref x0)])) _
    refine XS.bipush X7.here hx rfl (hb hby d4_25) ?_
    show Steps p.tables e below (T7.setTop (mkF m 27 #[.val (.ref x0), .val (.long x1), .second] [(.int (21 : Int32)), (.long x1), (.ref x0)])) _
    refine own_xlushr X7.here hx rfl (hb hby d4_27) rfl ?_
    show Steps p.tables e below (T7.setTop (mkF m 28 #[.val (.ref x0), .val (.long x1), .second] [(.long (own_lushr x1 (21 : Int32))), (.ref x0)])) _
    refine X7.ldc2Long hx hown (mvT hZ (hw _ (List.mem_of_getElem? (i := 49) rfl))) (g := (mkF m 28 #[.val (.ref x0), .val (.long x1), .second] [(.long (own_lushr x1 (21 : Int32))), (.ref x0)])) rfl (hb hby d4_28) _ ?_
    show Steps p.tables e below (T7.setTop (mkF m 31 #[.val (.ref x0), .val (.long x1), .second] [(.long (15 : Int64)), (.long (own_lushr x1 (21 : Int32))), (.ref x0)])) _
    refine XS.land X7.here hx rfl (hb hby d4_31) rfl ?_
    show Steps p.tables e below (T7.setTop (mkF m 32 #[.val (.ref x0), .val (.long x1), .second] [(.long ((own_lushr x1 (21 : Int32)) &&& (15 : Int64))), (.ref x0)])) _
    refine XS.l2i X7.here hx rfl (hb hby d4_32) rfl ?_
    show Steps p.tables e below (T7.setTop (mkF m 33 #[.val (.ref x0), .val (.long x1), .second] [(.int (((own_lushr x1 (21 : Int32)) &&& (15 : Int64)).toInt32)), (.ref x0)])) _
    refine st13 _ ?_
    show Steps p.tables e below (T13.setTop (mkF m 36 #[.val (.ref x0), .val (.long x1), .second] [])) _
    refine XS.aloadN X13.here hx rfl (hb hby d4_36) rfl rfl ?_
    show Steps p.tables e below (T13.setTop (mkF m 37 #[.val (.ref x0), .val (.long x1), .second] [(.ref x0)])) _
    refine XS.lloadN X13.here hx rfl (hb hby d4_37) rfl ?_
    show Steps p.tables e below (T13.setTop (mkF m 38 #[.val (.ref x0), .val (.long x1), .second] [(.long x1), (.ref x0)])) _
    refine XS.bipush X13.here hx rfl (hb hby d4_38) ?_
    show Steps p.tables e below (T13.setTop (mkF m 40 #[.val (.ref x0), .val (.long x1), .second] [(.int (25 : Int32)), (.long x1), (.ref x0)])) _
    refine own_xlushr X13.here hx rfl (hb hby d4_40) rfl ?_
    show Steps p.tables e below (T13.setTop (mkF m 41 #[.val (.ref x0), .val (.long x1), .second] [(.long (own_lushr x1 (25 : Int32))), (.ref x0)])) _
    refine X13.ldc2Long hx hown (mvT hZ (hw _ (List.mem_of_getElem? (i := 52) rfl))) (g := (mkF m 41 #[.val (.ref x0), .val (.long x1), .second] [(.long (own_lushr x1 (25 : Int32))), (.ref x0)])) rfl (hb hby d4_41) _ ?_
    show Steps p.tables e below (T13.setTop (mkF m 44 #[.val (.ref x0), .val (.long x1), .second] [(.long (7 : Int64)), (.long (own_lushr x1 (25 : Int32))), (.ref x0)])) _
    refine XS.land X13.here hx rfl (hb hby d4_44) rfl ?_
    show Steps p.tables e below (T13.setTop (mkF m 45 #[.val (.ref x0), .val (.long x1), .second] [(.long ((own_lushr x1 (25 : Int32)) &&& (7 : Int64))), (.ref x0)])) _
    refine XS.l2i X13.here hx rfl (hb hby d4_45) rfl ?_
    show Steps p.tables e below (T13.setTop (mkF m 46 #[.val (.ref x0), .val (.long x1), .second] [(.int (((own_lushr x1 (25 : Int32)) &&& (7 : Int64)).toInt32)), (.ref x0)])) _
    refine st19 _ ?_
    show Steps p.tables e below (T19.setTop (mkF m 49 #[.val (.ref x0), .val (.long x1), .second] [])) _
    exact X19.returnOut hx hret (hb hby d4_49) hr
  · show Q4 Z x0 x1 u_part23Length_x0 u_bigValues_x0 u_region0Count_x0 u_region1Count_x0 h0 n0 _ T19.heap _
    rw [e19]
    exact ⟨rfl, N19, K19, P20, P21, P22, P23, P24⟩
-- body 8: dev/stratumaudio/SideInformation.isPossible:(I)Z
theorem d8_0 : decode prog_81_method_6_code 0 = .ok (.lconst 0, 1) := by decide +kernel
theorem d8_1 : decode prog_81_method_6_code 1 = .ok (.lstore_n 2, 1) := by decide +kernel
theorem d8_2 : decode prog_81_method_6_code 2 = .ok (.iconst 0, 1) := by decide +kernel
theorem d8_3 : decode prog_81_method_6_code 3 = .ok (.istore 4, 2) := by decide +kernel
theorem d8_5 : decode prog_81_method_6_code 5 = .ok (.iload 4, 2) := by decide +kernel
theorem d8_7 : decode prog_81_method_6_code 7 = .ok (.aload_n 0, 1) := by decide +kernel
theorem d8_8 : decode prog_81_method_6_code 8 = .ok (.getfield 55, 3) := by decide +kernel
theorem d8_11 : decode prog_81_method_6_code 11 = .ok (.if_icmp .ge 79, 3) := by decide +kernel
theorem d8_14 : decode prog_81_method_6_code 14 = .ok (.iconst 0, 1) := by decide +kernel
theorem d8_15 : decode prog_81_method_6_code 15 = .ok (.istore 5, 2) := by decide +kernel
theorem d8_17 : decode prog_81_method_6_code 17 = .ok (.iload 5, 2) := by decide +kernel
theorem d8_19 : decode prog_81_method_6_code 19 = .ok (.aload_n 0, 1) := by decide +kernel
theorem d8_20 : decode prog_81_method_6_code 20 = .ok (.getfield 47, 3) := by decide +kernel
theorem d8_23 : decode prog_81_method_6_code 23 = .ok (.if_icmp .ge 61, 3) := by decide +kernel
theorem d8_26 : decode prog_81_method_6_code 26 = .ok (.aload_n 0, 1) := by decide +kernel
theorem d8_27 : decode prog_81_method_6_code 27 = .ok (.getfield 21, 3) := by decide +kernel
theorem d8_30 : decode prog_81_method_6_code 30 = .ok (.iload 4, 2) := by decide +kernel
theorem d8_32 : decode prog_81_method_6_code 32 = .ok (.aaload, 1) := by decide +kernel
theorem d8_33 : decode prog_81_method_6_code 33 = .ok (.iload 5, 2) := by decide +kernel
theorem d8_35 : decode prog_81_method_6_code 35 = .ok (.aaload, 1) := by decide +kernel
theorem d8_36 : decode prog_81_method_6_code 36 = .ok (.astore 6, 2) := by decide +kernel
theorem d8_38 : decode prog_81_method_6_code 38 = .ok (.aload 6, 2) := by decide +kernel
theorem d8_40 : decode prog_81_method_6_code 40 = .ok (.getfield 105, 3) := by decide +kernel
theorem d8_43 : decode prog_81_method_6_code 43 = .ok (.sipush 288, 3) := by decide +kernel
theorem d8_46 : decode prog_81_method_6_code 46 = .ok (.if_icmp .gt 21, 3) := by decide +kernel
theorem d8_49 : decode prog_81_method_6_code 49 = .ok (.aload 6, 2) := by decide +kernel
theorem d8_51 : decode prog_81_method_6_code 51 = .ok (.getfield 108, 3) := by decide +kernel
theorem d8_54 : decode prog_81_method_6_code 54 = .ok (.aload 6, 2) := by decide +kernel
theorem d8_56 : decode prog_81_method_6_code 56 = .ok (.getfield 111, 3) := by decide +kernel
theorem d8_59 : decode prog_81_method_6_code 59 = .ok (.iadd, 1) := by decide +kernel
theorem d8_60 : decode prog_81_method_6_code 60 = .ok (.iconst 2, 1) := by decide +kernel
theorem d8_61 : decode prog_81_method_6_code 61 = .ok (.iadd, 1) := by decide +kernel
theorem d8_62 : decode prog_81_method_6_code 62 = .ok (.bipush 22, 2) := by decide +kernel
theorem d8_64 : decode prog_81_method_6_code 64 = .ok (.if_icmp .le 5, 3) := by decide +kernel
theorem d8_67 : decode prog_81_method_6_code 67 = .ok (.iconst 0, 1) := by decide +kernel
theorem d8_68 : decode prog_81_method_6_code 68 = .ok (.ireturn, 1) := by decide +kernel
theorem d8_69 : decode prog_81_method_6_code 69 = .ok (.lload_n 2, 1) := by decide +kernel
theorem d8_70 : decode prog_81_method_6_code 70 = .ok (.aload 6, 2) := by decide +kernel
theorem d8_72 : decode prog_81_method_6_code 72 = .ok (.getfield 116, 3) := by decide +kernel
theorem d8_75 : decode prog_81_method_6_code 75 = .ok (.i2l, 1) := by decide +kernel
theorem d8_76 : decode prog_81_method_6_code 76 = .ok (.ladd, 1) := by decide +kernel
theorem d8_77 : decode prog_81_method_6_code 77 = .ok (.lstore_n 2, 1) := by decide +kernel
theorem d8_78 : decode prog_81_method_6_code 78 = .ok (.iinc 5 1, 3) := by decide +kernel
theorem d8_81 : decode prog_81_method_6_code 81 = .ok (.goto (-64), 3) := by decide +kernel
theorem d8_84 : decode prog_81_method_6_code 84 = .ok (.iinc 4 1, 3) := by decide +kernel
theorem d8_87 : decode prog_81_method_6_code 87 = .ok (.goto (-82), 3) := by decide +kernel
theorem d8_90 : decode prog_81_method_6_code 90 = .ok (.lload_n 2, 1) := by decide +kernel
theorem d8_91 : decode prog_81_method_6_code 91 = .ok (.ldc2_w 119, 3) := by decide +kernel
theorem d8_94 : decode prog_81_method_6_code 94 = .ok (.iload_n 1, 1) := by decide +kernel
theorem d8_95 : decode prog_81_method_6_code 95 = .ok (.i2l, 1) := by decide +kernel
theorem d8_96 : decode prog_81_method_6_code 96 = .ok (.lmul, 1) := by decide +kernel
theorem d8_97 : decode prog_81_method_6_code 97 = .ok (.lcmp, 1) := by decide +kernel
theorem d8_98 : decode prog_81_method_6_code 98 = .ok (.ifCond .gt 7, 3) := by decide +kernel
theorem d8_101 : decode prog_81_method_6_code 101 = .ok (.iconst 1, 1) := by decide +kernel
theorem d8_102 : decode prog_81_method_6_code 102 = .ok (.goto 4, 3) := by decide +kernel
theorem d8_105 : decode prog_81_method_6_code 105 = .ok (.iconst 0, 1) := by decide +kernel
theorem d8_106 : decode prog_81_method_6_code 106 = .ok (.ireturn, 1) := by decide +kernel
theorem ef_8 (m : MethodId) (x0 : Addr) (x1 : Int32) : entryFrame m #[(.ref x0), (.int x1)] 7 = mkF m 0 #[.val (.ref x0), .val (.int x1), .unset, .unset, .unset, .unset, .unset] [] := by first | (simp [entryFrame, mkF, argsToLocals, Value.category]; done) | rfl
def f8_v14 (x1 : Int32) (w_b_w_g_x0_0_0 : Int32) (w_r_w_g_x0_0_0 : Int32) (w_s_w_g_x0_0_0 : Int32) (w_p_w_g_x0_0_0 : Int32) : Int64 := ((0 : Int64) + (w_p_w_g_x0_0_0.toInt64))
def f8_j19 (x1 : Int32) (w_b_w_g_x0_0_0 : Int32) (w_r_w_g_x0_0_0 : Int32) (w_s_w_g_x0_0_0 : Int32) (w_p_w_g_x0_0_0 : Int32) : Int32 := if ifCond.holds .gt (own_cmp (f8_v14 x1 w_b_w_g_x0_0_0 w_r_w_g_x0_0_0 w_s_w_g_x0_0_0 w_p_w_g_x0_0_0) ((8 : Int64) * (x1.toInt64))) = true then (0 : Int32) else (1 : Int32)
def f8 (x1 : Int32) (w_b_w_g_x0_0_0 : Int32) (w_r_w_g_x0_0_0 : Int32) (w_s_w_g_x0_0_0 : Int32) (w_p_w_g_x0_0_0 : Int32) : Int32 := (if if_icmp.holds .gt w_b_w_g_x0_0_0 (288 : Int32) = true then (0 : Int32) else (if if_icmp.holds .le ((w_r_w_g_x0_0_0 + w_s_w_g_x0_0_0) + (2 : Int32)) (22 : Int32) = true then (nar .boolean (f8_j19 x1 w_b_w_g_x0_0_0 w_r_w_g_x0_0_0 w_s_w_g_x0_0_0 w_p_w_g_x0_0_0)) else (0 : Int32)))
def Q8 (Z : State) (x0 : Addr) (x1 : Int32) (w_g_x0 : Addr) (k_w_g_x0 : ClassId) (w_g_x0_0 : Addr) (w_g_x0_1 : Addr) (k_w_g_x0_0 : ClassId) (w_g_x0_0_0 : Addr) (w_g_x0_0_1 : Addr) (w_b_w_g_x0_0_0 : Int32) (w_r_w_g_x0_0_0 : Int32) (w_s_w_g_x0_0_0 : Int32) (w_p_w_g_x0_0_0 : Int32) (h0 : Heap) (n0 : Nat) (v : Option Value) (h : Heap) (L : List Loc) : Prop := v = some (.int (f8 x1 w_b_w_g_x0_0_0 w_r_w_g_x0_0_0 w_s_w_g_x0_0_0 w_p_w_g_x0_0_0)) ∧ Fr n0 L ∧ h = h0
set_option maxRecDepth 65536 in
set_option maxHeartbeats 40000000 in
theorem rm8 (l : Launch) (Z : State) (a0 : Array Value) (hw : ∀ d ∈ tables_1, d.before a0 Z = true) (ws : List Jvm.Cond) (x0 : Addr) (x1 : Int32) (w_g_x0 : Addr) (k_w_g_x0 : ClassId) (w_g_x0_0 : Addr) (w_g_x0_1 : Addr) (k_w_g_x0_0 : ClassId) (w_g_x0_0_0 : Addr) (w_g_x0_0_1 : Addr) (w_b_w_g_x0_0_0 : Int32) (w_r_w_g_x0_0_0 : Int32) (w_s_w_g_x0_0_0 : Int32) (w_p_w_g_x0_0_0 : Int32) (h0 : Heap) (n0 : Nat) (Z0 : n0 ≤ h0.size) (F_x0_granuleCount : Fld Z h0 x0 "dev/stratumaudio/SideInformation" "granuleCount" "I" (.int (1 : Int32))) (F_x0_channelCount : Fld Z h0 x0 "dev/stratumaudio/SideInformation" "channelCount" "I" (.int (1 : Int32))) (F_x0_granules : Fld Z h0 x0 "dev/stratumaudio/SideInformation" "granules" "[[Ldev/stratumaudio/SideInformation$Granule;" (.ref w_g_x0)) (A_w_g_x0 : Arv Z h0 w_g_x0 k_w_g_x0 (.array (.object "dev/stratumaudio/SideInformation$Granule")) (2 : Int32) [(.ref w_g_x0_0), (.ref w_g_x0_1)] .null) (A_w_g_x0_0 : Arv Z h0 w_g_x0_0 k_w_g_x0_0 (.object "dev/stratumaudio/SideInformation$Granule") (2 : Int32) [(.ref w_g_x0_0_0), (.ref w_g_x0_0_1)] .null) (F_w_g_x0_0_0_bigValues : Fld Z h0 w_g_x0_0_0 "dev/stratumaudio/SideInformation$Granule" "bigValues" "I" (.int w_b_w_g_x0_0_0)) (F_w_g_x0_0_0_region0Count : Fld Z h0 w_g_x0_0_0 "dev/stratumaudio/SideInformation$Granule" "region0Count" "I" (.int w_r_w_g_x0_0_0)) (F_w_g_x0_0_0_region1Count : Fld Z h0 w_g_x0_0_0 "dev/stratumaudio/SideInformation$Granule" "region1Count" "I" (.int w_s_w_g_x0_0_0)) (F_w_g_x0_0_0_part23Length : Fld Z h0 w_g_x0_0_0 "dev/stratumaudio/SideInformation$Granule" "part23Length" "I" (.int w_p_w_g_x0_0_0)) :
    MetFree l (⟨"dev/stratumaudio/SideInformation", "isPossible", "(I)Z"⟩ : MethodName) (head1 (Jvm.Cond.code (⟨"dev/stratumaudio/SideInformation", "isPossible", "(I)Z"⟩ : MethodName) prog_81_method_6_code 7 (some .boolean) :: ws) ({ frames := 0, cells := 0, slots := 0, locals := 0 } : Room)) (fun a U => a = #[(.ref x0), (.int x1)] ∧ Z.Warmed39 U.vm ∧ U.heap = h0) (fun _ _ _ _ _ => True) (fun _ U o U' => ∃ v L, o = .returned v ∧ Q8 Z x0 x1 w_g_x0 k_w_g_x0 w_g_x0_0 w_g_x0_1 k_w_g_x0_0 w_g_x0_0_0 w_g_x0_0_1 w_b_w_g_x0_0_0 w_r_w_g_x0_0_0 w_s_w_g_x0_0_0 w_p_w_g_x0_0_0 h0 n0 v U'.heap L ∧ FrameEnd U o U' L ({ frames := 0, cells := 0, slots := 0, locals := 0 } : Room).cells ({ frames := 0, cells := 0, slots := 0, locals := 0 } : Room).slots) := by
  refine MetFree.of_bodySF (plainFor_of_name pn_1) hisR ?_
  intro p e s m args below meth c s₁ Bd hml0 hP hK0
  obtain ⟨rfl, hZ, hh⟩ := hP
  have hx := Bd.exec
  have hby := Bd.bytes
  have hml : c.maxLocals = 7 := hml0
  have hown : s.vm.findClass "dev/stratumaudio/SideInformation" = some m.cls := findClass_of_methodNamed Bd.named
  have hnm := (name_of_methodNamed Bd.named Bd.method).1
  have hret : meth.sig.returnType = some .boolean := Bd.returns
  have hlk : meth.locks = false := Bd.notSynchronized
  have X0 : Stand p l e ({ frames := 0, cells := 0, slots := 0, locals := 0 } : Room) s m #[(.ref x0), (.int x1)] below meth c s₁ [] 0 0 := Stand.of_body Bd
  have e0 : s₁.heap = h0 := by rw [← hh, Bd.state]; rfl
  have N0 := Fr.nil n0
  have pre0 : ∀ t, Steps p.tables e below (s₁.setTop (mkF m 0 #[.val (.ref x0), .val (.int x1), .unset, .unset, .unset, .unset, .unset] [])) t → Steps p.tables e below (s₁.setTop (entryFrame m #[(.ref x0), (.int x1)] 7)) t := fun t k => castTop (ef_8 m x0 x1) k
  obtain ⟨T1, X1, e1, st1⟩ := getF X0 hx hZ hown (host := "") (Or.inl (hw _ (List.mem_of_getElem? (i := 60) rfl))) Via.refl e0 F_x0_granuleCount (g := (mkF m 8 #[.val (.ref x0), .val (.int x1), .val (.long (0 : Int64)), .second, .val (.int (0 : Int32)), .unset, .unset] [(.ref x0), (.int (0 : Int32))])) rfl rfl (hb hby d8_8)
  obtain ⟨T2, X2, e2, st2⟩ := getF X1 hx hZ hown (host := "") (Or.inl (hw _ (List.mem_of_getElem? (i := 61) rfl))) Via.refl e1 F_x0_channelCount (g := (mkF m 20 #[.val (.ref x0), .val (.int x1), .val (.long (0 : Int64)), .second, .val (.int (0 : Int32)), .val (.int (0 : Int32)), .unset] [(.ref x0), (.int (0 : Int32))])) rfl rfl (hb hby d8_20)
  obtain ⟨T3, X3, e3, st3⟩ := getF X2 hx hZ hown (host := "") (Or.inl (hw _ (List.mem_of_getElem? (i := 32) rfl))) Via.refl e2 F_x0_granules (g := (mkF m 27 #[.val (.ref x0), .val (.int x1), .val (.long (0 : Int64)), .second, .val (.int (0 : Int32)), .val (.int (0 : Int32)), .unset] [(.ref x0)])) rfl rfl (hb hby d8_27)
  have Vc4 := A_w_g_x0
  obtain ⟨cl4, Ar4, q4, S4, NN4, H4, G4⟩ := Vc4
  have hin4 := inb_of (j := (0 : Int32)) S4 ⟨by decide, by decide⟩
  have Vc5 := A_w_g_x0_0
  obtain ⟨cl5, Ar5, q5, S5, NN5, H5, G5⟩ := Vc5
  have hin5 := inb_of (j := (0 : Int32)) S5 ⟨by decide, by decide⟩
  obtain ⟨T6, X6, e6, st6⟩ := getF X3 hx hZ hown (host := "") (Or.inl (hw _ (List.mem_of_getElem? (i := 62) rfl))) Via.refl e3 F_w_g_x0_0_0_bigValues (g := (mkF m 40 #[.val (.ref x0), .val (.int x1), .val (.long (0 : Int64)), .second, .val (.int (0 : Int32)), .val (.int (0 : Int32)), .val (.ref w_g_x0_0_0)] [(.ref w_g_x0_0_0)])) rfl rfl (hb hby d8_40)
  have pre7 : ∀ t, Steps p.tables e below (T6.setTop (mkF m 46 #[.val (.ref x0), .val (.int x1), .val (.long (0 : Int64)), .second, .val (.int (0 : Int32)), .val (.int (0 : Int32)), .val (.ref w_g_x0_0_0)] [(.int (288 : Int32)), (.int w_b_w_g_x0_0_0)])) t → Steps p.tables e below (s₁.setTop (entryFrame m #[(.ref x0), (.int x1)] 7)) t := by
    intro t k
    refine pre0 _ ?_
    show Steps p.tables e below (s₁.setTop (mkF m 0 #[.val (.ref x0), .val (.int x1), .unset, .unset, .unset, .unset, .unset] [])) _
    refine XS.lconst X0.here hx rfl (hb hby d8_0) ?_
    show Steps p.tables e below (s₁.setTop (mkF m 1 #[.val (.ref x0), .val (.int x1), .unset, .unset, .unset, .unset, .unset] [(.long (0 : Int64))])) _
    refine XS.lstoreN X0.here hx rfl (hb hby d8_1) rfl (l' := #[.val (.ref x0), .val (.int x1), .val (.long (0 : Int64)), .second, .unset, .unset, .unset]) rfl ?_
    show Steps p.tables e below (s₁.setTop (mkF m 2 #[.val (.ref x0), .val (.int x1), .val (.long (0 : Int64)), .second, .unset, .unset, .unset] [])) _
    refine XS.iconst X0.here hx rfl (hb hby d8_2) ?_
    show Steps p.tables e below (s₁.setTop (mkF m 3 #[.val (.ref x0), .val (.int x1), .val (.long (0 : Int64)), .second, .unset, .unset, .unset] [(.int (0 : Int32))])) _
    refine XS.istore X0.here hx rfl (hb hby d8_3) rfl (l' := #[.val (.ref x0), .val (.int x1), .val (.long (0 : Int64)), .second, .val (.int (0 : Int32)), .unset, .unset]) rfl ?_
    show Steps p.tables e below (s₁.setTop (mkF m 5 #[.val (.ref x0), .val (.int x1), .val (.long (0 : Int64)), .second, .val (.int (0 : Int32)), .unset, .unset] [])) _
    refine XS.iload X0.here hx rfl (hb hby d8_5) rfl ?_
    show Steps p.tables e below (s₁.setTop (mkF m 7 #[.val (.ref x0), .val (.int x1), .val (.long (0 : Int64)), .second, .val (.int (0 : Int32)), .unset, .unset] [(.int (0 : Int32))])) _
    refine XS.aloadN X0.here hx rfl (hb hby d8_7) rfl rfl ?_
    show Steps p.tables e below (s₁.setTop (mkF m 8 #[.val (.ref x0), .val (.int x1), .val (.long (0 : Int64)), .second, .val (.int (0 : Int32)), .unset, .unset] [(.ref x0), (.int (0 : Int32))])) _
    refine st1 _ ?_
    show Steps p.tables e below (T1.setTop (mkF m 11 #[.val (.ref x0), .val (.int x1), .val (.long (0 : Int64)), .second, .val (.int (0 : Int32)), .unset, .unset] [(.int (1 : Int32)), (.int (0 : Int32))])) _
    refine XS.icmpNo X1.here hx rfl (hb hby d8_11) rfl (by decide) ?_
    show Steps p.tables e below (T1.setTop (mkF m 14 #[.val (.ref x0), .val (.int x1), .val (.long (0 : Int64)), .second, .val (.int (0 : Int32)), .unset, .unset] [])) _
    refine XS.iconst X1.here hx rfl (hb hby d8_14) ?_
    show Steps p.tables e below (T1.setTop (mkF m 15 #[.val (.ref x0), .val (.int x1), .val (.long (0 : Int64)), .second, .val (.int (0 : Int32)), .unset, .unset] [(.int (0 : Int32))])) _
    refine XS.istore X1.here hx rfl (hb hby d8_15) rfl (l' := #[.val (.ref x0), .val (.int x1), .val (.long (0 : Int64)), .second, .val (.int (0 : Int32)), .val (.int (0 : Int32)), .unset]) rfl ?_
    show Steps p.tables e below (T1.setTop (mkF m 17 #[.val (.ref x0), .val (.int x1), .val (.long (0 : Int64)), .second, .val (.int (0 : Int32)), .val (.int (0 : Int32)), .unset] [])) _
    refine XS.iload X1.here hx rfl (hb hby d8_17) rfl ?_
    show Steps p.tables e below (T1.setTop (mkF m 19 #[.val (.ref x0), .val (.int x1), .val (.long (0 : Int64)), .second, .val (.int (0 : Int32)), .val (.int (0 : Int32)), .unset] [(.int (0 : Int32))])) _
    refine XS.aloadN X1.here hx rfl (hb hby d8_19) rfl rfl ?_
    show Steps p.tables e below (T1.setTop (mkF m 20 #[.val (.ref x0), .val (.int x1), .val (.long (0 : Int64)), .second, .val (.int (0 : Int32)), .val (.int (0 : Int32)), .unset] [(.ref x0), (.int (0 : Int32))])) _
    refine st2 _ ?_
    show Steps p.tables e below (T2.setTop (mkF m 23 #[.val (.ref x0), .val (.int x1), .val (.long (0 : Int64)), .second, .val (.int (0 : Int32)), .val (.int (0 : Int32)), .unset] [(.int (1 : Int32)), (.int (0 : Int32))])) _
    refine XS.icmpNo X2.here hx rfl (hb hby d8_23) rfl (by decide) ?_
    show Steps p.tables e below (T2.setTop (mkF m 26 #[.val (.ref x0), .val (.int x1), .val (.long (0 : Int64)), .second, .val (.int (0 : Int32)), .val (.int (0 : Int32)), .unset] [])) _
    refine XS.aloadN X2.here hx rfl (hb hby d8_26) rfl rfl ?_
    show Steps p.tables e below (T2.setTop (mkF m 27 #[.val (.ref x0), .val (.int x1), .val (.long (0 : Int64)), .second, .val (.int (0 : Int32)), .val (.int (0 : Int32)), .unset] [(.ref x0)])) _
    refine st3 _ ?_
    show Steps p.tables e below (T3.setTop (mkF m 30 #[.val (.ref x0), .val (.int x1), .val (.long (0 : Int64)), .second, .val (.int (0 : Int32)), .val (.int (0 : Int32)), .unset] [(.ref w_g_x0)])) _
    refine XS.iload X3.here hx rfl (hb hby d8_30) rfl ?_
    show Steps p.tables e below (T3.setTop (mkF m 32 #[.val (.ref x0), .val (.int x1), .val (.long (0 : Int64)), .second, .val (.int (0 : Int32)), .val (.int (0 : Int32)), .unset] [(.int (0 : Int32)), (.ref w_g_x0)])) _
    refine X3.aaload hx (j := (0 : Int32)) (v := (.ref w_g_x0_0)) (by rw [e3]; exact Ar4.1) (State.isArrayOf_alike hZ.alike Ar4.2.1) rfl Ar4.2.2 hin4 (Has.at H4 hin4 rfl) (g := (mkF m 32 #[.val (.ref x0), .val (.int x1), .val (.long (0 : Int64)), .second, .val (.int (0 : Int32)), .val (.int (0 : Int32)), .unset] [(.int (0 : Int32)), (.ref w_g_x0)])) rfl rfl (hb hby d8_32) _ ?_
    show Steps p.tables e below (T3.setTop (mkF m 33 #[.val (.ref x0), .val (.int x1), .val (.long (0 : Int64)), .second, .val (.int (0 : Int32)), .val (.int (0 : Int32)), .unset] [(.ref w_g_x0_0)])) _
    refine XS.iload X3.here hx rfl (hb hby d8_33) rfl ?_
    show Steps p.tables e below (T3.setTop (mkF m 35 #[.val (.ref x0), .val (.int x1), .val (.long (0 : Int64)), .second, .val (.int (0 : Int32)), .val (.int (0 : Int32)), .unset] [(.int (0 : Int32)), (.ref w_g_x0_0)])) _
    refine X3.aaload hx (j := (0 : Int32)) (v := (.ref w_g_x0_0_0)) (by rw [e3]; exact Ar5.1) (State.isArrayOf_alike hZ.alike Ar5.2.1) rfl Ar5.2.2 hin5 (Has.at H5 hin5 rfl) (g := (mkF m 35 #[.val (.ref x0), .val (.int x1), .val (.long (0 : Int64)), .second, .val (.int (0 : Int32)), .val (.int (0 : Int32)), .unset] [(.int (0 : Int32)), (.ref w_g_x0_0)])) rfl rfl (hb hby d8_35) _ ?_
    show Steps p.tables e below (T3.setTop (mkF m 36 #[.val (.ref x0), .val (.int x1), .val (.long (0 : Int64)), .second, .val (.int (0 : Int32)), .val (.int (0 : Int32)), .unset] [(.ref w_g_x0_0_0)])) _
    refine XS.astore X3.here hx rfl (hb hby d8_36) rfl rfl (l' := #[.val (.ref x0), .val (.int x1), .val (.long (0 : Int64)), .second, .val (.int (0 : Int32)), .val (.int (0 : Int32)), .val (.ref w_g_x0_0_0)]) rfl ?_
    show Steps p.tables e below (T3.setTop (mkF m 38 #[.val (.ref x0), .val (.int x1), .val (.long (0 : Int64)), .second, .val (.int (0 : Int32)), .val (.int (0 : Int32)), .val (.ref w_g_x0_0_0)] [])) _
    refine XS.aload X3.here hx rfl (hb hby d8_38) rfl rfl ?_
    show Steps p.tables e below (T3.setTop (mkF m 40 #[.val (.ref x0), .val (.int x1), .val (.long (0 : Int64)), .second, .val (.int (0 : Int32)), .val (.int (0 : Int32)), .val (.ref w_g_x0_0_0)] [(.ref w_g_x0_0_0)])) _
    refine st6 _ ?_
    show Steps p.tables e below (T6.setTop (mkF m 43 #[.val (.ref x0), .val (.int x1), .val (.long (0 : Int64)), .second, .val (.int (0 : Int32)), .val (.int (0 : Int32)), .val (.ref w_g_x0_0_0)] [(.int w_b_w_g_x0_0_0)])) _
    refine XS.sipush X6.here hx rfl (hb hby d8_43) ?_
    exact k
  rcases Bool.eq_false_or_eq_true (if_icmp.holds .gt w_b_w_g_x0_0_0 (288 : Int32)) with hc8 | hc8
  · obtain ⟨fs, hr, hrun, hended, hW, hsame⟩ := X6.leave (v := some (.int (0 : Int32))) (fun h => by rw [hret] at h; cases h)
    refine ⟨_, _, pre7 _ ?_, hrun, hended, _, _, rfl, ?_, ⟨_, rfl⟩, hW, hsame.mono (by decide) (by decide)⟩
    · show Steps p.tables e below (T6.setTop (mkF m 46 #[.val (.ref x0), .val (.int x1), .val (.long (0 : Int64)), .second, .val (.int (0 : Int32)), .val (.int (0 : Int32)), .val (.ref w_g_x0_0_0)] [(.int (288 : Int32)), (.int w_b_w_g_x0_0_0)])) _
      refine XS.icmpYes X6.here hx rfl (pc0 := 46) (pc' := 67) rfl (hb hby d8_46) rfl hc8 (by decide) (by decide) ?_
      show Steps p.tables e below (T6.setTop (mkF m 67 #[.val (.ref x0), .val (.int x1), .val (.long (0 : Int64)), .second, .val (.int (0 : Int32)), .val (.int (0 : Int32)), .val (.ref w_g_x0_0_0)] [])) _
      refine XS.iconst X6.here hx rfl (hb hby d8_67) ?_
      show Steps p.tables e below (T6.setTop (mkF m 68 #[.val (.ref x0), .val (.int x1), .val (.long (0 : Int64)), .second, .val (.int (0 : Int32)), .val (.int (0 : Int32)), .val (.ref w_g_x0_0_0)] [(.int (0 : Int32))])) _
      exact retN X6 hx (t := .boolean) hret (by simp) (hb hby d8_68) hr
    · show Q8 Z x0 x1 w_g_x0 k_w_g_x0 w_g_x0_0 w_g_x0_1 k_w_g_x0_0 w_g_x0_0_0 w_g_x0_0_1 w_b_w_g_x0_0_0 w_r_w_g_x0_0_0 w_s_w_g_x0_0_0 w_p_w_g_x0_0_0 h0 n0 _ T6.heap _
      rw [e6]
      have rr : f8 x1 w_b_w_g_x0_0_0 w_r_w_g_x0_0_0 w_s_w_g_x0_0_0 w_p_w_g_x0_0_0 = (0 : Int32) := if_pos hc8
      exact ⟨congrArg (fun z => some (Value.int z)) rr.symm, N0, rfl⟩
  · obtain ⟨T9, X9, e9, st9⟩ := getF X6 hx hZ hown (host := "") (Or.inl (hw _ (List.mem_of_getElem? (i := 63) rfl))) Via.refl e6 F_w_g_x0_0_0_region0Count (g := (mkF m 51 #[.val (.ref x0), .val (.int x1), .val (.long (0 : Int64)), .second, .val (.int (0 : Int32)), .val (.int (0 : Int32)), .val (.ref w_g_x0_0_0)] [(.ref w_g_x0_0_0)])) rfl rfl (hb hby d8_51)
    obtain ⟨T10, X10, e10, st10⟩ := getF X9 hx hZ hown (host := "") (Or.inl (hw _ (List.mem_of_getElem? (i := 64) rfl))) Via.refl e9 F_w_g_x0_0_0_region1Count (g := (mkF m 56 #[.val (.ref x0), .val (.int x1), .val (.long (0 : Int64)), .second, .val (.int (0 : Int32)), .val (.int (0 : Int32)), .val (.ref w_g_x0_0_0)] [(.ref w_g_x0_0_0), (.int w_r_w_g_x0_0_0)])) rfl rfl (hb hby d8_56)
    have pre11 : ∀ t, Steps p.tables e below (T10.setTop (mkF m 64 #[.val (.ref x0), .val (.int x1), .val (.long (0 : Int64)), .second, .val (.int (0 : Int32)), .val (.int (0 : Int32)), .val (.ref w_g_x0_0_0)] [(.int (22 : Int32)), (.int ((w_r_w_g_x0_0_0 + w_s_w_g_x0_0_0) + (2 : Int32)))])) t → Steps p.tables e below (s₁.setTop (entryFrame m #[(.ref x0), (.int x1)] 7)) t := by
      intro t k
      refine pre7 _ ?_
      show Steps p.tables e below (T6.setTop (mkF m 46 #[.val (.ref x0), .val (.int x1), .val (.long (0 : Int64)), .second, .val (.int (0 : Int32)), .val (.int (0 : Int32)), .val (.ref w_g_x0_0_0)] [(.int (288 : Int32)), (.int w_b_w_g_x0_0_0)])) _
      refine XS.icmpNo X6.here hx rfl (hb hby d8_46) rfl hc8 ?_
      show Steps p.tables e below (T6.setTop (mkF m 49 #[.val (.ref x0), .val (.int x1), .val (.long (0 : Int64)), .second, .val (.int (0 : Int32)), .val (.int (0 : Int32)), .val (.ref w_g_x0_0_0)] [])) _
      refine XS.aload X6.here hx rfl (hb hby d8_49) rfl rfl ?_
      show Steps p.tables e below (T6.setTop (mkF m 51 #[.val (.ref x0), .val (.int x1), .val (.long (0 : Int64)), .second, .val (.int (0 : Int32)), .val (.int (0 : Int32)), .val (.ref w_g_x0_0_0)] [(.ref w_g_x0_0_0)])) _
      refine st9 _ ?_
      show Steps p.tables e below (T9.setTop (mkF m 54 #[.val (.ref x0), .val (.int x1), .val (.long (0 : Int64)), .second, .val (.int (0 : Int32)), .val (.int (0 : Int32)), .val (.ref w_g_x0_0_0)] [(.int w_r_w_g_x0_0_0)])) _
      refine XS.aload X9.here hx rfl (hb hby d8_54) rfl rfl ?_
      show Steps p.tables e below (T9.setTop (mkF m 56 #[.val (.ref x0), .val (.int x1), .val (.long (0 : Int64)), .second, .val (.int (0 : Int32)), .val (.int (0 : Int32)), .val (.ref w_g_x0_0_0)] [(.ref w_g_x0_0_0), (.int w_r_w_g_x0_0_0)])) _
      refine st10 _ ?_
      show Steps p.tables e below (T10.setTop (mkF m 59 #[.val (.ref x0), .val (.int x1), .val (.long (0 : Int64)), .second, .val (.int (0 : Int32)), .val (.int (0 : Int32)), .val (.ref w_g_x0_0_0)] [(.int w_s_w_g_x0_0_0), (.int w_r_w_g_x0_0_0)])) _
      refine XS.iadd X10.here hx rfl (hb hby d8_59) rfl ?_
      show Steps p.tables e below (T10.setTop (mkF m 60 #[.val (.ref x0), .val (.int x1), .val (.long (0 : Int64)), .second, .val (.int (0 : Int32)), .val (.int (0 : Int32)), .val (.ref w_g_x0_0_0)] [(.int (w_r_w_g_x0_0_0 + w_s_w_g_x0_0_0))])) _
      refine XS.iconst X10.here hx rfl (hb hby d8_60) ?_
      show Steps p.tables e below (T10.setTop (mkF m 61 #[.val (.ref x0), .val (.int x1), .val (.long (0 : Int64)), .second, .val (.int (0 : Int32)), .val (.int (0 : Int32)), .val (.ref w_g_x0_0_0)] [(.int (2 : Int32)), (.int (w_r_w_g_x0_0_0 + w_s_w_g_x0_0_0))])) _
      refine XS.iadd X10.here hx rfl (hb hby d8_61) rfl ?_
      show Steps p.tables e below (T10.setTop (mkF m 62 #[.val (.ref x0), .val (.int x1), .val (.long (0 : Int64)), .second, .val (.int (0 : Int32)), .val (.int (0 : Int32)), .val (.ref w_g_x0_0_0)] [(.int ((w_r_w_g_x0_0_0 + w_s_w_g_x0_0_0) + (2 : Int32)))])) _
      refine XS.bipush X10.here hx rfl (hb hby d8_62) ?_
      exact k
    rcases Bool.eq_false_or_eq_true (if_icmp.holds .le ((w_r_w_g_x0_0_0 + w_s_w_g_x0_0_0) + (2 : Int32)) (22 : Int32)) with hc12 | hc12
    · obtain ⟨T13, X13, e13, st13⟩ := getF X10 hx hZ hown (host := "") (Or.inl (hw _ (List.mem_of_getElem? (i := 65) rfl))) Via.refl e10 F_w_g_x0_0_0_part23Length (g := (mkF m 72 #[.val (.ref x0), .val (.int x1), .val (.long (0 : Int64)), .second, .val (.int (0 : Int32)), .val (.int (0 : Int32)), .val (.ref w_g_x0_0_0)] [(.ref w_g_x0_0_0), (.long (0 : Int64))])) rfl rfl (hb hby d8_72)
      obtain ⟨T15, X15, e15, st15⟩ := getF X13 hx hZ hown (host := "") (Or.inl (hw _ (List.mem_of_getElem? (i := 61) rfl))) Via.refl e13 F_x0_channelCount (g := (mkF m 20 #[.val (.ref x0), .val (.int x1), .val (.long (f8_v14 x1 w_b_w_g_x0_0_0 w_r_w_g_x0_0_0 w_s_w_g_x0_0_0 w_p_w_g_x0_0_0)), .second, .val (.int (0 : Int32)), .val (.int (1 : Int32)), .val (.ref w_g_x0_0_0)] [(.ref x0), (.int (1 : Int32))])) rfl rfl (hb hby d8_20)
      obtain ⟨T16, X16, e16, st16⟩ := getF X15 hx hZ hown (host := "") (Or.inl (hw _ (List.mem_of_getElem? (i := 60) rfl))) Via.refl e15 F_x0_granuleCount (g := (mkF m 8 #[.val (.ref x0), .val (.int x1), .val (.long (f8_v14 x1 w_b_w_g_x0_0_0 w_r_w_g_x0_0_0 w_s_w_g_x0_0_0 w_p_w_g_x0_0_0)), .second, .val (.int (1 : Int32)), .val (.int (1 : Int32)), .val (.ref w_g_x0_0_0)] [(.ref x0), (.int (1 : Int32))])) rfl rfl (hb hby d8_8)
      have pre17 : ∀ t, Steps p.tables e below (T16.setTop (mkF m 98 #[.val (.ref x0), .val (.int x1), .val (.long (f8_v14 x1 w_b_w_g_x0_0_0 w_r_w_g_x0_0_0 w_s_w_g_x0_0_0 w_p_w_g_x0_0_0)), .second, .val (.int (1 : Int32)), .val (.int (1 : Int32)), .val (.ref w_g_x0_0_0)] [(.int (own_cmp (f8_v14 x1 w_b_w_g_x0_0_0 w_r_w_g_x0_0_0 w_s_w_g_x0_0_0 w_p_w_g_x0_0_0) ((8 : Int64) * (x1.toInt64))))])) t → Steps p.tables e below (s₁.setTop (entryFrame m #[(.ref x0), (.int x1)] 7)) t := by
        intro t k
        refine pre11 _ ?_
        show Steps p.tables e below (T10.setTop (mkF m 64 #[.val (.ref x0), .val (.int x1), .val (.long (0 : Int64)), .second, .val (.int (0 : Int32)), .val (.int (0 : Int32)), .val (.ref w_g_x0_0_0)] [(.int (22 : Int32)), (.int ((w_r_w_g_x0_0_0 + w_s_w_g_x0_0_0) + (2 : Int32)))])) _
        refine XS.icmpYes X10.here hx rfl (pc0 := 64) (pc' := 69) rfl (hb hby d8_64) rfl hc12 (by decide) (by decide) ?_
        show Steps p.tables e below (T10.setTop (mkF m 69 #[.val (.ref x0), .val (.int x1), .val (.long (0 : Int64)), .second, .val (.int (0 : Int32)), .val (.int (0 : Int32)), .val (.ref w_g_x0_0_0)] [])) _
        refine XS.lloadN X10.here hx rfl (hb hby d8_69) rfl ?_
        show Steps p.tables e below (T10.setTop (mkF m 70 #[.val (.ref x0), .val (.int x1), .val (.long (0 : Int64)), .second, .val (.int (0 : Int32)), .val (.int (0 : Int32)), .val (.ref w_g_x0_0_0)] [(.long (0 : Int64))])) _
        refine XS.aload X10.here hx rfl (hb hby d8_70) rfl rfl ?_
        show Steps p.tables e below (T10.setTop (mkF m 72 #[.val (.ref x0), .val (.int x1), .val (.long (0 : Int64)), .second, .val (.int (0 : Int32)), .val (.int (0 : Int32)), .val (.ref w_g_x0_0_0)] [(.ref w_g_x0_0_0), (.long (0 : Int64))])) _
        refine st13 _ ?_
        show Steps p.tables e below (T13.setTop (mkF m 75 #[.val (.ref x0), .val (.int x1), .val (.long (0 : Int64)), .second, .val (.int (0 : Int32)), .val (.int (0 : Int32)), .val (.ref w_g_x0_0_0)] [(.int w_p_w_g_x0_0_0), (.long (0 : Int64))])) _
        refine XS.i2l X13.here hx rfl (hb hby d8_75) rfl ?_
        show Steps p.tables e below (T13.setTop (mkF m 76 #[.val (.ref x0), .val (.int x1), .val (.long (0 : Int64)), .second, .val (.int (0 : Int32)), .val (.int (0 : Int32)), .val (.ref w_g_x0_0_0)] [(.long (w_p_w_g_x0_0_0.toInt64)), (.long (0 : Int64))])) _
        refine XS.ladd X13.here hx rfl (hb hby d8_76) rfl ?_
        show Steps p.tables e below (T13.setTop (mkF m 77 #[.val (.ref x0), .val (.int x1), .val (.long (0 : Int64)), .second, .val (.int (0 : Int32)), .val (.int (0 : Int32)), .val (.ref w_g_x0_0_0)] [(.long ((0 : Int64) + (w_p_w_g_x0_0_0.toInt64)))])) _
        refine XS.lstoreN X13.here hx rfl (hb hby d8_77) rfl (l' := #[.val (.ref x0), .val (.int x1), .val (.long (f8_v14 x1 w_b_w_g_x0_0_0 w_r_w_g_x0_0_0 w_s_w_g_x0_0_0 w_p_w_g_x0_0_0)), .second, .val (.int (0 : Int32)), .val (.int (0 : Int32)), .val (.ref w_g_x0_0_0)]) rfl ?_
        show Steps p.tables e below (T13.setTop (mkF m 78 #[.val (.ref x0), .val (.int x1), .val (.long (f8_v14 x1 w_b_w_g_x0_0_0 w_r_w_g_x0_0_0 w_s_w_g_x0_0_0 w_p_w_g_x0_0_0)), .second, .val (.int (0 : Int32)), .val (.int (0 : Int32)), .val (.ref w_g_x0_0_0)] [])) _
        refine XS.iinc X13.here hx rfl (hb hby d8_78) rfl (l' := #[.val (.ref x0), .val (.int x1), .val (.long (f8_v14 x1 w_b_w_g_x0_0_0 w_r_w_g_x0_0_0 w_s_w_g_x0_0_0 w_p_w_g_x0_0_0)), .second, .val (.int (0 : Int32)), .val (.int (1 : Int32)), .val (.ref w_g_x0_0_0)]) rfl ?_
        show Steps p.tables e below (T13.setTop (mkF m 81 #[.val (.ref x0), .val (.int x1), .val (.long (f8_v14 x1 w_b_w_g_x0_0_0 w_r_w_g_x0_0_0 w_s_w_g_x0_0_0 w_p_w_g_x0_0_0)), .second, .val (.int (0 : Int32)), .val (.int (1 : Int32)), .val (.ref w_g_x0_0_0)] [])) _
        refine XS.goto X13.here hx rfl (pc0 := 81) (pc' := 17) rfl (hb hby d8_81) (by decide) (by decide) ?_
        show Steps p.tables e below (T13.setTop (mkF m 17 #[.val (.ref x0), .val (.int x1), .val (.long (f8_v14 x1 w_b_w_g_x0_0_0 w_r_w_g_x0_0_0 w_s_w_g_x0_0_0 w_p_w_g_x0_0_0)), .second, .val (.int (0 : Int32)), .val (.int (1 : Int32)), .val (.ref w_g_x0_0_0)] [])) _
        refine XS.iload X13.here hx rfl (hb hby d8_17) rfl ?_
        show Steps p.tables e below (T13.setTop (mkF m 19 #[.val (.ref x0), .val (.int x1), .val (.long (f8_v14 x1 w_b_w_g_x0_0_0 w_r_w_g_x0_0_0 w_s_w_g_x0_0_0 w_p_w_g_x0_0_0)), .second, .val (.int (0 : Int32)), .val (.int (1 : Int32)), .val (.ref w_g_x0_0_0)] [(.int (1 : Int32))])) _
        refine XS.aloadN X13.here hx rfl (hb hby d8_19) rfl rfl ?_
        show Steps p.tables e below (T13.setTop (mkF m 20 #[.val (.ref x0), .val (.int x1), .val (.long (f8_v14 x1 w_b_w_g_x0_0_0 w_r_w_g_x0_0_0 w_s_w_g_x0_0_0 w_p_w_g_x0_0_0)), .second, .val (.int (0 : Int32)), .val (.int (1 : Int32)), .val (.ref w_g_x0_0_0)] [(.ref x0), (.int (1 : Int32))])) _
        refine st15 _ ?_
        show Steps p.tables e below (T15.setTop (mkF m 23 #[.val (.ref x0), .val (.int x1), .val (.long (f8_v14 x1 w_b_w_g_x0_0_0 w_r_w_g_x0_0_0 w_s_w_g_x0_0_0 w_p_w_g_x0_0_0)), .second, .val (.int (0 : Int32)), .val (.int (1 : Int32)), .val (.ref w_g_x0_0_0)] [(.int (1 : Int32)), (.int (1 : Int32))])) _
        refine XS.icmpYes X15.here hx rfl (pc0 := 23) (pc' := 84) rfl (hb hby d8_23) rfl (by decide) (by decide) (by decide) ?_
        show Steps p.tables e below (T15.setTop (mkF m 84 #[.val (.ref x0), .val (.int x1), .val (.long (f8_v14 x1 w_b_w_g_x0_0_0 w_r_w_g_x0_0_0 w_s_w_g_x0_0_0 w_p_w_g_x0_0_0)), .second, .val (.int (0 : Int32)), .val (.int (1 : Int32)), .val (.ref w_g_x0_0_0)] [])) _
        refine XS.iinc X15.here hx rfl (hb hby d8_84) rfl (l' := #[.val (.ref x0), .val (.int x1), .val (.long (f8_v14 x1 w_b_w_g_x0_0_0 w_r_w_g_x0_0_0 w_s_w_g_x0_0_0 w_p_w_g_x0_0_0)), .second, .val (.int (1 : Int32)), .val (.int (1 : Int32)), .val (.ref w_g_x0_0_0)]) rfl ?_
        show Steps p.tables e below (T15.setTop (mkF m 87 #[.val (.ref x0), .val (.int x1), .val (.long (f8_v14 x1 w_b_w_g_x0_0_0 w_r_w_g_x0_0_0 w_s_w_g_x0_0_0 w_p_w_g_x0_0_0)), .second, .val (.int (1 : Int32)), .val (.int (1 : Int32)), .val (.ref w_g_x0_0_0)] [])) _
        refine XS.goto X15.here hx rfl (pc0 := 87) (pc' := 5) rfl (hb hby d8_87) (by decide) (by decide) ?_
        show Steps p.tables e below (T15.setTop (mkF m 5 #[.val (.ref x0), .val (.int x1), .val (.long (f8_v14 x1 w_b_w_g_x0_0_0 w_r_w_g_x0_0_0 w_s_w_g_x0_0_0 w_p_w_g_x0_0_0)), .second, .val (.int (1 : Int32)), .val (.int (1 : Int32)), .val (.ref w_g_x0_0_0)] [])) _
        refine XS.iload X15.here hx rfl (hb hby d8_5) rfl ?_
        show Steps p.tables e below (T15.setTop (mkF m 7 #[.val (.ref x0), .val (.int x1), .val (.long (f8_v14 x1 w_b_w_g_x0_0_0 w_r_w_g_x0_0_0 w_s_w_g_x0_0_0 w_p_w_g_x0_0_0)), .second, .val (.int (1 : Int32)), .val (.int (1 : Int32)), .val (.ref w_g_x0_0_0)] [(.int (1 : Int32))])) _
        refine XS.aloadN X15.here hx rfl (hb hby d8_7) rfl rfl ?_
        show Steps p.tables e below (T15.setTop (mkF m 8 #[.val (.ref x0), .val (.int x1), .val (.long (f8_v14 x1 w_b_w_g_x0_0_0 w_r_w_g_x0_0_0 w_s_w_g_x0_0_0 w_p_w_g_x0_0_0)), .second, .val (.int (1 : Int32)), .val (.int (1 : Int32)), .val (.ref w_g_x0_0_0)] [(.ref x0), (.int (1 : Int32))])) _
        refine st16 _ ?_
        show Steps p.tables e below (T16.setTop (mkF m 11 #[.val (.ref x0), .val (.int x1), .val (.long (f8_v14 x1 w_b_w_g_x0_0_0 w_r_w_g_x0_0_0 w_s_w_g_x0_0_0 w_p_w_g_x0_0_0)), .second, .val (.int (1 : Int32)), .val (.int (1 : Int32)), .val (.ref w_g_x0_0_0)] [(.int (1 : Int32)), (.int (1 : Int32))])) _
        refine XS.icmpYes X16.here hx rfl (pc0 := 11) (pc' := 90) rfl (hb hby d8_11) rfl (by decide) (by decide) (by decide) ?_
        show Steps p.tables e below (T16.setTop (mkF m 90 #[.val (.ref x0), .val (.int x1), .val (.long (f8_v14 x1 w_b_w_g_x0_0_0 w_r_w_g_x0_0_0 w_s_w_g_x0_0_0 w_p_w_g_x0_0_0)), .second, .val (.int (1 : Int32)), .val (.int (1 : Int32)), .val (.ref w_g_x0_0_0)] [])) _
        refine XS.lloadN X16.here hx rfl (hb hby d8_90) rfl ?_
        show Steps p.tables e below (T16.setTop (mkF m 91 #[.val (.ref x0), .val (.int x1), .val (.long (f8_v14 x1 w_b_w_g_x0_0_0 w_r_w_g_x0_0_0 w_s_w_g_x0_0_0 w_p_w_g_x0_0_0)), .second, .val (.int (1 : Int32)), .val (.int (1 : Int32)), .val (.ref w_g_x0_0_0)] [(.long (f8_v14 x1 w_b_w_g_x0_0_0 w_r_w_g_x0_0_0 w_s_w_g_x0_0_0 w_p_w_g_x0_0_0))])) _
        refine X16.ldc2Long hx hown (mvT hZ (hw _ (List.mem_of_getElem? (i := 66) rfl))) (g := (mkF m 91 #[.val (.ref x0), .val (.int x1), .val (.long (f8_v14 x1 w_b_w_g_x0_0_0 w_r_w_g_x0_0_0 w_s_w_g_x0_0_0 w_p_w_g_x0_0_0)), .second, .val (.int (1 : Int32)), .val (.int (1 : Int32)), .val (.ref w_g_x0_0_0)] [(.long (f8_v14 x1 w_b_w_g_x0_0_0 w_r_w_g_x0_0_0 w_s_w_g_x0_0_0 w_p_w_g_x0_0_0))])) rfl (hb hby d8_91) _ ?_
        show Steps p.tables e below (T16.setTop (mkF m 94 #[.val (.ref x0), .val (.int x1), .val (.long (f8_v14 x1 w_b_w_g_x0_0_0 w_r_w_g_x0_0_0 w_s_w_g_x0_0_0 w_p_w_g_x0_0_0)), .second, .val (.int (1 : Int32)), .val (.int (1 : Int32)), .val (.ref w_g_x0_0_0)] [(.long (8 : Int64)), (.long (f8_v14 x1 w_b_w_g_x0_0_0 w_r_w_g_x0_0_0 w_s_w_g_x0_0_0 w_p_w_g_x0_0_0))])) _
        refine XS.iloadN X16.here hx rfl (hb hby d8_94) rfl ?_
        show Steps p.tables e below (T16.setTop (mkF m 95 #[.val (.ref x0), .val (.int x1), .val (.long (f8_v14 x1 w_b_w_g_x0_0_0 w_r_w_g_x0_0_0 w_s_w_g_x0_0_0 w_p_w_g_x0_0_0)), .second, .val (.int (1 : Int32)), .val (.int (1 : Int32)), .val (.ref w_g_x0_0_0)] [(.int x1), (.long (8 : Int64)), (.long (f8_v14 x1 w_b_w_g_x0_0_0 w_r_w_g_x0_0_0 w_s_w_g_x0_0_0 w_p_w_g_x0_0_0))])) _
        refine XS.i2l X16.here hx rfl (hb hby d8_95) rfl ?_
        show Steps p.tables e below (T16.setTop (mkF m 96 #[.val (.ref x0), .val (.int x1), .val (.long (f8_v14 x1 w_b_w_g_x0_0_0 w_r_w_g_x0_0_0 w_s_w_g_x0_0_0 w_p_w_g_x0_0_0)), .second, .val (.int (1 : Int32)), .val (.int (1 : Int32)), .val (.ref w_g_x0_0_0)] [(.long (x1.toInt64)), (.long (8 : Int64)), (.long (f8_v14 x1 w_b_w_g_x0_0_0 w_r_w_g_x0_0_0 w_s_w_g_x0_0_0 w_p_w_g_x0_0_0))])) _
        refine XS.lmul X16.here hx rfl (hb hby d8_96) rfl ?_
        show Steps p.tables e below (T16.setTop (mkF m 97 #[.val (.ref x0), .val (.int x1), .val (.long (f8_v14 x1 w_b_w_g_x0_0_0 w_r_w_g_x0_0_0 w_s_w_g_x0_0_0 w_p_w_g_x0_0_0)), .second, .val (.int (1 : Int32)), .val (.int (1 : Int32)), .val (.ref w_g_x0_0_0)] [(.long ((8 : Int64) * (x1.toInt64))), (.long (f8_v14 x1 w_b_w_g_x0_0_0 w_r_w_g_x0_0_0 w_s_w_g_x0_0_0 w_p_w_g_x0_0_0))])) _
        refine own_xlcmp X16.here hx rfl (hb hby d8_97) rfl ?_
        exact k
      obtain ⟨T20, L20, X20, N20, e20, pre20⟩ : ∃ (T' : State) (L' : List Loc), Stand p l e ({ frames := 0, cells := 0, slots := 0, locals := 0 } : Room) s m #[(.ref x0), (.int x1)] below meth c T' L' 0 0 ∧ Fr n0 L' ∧ T'.heap = h0 ∧ ∀ t, Steps p.tables e below (T'.setTop (mkF m 106 #[.val (.ref x0), .val (.int x1), .val (.long (f8_v14 x1 w_b_w_g_x0_0_0 w_r_w_g_x0_0_0 w_s_w_g_x0_0_0 w_p_w_g_x0_0_0)), .second, .val (.int (1 : Int32)), .val (.int (1 : Int32)), .val (.ref w_g_x0_0_0)] [(.int (f8_j19 x1 w_b_w_g_x0_0_0 w_r_w_g_x0_0_0 w_s_w_g_x0_0_0 w_p_w_g_x0_0_0))])) t → Steps p.tables e below (s₁.setTop (entryFrame m #[(.ref x0), (.int x1)] 7)) t := by
        rcases Bool.eq_false_or_eq_true (ifCond.holds .gt (own_cmp (f8_v14 x1 w_b_w_g_x0_0_0 w_r_w_g_x0_0_0 w_s_w_g_x0_0_0 w_p_w_g_x0_0_0) ((8 : Int64) * (x1.toInt64)))) with hc18 | hc18
        · have pre21 : ∀ t, Steps p.tables e below (T16.setTop (mkF m 106 #[.val (.ref x0), .val (.int x1), .val (.long (f8_v14 x1 w_b_w_g_x0_0_0 w_r_w_g_x0_0_0 w_s_w_g_x0_0_0 w_p_w_g_x0_0_0)), .second, .val (.int (1 : Int32)), .val (.int (1 : Int32)), .val (.ref w_g_x0_0_0)] [(.int (0 : Int32))])) t → Steps p.tables e below (s₁.setTop (entryFrame m #[(.ref x0), (.int x1)] 7)) t := by
            intro t k
            refine pre17 _ ?_
            show Steps p.tables e below (T16.setTop (mkF m 98 #[.val (.ref x0), .val (.int x1), .val (.long (f8_v14 x1 w_b_w_g_x0_0_0 w_r_w_g_x0_0_0 w_s_w_g_x0_0_0 w_p_w_g_x0_0_0)), .second, .val (.int (1 : Int32)), .val (.int (1 : Int32)), .val (.ref w_g_x0_0_0)] [(.int (own_cmp (f8_v14 x1 w_b_w_g_x0_0_0 w_r_w_g_x0_0_0 w_s_w_g_x0_0_0 w_p_w_g_x0_0_0) ((8 : Int64) * (x1.toInt64))))])) _
            refine XS.ifYes X16.here hx rfl (pc0 := 98) (pc' := 105) rfl (hb hby d8_98) rfl hc18 (by decide) (by decide) ?_
            show Steps p.tables e below (T16.setTop (mkF m 105 #[.val (.ref x0), .val (.int x1), .val (.long (f8_v14 x1 w_b_w_g_x0_0_0 w_r_w_g_x0_0_0 w_s_w_g_x0_0_0 w_p_w_g_x0_0_0)), .second, .val (.int (1 : Int32)), .val (.int (1 : Int32)), .val (.ref w_g_x0_0_0)] [])) _
            refine XS.iconst X16.here hx rfl (hb hby d8_105) ?_
            exact k
          have qj0 : (f8_j19 x1 w_b_w_g_x0_0_0 w_r_w_g_x0_0_0 w_s_w_g_x0_0_0 w_p_w_g_x0_0_0) = (0 : Int32) := if_pos hc18
          refine ⟨T16, _, X16, N0, e16, fun t k => pre21 _ ?_⟩
          rw [qj0] at k
          exact k
        · have pre22 : ∀ t, Steps p.tables e below (T16.setTop (mkF m 106 #[.val (.ref x0), .val (.int x1), .val (.long (f8_v14 x1 w_b_w_g_x0_0_0 w_r_w_g_x0_0_0 w_s_w_g_x0_0_0 w_p_w_g_x0_0_0)), .second, .val (.int (1 : Int32)), .val (.int (1 : Int32)), .val (.ref w_g_x0_0_0)] [(.int (1 : Int32))])) t → Steps p.tables e below (s₁.setTop (entryFrame m #[(.ref x0), (.int x1)] 7)) t := by
            intro t k
            refine pre17 _ ?_
            show Steps p.tables e below (T16.setTop (mkF m 98 #[.val (.ref x0), .val (.int x1), .val (.long (f8_v14 x1 w_b_w_g_x0_0_0 w_r_w_g_x0_0_0 w_s_w_g_x0_0_0 w_p_w_g_x0_0_0)), .second, .val (.int (1 : Int32)), .val (.int (1 : Int32)), .val (.ref w_g_x0_0_0)] [(.int (own_cmp (f8_v14 x1 w_b_w_g_x0_0_0 w_r_w_g_x0_0_0 w_s_w_g_x0_0_0 w_p_w_g_x0_0_0) ((8 : Int64) * (x1.toInt64))))])) _
            refine XS.ifNo X16.here hx rfl (hb hby d8_98) rfl hc18 ?_
            show Steps p.tables e below (T16.setTop (mkF m 101 #[.val (.ref x0), .val (.int x1), .val (.long (f8_v14 x1 w_b_w_g_x0_0_0 w_r_w_g_x0_0_0 w_s_w_g_x0_0_0 w_p_w_g_x0_0_0)), .second, .val (.int (1 : Int32)), .val (.int (1 : Int32)), .val (.ref w_g_x0_0_0)] [])) _
            refine XS.iconst X16.here hx rfl (hb hby d8_101) ?_
            show Steps p.tables e below (T16.setTop (mkF m 102 #[.val (.ref x0), .val (.int x1), .val (.long (f8_v14 x1 w_b_w_g_x0_0_0 w_r_w_g_x0_0_0 w_s_w_g_x0_0_0 w_p_w_g_x0_0_0)), .second, .val (.int (1 : Int32)), .val (.int (1 : Int32)), .val (.ref w_g_x0_0_0)] [(.int (1 : Int32))])) _
            refine XS.goto X16.here hx rfl (pc0 := 102) (pc' := 106) rfl (hb hby d8_102) (by decide) (by decide) ?_
            exact k
          have qj0 : (f8_j19 x1 w_b_w_g_x0_0_0 w_r_w_g_x0_0_0 w_s_w_g_x0_0_0 w_p_w_g_x0_0_0) = (1 : Int32) := if_neg (own_nt hc18)
          refine ⟨T16, _, X16, N0, e16, fun t k => pre22 _ ?_⟩
          rw [qj0] at k
          exact k
      obtain ⟨fs, hr, hrun, hended, hW, hsame⟩ := X20.leave (v := some (.int (nar .boolean (f8_j19 x1 w_b_w_g_x0_0_0 w_r_w_g_x0_0_0 w_s_w_g_x0_0_0 w_p_w_g_x0_0_0)))) (fun h => by rw [hret] at h; cases h)
      refine ⟨_, _, pre20 _ ?_, hrun, hended, _, _, rfl, ?_, ⟨_, rfl⟩, hW, hsame.mono (by decide) (by decide)⟩
      · show Steps p.tables e below (T20.setTop (mkF m 106 #[.val (.ref x0), .val (.int x1), .val (.long (f8_v14 x1 w_b_w_g_x0_0_0 w_r_w_g_x0_0_0 w_s_w_g_x0_0_0 w_p_w_g_x0_0_0)), .second, .val (.int (1 : Int32)), .val (.int (1 : Int32)), .val (.ref w_g_x0_0_0)] [(.int (f8_j19 x1 w_b_w_g_x0_0_0 w_r_w_g_x0_0_0 w_s_w_g_x0_0_0 w_p_w_g_x0_0_0))])) _
        exact retN X20 hx (t := .boolean) hret (by simp) (hb hby d8_106) hr
      · show Q8 Z x0 x1 w_g_x0 k_w_g_x0 w_g_x0_0 w_g_x0_1 k_w_g_x0_0 w_g_x0_0_0 w_g_x0_0_1 w_b_w_g_x0_0_0 w_r_w_g_x0_0_0 w_s_w_g_x0_0_0 w_p_w_g_x0_0_0 h0 n0 _ T20.heap _
        rw [e20]
        have rr : f8 x1 w_b_w_g_x0_0_0 w_r_w_g_x0_0_0 w_s_w_g_x0_0_0 w_p_w_g_x0_0_0 = (nar .boolean (f8_j19 x1 w_b_w_g_x0_0_0 w_r_w_g_x0_0_0 w_s_w_g_x0_0_0 w_p_w_g_x0_0_0)) := Eq.trans (if_neg (own_nt hc8)) (if_pos hc12)
        exact ⟨congrArg (fun z => some (Value.int z)) rr.symm, N20, rfl⟩
    · obtain ⟨fs, hr, hrun, hended, hW, hsame⟩ := X10.leave (v := some (.int (0 : Int32))) (fun h => by rw [hret] at h; cases h)
      refine ⟨_, _, pre11 _ ?_, hrun, hended, _, _, rfl, ?_, ⟨_, rfl⟩, hW, hsame.mono (by decide) (by decide)⟩
      · show Steps p.tables e below (T10.setTop (mkF m 64 #[.val (.ref x0), .val (.int x1), .val (.long (0 : Int64)), .second, .val (.int (0 : Int32)), .val (.int (0 : Int32)), .val (.ref w_g_x0_0_0)] [(.int (22 : Int32)), (.int ((w_r_w_g_x0_0_0 + w_s_w_g_x0_0_0) + (2 : Int32)))])) _
        refine XS.icmpNo X10.here hx rfl (hb hby d8_64) rfl hc12 ?_
        show Steps p.tables e below (T10.setTop (mkF m 67 #[.val (.ref x0), .val (.int x1), .val (.long (0 : Int64)), .second, .val (.int (0 : Int32)), .val (.int (0 : Int32)), .val (.ref w_g_x0_0_0)] [])) _
        refine XS.iconst X10.here hx rfl (hb hby d8_67) ?_
        show Steps p.tables e below (T10.setTop (mkF m 68 #[.val (.ref x0), .val (.int x1), .val (.long (0 : Int64)), .second, .val (.int (0 : Int32)), .val (.int (0 : Int32)), .val (.ref w_g_x0_0_0)] [(.int (0 : Int32))])) _
        exact retN X10 hx (t := .boolean) hret (by simp) (hb hby d8_68) hr
      · show Q8 Z x0 x1 w_g_x0 k_w_g_x0 w_g_x0_0 w_g_x0_1 k_w_g_x0_0 w_g_x0_0_0 w_g_x0_0_1 w_b_w_g_x0_0_0 w_r_w_g_x0_0_0 w_s_w_g_x0_0_0 w_p_w_g_x0_0_0 h0 n0 _ T10.heap _
        rw [e10]
        have rr : f8 x1 w_b_w_g_x0_0_0 w_r_w_g_x0_0_0 w_s_w_g_x0_0_0 w_p_w_g_x0_0_0 = (0 : Int32) := Eq.trans (if_neg (own_nt hc8)) (if_neg (own_nt hc12))
        exact ⟨congrArg (fun z => some (Value.int z)) rr.symm, N0, rfl⟩
-- body 9: dev/stratumaudio/SideInformation.isPossible:(I)Z
theorem d9_0 : decode prog_81_method_6_code 0 = .ok (.lconst 0, 1) := by decide +kernel
theorem d9_1 : decode prog_81_method_6_code 1 = .ok (.lstore_n 2, 1) := by decide +kernel
theorem d9_2 : decode prog_81_method_6_code 2 = .ok (.iconst 0, 1) := by decide +kernel
theorem d9_3 : decode prog_81_method_6_code 3 = .ok (.istore 4, 2) := by decide +kernel
theorem d9_5 : decode prog_81_method_6_code 5 = .ok (.iload 4, 2) := by decide +kernel
theorem d9_7 : decode prog_81_method_6_code 7 = .ok (.aload_n 0, 1) := by decide +kernel
theorem d9_8 : decode prog_81_method_6_code 8 = .ok (.getfield 55, 3) := by decide +kernel
theorem d9_11 : decode prog_81_method_6_code 11 = .ok (.if_icmp .ge 79, 3) := by decide +kernel
theorem d9_14 : decode prog_81_method_6_code 14 = .ok (.iconst 0, 1) := by decide +kernel
theorem d9_15 : decode prog_81_method_6_code 15 = .ok (.istore 5, 2) := by decide +kernel
theorem d9_17 : decode prog_81_method_6_code 17 = .ok (.iload 5, 2) := by decide +kernel
theorem d9_19 : decode prog_81_method_6_code 19 = .ok (.aload_n 0, 1) := by decide +kernel
theorem d9_20 : decode prog_81_method_6_code 20 = .ok (.getfield 47, 3) := by decide +kernel
theorem d9_23 : decode prog_81_method_6_code 23 = .ok (.if_icmp .ge 61, 3) := by decide +kernel
theorem d9_26 : decode prog_81_method_6_code 26 = .ok (.aload_n 0, 1) := by decide +kernel
theorem d9_27 : decode prog_81_method_6_code 27 = .ok (.getfield 21, 3) := by decide +kernel
theorem d9_30 : decode prog_81_method_6_code 30 = .ok (.iload 4, 2) := by decide +kernel
theorem d9_32 : decode prog_81_method_6_code 32 = .ok (.aaload, 1) := by decide +kernel
theorem d9_33 : decode prog_81_method_6_code 33 = .ok (.iload 5, 2) := by decide +kernel
theorem d9_35 : decode prog_81_method_6_code 35 = .ok (.aaload, 1) := by decide +kernel
theorem d9_36 : decode prog_81_method_6_code 36 = .ok (.astore 6, 2) := by decide +kernel
theorem d9_38 : decode prog_81_method_6_code 38 = .ok (.aload 6, 2) := by decide +kernel
theorem d9_40 : decode prog_81_method_6_code 40 = .ok (.getfield 105, 3) := by decide +kernel
theorem d9_43 : decode prog_81_method_6_code 43 = .ok (.sipush 288, 3) := by decide +kernel
theorem d9_46 : decode prog_81_method_6_code 46 = .ok (.if_icmp .gt 21, 3) := by decide +kernel
theorem d9_49 : decode prog_81_method_6_code 49 = .ok (.aload 6, 2) := by decide +kernel
theorem d9_51 : decode prog_81_method_6_code 51 = .ok (.getfield 108, 3) := by decide +kernel
theorem d9_54 : decode prog_81_method_6_code 54 = .ok (.aload 6, 2) := by decide +kernel
theorem d9_56 : decode prog_81_method_6_code 56 = .ok (.getfield 111, 3) := by decide +kernel
theorem d9_59 : decode prog_81_method_6_code 59 = .ok (.iadd, 1) := by decide +kernel
theorem d9_60 : decode prog_81_method_6_code 60 = .ok (.iconst 2, 1) := by decide +kernel
theorem d9_61 : decode prog_81_method_6_code 61 = .ok (.iadd, 1) := by decide +kernel
theorem d9_62 : decode prog_81_method_6_code 62 = .ok (.bipush 22, 2) := by decide +kernel
theorem d9_64 : decode prog_81_method_6_code 64 = .ok (.if_icmp .le 5, 3) := by decide +kernel
theorem d9_67 : decode prog_81_method_6_code 67 = .ok (.iconst 0, 1) := by decide +kernel
theorem d9_68 : decode prog_81_method_6_code 68 = .ok (.ireturn, 1) := by decide +kernel
theorem d9_69 : decode prog_81_method_6_code 69 = .ok (.lload_n 2, 1) := by decide +kernel
theorem d9_70 : decode prog_81_method_6_code 70 = .ok (.aload 6, 2) := by decide +kernel
theorem d9_72 : decode prog_81_method_6_code 72 = .ok (.getfield 116, 3) := by decide +kernel
theorem d9_75 : decode prog_81_method_6_code 75 = .ok (.i2l, 1) := by decide +kernel
theorem d9_76 : decode prog_81_method_6_code 76 = .ok (.ladd, 1) := by decide +kernel
theorem d9_77 : decode prog_81_method_6_code 77 = .ok (.lstore_n 2, 1) := by decide +kernel
theorem d9_78 : decode prog_81_method_6_code 78 = .ok (.iinc 5 1, 3) := by decide +kernel
theorem d9_81 : decode prog_81_method_6_code 81 = .ok (.goto (-64), 3) := by decide +kernel
theorem d9_84 : decode prog_81_method_6_code 84 = .ok (.iinc 4 1, 3) := by decide +kernel
theorem d9_87 : decode prog_81_method_6_code 87 = .ok (.goto (-82), 3) := by decide +kernel
theorem d9_90 : decode prog_81_method_6_code 90 = .ok (.lload_n 2, 1) := by decide +kernel
theorem d9_91 : decode prog_81_method_6_code 91 = .ok (.ldc2_w 119, 3) := by decide +kernel
theorem d9_94 : decode prog_81_method_6_code 94 = .ok (.iload_n 1, 1) := by decide +kernel
theorem d9_95 : decode prog_81_method_6_code 95 = .ok (.i2l, 1) := by decide +kernel
theorem d9_96 : decode prog_81_method_6_code 96 = .ok (.lmul, 1) := by decide +kernel
theorem d9_97 : decode prog_81_method_6_code 97 = .ok (.lcmp, 1) := by decide +kernel
theorem d9_98 : decode prog_81_method_6_code 98 = .ok (.ifCond .gt 7, 3) := by decide +kernel
theorem d9_101 : decode prog_81_method_6_code 101 = .ok (.iconst 1, 1) := by decide +kernel
theorem d9_102 : decode prog_81_method_6_code 102 = .ok (.goto 4, 3) := by decide +kernel
theorem d9_105 : decode prog_81_method_6_code 105 = .ok (.iconst 0, 1) := by decide +kernel
theorem d9_106 : decode prog_81_method_6_code 106 = .ok (.ireturn, 1) := by decide +kernel
theorem ef_9 (m : MethodId) (x0 : Addr) (x1 : Int32) : entryFrame m #[(.ref x0), (.int x1)] 7 = mkF m 0 #[.val (.ref x0), .val (.int x1), .unset, .unset, .unset, .unset, .unset] [] := by first | (simp [entryFrame, mkF, argsToLocals, Value.category]; done) | rfl
def f9_v14 (x1 : Int32) (w_b_w_g_x0_0_0 : Int32) (w_r_w_g_x0_0_0 : Int32) (w_s_w_g_x0_0_0 : Int32) (w_p_w_g_x0_0_0 : Int32) (w_b_w_g_x0_0_1 : Int32) (w_r_w_g_x0_0_1 : Int32) (w_s_w_g_x0_0_1 : Int32) (w_p_w_g_x0_0_1 : Int32) : Int64 := ((0 : Int64) + (w_p_w_g_x0_0_0.toInt64))
def f9_v27 (x1 : Int32) (w_b_w_g_x0_0_0 : Int32) (w_r_w_g_x0_0_0 : Int32) (w_s_w_g_x0_0_0 : Int32) (w_p_w_g_x0_0_0 : Int32) (w_b_w_g_x0_0_1 : Int32) (w_r_w_g_x0_0_1 : Int32) (w_s_w_g_x0_0_1 : Int32) (w_p_w_g_x0_0_1 : Int32) : Int64 := ((f9_v14 x1 w_b_w_g_x0_0_0 w_r_w_g_x0_0_0 w_s_w_g_x0_0_0 w_p_w_g_x0_0_0 w_b_w_g_x0_0_1 w_r_w_g_x0_0_1 w_s_w_g_x0_0_1 w_p_w_g_x0_0_1) + (w_p_w_g_x0_0_1.toInt64))
def f9_j32 (x1 : Int32) (w_b_w_g_x0_0_0 : Int32) (w_r_w_g_x0_0_0 : Int32) (w_s_w_g_x0_0_0 : Int32) (w_p_w_g_x0_0_0 : Int32) (w_b_w_g_x0_0_1 : Int32) (w_r_w_g_x0_0_1 : Int32) (w_s_w_g_x0_0_1 : Int32) (w_p_w_g_x0_0_1 : Int32) : Int32 := if ifCond.holds .gt (own_cmp (f9_v27 x1 w_b_w_g_x0_0_0 w_r_w_g_x0_0_0 w_s_w_g_x0_0_0 w_p_w_g_x0_0_0 w_b_w_g_x0_0_1 w_r_w_g_x0_0_1 w_s_w_g_x0_0_1 w_p_w_g_x0_0_1) ((8 : Int64) * (x1.toInt64))) = true then (0 : Int32) else (1 : Int32)
def f9 (x1 : Int32) (w_b_w_g_x0_0_0 : Int32) (w_r_w_g_x0_0_0 : Int32) (w_s_w_g_x0_0_0 : Int32) (w_p_w_g_x0_0_0 : Int32) (w_b_w_g_x0_0_1 : Int32) (w_r_w_g_x0_0_1 : Int32) (w_s_w_g_x0_0_1 : Int32) (w_p_w_g_x0_0_1 : Int32) : Int32 := (if if_icmp.holds .gt w_b_w_g_x0_0_0 (288 : Int32) = true then (0 : Int32) else (if if_icmp.holds .le ((w_r_w_g_x0_0_0 + w_s_w_g_x0_0_0) + (2 : Int32)) (22 : Int32) = true then (if if_icmp.holds .gt w_b_w_g_x0_0_1 (288 : Int32) = true then (0 : Int32) else (if if_icmp.holds .le ((w_r_w_g_x0_0_1 + w_s_w_g_x0_0_1) + (2 : Int32)) (22 : Int32) = true then (nar .boolean (f9_j32 x1 w_b_w_g_x0_0_0 w_r_w_g_x0_0_0 w_s_w_g_x0_0_0 w_p_w_g_x0_0_0 w_b_w_g_x0_0_1 w_r_w_g_x0_0_1 w_s_w_g_x0_0_1 w_p_w_g_x0_0_1)) else (0 : Int32))) else (0 : Int32)))
def Q9 (Z : State) (x0 : Addr) (x1 : Int32) (w_g_x0 : Addr) (k_w_g_x0 : ClassId) (w_g_x0_0 : Addr) (w_g_x0_1 : Addr) (k_w_g_x0_0 : ClassId) (w_g_x0_0_0 : Addr) (w_g_x0_0_1 : Addr) (w_b_w_g_x0_0_0 : Int32) (w_r_w_g_x0_0_0 : Int32) (w_s_w_g_x0_0_0 : Int32) (w_p_w_g_x0_0_0 : Int32) (w_b_w_g_x0_0_1 : Int32) (w_r_w_g_x0_0_1 : Int32) (w_s_w_g_x0_0_1 : Int32) (w_p_w_g_x0_0_1 : Int32) (h0 : Heap) (n0 : Nat) (v : Option Value) (h : Heap) (L : List Loc) : Prop := v = some (.int (f9 x1 w_b_w_g_x0_0_0 w_r_w_g_x0_0_0 w_s_w_g_x0_0_0 w_p_w_g_x0_0_0 w_b_w_g_x0_0_1 w_r_w_g_x0_0_1 w_s_w_g_x0_0_1 w_p_w_g_x0_0_1)) ∧ Fr n0 L ∧ h = h0
set_option maxRecDepth 65536 in
set_option maxHeartbeats 40000000 in
theorem rm9 (l : Launch) (Z : State) (a0 : Array Value) (hw : ∀ d ∈ tables_1, d.before a0 Z = true) (ws : List Jvm.Cond) (x0 : Addr) (x1 : Int32) (w_g_x0 : Addr) (k_w_g_x0 : ClassId) (w_g_x0_0 : Addr) (w_g_x0_1 : Addr) (k_w_g_x0_0 : ClassId) (w_g_x0_0_0 : Addr) (w_g_x0_0_1 : Addr) (w_b_w_g_x0_0_0 : Int32) (w_r_w_g_x0_0_0 : Int32) (w_s_w_g_x0_0_0 : Int32) (w_p_w_g_x0_0_0 : Int32) (w_b_w_g_x0_0_1 : Int32) (w_r_w_g_x0_0_1 : Int32) (w_s_w_g_x0_0_1 : Int32) (w_p_w_g_x0_0_1 : Int32) (h0 : Heap) (n0 : Nat) (Z0 : n0 ≤ h0.size) (F_x0_granuleCount : Fld Z h0 x0 "dev/stratumaudio/SideInformation" "granuleCount" "I" (.int (1 : Int32))) (F_x0_channelCount : Fld Z h0 x0 "dev/stratumaudio/SideInformation" "channelCount" "I" (.int (2 : Int32))) (F_x0_granules : Fld Z h0 x0 "dev/stratumaudio/SideInformation" "granules" "[[Ldev/stratumaudio/SideInformation$Granule;" (.ref w_g_x0)) (A_w_g_x0 : Arv Z h0 w_g_x0 k_w_g_x0 (.array (.object "dev/stratumaudio/SideInformation$Granule")) (2 : Int32) [(.ref w_g_x0_0), (.ref w_g_x0_1)] .null) (A_w_g_x0_0 : Arv Z h0 w_g_x0_0 k_w_g_x0_0 (.object "dev/stratumaudio/SideInformation$Granule") (2 : Int32) [(.ref w_g_x0_0_0), (.ref w_g_x0_0_1)] .null) (F_w_g_x0_0_0_bigValues : Fld Z h0 w_g_x0_0_0 "dev/stratumaudio/SideInformation$Granule" "bigValues" "I" (.int w_b_w_g_x0_0_0)) (F_w_g_x0_0_0_region0Count : Fld Z h0 w_g_x0_0_0 "dev/stratumaudio/SideInformation$Granule" "region0Count" "I" (.int w_r_w_g_x0_0_0)) (F_w_g_x0_0_0_region1Count : Fld Z h0 w_g_x0_0_0 "dev/stratumaudio/SideInformation$Granule" "region1Count" "I" (.int w_s_w_g_x0_0_0)) (F_w_g_x0_0_0_part23Length : Fld Z h0 w_g_x0_0_0 "dev/stratumaudio/SideInformation$Granule" "part23Length" "I" (.int w_p_w_g_x0_0_0)) (F_w_g_x0_0_1_bigValues : Fld Z h0 w_g_x0_0_1 "dev/stratumaudio/SideInformation$Granule" "bigValues" "I" (.int w_b_w_g_x0_0_1)) (F_w_g_x0_0_1_region0Count : Fld Z h0 w_g_x0_0_1 "dev/stratumaudio/SideInformation$Granule" "region0Count" "I" (.int w_r_w_g_x0_0_1)) (F_w_g_x0_0_1_region1Count : Fld Z h0 w_g_x0_0_1 "dev/stratumaudio/SideInformation$Granule" "region1Count" "I" (.int w_s_w_g_x0_0_1)) (F_w_g_x0_0_1_part23Length : Fld Z h0 w_g_x0_0_1 "dev/stratumaudio/SideInformation$Granule" "part23Length" "I" (.int w_p_w_g_x0_0_1)) :
    MetFree l (⟨"dev/stratumaudio/SideInformation", "isPossible", "(I)Z"⟩ : MethodName) (head1 (Jvm.Cond.code (⟨"dev/stratumaudio/SideInformation", "isPossible", "(I)Z"⟩ : MethodName) prog_81_method_6_code 7 (some .boolean) :: ws) ({ frames := 0, cells := 0, slots := 0, locals := 0 } : Room)) (fun a U => a = #[(.ref x0), (.int x1)] ∧ Z.Warmed39 U.vm ∧ U.heap = h0) (fun _ _ _ _ _ => True) (fun _ U o U' => ∃ v L, o = .returned v ∧ Q9 Z x0 x1 w_g_x0 k_w_g_x0 w_g_x0_0 w_g_x0_1 k_w_g_x0_0 w_g_x0_0_0 w_g_x0_0_1 w_b_w_g_x0_0_0 w_r_w_g_x0_0_0 w_s_w_g_x0_0_0 w_p_w_g_x0_0_0 w_b_w_g_x0_0_1 w_r_w_g_x0_0_1 w_s_w_g_x0_0_1 w_p_w_g_x0_0_1 h0 n0 v U'.heap L ∧ FrameEnd U o U' L ({ frames := 0, cells := 0, slots := 0, locals := 0 } : Room).cells ({ frames := 0, cells := 0, slots := 0, locals := 0 } : Room).slots) := by
  refine MetFree.of_bodySF (plainFor_of_name pn_1) hisR ?_
  intro p e s m args below meth c s₁ Bd hml0 hP hK0
  obtain ⟨rfl, hZ, hh⟩ := hP
  have hx := Bd.exec
  have hby := Bd.bytes
  have hml : c.maxLocals = 7 := hml0
  have hown : s.vm.findClass "dev/stratumaudio/SideInformation" = some m.cls := findClass_of_methodNamed Bd.named
  have hnm := (name_of_methodNamed Bd.named Bd.method).1
  have hret : meth.sig.returnType = some .boolean := Bd.returns
  have hlk : meth.locks = false := Bd.notSynchronized
  have X0 : Stand p l e ({ frames := 0, cells := 0, slots := 0, locals := 0 } : Room) s m #[(.ref x0), (.int x1)] below meth c s₁ [] 0 0 := Stand.of_body Bd
  have e0 : s₁.heap = h0 := by rw [← hh, Bd.state]; rfl
  have N0 := Fr.nil n0
  have pre0 : ∀ t, Steps p.tables e below (s₁.setTop (mkF m 0 #[.val (.ref x0), .val (.int x1), .unset, .unset, .unset, .unset, .unset] [])) t → Steps p.tables e below (s₁.setTop (entryFrame m #[(.ref x0), (.int x1)] 7)) t := fun t k => castTop (ef_9 m x0 x1) k
  obtain ⟨T1, X1, e1, st1⟩ := getF X0 hx hZ hown (host := "") (Or.inl (hw _ (List.mem_of_getElem? (i := 60) rfl))) Via.refl e0 F_x0_granuleCount (g := (mkF m 8 #[.val (.ref x0), .val (.int x1), .val (.long (0 : Int64)), .second, .val (.int (0 : Int32)), .unset, .unset] [(.ref x0), (.int (0 : Int32))])) rfl rfl (hb hby d9_8)
  obtain ⟨T2, X2, e2, st2⟩ := getF X1 hx hZ hown (host := "") (Or.inl (hw _ (List.mem_of_getElem? (i := 61) rfl))) Via.refl e1 F_x0_channelCount (g := (mkF m 20 #[.val (.ref x0), .val (.int x1), .val (.long (0 : Int64)), .second, .val (.int (0 : Int32)), .val (.int (0 : Int32)), .unset] [(.ref x0), (.int (0 : Int32))])) rfl rfl (hb hby d9_20)
  obtain ⟨T3, X3, e3, st3⟩ := getF X2 hx hZ hown (host := "") (Or.inl (hw _ (List.mem_of_getElem? (i := 32) rfl))) Via.refl e2 F_x0_granules (g := (mkF m 27 #[.val (.ref x0), .val (.int x1), .val (.long (0 : Int64)), .second, .val (.int (0 : Int32)), .val (.int (0 : Int32)), .unset] [(.ref x0)])) rfl rfl (hb hby d9_27)
  have Vc4 := A_w_g_x0
  obtain ⟨cl4, Ar4, q4, S4, NN4, H4, G4⟩ := Vc4
  have hin4 := inb_of (j := (0 : Int32)) S4 ⟨by decide, by decide⟩
  have Vc5 := A_w_g_x0_0
  obtain ⟨cl5, Ar5, q5, S5, NN5, H5, G5⟩ := Vc5
  have hin5 := inb_of (j := (0 : Int32)) S5 ⟨by decide, by decide⟩
  obtain ⟨T6, X6, e6, st6⟩ := getF X3 hx hZ hown (host := "") (Or.inl (hw _ (List.mem_of_getElem? (i := 62) rfl))) Via.refl e3 F_w_g_x0_0_0_bigValues (g := (mkF m 40 #[.val (.ref x0), .val (.int x1), .val (.long (0 : Int64)), .second, .val (.int (0 : Int32)), .val (.int (0 : Int32)), .val (.ref w_g_x0_0_0)] [(.ref w_g_x0_0_0)])) rfl rfl (hb hby d9_40)
  have pre7 : ∀ t, Steps p.tables e below (T6.setTop (mkF m 46 #[.val (.ref x0), .val (.int x1), .val (.long (0 : Int64)), .second, .val (.int (0 : Int32)), .val (.int (0 : Int32)), .val (.ref w_g_x0_0_0)] [(.int (288 : Int32)), (.int w_b_w_g_x0_0_0)])) t → Steps p.tables e below (s₁.setTop (entryFrame m #[(.ref x0), (.int x1)] 7)) t := by
    intro t k
    refine pre0 _ ?_
    show Steps p.tables e below (s₁.setTop (mkF m 0 #[.val (.ref x0), .val (.int x1), .unset, .unset, .unset, .unset, .unset] [])) _
    refine XS.lconst X0.here hx rfl (hb hby d9_0) ?_
    show Steps p.tables e below (s₁.setTop (mkF m 1 #[.val (.ref x0), .val (.int x1), .unset, .unset, .unset, .unset, .unset] [(.long (0 : Int64))])) _
    refine XS.lstoreN X0.here hx rfl (hb hby d9_1) rfl (l' := #[.val (.ref x0), .val (.int x1), .val (.long (0 : Int64)), .second, .unset, .unset, .unset]) rfl ?_
    show Steps p.tables e below (s₁.setTop (mkF m 2 #[.val (.ref x0), .val (.int x1), .val (.long (0 : Int64)), .second, .unset, .unset, .unset] [])) _
    refine XS.iconst X0.here hx rfl (hb hby d9_2) ?_
    show Steps p.tables e below (s₁.setTop (mkF m 3 #[.val (.ref x0), .val (.int x1), .val (.long (0 : Int64)), .second, .unset, .unset, .unset] [(.int (0 : Int32))])) _
    refine XS.istore X0.here hx rfl (hb hby d9_3) rfl (l' := #[.val (.ref x0), .val (.int x1), .val (.long (0 : Int64)), .second, .val (.int (0 : Int32)), .unset, .unset]) rfl ?_
    show Steps p.tables e below (s₁.setTop (mkF m 5 #[.val (.ref x0), .val (.int x1), .val (.long (0 : Int64)), .second, .val (.int (0 : Int32)), .unset, .unset] [])) _
    refine XS.iload X0.here hx rfl (hb hby d9_5) rfl ?_
    show Steps p.tables e below (s₁.setTop (mkF m 7 #[.val (.ref x0), .val (.int x1), .val (.long (0 : Int64)), .second, .val (.int (0 : Int32)), .unset, .unset] [(.int (0 : Int32))])) _
    refine XS.aloadN X0.here hx rfl (hb hby d9_7) rfl rfl ?_
    show Steps p.tables e below (s₁.setTop (mkF m 8 #[.val (.ref x0), .val (.int x1), .val (.long (0 : Int64)), .second, .val (.int (0 : Int32)), .unset, .unset] [(.ref x0), (.int (0 : Int32))])) _
    refine st1 _ ?_
    show Steps p.tables e below (T1.setTop (mkF m 11 #[.val (.ref x0), .val (.int x1), .val (.long (0 : Int64)), .second, .val (.int (0 : Int32)), .unset, .unset] [(.int (1 : Int32)), (.int (0 : Int32))])) _
    refine XS.icmpNo X1.here hx rfl (hb hby d9_11) rfl (by decide) ?_
    show Steps p.tables e below (T1.setTop (mkF m 14 #[.val (.ref x0), .val (.int x1), .val (.long (0 : Int64)), .second, .val (.int (0 : Int32)), .unset, .unset] [])) _
    refine XS.iconst X1.here hx rfl (hb hby d9_14) ?_
    show Steps p.tables e below (T1.setTop (mkF m 15 #[.val (.ref x0), .val (.int x1), .val (.long (0 : Int64)), .second, .val (.int (0 : Int32)), .unset, .unset] [(.int (0 : Int32))])) _
    refine XS.istore X1.here hx rfl (hb hby d9_15) rfl (l' := #[.val (.ref x0), .val (.int x1), .val (.long (0 : Int64)), .second, .val (.int (0 : Int32)), .val (.int (0 : Int32)), .unset]) rfl ?_
    show Steps p.tables e below (T1.setTop (mkF m 17 #[.val (.ref x0), .val (.int x1), .val (.long (0 : Int64)), .second, .val (.int (0 : Int32)), .val (.int (0 : Int32)), .unset] [])) _
    refine XS.iload X1.here hx rfl (hb hby d9_17) rfl ?_
    show Steps p.tables e below (T1.setTop (mkF m 19 #[.val (.ref x0), .val (.int x1), .val (.long (0 : Int64)), .second, .val (.int (0 : Int32)), .val (.int (0 : Int32)), .unset] [(.int (0 : Int32))])) _
    refine XS.aloadN X1.here hx rfl (hb hby d9_19) rfl rfl ?_
    show Steps p.tables e below (T1.setTop (mkF m 20 #[.val (.ref x0), .val (.int x1), .val (.long (0 : Int64)), .second, .val (.int (0 : Int32)), .val (.int (0 : Int32)), .unset] [(.ref x0), (.int (0 : Int32))])) _
    refine st2 _ ?_
    show Steps p.tables e below (T2.setTop (mkF m 23 #[.val (.ref x0), .val (.int x1), .val (.long (0 : Int64)), .second, .val (.int (0 : Int32)), .val (.int (0 : Int32)), .unset] [(.int (2 : Int32)), (.int (0 : Int32))])) _
    refine XS.icmpNo X2.here hx rfl (hb hby d9_23) rfl (by decide) ?_
    show Steps p.tables e below (T2.setTop (mkF m 26 #[.val (.ref x0), .val (.int x1), .val (.long (0 : Int64)), .second, .val (.int (0 : Int32)), .val (.int (0 : Int32)), .unset] [])) _
    refine XS.aloadN X2.here hx rfl (hb hby d9_26) rfl rfl ?_
    show Steps p.tables e below (T2.setTop (mkF m 27 #[.val (.ref x0), .val (.int x1), .val (.long (0 : Int64)), .second, .val (.int (0 : Int32)), .val (.int (0 : Int32)), .unset] [(.ref x0)])) _
    refine st3 _ ?_
    show Steps p.tables e below (T3.setTop (mkF m 30 #[.val (.ref x0), .val (.int x1), .val (.long (0 : Int64)), .second, .val (.int (0 : Int32)), .val (.int (0 : Int32)), .unset] [(.ref w_g_x0)])) _
    refine XS.iload X3.here hx rfl (hb hby d9_30) rfl ?_
    show Steps p.tables e below (T3.setTop (mkF m 32 #[.val (.ref x0), .val (.int x1), .val (.long (0 : Int64)), .second, .val (.int (0 : Int32)), .val (.int (0 : Int32)), .unset] [(.int (0 : Int32)), (.ref w_g_x0)])) _
    refine X3.aaload hx (j := (0 : Int32)) (v := (.ref w_g_x0_0)) (by rw [e3]; exact Ar4.1) (State.isArrayOf_alike hZ.alike Ar4.2.1) rfl Ar4.2.2 hin4 (Has.at H4 hin4 rfl) (g := (mkF m 32 #[.val (.ref x0), .val (.int x1), .val (.long (0 : Int64)), .second, .val (.int (0 : Int32)), .val (.int (0 : Int32)), .unset] [(.int (0 : Int32)), (.ref w_g_x0)])) rfl rfl (hb hby d9_32) _ ?_
    show Steps p.tables e below (T3.setTop (mkF m 33 #[.val (.ref x0), .val (.int x1), .val (.long (0 : Int64)), .second, .val (.int (0 : Int32)), .val (.int (0 : Int32)), .unset] [(.ref w_g_x0_0)])) _
    refine XS.iload X3.here hx rfl (hb hby d9_33) rfl ?_
    show Steps p.tables e below (T3.setTop (mkF m 35 #[.val (.ref x0), .val (.int x1), .val (.long (0 : Int64)), .second, .val (.int (0 : Int32)), .val (.int (0 : Int32)), .unset] [(.int (0 : Int32)), (.ref w_g_x0_0)])) _
    refine X3.aaload hx (j := (0 : Int32)) (v := (.ref w_g_x0_0_0)) (by rw [e3]; exact Ar5.1) (State.isArrayOf_alike hZ.alike Ar5.2.1) rfl Ar5.2.2 hin5 (Has.at H5 hin5 rfl) (g := (mkF m 35 #[.val (.ref x0), .val (.int x1), .val (.long (0 : Int64)), .second, .val (.int (0 : Int32)), .val (.int (0 : Int32)), .unset] [(.int (0 : Int32)), (.ref w_g_x0_0)])) rfl rfl (hb hby d9_35) _ ?_
    show Steps p.tables e below (T3.setTop (mkF m 36 #[.val (.ref x0), .val (.int x1), .val (.long (0 : Int64)), .second, .val (.int (0 : Int32)), .val (.int (0 : Int32)), .unset] [(.ref w_g_x0_0_0)])) _
    refine XS.astore X3.here hx rfl (hb hby d9_36) rfl rfl (l' := #[.val (.ref x0), .val (.int x1), .val (.long (0 : Int64)), .second, .val (.int (0 : Int32)), .val (.int (0 : Int32)), .val (.ref w_g_x0_0_0)]) rfl ?_
    show Steps p.tables e below (T3.setTop (mkF m 38 #[.val (.ref x0), .val (.int x1), .val (.long (0 : Int64)), .second, .val (.int (0 : Int32)), .val (.int (0 : Int32)), .val (.ref w_g_x0_0_0)] [])) _
    refine XS.aload X3.here hx rfl (hb hby d9_38) rfl rfl ?_
    show Steps p.tables e below (T3.setTop (mkF m 40 #[.val (.ref x0), .val (.int x1), .val (.long (0 : Int64)), .second, .val (.int (0 : Int32)), .val (.int (0 : Int32)), .val (.ref w_g_x0_0_0)] [(.ref w_g_x0_0_0)])) _
    refine st6 _ ?_
    show Steps p.tables e below (T6.setTop (mkF m 43 #[.val (.ref x0), .val (.int x1), .val (.long (0 : Int64)), .second, .val (.int (0 : Int32)), .val (.int (0 : Int32)), .val (.ref w_g_x0_0_0)] [(.int w_b_w_g_x0_0_0)])) _
    refine XS.sipush X6.here hx rfl (hb hby d9_43) ?_
    exact k
  rcases Bool.eq_false_or_eq_true (if_icmp.holds .gt w_b_w_g_x0_0_0 (288 : Int32)) with hc8 | hc8
  · obtain ⟨fs, hr, hrun, hended, hW, hsame⟩ := X6.leave (v := some (.int (0 : Int32))) (fun h => by rw [hret] at h; cases h)
    refine ⟨_, _, pre7 _ ?_, hrun, hended, _, _, rfl, ?_, ⟨_, rfl⟩, hW, hsame.mono (by decide) (by decide)⟩
    · show Steps p.tables e below (T6.setTop (mkF m 46 #[.val (.ref x0), .val (.int x1), .val (.long (0 : Int64)), .second, .val (.int (0 : Int32)), .val (.int (0 : Int32)), .val (.ref w_g_x0_0_0)] [(.int (288 : Int32)), (.int w_b_w_g_x0_0_0)])) _
      refine XS.icmpYes X6.here hx rfl (pc0 := 46) (pc' := 67) rfl (hb hby d9_46) rfl hc8 (by decide) (by decide) ?_
      show Steps p.tables e below (T6.setTop (mkF m 67 #[.val (.ref x0), .val (.int x1), .val (.long (0 : Int64)), .second, .val (.int (0 : Int32)), .val (.int (0 : Int32)), .val (.ref w_g_x0_0_0)] [])) _
      refine XS.iconst X6.here hx rfl (hb hby d9_67) ?_
      show Steps p.tables e below (T6.setTop (mkF m 68 #[.val (.ref x0), .val (.int x1), .val (.long (0 : Int64)), .second, .val (.int (0 : Int32)), .val (.int (0 : Int32)), .val (.ref w_g_x0_0_0)] [(.int (0 : Int32))])) _
      exact retN X6 hx (t := .boolean) hret (by simp) (hb hby d9_68) hr
    · show Q9 Z x0 x1 w_g_x0 k_w_g_x0 w_g_x0_0 w_g_x0_1 k_w_g_x0_0 w_g_x0_0_0 w_g_x0_0_1 w_b_w_g_x0_0_0 w_r_w_g_x0_0_0 w_s_w_g_x0_0_0 w_p_w_g_x0_0_0 w_b_w_g_x0_0_1 w_r_w_g_x0_0_1 w_s_w_g_x0_0_1 w_p_w_g_x0_0_1 h0 n0 _ T6.heap _
      rw [e6]
      have rr : f9 x1 w_b_w_g_x0_0_0 w_r_w_g_x0_0_0 w_s_w_g_x0_0_0 w_p_w_g_x0_0_0 w_b_w_g_x0_0_1 w_r_w_g_x0_0_1 w_s_w_g_x0_0_1 w_p_w_g_x0_0_1 = (0 : Int32) := if_pos hc8
      exact ⟨congrArg (fun z => some (Value.int z)) rr.symm, N0, rfl⟩
  · obtain ⟨T9, X9, e9, st9⟩ := getF X6 hx hZ hown (host := "") (Or.inl (hw _ (List.mem_of_getElem? (i := 63) rfl))) Via.refl e6 F_w_g_x0_0_0_region0Count (g := (mkF m 51 #[.val (.ref x0), .val (.int x1), .val (.long (0 : Int64)), .second, .val (.int (0 : Int32)), .val (.int (0 : Int32)), .val (.ref w_g_x0_0_0)] [(.ref w_g_x0_0_0)])) rfl rfl (hb hby d9_51)
    obtain ⟨T10, X10, e10, st10⟩ := getF X9 hx hZ hown (host := "") (Or.inl (hw _ (List.mem_of_getElem? (i := 64) rfl))) Via.refl e9 F_w_g_x0_0_0_region1Count (g := (mkF m 56 #[.val (.ref x0), .val (.int x1), .val (.long (0 : Int64)), .second, .val (.int (0 : Int32)), .val (.int (0 : Int32)), .val (.ref w_g_x0_0_0)] [(.ref w_g_x0_0_0), (.int w_r_w_g_x0_0_0)])) rfl rfl (hb hby d9_56)
    have pre11 : ∀ t, Steps p.tables e below (T10.setTop (mkF m 64 #[.val (.ref x0), .val (.int x1), .val (.long (0 : Int64)), .second, .val (.int (0 : Int32)), .val (.int (0 : Int32)), .val (.ref w_g_x0_0_0)] [(.int (22 : Int32)), (.int ((w_r_w_g_x0_0_0 + w_s_w_g_x0_0_0) + (2 : Int32)))])) t → Steps p.tables e below (s₁.setTop (entryFrame m #[(.ref x0), (.int x1)] 7)) t := by
      intro t k
      refine pre7 _ ?_
      show Steps p.tables e below (T6.setTop (mkF m 46 #[.val (.ref x0), .val (.int x1), .val (.long (0 : Int64)), .second, .val (.int (0 : Int32)), .val (.int (0 : Int32)), .val (.ref w_g_x0_0_0)] [(.int (288 : Int32)), (.int w_b_w_g_x0_0_0)])) _
      refine XS.icmpNo X6.here hx rfl (hb hby d9_46) rfl hc8 ?_
      show Steps p.tables e below (T6.setTop (mkF m 49 #[.val (.ref x0), .val (.int x1), .val (.long (0 : Int64)), .second, .val (.int (0 : Int32)), .val (.int (0 : Int32)), .val (.ref w_g_x0_0_0)] [])) _
      refine XS.aload X6.here hx rfl (hb hby d9_49) rfl rfl ?_
      show Steps p.tables e below (T6.setTop (mkF m 51 #[.val (.ref x0), .val (.int x1), .val (.long (0 : Int64)), .second, .val (.int (0 : Int32)), .val (.int (0 : Int32)), .val (.ref w_g_x0_0_0)] [(.ref w_g_x0_0_0)])) _
      refine st9 _ ?_
      show Steps p.tables e below (T9.setTop (mkF m 54 #[.val (.ref x0), .val (.int x1), .val (.long (0 : Int64)), .second, .val (.int (0 : Int32)), .val (.int (0 : Int32)), .val (.ref w_g_x0_0_0)] [(.int w_r_w_g_x0_0_0)])) _
      refine XS.aload X9.here hx rfl (hb hby d9_54) rfl rfl ?_
      show Steps p.tables e below (T9.setTop (mkF m 56 #[.val (.ref x0), .val (.int x1), .val (.long (0 : Int64)), .second, .val (.int (0 : Int32)), .val (.int (0 : Int32)), .val (.ref w_g_x0_0_0)] [(.ref w_g_x0_0_0), (.int w_r_w_g_x0_0_0)])) _
      refine st10 _ ?_
      show Steps p.tables e below (T10.setTop (mkF m 59 #[.val (.ref x0), .val (.int x1), .val (.long (0 : Int64)), .second, .val (.int (0 : Int32)), .val (.int (0 : Int32)), .val (.ref w_g_x0_0_0)] [(.int w_s_w_g_x0_0_0), (.int w_r_w_g_x0_0_0)])) _
      refine XS.iadd X10.here hx rfl (hb hby d9_59) rfl ?_
      show Steps p.tables e below (T10.setTop (mkF m 60 #[.val (.ref x0), .val (.int x1), .val (.long (0 : Int64)), .second, .val (.int (0 : Int32)), .val (.int (0 : Int32)), .val (.ref w_g_x0_0_0)] [(.int (w_r_w_g_x0_0_0 + w_s_w_g_x0_0_0))])) _
      refine XS.iconst X10.here hx rfl (hb hby d9_60) ?_
      show Steps p.tables e below (T10.setTop (mkF m 61 #[.val (.ref x0), .val (.int x1), .val (.long (0 : Int64)), .second, .val (.int (0 : Int32)), .val (.int (0 : Int32)), .val (.ref w_g_x0_0_0)] [(.int (2 : Int32)), (.int (w_r_w_g_x0_0_0 + w_s_w_g_x0_0_0))])) _
      refine XS.iadd X10.here hx rfl (hb hby d9_61) rfl ?_
      show Steps p.tables e below (T10.setTop (mkF m 62 #[.val (.ref x0), .val (.int x1), .val (.long (0 : Int64)), .second, .val (.int (0 : Int32)), .val (.int (0 : Int32)), .val (.ref w_g_x0_0_0)] [(.int ((w_r_w_g_x0_0_0 + w_s_w_g_x0_0_0) + (2 : Int32)))])) _
      refine XS.bipush X10.here hx rfl (hb hby d9_62) ?_
      exact k
    rcases Bool.eq_false_or_eq_true (if_icmp.holds .le ((w_r_w_g_x0_0_0 + w_s_w_g_x0_0_0) + (2 : Int32)) (22 : Int32)) with hc12 | hc12
    · obtain ⟨T13, X13, e13, st13⟩ := getF X10 hx hZ hown (host := "") (Or.inl (hw _ (List.mem_of_getElem? (i := 65) rfl))) Via.refl e10 F_w_g_x0_0_0_part23Length (g := (mkF m 72 #[.val (.ref x0), .val (.int x1), .val (.long (0 : Int64)), .second, .val (.int (0 : Int32)), .val (.int (0 : Int32)), .val (.ref w_g_x0_0_0)] [(.ref w_g_x0_0_0), (.long (0 : Int64))])) rfl rfl (hb hby d9_72)
      obtain ⟨T15, X15, e15, st15⟩ := getF X13 hx hZ hown (host := "") (Or.inl (hw _ (List.mem_of_getElem? (i := 61) rfl))) Via.refl e13 F_x0_channelCount (g := (mkF m 20 #[.val (.ref x0), .val (.int x1), .val (.long (f9_v14 x1 w_b_w_g_x0_0_0 w_r_w_g_x0_0_0 w_s_w_g_x0_0_0 w_p_w_g_x0_0_0 w_b_w_g_x0_0_1 w_r_w_g_x0_0_1 w_s_w_g_x0_0_1 w_p_w_g_x0_0_1)), .second, .val (.int (0 : Int32)), .val (.int (1 : Int32)), .val (.ref w_g_x0_0_0)] [(.ref x0), (.int (1 : Int32))])) rfl rfl (hb hby d9_20)
      obtain ⟨T16, X16, e16, st16⟩ := getF X15 hx hZ hown (host := "") (Or.inl (hw _ (List.mem_of_getElem? (i := 32) rfl))) Via.refl e15 F_x0_granules (g := (mkF m 27 #[.val (.ref x0), .val (.int x1), .val (.long (f9_v14 x1 w_b_w_g_x0_0_0 w_r_w_g_x0_0_0 w_s_w_g_x0_0_0 w_p_w_g_x0_0_0 w_b_w_g_x0_0_1 w_r_w_g_x0_0_1 w_s_w_g_x0_0_1 w_p_w_g_x0_0_1)), .second, .val (.int (0 : Int32)), .val (.int (1 : Int32)), .val (.ref w_g_x0_0_0)] [(.ref x0)])) rfl rfl (hb hby d9_27)
      have Vc17 := A_w_g_x0
      obtain ⟨cl17, Ar17, q17, S17, NN17, H17, G17⟩ := Vc17
      have hin17 := inb_of (j := (0 : Int32)) S17 ⟨by decide, by decide⟩
      have Vc18 := A_w_g_x0_0
      obtain ⟨cl18, Ar18, q18, S18, NN18, H18, G18⟩ := Vc18
      have hin18 := inb_of (j := (1 : Int32)) S18 ⟨by decide, by decide⟩
      obtain ⟨T19, X19, e19, st19⟩ := getF X16 hx hZ hown (host := "") (Or.inl (hw _ (List.mem_of_getElem? (i := 62) rfl))) Via.refl e16 F_w_g_x0_0_1_bigValues (g := (mkF m 40 #[.val (.ref x0), .val (.int x1), .val (.long (f9_v14 x1 w_b_w_g_x0_0_0 w_r_w_g_x0_0_0 w_s_w_g_x0_0_0 w_p_w_g_x0_0_0 w_b_w_g_x0_0_1 w_r_w_g_x0_0_1 w_s_w_g_x0_0_1 w_p_w_g_x0_0_1)), .second, .val (.int (0 : Int32)), .val (.int (1 : Int32)), .val (.ref w_g_x0_0_1)] [(.ref w_g_x0_0_1)])) rfl rfl (hb hby d9_40)
      have pre20 : ∀ t, Steps p.tables e below (T19.setTop (mkF m 46 #[.val (.ref x0), .val (.int x1), .val (.long (f9_v14 x1 w_b_w_g_x0_0_0 w_r_w_g_x0_0_0 w_s_w_g_x0_0_0 w_p_w_g_x0_0_0 w_b_w_g_x0_0_1 w_r_w_g_x0_0_1 w_s_w_g_x0_0_1 w_p_w_g_x0_0_1)), .second, .val (.int (0 : Int32)), .val (.int (1 : Int32)), .val (.ref w_g_x0_0_1)] [(.int (288 : Int32)), (.int w_b_w_g_x0_0_1)])) t → Steps p.tables e below (s₁.setTop (entryFrame m #[(.ref x0), (.int x1)] 7)) t := by
        intro t k
        refine pre11 _ ?_
        show Steps p.tables e below (T10.setTop (mkF m 64 #[.val (.ref x0), .val (.int x1), .val (.long (0 : Int64)), .second, .val (.int (0 : Int32)), .val (.int (0 : Int32)), .val (.ref w_g_x0_0_0)] [(.int (22 : Int32)), (.int ((w_r_w_g_x0_0_0 + w_s_w_g_x0_0_0) + (2 : Int32)))])) _
        refine XS.icmpYes X10.here hx rfl (pc0 := 64) (pc' := 69) rfl (hb hby d9_64) rfl hc12 (by decide) (by decide) ?_
        show Steps p.tables e below (T10.setTop (mkF m 69 #[.val (.ref x0), .val (.int x1), .val (.long (0 : Int64)), .second, .val (.int (0 : Int32)), .val (.int (0 : Int32)), .val (.ref w_g_x0_0_0)] [])) _
        refine XS.lloadN X10.here hx rfl (hb hby d9_69) rfl ?_
        show Steps p.tables e below (T10.setTop (mkF m 70 #[.val (.ref x0), .val (.int x1), .val (.long (0 : Int64)), .second, .val (.int (0 : Int32)), .val (.int (0 : Int32)), .val (.ref w_g_x0_0_0)] [(.long (0 : Int64))])) _
        refine XS.aload X10.here hx rfl (hb hby d9_70) rfl rfl ?_
        show Steps p.tables e below (T10.setTop (mkF m 72 #[.val (.ref x0), .val (.int x1), .val (.long (0 : Int64)), .second, .val (.int (0 : Int32)), .val (.int (0 : Int32)), .val (.ref w_g_x0_0_0)] [(.ref w_g_x0_0_0), (.long (0 : Int64))])) _
        refine st13 _ ?_
        show Steps p.tables e below (T13.setTop (mkF m 75 #[.val (.ref x0), .val (.int x1), .val (.long (0 : Int64)), .second, .val (.int (0 : Int32)), .val (.int (0 : Int32)), .val (.ref w_g_x0_0_0)] [(.int w_p_w_g_x0_0_0), (.long (0 : Int64))])) _
        refine XS.i2l X13.here hx rfl (hb hby d9_75) rfl ?_
        show Steps p.tables e below (T13.setTop (mkF m 76 #[.val (.ref x0), .val (.int x1), .val (.long (0 : Int64)), .second, .val (.int (0 : Int32)), .val (.int (0 : Int32)), .val (.ref w_g_x0_0_0)] [(.long (w_p_w_g_x0_0_0.toInt64)), (.long (0 : Int64))])) _
        refine XS.ladd X13.here hx rfl (hb hby d9_76) rfl ?_
        show Steps p.tables e below (T13.setTop (mkF m 77 #[.val (.ref x0), .val (.int x1), .val (.long (0 : Int64)), .second, .val (.int (0 : Int32)), .val (.int (0 : Int32)), .val (.ref w_g_x0_0_0)] [(.long ((0 : Int64) + (w_p_w_g_x0_0_0.toInt64)))])) _
        refine XS.lstoreN X13.here hx rfl (hb hby d9_77) rfl (l' := #[.val (.ref x0), .val (.int x1), .val (.long (f9_v14 x1 w_b_w_g_x0_0_0 w_r_w_g_x0_0_0 w_s_w_g_x0_0_0 w_p_w_g_x0_0_0 w_b_w_g_x0_0_1 w_r_w_g_x0_0_1 w_s_w_g_x0_0_1 w_p_w_g_x0_0_1)), .second, .val (.int (0 : Int32)), .val (.int (0 : Int32)), .val (.ref w_g_x0_0_0)]) rfl ?_
        show Steps p.tables e below (T13.setTop (mkF m 78 #[.val (.ref x0), .val (.int x1), .val (.long (f9_v14 x1 w_b_w_g_x0_0_0 w_r_w_g_x0_0_0 w_s_w_g_x0_0_0 w_p_w_g_x0_0_0 w_b_w_g_x0_0_1 w_r_w_g_x0_0_1 w_s_w_g_x0_0_1 w_p_w_g_x0_0_1)), .second, .val (.int (0 : Int32)), .val (.int (0 : Int32)), .val (.ref w_g_x0_0_0)] [])) _
        refine XS.iinc X13.here hx rfl (hb hby d9_78) rfl (l' := #[.val (.ref x0), .val (.int x1), .val (.long (f9_v14 x1 w_b_w_g_x0_0_0 w_r_w_g_x0_0_0 w_s_w_g_x0_0_0 w_p_w_g_x0_0_0 w_b_w_g_x0_0_1 w_r_w_g_x0_0_1 w_s_w_g_x0_0_1 w_p_w_g_x0_0_1)), .second, .val (.int (0 : Int32)), .val (.int (1 : Int32)), .val (.ref w_g_x0_0_0)]) rfl ?_
        show Steps p.tables e below (T13.setTop (mkF m 81 #[.val (.ref x0), .val (.int x1), .val (.long (f9_v14 x1 w_b_w_g_x0_0_0 w_r_w_g_x0_0_0 w_s_w_g_x0_0_0 w_p_w_g_x0_0_0 w_b_w_g_x0_0_1 w_r_w_g_x0_0_1 w_s_w_g_x0_0_1 w_p_w_g_x0_0_1)), .second, .val (.int (0 : Int32)), .val (.int (1 : Int32)), .val (.ref w_g_x0_0_0)] [])) _
        refine XS.goto X13.here hx rfl (pc0 := 81) (pc' := 17) rfl (hb hby d9_81) (by decide) (by decide) ?_
        show Steps p.tables e below (T13.setTop (mkF m 17 #[.val (.ref x0), .val (.int x1), .val (.long (f9_v14 x1 w_b_w_g_x0_0_0 w_r_w_g_x0_0_0 w_s_w_g_x0_0_0 w_p_w_g_x0_0_0 w_b_w_g_x0_0_1 w_r_w_g_x0_0_1 w_s_w_g_x0_0_1 w_p_w_g_x0_0_1)), .second, .val (.int (0 : Int32)), .val (.int (1 : Int32)), .val (.ref w_g_x0_0_0)] [])) _
        refine XS.iload X13.here hx rfl (hb hby d9_17) rfl ?_
        show Steps p.tables e below (T13.setTop (mkF m 19 #[.val (.ref x0), .val (.int x1), .val (.long (f9_v14 x1 w_b_w_g_x0_0_0 w_r_w_g_x0_0_0 w_s_w_g_x0_0_0 w_p_w_g_x0_0_0 w_b_w_g_x0_0_1 w_r_w_g_x0_0_1 w_s_w_g_x0_0_1 w_p_w_g_x0_0_1)), .second, .val (.int (0 : Int32)), .val (.int (1 : Int32)), .val (.ref w_g_x0_0_0)] [(.int (1 : Int32))])) _
        refine XS.aloadN X13.here hx rfl (hb hby d9_19) rfl rfl ?_
        show Steps p.tables e below (T13.setTop (mkF m 20 #[.val (.ref x0), .val (.int x1), .val (.long (f9_v14 x1 w_b_w_g_x0_0_0 w_r_w_g_x0_0_0 w_s_w_g_x0_0_0 w_p_w_g_x0_0_0 w_b_w_g_x0_0_1 w_r_w_g_x0_0_1 w_s_w_g_x0_0_1 w_p_w_g_x0_0_1)), .second, .val (.int (0 : Int32)), .val (.int (1 : Int32)), .val (.ref w_g_x0_0_0)] [(.ref x0), (.int (1 : Int32))])) _
        refine st15 _ ?_
        show Steps p.tables e below (T15.setTop (mkF m 23 #[.val (.ref x0), .val (.int x1), .val (.long (f9_v14 x1 w_b_w_g_x0_0_0 w_r_w_g_x0_0_0 w_s_w_g_x0_0_0 w_p_w_g_x0_0_0 w_b_w_g_x0_0_1 w_r_w_g_x0_0_1 w_s_w_g_x0_0_1 w_p_w_g_x0_0_1)), .second, .val (.int (0 : Int32)), .val (.int (1 : Int32)), .val (.ref w_g_x0_0_0)] [(.int (2 : Int32)), (.int (1 : Int32))])) _
        refine XS.icmpNo X15.here hx rfl (hb hby d9_23) rfl (by decide) ?_
        show Steps p.tables e below (T15.setTop (mkF m 26 #[.val (.ref x0), .val (.int x1), .val (.long (f9_v14 x1 w_b_w_g_x0_0_0 w_r_w_g_x0_0_0 w_s_w_g_x0_0_0 w_p_w_g_x0_0_0 w_b_w_g_x0_0_1 w_r_w_g_x0_0_1 w_s_w_g_x0_0_1 w_p_w_g_x0_0_1)), .second, .val (.int (0 : Int32)), .val (.int (1 : Int32)), .val (.ref w_g_x0_0_0)] [])) _
        refine XS.aloadN X15.here hx rfl (hb hby d9_26) rfl rfl ?_
        show Steps p.tables e below (T15.setTop (mkF m 27 #[.val (.ref x0), .val (.int x1), .val (.long (f9_v14 x1 w_b_w_g_x0_0_0 w_r_w_g_x0_0_0 w_s_w_g_x0_0_0 w_p_w_g_x0_0_0 w_b_w_g_x0_0_1 w_r_w_g_x0_0_1 w_s_w_g_x0_0_1 w_p_w_g_x0_0_1)), .second, .val (.int (0 : Int32)), .val (.int (1 : Int32)), .val (.ref w_g_x0_0_0)] [(.ref x0)])) _
        refine st16 _ ?_
        show Steps p.tables e below (T16.setTop (mkF m 30 #[.val (.ref x0), .val (.int x1), .val (.long (f9_v14 x1 w_b_w_g_x0_0_0 w_r_w_g_x0_0_0 w_s_w_g_x0_0_0 w_p_w_g_x0_0_0 w_b_w_g_x0_0_1 w_r_w_g_x0_0_1 w_s_w_g_x0_0_1 w_p_w_g_x0_0_1)), .second, .val (.int (0 : Int32)), .val (.int (1 : Int32)), .val (.ref w_g_x0_0_0)] [(.ref w_g_x0)])) _
        refine XS.iload X16.here hx rfl (hb hby d9_30) rfl ?_
        show Steps p.tables e below (T16.setTop (mkF m 32 #[.val (.ref x0), .val (.int x1), .val (.long (f9_v14 x1 w_b_w_g_x0_0_0 w_r_w_g_x0_0_0 w_s_w_g_x0_0_0 w_p_w_g_x0_0_0 w_b_w_g_x0_0_1 w_r_w_g_x0_0_1 w_s_w_g_x0_0_1 w_p_w_g_x0_0_1)), .second, .val (.int (0 : Int32)), .val (.int (1 : Int32)), .val (.ref w_g_x0_0_0)] [(.int (0 : Int32)), (.ref w_g_x0)])) _
        refine X16.aaload hx (j := (0 : Int32)) (v := (.ref w_g_x0_0)) (by rw [e16]; exact Ar17.1) (State.isArrayOf_alike hZ.alike Ar17.2.1) rfl Ar17.2.2 hin17 (Has.at H17 hin17 rfl) (g := (mkF m 32 #[.val (.ref x0), .val (.int x1), .val (.long (f9_v14 x1 w_b_w_g_x0_0_0 w_r_w_g_x0_0_0 w_s_w_g_x0_0_0 w_p_w_g_x0_0_0 w_b_w_g_x0_0_1 w_r_w_g_x0_0_1 w_s_w_g_x0_0_1 w_p_w_g_x0_0_1)), .second, .val (.int (0 : Int32)), .val (.int (1 : Int32)), .val (.ref w_g_x0_0_0)] [(.int (0 : Int32)), (.ref w_g_x0)])) rfl rfl (hb hby d9_32) _ ?_
        show Steps p.tables e below (T16.setTop (mkF m 33 #[.val (.ref x0), .val (.int x1), .val (.long (f9_v14 x1 w_b_w_g_x0_0_0 w_r_w_g_x0_0_0 w_s_w_g_x0_0_0 w_p_w_g_x0_0_0 w_b_w_g_x0_0_1 w_r_w_g_x0_0_1 w_s_w_g_x0_0_1 w_p_w_g_x0_0_1)), .second, .val (.int (0 : Int32)), .val (.int (1 : Int32)), .val (.ref w_g_x0_0_0)] [(.ref w_g_x0_0)])) _
        refine XS.iload X16.here hx rfl (hb hby d9_33) rfl ?_
        show Steps p.tables e below (T16.setTop (mkF m 35 #[.val (.ref x0), .val (.int x1), .val (.long (f9_v14 x1 w_b_w_g_x0_0_0 w_r_w_g_x0_0_0 w_s_w_g_x0_0_0 w_p_w_g_x0_0_0 w_b_w_g_x0_0_1 w_r_w_g_x0_0_1 w_s_w_g_x0_0_1 w_p_w_g_x0_0_1)), .second, .val (.int (0 : Int32)), .val (.int (1 : Int32)), .val (.ref w_g_x0_0_0)] [(.int (1 : Int32)), (.ref w_g_x0_0)])) _
        refine X16.aaload hx (j := (1 : Int32)) (v := (.ref w_g_x0_0_1)) (by rw [e16]; exact Ar18.1) (State.isArrayOf_alike hZ.alike Ar18.2.1) rfl Ar18.2.2 hin18 (Has.at H18 hin18 rfl) (g := (mkF m 35 #[.val (.ref x0), .val (.int x1), .val (.long (f9_v14 x1 w_b_w_g_x0_0_0 w_r_w_g_x0_0_0 w_s_w_g_x0_0_0 w_p_w_g_x0_0_0 w_b_w_g_x0_0_1 w_r_w_g_x0_0_1 w_s_w_g_x0_0_1 w_p_w_g_x0_0_1)), .second, .val (.int (0 : Int32)), .val (.int (1 : Int32)), .val (.ref w_g_x0_0_0)] [(.int (1 : Int32)), (.ref w_g_x0_0)])) rfl rfl (hb hby d9_35) _ ?_
        show Steps p.tables e below (T16.setTop (mkF m 36 #[.val (.ref x0), .val (.int x1), .val (.long (f9_v14 x1 w_b_w_g_x0_0_0 w_r_w_g_x0_0_0 w_s_w_g_x0_0_0 w_p_w_g_x0_0_0 w_b_w_g_x0_0_1 w_r_w_g_x0_0_1 w_s_w_g_x0_0_1 w_p_w_g_x0_0_1)), .second, .val (.int (0 : Int32)), .val (.int (1 : Int32)), .val (.ref w_g_x0_0_0)] [(.ref w_g_x0_0_1)])) _
        refine XS.astore X16.here hx rfl (hb hby d9_36) rfl rfl (l' := #[.val (.ref x0), .val (.int x1), .val (.long (f9_v14 x1 w_b_w_g_x0_0_0 w_r_w_g_x0_0_0 w_s_w_g_x0_0_0 w_p_w_g_x0_0_0 w_b_w_g_x0_0_1 w_r_w_g_x0_0_1 w_s_w_g_x0_0_1 w_p_w_g_x0_0_1)), .second, .val (.int (0 : Int32)), .val (.int (1 : Int32)), .val (.ref w_g_x0_0_1)]) rfl ?_
        show Steps p.tables e below (T16.setTop (mkF m 38 #[.val (.ref x0), .val (.int x1), .val (.long (f9_v14 x1 w_b_w_g_x0_0_0 w_r_w_g_x0_0_0 w_s_w_g_x0_0_0 w_p_w_g_x0_0_0 w_b_w_g_x0_0_1 w_r_w_g_x0_0_1 w_s_w_g_x0_0_1 w_p_w_g_x0_0_1)), .second, .val (.int (0 : Int32)), .val (.int (1 : Int32)), .val (.ref w_g_x0_0_1)] [])) _
        refine XS.aload X16.here hx rfl (hb hby d9_38) rfl rfl ?_
        show Steps p.tables e below (T16.setTop (mkF m 40 #[.val (.ref x0), .val (.int x1), .val (.long (f9_v14 x1 w_b_w_g_x0_0_0 w_r_w_g_x0_0_0 w_s_w_g_x0_0_0 w_p_w_g_x0_0_0 w_b_w_g_x0_0_1 w_r_w_g_x0_0_1 w_s_w_g_x0_0_1 w_p_w_g_x0_0_1)), .second, .val (.int (0 : Int32)), .val (.int (1 : Int32)), .val (.ref w_g_x0_0_1)] [(.ref w_g_x0_0_1)])) _
        refine st19 _ ?_
        show Steps p.tables e below (T19.setTop (mkF m 43 #[.val (.ref x0), .val (.int x1), .val (.long (f9_v14 x1 w_b_w_g_x0_0_0 w_r_w_g_x0_0_0 w_s_w_g_x0_0_0 w_p_w_g_x0_0_0 w_b_w_g_x0_0_1 w_r_w_g_x0_0_1 w_s_w_g_x0_0_1 w_p_w_g_x0_0_1)), .second, .val (.int (0 : Int32)), .val (.int (1 : Int32)), .val (.ref w_g_x0_0_1)] [(.int w_b_w_g_x0_0_1)])) _
        refine XS.sipush X19.here hx rfl (hb hby d9_43) ?_
        exact k
      rcases Bool.eq_false_or_eq_true (if_icmp.holds .gt w_b_w_g_x0_0_1 (288 : Int32)) with hc21 | hc21
      · obtain ⟨fs, hr, hrun, hended, hW, hsame⟩ := X19.leave (v := some (.int (0 : Int32))) (fun h => by rw [hret] at h; cases h)
        refine ⟨_, _, pre20 _ ?_, hrun, hended, _, _, rfl, ?_, ⟨_, rfl⟩, hW, hsame.mono (by decide) (by decide)⟩
        · show Steps p.tables e below (T19.setTop (mkF m 46 #[.val (.ref x0), .val (.int x1), .val (.long (f9_v14 x1 w_b_w_g_x0_0_0 w_r_w_g_x0_0_0 w_s_w_g_x0_0_0 w_p_w_g_x0_0_0 w_b_w_g_x0_0_1 w_r_w_g_x0_0_1 w_s_w_g_x0_0_1 w_p_w_g_x0_0_1)), .second, .val (.int (0 : Int32)), .val (.int (1 : Int32)), .val (.ref w_g_x0_0_1)] [(.int (288 : Int32)), (.int w_b_w_g_x0_0_1)])) _
          refine XS.icmpYes X19.here hx rfl (pc0 := 46) (pc' := 67) rfl (hb hby d9_46) rfl hc21 (by decide) (by decide) ?_
          show Steps p.tables e below (T19.setTop (mkF m 67 #[.val (.ref x0), .val (.int x1), .val (.long (f9_v14 x1 w_b_w_g_x0_0_0 w_r_w_g_x0_0_0 w_s_w_g_x0_0_0 w_p_w_g_x0_0_0 w_b_w_g_x0_0_1 w_r_w_g_x0_0_1 w_s_w_g_x0_0_1 w_p_w_g_x0_0_1)), .second, .val (.int (0 : Int32)), .val (.int (1 : Int32)), .val (.ref w_g_x0_0_1)] [])) _
          refine XS.iconst X19.here hx rfl (hb hby d9_67) ?_
          show Steps p.tables e below (T19.setTop (mkF m 68 #[.val (.ref x0), .val (.int x1), .val (.long (f9_v14 x1 w_b_w_g_x0_0_0 w_r_w_g_x0_0_0 w_s_w_g_x0_0_0 w_p_w_g_x0_0_0 w_b_w_g_x0_0_1 w_r_w_g_x0_0_1 w_s_w_g_x0_0_1 w_p_w_g_x0_0_1)), .second, .val (.int (0 : Int32)), .val (.int (1 : Int32)), .val (.ref w_g_x0_0_1)] [(.int (0 : Int32))])) _
          exact retN X19 hx (t := .boolean) hret (by simp) (hb hby d9_68) hr
        · show Q9 Z x0 x1 w_g_x0 k_w_g_x0 w_g_x0_0 w_g_x0_1 k_w_g_x0_0 w_g_x0_0_0 w_g_x0_0_1 w_b_w_g_x0_0_0 w_r_w_g_x0_0_0 w_s_w_g_x0_0_0 w_p_w_g_x0_0_0 w_b_w_g_x0_0_1 w_r_w_g_x0_0_1 w_s_w_g_x0_0_1 w_p_w_g_x0_0_1 h0 n0 _ T19.heap _
          rw [e19]
          have rr : f9 x1 w_b_w_g_x0_0_0 w_r_w_g_x0_0_0 w_s_w_g_x0_0_0 w_p_w_g_x0_0_0 w_b_w_g_x0_0_1 w_r_w_g_x0_0_1 w_s_w_g_x0_0_1 w_p_w_g_x0_0_1 = (0 : Int32) := Eq.trans (if_neg (own_nt hc8)) (Eq.trans (if_pos hc12) (if_pos hc21))
          exact ⟨congrArg (fun z => some (Value.int z)) rr.symm, N0, rfl⟩
      · obtain ⟨T22, X22, e22, st22⟩ := getF X19 hx hZ hown (host := "") (Or.inl (hw _ (List.mem_of_getElem? (i := 63) rfl))) Via.refl e19 F_w_g_x0_0_1_region0Count (g := (mkF m 51 #[.val (.ref x0), .val (.int x1), .val (.long (f9_v14 x1 w_b_w_g_x0_0_0 w_r_w_g_x0_0_0 w_s_w_g_x0_0_0 w_p_w_g_x0_0_0 w_b_w_g_x0_0_1 w_r_w_g_x0_0_1 w_s_w_g_x0_0_1 w_p_w_g_x0_0_1)), .second, .val (.int (0 : Int32)), .val (.int (1 : Int32)), .val (.ref w_g_x0_0_1)] [(.ref w_g_x0_0_1)])) rfl rfl (hb hby d9_51)
        obtain ⟨T23, X23, e23, st23⟩ := getF X22 hx hZ hown (host := "") (Or.inl (hw _ (List.mem_of_getElem? (i := 64) rfl))) Via.refl e22 F_w_g_x0_0_1_region1Count (g := (mkF m 56 #[.val (.ref x0), .val (.int x1), .val (.long (f9_v14 x1 w_b_w_g_x0_0_0 w_r_w_g_x0_0_0 w_s_w_g_x0_0_0 w_p_w_g_x0_0_0 w_b_w_g_x0_0_1 w_r_w_g_x0_0_1 w_s_w_g_x0_0_1 w_p_w_g_x0_0_1)), .second, .val (.int (0 : Int32)), .val (.int (1 : Int32)), .val (.ref w_g_x0_0_1)] [(.ref w_g_x0_0_1), (.int w_r_w_g_x0_0_1)])) rfl rfl (hb hby d9_56)
        have pre24 : ∀ t, Steps p.tables e below (T23.setTop (mkF m 64 #[.val (.ref x0), .val (.int x1), .val (.long (f9_v14 x1 w_b_w_g_x0_0_0 w_r_w_g_x0_0_0 w_s_w_g_x0_0_0 w_p_w_g_x0_0_0 w_b_w_g_x0_0_1 w_r_w_g_x0_0_1 w_s_w_g_x0_0_1 w_p_w_g_x0_0_1)), .second, .val (.int (0 : Int32)), .val (.int (1 : Int32)), .val (.ref w_g_x0_0_1)] [(.int (22 : Int32)), (.int ((w_r_w_g_x0_0_1 + w_s_w_g_x0_0_1) + (2 : Int32)))])) t → Steps p.tables e below (s₁.setTop (entryFrame m #[(.ref x0), (.int x1)] 7)) t := by
          intro t k
          refine pre20 _ ?_
          show Steps p.tables e below (T19.setTop (mkF m 46 #[.val (.ref x0), .val (.int x1), .val (.long (f9_v14 x1 w_b_w_g_x0_0_0 w_r_w_g_x0_0_0 w_s_w_g_x0_0_0 w_p_w_g_x0_0_0 w_b_w_g_x0_0_1 w_r_w_g_x0_0_1 w_s_w_g_x0_0_1 w_p_w_g_x0_0_1)), .second, .val (.int (0 : Int32)), .val (.int (1 : Int32)), .val (.ref w_g_x0_0_1)] [(.int (288 : Int32)), (.int w_b_w_g_x0_0_1)])) _
          refine XS.icmpNo X19.here hx rfl (hb hby d9_46) rfl hc21 ?_
          show Steps p.tables e below (T19.setTop (mkF m 49 #[.val (.ref x0), .val (.int x1), .val (.long (f9_v14 x1 w_b_w_g_x0_0_0 w_r_w_g_x0_0_0 w_s_w_g_x0_0_0 w_p_w_g_x0_0_0 w_b_w_g_x0_0_1 w_r_w_g_x0_0_1 w_s_w_g_x0_0_1 w_p_w_g_x0_0_1)), .second, .val (.int (0 : Int32)), .val (.int (1 : Int32)), .val (.ref w_g_x0_0_1)] [])) _
          refine XS.aload X19.here hx rfl (hb hby d9_49) rfl rfl ?_
          show Steps p.tables e below (T19.setTop (mkF m 51 #[.val (.ref x0), .val (.int x1), .val (.long (f9_v14 x1 w_b_w_g_x0_0_0 w_r_w_g_x0_0_0 w_s_w_g_x0_0_0 w_p_w_g_x0_0_0 w_b_w_g_x0_0_1 w_r_w_g_x0_0_1 w_s_w_g_x0_0_1 w_p_w_g_x0_0_1)), .second, .val (.int (0 : Int32)), .val (.int (1 : Int32)), .val (.ref w_g_x0_0_1)] [(.ref w_g_x0_0_1)])) _
          refine st22 _ ?_
          show Steps p.tables e below (T22.setTop (mkF m 54 #[.val (.ref x0), .val (.int x1), .val (.long (f9_v14 x1 w_b_w_g_x0_0_0 w_r_w_g_x0_0_0 w_s_w_g_x0_0_0 w_p_w_g_x0_0_0 w_b_w_g_x0_0_1 w_r_w_g_x0_0_1 w_s_w_g_x0_0_1 w_p_w_g_x0_0_1)), .second, .val (.int (0 : Int32)), .val (.int (1 : Int32)), .val (.ref w_g_x0_0_1)] [(.int w_r_w_g_x0_0_1)])) _
          refine XS.aload X22.here hx rfl (hb hby d9_54) rfl rfl ?_
          show Steps p.tables e below (T22.setTop (mkF m 56 #[.val (.ref x0), .val (.int x1), .val (.long (f9_v14 x1 w_b_w_g_x0_0_0 w_r_w_g_x0_0_0 w_s_w_g_x0_0_0 w_p_w_g_x0_0_0 w_b_w_g_x0_0_1 w_r_w_g_x0_0_1 w_s_w_g_x0_0_1 w_p_w_g_x0_0_1)), .second, .val (.int (0 : Int32)), .val (.int (1 : Int32)), .val (.ref w_g_x0_0_1)] [(.ref w_g_x0_0_1), (.int w_r_w_g_x0_0_1)])) _
          refine st23 _ ?_
          show Steps p.tables e below (T23.setTop (mkF m 59 #[.val (.ref x0), .val (.int x1), .val (.long (f9_v14 x1 w_b_w_g_x0_0_0 w_r_w_g_x0_0_0 w_s_w_g_x0_0_0 w_p_w_g_x0_0_0 w_b_w_g_x0_0_1 w_r_w_g_x0_0_1 w_s_w_g_x0_0_1 w_p_w_g_x0_0_1)), .second, .val (.int (0 : Int32)), .val (.int (1 : Int32)), .val (.ref w_g_x0_0_1)] [(.int w_s_w_g_x0_0_1), (.int w_r_w_g_x0_0_1)])) _
          refine XS.iadd X23.here hx rfl (hb hby d9_59) rfl ?_
          show Steps p.tables e below (T23.setTop (mkF m 60 #[.val (.ref x0), .val (.int x1), .val (.long (f9_v14 x1 w_b_w_g_x0_0_0 w_r_w_g_x0_0_0 w_s_w_g_x0_0_0 w_p_w_g_x0_0_0 w_b_w_g_x0_0_1 w_r_w_g_x0_0_1 w_s_w_g_x0_0_1 w_p_w_g_x0_0_1)), .second, .val (.int (0 : Int32)), .val (.int (1 : Int32)), .val (.ref w_g_x0_0_1)] [(.int (w_r_w_g_x0_0_1 + w_s_w_g_x0_0_1))])) _
          refine XS.iconst X23.here hx rfl (hb hby d9_60) ?_
          show Steps p.tables e below (T23.setTop (mkF m 61 #[.val (.ref x0), .val (.int x1), .val (.long (f9_v14 x1 w_b_w_g_x0_0_0 w_r_w_g_x0_0_0 w_s_w_g_x0_0_0 w_p_w_g_x0_0_0 w_b_w_g_x0_0_1 w_r_w_g_x0_0_1 w_s_w_g_x0_0_1 w_p_w_g_x0_0_1)), .second, .val (.int (0 : Int32)), .val (.int (1 : Int32)), .val (.ref w_g_x0_0_1)] [(.int (2 : Int32)), (.int (w_r_w_g_x0_0_1 + w_s_w_g_x0_0_1))])) _
          refine XS.iadd X23.here hx rfl (hb hby d9_61) rfl ?_
          show Steps p.tables e below (T23.setTop (mkF m 62 #[.val (.ref x0), .val (.int x1), .val (.long (f9_v14 x1 w_b_w_g_x0_0_0 w_r_w_g_x0_0_0 w_s_w_g_x0_0_0 w_p_w_g_x0_0_0 w_b_w_g_x0_0_1 w_r_w_g_x0_0_1 w_s_w_g_x0_0_1 w_p_w_g_x0_0_1)), .second, .val (.int (0 : Int32)), .val (.int (1 : Int32)), .val (.ref w_g_x0_0_1)] [(.int ((w_r_w_g_x0_0_1 + w_s_w_g_x0_0_1) + (2 : Int32)))])) _
          refine XS.bipush X23.here hx rfl (hb hby d9_62) ?_
          exact k
        rcases Bool.eq_false_or_eq_true (if_icmp.holds .le ((w_r_w_g_x0_0_1 + w_s_w_g_x0_0_1) + (2 : Int32)) (22 : Int32)) with hc25 | hc25
        · obtain ⟨T26, X26, e26, st26⟩ := getF X23 hx hZ hown (host := "") (Or.inl (hw _ (List.mem_of_getElem? (i := 65) rfl))) Via.refl e23 F_w_g_x0_0_1_part23Length (g := (mkF m 72 #[.val (.ref x0), .val (.int x1), .val (.long (f9_v14 x1 w_b_w_g_x0_0_0 w_r_w_g_x0_0_0 w_s_w_g_x0_0_0 w_p_w_g_x0_0_0 w_b_w_g_x0_0_1 w_r_w_g_x0_0_1 w_s_w_g_x0_0_1 w_p_w_g_x0_0_1)), .second, .val (.int (0 : Int32)), .val (.int (1 : Int32)), .val (.ref w_g_x0_0_1)] [(.ref w_g_x0_0_1), (.long (f9_v14 x1 w_b_w_g_x0_0_0 w_r_w_g_x0_0_0 w_s_w_g_x0_0_0 w_p_w_g_x0_0_0 w_b_w_g_x0_0_1 w_r_w_g_x0_0_1 w_s_w_g_x0_0_1 w_p_w_g_x0_0_1))])) rfl rfl (hb hby d9_72)
          obtain ⟨T28, X28, e28, st28⟩ := getF X26 hx hZ hown (host := "") (Or.inl (hw _ (List.mem_of_getElem? (i := 61) rfl))) Via.refl e26 F_x0_channelCount (g := (mkF m 20 #[.val (.ref x0), .val (.int x1), .val (.long (f9_v27 x1 w_b_w_g_x0_0_0 w_r_w_g_x0_0_0 w_s_w_g_x0_0_0 w_p_w_g_x0_0_0 w_b_w_g_x0_0_1 w_r_w_g_x0_0_1 w_s_w_g_x0_0_1 w_p_w_g_x0_0_1)), .second, .val (.int (0 : Int32)), .val (.int (2 : Int32)), .val (.ref w_g_x0_0_1)] [(.ref x0), (.int (2 : Int32))])) rfl rfl (hb hby d9_20)
          obtain ⟨T29, X29, e29, st29⟩ := getF X28 hx hZ hown (host := "") (Or.inl (hw _ (List.mem_of_getElem? (i := 60) rfl))) Via.refl e28 F_x0_granuleCount (g := (mkF m 8 #[.val (.ref x0), .val (.int x1), .val (.long (f9_v27 x1 w_b_w_g_x0_0_0 w_r_w_g_x0_0_0 w_s_w_g_x0_0_0 w_p_w_g_x0_0_0 w_b_w_g_x0_0_1 w_r_w_g_x0_0_1 w_s_w_g_x0_0_1 w_p_w_g_x0_0_1)), .second, .val (.int (1 : Int32)), .val (.int (2 : Int32)), .val (.ref w_g_x0_0_1)] [(.ref x0), (.int (1 : Int32))])) rfl rfl (hb hby d9_8)
          have pre30 : ∀ t, Steps p.tables e below (T29.setTop (mkF m 98 #[.val (.ref x0), .val (.int x1), .val (.long (f9_v27 x1 w_b_w_g_x0_0_0 w_r_w_g_x0_0_0 w_s_w_g_x0_0_0 w_p_w_g_x0_0_0 w_b_w_g_x0_0_1 w_r_w_g_x0_0_1 w_s_w_g_x0_0_1 w_p_w_g_x0_0_1)), .second, .val (.int (1 : Int32)), .val (.int (2 : Int32)), .val (.ref w_g_x0_0_1)] [(.int (own_cmp (f9_v27 x1 w_b_w_g_x0_0_0 w_r_w_g_x0_0_0 w_s_w_g_x0_0_0 w_p_w_g_x0_0_0 w_b_w_g_x0_0_1 w_r_w_g_x0_0_1 w_s_w_g_x0_0_1 w_p_w_g_x0_0_1) ((8 : Int64) * (x1.toInt64))))])) t → Steps p.tables e below (s₁.setTop (entryFrame m #[(.ref x0), (.int x1)] 7)) t := by
            intro t k
            refine pre24 _ ?_
            show Steps p.tables e below (T23.setTop (mkF m 64 #[.val (.ref x0), .val (.int x1), .val (.long (f9_v14 x1 w_b_w_g_x0_0_0 w_r_w_g_x0_0_0 w_s_w_g_x0_0_0 w_p_w_g_x0_0_0 w_b_w_g_x0_0_1 w_r_w_g_x0_0_1 w_s_w_g_x0_0_1 w_p_w_g_x0_0_1)), .second, .val (.int (0 : Int32)), .val (.int (1 : Int32)), .val (.ref w_g_x0_0_1)] [(.int (22 : Int32)), (.int ((w_r_w_g_x0_0_1 + w_s_w_g_x0_0_1) + (2 : Int32)))])) _
            refine XS.icmpYes X23.here hx rfl (pc0 := 64) (pc' := 69) rfl (hb hby d9_64) rfl hc25 (by decide) (by decide) ?_
            show Steps p.tables e below (T23.setTop (mkF m 69 #[.val (.ref x0), .val (.int x1), .val (.long (f9_v14 x1 w_b_w_g_x0_0_0 w_r_w_g_x0_0_0 w_s_w_g_x0_0_0 w_p_w_g_x0_0_0 w_b_w_g_x0_0_1 w_r_w_g_x0_0_1 w_s_w_g_x0_0_1 w_p_w_g_x0_0_1)), .second, .val (.int (0 : Int32)), .val (.int (1 : Int32)), .val (.ref w_g_x0_0_1)] [])) _
            refine XS.lloadN X23.here hx rfl (hb hby d9_69) rfl ?_
            show Steps p.tables e below (T23.setTop (mkF m 70 #[.val (.ref x0), .val (.int x1), .val (.long (f9_v14 x1 w_b_w_g_x0_0_0 w_r_w_g_x0_0_0 w_s_w_g_x0_0_0 w_p_w_g_x0_0_0 w_b_w_g_x0_0_1 w_r_w_g_x0_0_1 w_s_w_g_x0_0_1 w_p_w_g_x0_0_1)), .second, .val (.int (0 : Int32)), .val (.int (1 : Int32)), .val (.ref w_g_x0_0_1)] [(.long (f9_v14 x1 w_b_w_g_x0_0_0 w_r_w_g_x0_0_0 w_s_w_g_x0_0_0 w_p_w_g_x0_0_0 w_b_w_g_x0_0_1 w_r_w_g_x0_0_1 w_s_w_g_x0_0_1 w_p_w_g_x0_0_1))])) _
            refine XS.aload X23.here hx rfl (hb hby d9_70) rfl rfl ?_
            show Steps p.tables e below (T23.setTop (mkF m 72 #[.val (.ref x0), .val (.int x1), .val (.long (f9_v14 x1 w_b_w_g_x0_0_0 w_r_w_g_x0_0_0 w_s_w_g_x0_0_0 w_p_w_g_x0_0_0 w_b_w_g_x0_0_1 w_r_w_g_x0_0_1 w_s_w_g_x0_0_1 w_p_w_g_x0_0_1)), .second, .val (.int (0 : Int32)), .val (.int (1 : Int32)), .val (.ref w_g_x0_0_1)] [(.ref w_g_x0_0_1), (.long (f9_v14 x1 w_b_w_g_x0_0_0 w_r_w_g_x0_0_0 w_s_w_g_x0_0_0 w_p_w_g_x0_0_0 w_b_w_g_x0_0_1 w_r_w_g_x0_0_1 w_s_w_g_x0_0_1 w_p_w_g_x0_0_1))])) _
            refine st26 _ ?_
            show Steps p.tables e below (T26.setTop (mkF m 75 #[.val (.ref x0), .val (.int x1), .val (.long (f9_v14 x1 w_b_w_g_x0_0_0 w_r_w_g_x0_0_0 w_s_w_g_x0_0_0 w_p_w_g_x0_0_0 w_b_w_g_x0_0_1 w_r_w_g_x0_0_1 w_s_w_g_x0_0_1 w_p_w_g_x0_0_1)), .second, .val (.int (0 : Int32)), .val (.int (1 : Int32)), .val (.ref w_g_x0_0_1)] [(.int w_p_w_g_x0_0_1), (.long (f9_v14 x1 w_b_w_g_x0_0_0 w_r_w_g_x0_0_0 w_s_w_g_x0_0_0 w_p_w_g_x0_0_0 w_b_w_g_x0_0_1 w_r_w_g_x0_0_1 w_s_w_g_x0_0_1 w_p_w_g_x0_0_1))])) _
            refine XS.i2l X26.here hx rfl (hb hby d9_75) rfl ?_
            show Steps p.tables e below (T26.setTop (mkF m 76 #[.val (.ref x0), .val (.int x1), .val (.long (f9_v14 x1 w_b_w_g_x0_0_0 w_r_w_g_x0_0_0 w_s_w_g_x0_0_0 w_p_w_g_x0_0_0 w_b_w_g_x0_0_1 w_r_w_g_x0_0_1 w_s_w_g_x0_0_1 w_p_w_g_x0_0_1)), .second, .val (.int (0 : Int32)), .val (.int (1 : Int32)), .val (.ref w_g_x0_0_1)] [(.long (w_p_w_g_x0_0_1.toInt64)), (.long (f9_v14 x1 w_b_w_g_x0_0_0 w_r_w_g_x0_0_0 w_s_w_g_x0_0_0 w_p_w_g_x0_0_0 w_b_w_g_x0_0_1 w_r_w_g_x0_0_1 w_s_w_g_x0_0_1 w_p_w_g_x0_0_1))])) _
            refine XS.ladd X26.here hx rfl (hb hby d9_76) rfl ?_
            show Steps p.tables e below (T26.setTop (mkF m 77 #[.val (.ref x0), .val (.int x1), .val (.long (f9_v14 x1 w_b_w_g_x0_0_0 w_r_w_g_x0_0_0 w_s_w_g_x0_0_0 w_p_w_g_x0_0_0 w_b_w_g_x0_0_1 w_r_w_g_x0_0_1 w_s_w_g_x0_0_1 w_p_w_g_x0_0_1)), .second, .val (.int (0 : Int32)), .val (.int (1 : Int32)), .val (.ref w_g_x0_0_1)] [(.long ((f9_v14 x1 w_b_w_g_x0_0_0 w_r_w_g_x0_0_0 w_s_w_g_x0_0_0 w_p_w_g_x0_0_0 w_b_w_g_x0_0_1 w_r_w_g_x0_0_1 w_s_w_g_x0_0_1 w_p_w_g_x0_0_1) + (w_p_w_g_x0_0_1.toInt64)))])) _
            refine XS.lstoreN X26.here hx rfl (hb hby d9_77) rfl (l' := #[.val (.ref x0), .val (.int x1), .val (.long (f9_v27 x1 w_b_w_g_x0_0_0 w_r_w_g_x0_0_0 w_s_w_g_x0_0_0 w_p_w_g_x0_0_0 w_b_w_g_x0_0_1 w_r_w_g_x0_0_1 w_s_w_g_x0_0_1 w_p_w_g_x0_0_1)), .second, .val (.int (0 : Int32)), .val (.int (1 : Int32)), .val (.ref w_g_x0_0_1)]) rfl ?_
            show Steps p.tables e below (T26.setTop (mkF m 78 #[.val (.ref x0), .val (.int x1), .val (.long (f9_v27 x1 w_b_w_g_x0_0_0 w_r_w_g_x0_0_0 w_s_w_g_x0_0_0 w_p_w_g_x0_0_0 w_b_w_g_x0_0_1 w_r_w_g_x0_0_1 w_s_w_g_x0_0_1 w_p_w_g_x0_0_1)), .second, .val (.int (0 : Int32)), .val (.int (1 : Int32)), .val (.ref w_g_x0_0_1)] [])) _
            refine XS.iinc X26.here hx rfl (hb hby d9_78) rfl (l' := #[.val (.ref x0), .val (.int x1), .val (.long (f9_v27 x1 w_b_w_g_x0_0_0 w_r_w_g_x0_0_0 w_s_w_g_x0_0_0 w_p_w_g_x0_0_0 w_b_w_g_x0_0_1 w_r_w_g_x0_0_1 w_s_w_g_x0_0_1 w_p_w_g_x0_0_1)), .second, .val (.int (0 : Int32)), .val (.int (2 : Int32)), .val (.ref w_g_x0_0_1)]) rfl ?_
            show Steps p.tables e below (T26.setTop (mkF m 81 #[.val (.ref x0), .val (.int x1), .val (.long (f9_v27 x1 w_b_w_g_x0_0_0 w_r_w_g_x0_0_0 w_s_w_g_x0_0_0 w_p_w_g_x0_0_0 w_b_w_g_x0_0_1 w_r_w_g_x0_0_1 w_s_w_g_x0_0_1 w_p_w_g_x0_0_1)), .second, .val (.int (0 : Int32)), .val (.int (2 : Int32)), .val (.ref w_g_x0_0_1)] [])) _
            refine XS.goto X26.here hx rfl (pc0 := 81) (pc' := 17) rfl (hb hby d9_81) (by decide) (by decide) ?_
            show Steps p.tables e below (T26.setTop (mkF m 17 #[.val (.ref x0), .val (.int x1), .val (.long (f9_v27 x1 w_b_w_g_x0_0_0 w_r_w_g_x0_0_0 w_s_w_g_x0_0_0 w_p_w_g_x0_0_0 w_b_w_g_x0_0_1 w_r_w_g_x0_0_1 w_s_w_g_x0_0_1 w_p_w_g_x0_0_1)), .second, .val (.int (0 : Int32)), .val (.int (2 : Int32)), .val (.ref w_g_x0_0_1)] [])) _
            refine XS.iload X26.here hx rfl (hb hby d9_17) rfl ?_
            show Steps p.tables e below (T26.setTop (mkF m 19 #[.val (.ref x0), .val (.int x1), .val (.long (f9_v27 x1 w_b_w_g_x0_0_0 w_r_w_g_x0_0_0 w_s_w_g_x0_0_0 w_p_w_g_x0_0_0 w_b_w_g_x0_0_1 w_r_w_g_x0_0_1 w_s_w_g_x0_0_1 w_p_w_g_x0_0_1)), .second, .val (.int (0 : Int32)), .val (.int (2 : Int32)), .val (.ref w_g_x0_0_1)] [(.int (2 : Int32))])) _
            refine XS.aloadN X26.here hx rfl (hb hby d9_19) rfl rfl ?_
            show Steps p.tables e below (T26.setTop (mkF m 20 #[.val (.ref x0), .val (.int x1), .val (.long (f9_v27 x1 w_b_w_g_x0_0_0 w_r_w_g_x0_0_0 w_s_w_g_x0_0_0 w_p_w_g_x0_0_0 w_b_w_g_x0_0_1 w_r_w_g_x0_0_1 w_s_w_g_x0_0_1 w_p_w_g_x0_0_1)), .second, .val (.int (0 : Int32)), .val (.int (2 : Int32)), .val (.ref w_g_x0_0_1)] [(.ref x0), (.int (2 : Int32))])) _
            refine st28 _ ?_
            show Steps p.tables e below (T28.setTop (mkF m 23 #[.val (.ref x0), .val (.int x1), .val (.long (f9_v27 x1 w_b_w_g_x0_0_0 w_r_w_g_x0_0_0 w_s_w_g_x0_0_0 w_p_w_g_x0_0_0 w_b_w_g_x0_0_1 w_r_w_g_x0_0_1 w_s_w_g_x0_0_1 w_p_w_g_x0_0_1)), .second, .val (.int (0 : Int32)), .val (.int (2 : Int32)), .val (.ref w_g_x0_0_1)] [(.int (2 : Int32)), (.int (2 : Int32))])) _
            refine XS.icmpYes X28.here hx rfl (pc0 := 23) (pc' := 84) rfl (hb hby d9_23) rfl (by decide) (by decide) (by decide) ?_
            show Steps p.tables e below (T28.setTop (mkF m 84 #[.val (.ref x0), .val (.int x1), .val (.long (f9_v27 x1 w_b_w_g_x0_0_0 w_r_w_g_x0_0_0 w_s_w_g_x0_0_0 w_p_w_g_x0_0_0 w_b_w_g_x0_0_1 w_r_w_g_x0_0_1 w_s_w_g_x0_0_1 w_p_w_g_x0_0_1)), .second, .val (.int (0 : Int32)), .val (.int (2 : Int32)), .val (.ref w_g_x0_0_1)] [])) _
            refine XS.iinc X28.here hx rfl (hb hby d9_84) rfl (l' := #[.val (.ref x0), .val (.int x1), .val (.long (f9_v27 x1 w_b_w_g_x0_0_0 w_r_w_g_x0_0_0 w_s_w_g_x0_0_0 w_p_w_g_x0_0_0 w_b_w_g_x0_0_1 w_r_w_g_x0_0_1 w_s_w_g_x0_0_1 w_p_w_g_x0_0_1)), .second, .val (.int (1 : Int32)), .val (.int (2 : Int32)), .val (.ref w_g_x0_0_1)]) rfl ?_
            show Steps p.tables e below (T28.setTop (mkF m 87 #[.val (.ref x0), .val (.int x1), .val (.long (f9_v27 x1 w_b_w_g_x0_0_0 w_r_w_g_x0_0_0 w_s_w_g_x0_0_0 w_p_w_g_x0_0_0 w_b_w_g_x0_0_1 w_r_w_g_x0_0_1 w_s_w_g_x0_0_1 w_p_w_g_x0_0_1)), .second, .val (.int (1 : Int32)), .val (.int (2 : Int32)), .val (.ref w_g_x0_0_1)] [])) _
            refine XS.goto X28.here hx rfl (pc0 := 87) (pc' := 5) rfl (hb hby d9_87) (by decide) (by decide) ?_
            show Steps p.tables e below (T28.setTop (mkF m 5 #[.val (.ref x0), .val (.int x1), .val (.long (f9_v27 x1 w_b_w_g_x0_0_0 w_r_w_g_x0_0_0 w_s_w_g_x0_0_0 w_p_w_g_x0_0_0 w_b_w_g_x0_0_1 w_r_w_g_x0_0_1 w_s_w_g_x0_0_1 w_p_w_g_x0_0_1)), .second, .val (.int (1 : Int32)), .val (.int (2 : Int32)), .val (.ref w_g_x0_0_1)] [])) _
            refine XS.iload X28.here hx rfl (hb hby d9_5) rfl ?_
            show Steps p.tables e below (T28.setTop (mkF m 7 #[.val (.ref x0), .val (.int x1), .val (.long (f9_v27 x1 w_b_w_g_x0_0_0 w_r_w_g_x0_0_0 w_s_w_g_x0_0_0 w_p_w_g_x0_0_0 w_b_w_g_x0_0_1 w_r_w_g_x0_0_1 w_s_w_g_x0_0_1 w_p_w_g_x0_0_1)), .second, .val (.int (1 : Int32)), .val (.int (2 : Int32)), .val (.ref w_g_x0_0_1)] [(.int (1 : Int32))])) _
            refine XS.aloadN X28.here hx rfl (hb hby d9_7) rfl rfl ?_
            show Steps p.tables e below (T28.setTop (mkF m 8 #[.val (.ref x0), .val (.int x1), .val (.long (f9_v27 x1 w_b_w_g_x0_0_0 w_r_w_g_x0_0_0 w_s_w_g_x0_0_0 w_p_w_g_x0_0_0 w_b_w_g_x0_0_1 w_r_w_g_x0_0_1 w_s_w_g_x0_0_1 w_p_w_g_x0_0_1)), .second, .val (.int (1 : Int32)), .val (.int (2 : Int32)), .val (.ref w_g_x0_0_1)] [(.ref x0), (.int (1 : Int32))])) _
            refine st29 _ ?_
            show Steps p.tables e below (T29.setTop (mkF m 11 #[.val (.ref x0), .val (.int x1), .val (.long (f9_v27 x1 w_b_w_g_x0_0_0 w_r_w_g_x0_0_0 w_s_w_g_x0_0_0 w_p_w_g_x0_0_0 w_b_w_g_x0_0_1 w_r_w_g_x0_0_1 w_s_w_g_x0_0_1 w_p_w_g_x0_0_1)), .second, .val (.int (1 : Int32)), .val (.int (2 : Int32)), .val (.ref w_g_x0_0_1)] [(.int (1 : Int32)), (.int (1 : Int32))])) _
            refine XS.icmpYes X29.here hx rfl (pc0 := 11) (pc' := 90) rfl (hb hby d9_11) rfl (by decide) (by decide) (by decide) ?_
            show Steps p.tables e below (T29.setTop (mkF m 90 #[.val (.ref x0), .val (.int x1), .val (.long (f9_v27 x1 w_b_w_g_x0_0_0 w_r_w_g_x0_0_0 w_s_w_g_x0_0_0 w_p_w_g_x0_0_0 w_b_w_g_x0_0_1 w_r_w_g_x0_0_1 w_s_w_g_x0_0_1 w_p_w_g_x0_0_1)), .second, .val (.int (1 : Int32)), .val (.int (2 : Int32)), .val (.ref w_g_x0_0_1)] [])) _
            refine XS.lloadN X29.here hx rfl (hb hby d9_90) rfl ?_
            show Steps p.tables e below (T29.setTop (mkF m 91 #[.val (.ref x0), .val (.int x1), .val (.long (f9_v27 x1 w_b_w_g_x0_0_0 w_r_w_g_x0_0_0 w_s_w_g_x0_0_0 w_p_w_g_x0_0_0 w_b_w_g_x0_0_1 w_r_w_g_x0_0_1 w_s_w_g_x0_0_1 w_p_w_g_x0_0_1)), .second, .val (.int (1 : Int32)), .val (.int (2 : Int32)), .val (.ref w_g_x0_0_1)] [(.long (f9_v27 x1 w_b_w_g_x0_0_0 w_r_w_g_x0_0_0 w_s_w_g_x0_0_0 w_p_w_g_x0_0_0 w_b_w_g_x0_0_1 w_r_w_g_x0_0_1 w_s_w_g_x0_0_1 w_p_w_g_x0_0_1))])) _
            refine X29.ldc2Long hx hown (mvT hZ (hw _ (List.mem_of_getElem? (i := 66) rfl))) (g := (mkF m 91 #[.val (.ref x0), .val (.int x1), .val (.long (f9_v27 x1 w_b_w_g_x0_0_0 w_r_w_g_x0_0_0 w_s_w_g_x0_0_0 w_p_w_g_x0_0_0 w_b_w_g_x0_0_1 w_r_w_g_x0_0_1 w_s_w_g_x0_0_1 w_p_w_g_x0_0_1)), .second, .val (.int (1 : Int32)), .val (.int (2 : Int32)), .val (.ref w_g_x0_0_1)] [(.long (f9_v27 x1 w_b_w_g_x0_0_0 w_r_w_g_x0_0_0 w_s_w_g_x0_0_0 w_p_w_g_x0_0_0 w_b_w_g_x0_0_1 w_r_w_g_x0_0_1 w_s_w_g_x0_0_1 w_p_w_g_x0_0_1))])) rfl (hb hby d9_91) _ ?_
            show Steps p.tables e below (T29.setTop (mkF m 94 #[.val (.ref x0), .val (.int x1), .val (.long (f9_v27 x1 w_b_w_g_x0_0_0 w_r_w_g_x0_0_0 w_s_w_g_x0_0_0 w_p_w_g_x0_0_0 w_b_w_g_x0_0_1 w_r_w_g_x0_0_1 w_s_w_g_x0_0_1 w_p_w_g_x0_0_1)), .second, .val (.int (1 : Int32)), .val (.int (2 : Int32)), .val (.ref w_g_x0_0_1)] [(.long (8 : Int64)), (.long (f9_v27 x1 w_b_w_g_x0_0_0 w_r_w_g_x0_0_0 w_s_w_g_x0_0_0 w_p_w_g_x0_0_0 w_b_w_g_x0_0_1 w_r_w_g_x0_0_1 w_s_w_g_x0_0_1 w_p_w_g_x0_0_1))])) _
            refine XS.iloadN X29.here hx rfl (hb hby d9_94) rfl ?_
            show Steps p.tables e below (T29.setTop (mkF m 95 #[.val (.ref x0), .val (.int x1), .val (.long (f9_v27 x1 w_b_w_g_x0_0_0 w_r_w_g_x0_0_0 w_s_w_g_x0_0_0 w_p_w_g_x0_0_0 w_b_w_g_x0_0_1 w_r_w_g_x0_0_1 w_s_w_g_x0_0_1 w_p_w_g_x0_0_1)), .second, .val (.int (1 : Int32)), .val (.int (2 : Int32)), .val (.ref w_g_x0_0_1)] [(.int x1), (.long (8 : Int64)), (.long (f9_v27 x1 w_b_w_g_x0_0_0 w_r_w_g_x0_0_0 w_s_w_g_x0_0_0 w_p_w_g_x0_0_0 w_b_w_g_x0_0_1 w_r_w_g_x0_0_1 w_s_w_g_x0_0_1 w_p_w_g_x0_0_1))])) _
            refine XS.i2l X29.here hx rfl (hb hby d9_95) rfl ?_
            show Steps p.tables e below (T29.setTop (mkF m 96 #[.val (.ref x0), .val (.int x1), .val (.long (f9_v27 x1 w_b_w_g_x0_0_0 w_r_w_g_x0_0_0 w_s_w_g_x0_0_0 w_p_w_g_x0_0_0 w_b_w_g_x0_0_1 w_r_w_g_x0_0_1 w_s_w_g_x0_0_1 w_p_w_g_x0_0_1)), .second, .val (.int (1 : Int32)), .val (.int (2 : Int32)), .val (.ref w_g_x0_0_1)] [(.long (x1.toInt64)), (.long (8 : Int64)), (.long (f9_v27 x1 w_b_w_g_x0_0_0 w_r_w_g_x0_0_0 w_s_w_g_x0_0_0 w_p_w_g_x0_0_0 w_b_w_g_x0_0_1 w_r_w_g_x0_0_1 w_s_w_g_x0_0_1 w_p_w_g_x0_0_1))])) _
            refine XS.lmul X29.here hx rfl (hb hby d9_96) rfl ?_
            show Steps p.tables e below (T29.setTop (mkF m 97 #[.val (.ref x0), .val (.int x1), .val (.long (f9_v27 x1 w_b_w_g_x0_0_0 w_r_w_g_x0_0_0 w_s_w_g_x0_0_0 w_p_w_g_x0_0_0 w_b_w_g_x0_0_1 w_r_w_g_x0_0_1 w_s_w_g_x0_0_1 w_p_w_g_x0_0_1)), .second, .val (.int (1 : Int32)), .val (.int (2 : Int32)), .val (.ref w_g_x0_0_1)] [(.long ((8 : Int64) * (x1.toInt64))), (.long (f9_v27 x1 w_b_w_g_x0_0_0 w_r_w_g_x0_0_0 w_s_w_g_x0_0_0 w_p_w_g_x0_0_0 w_b_w_g_x0_0_1 w_r_w_g_x0_0_1 w_s_w_g_x0_0_1 w_p_w_g_x0_0_1))])) _
            refine own_xlcmp X29.here hx rfl (hb hby d9_97) rfl ?_
            exact k
          obtain ⟨T33, L33, X33, N33, e33, pre33⟩ : ∃ (T' : State) (L' : List Loc), Stand p l e ({ frames := 0, cells := 0, slots := 0, locals := 0 } : Room) s m #[(.ref x0), (.int x1)] below meth c T' L' 0 0 ∧ Fr n0 L' ∧ T'.heap = h0 ∧ ∀ t, Steps p.tables e below (T'.setTop (mkF m 106 #[.val (.ref x0), .val (.int x1), .val (.long (f9_v27 x1 w_b_w_g_x0_0_0 w_r_w_g_x0_0_0 w_s_w_g_x0_0_0 w_p_w_g_x0_0_0 w_b_w_g_x0_0_1 w_r_w_g_x0_0_1 w_s_w_g_x0_0_1 w_p_w_g_x0_0_1)), .second, .val (.int (1 : Int32)), .val (.int (2 : Int32)), .val (.ref w_g_x0_0_1)] [(.int (f9_j32 x1 w_b_w_g_x0_0_0 w_r_w_g_x0_0_0 w_s_w_g_x0_0_0 w_p_w_g_x0_0_0 w_b_w_g_x0_0_1 w_r_w_g_x0_0_1 w_s_w_g_x0_0_1 w_p_w_g_x0_0_1))])) t → Steps p.tables e below (s₁.setTop (entryFrame m #[(.ref x0), (.int x1)] 7)) t := by
            rcases Bool.eq_false_or_eq_true (ifCond.holds .gt (own_cmp (f9_v27 x1 w_b_w_g_x0_0_0 w_r_w_g_x0_0_0 w_s_w_g_x0_0_0 w_p_w_g_x0_0_0 w_b_w_g_x0_0_1 w_r_w_g_x0_0_1 w_s_w_g_x0_0_1 w_p_w_g_x0_0_1) ((8 : Int64) * (x1.toInt64)))) with hc31 | hc31
            · have pre34 : ∀ t, Steps p.tables e below (T29.setTop (mkF m 106 #[.val (.ref x0), .val (.int x1), .val (.long (f9_v27 x1 w_b_w_g_x0_0_0 w_r_w_g_x0_0_0 w_s_w_g_x0_0_0 w_p_w_g_x0_0_0 w_b_w_g_x0_0_1 w_r_w_g_x0_0_1 w_s_w_g_x0_0_1 w_p_w_g_x0_0_1)), .second, .val (.int (1 : Int32)), .val (.int (2 : Int32)), .val (.ref w_g_x0_0_1)] [(.int (0 : Int32))])) t → Steps p.tables e below (s₁.setTop (entryFrame m #[(.ref x0), (.int x1)] 7)) t := by
                intro t k
                refine pre30 _ ?_
                show Steps p.tables e below (T29.setTop (mkF m 98 #[.val (.ref x0), .val (.int x1), .val (.long (f9_v27 x1 w_b_w_g_x0_0_0 w_r_w_g_x0_0_0 w_s_w_g_x0_0_0 w_p_w_g_x0_0_0 w_b_w_g_x0_0_1 w_r_w_g_x0_0_1 w_s_w_g_x0_0_1 w_p_w_g_x0_0_1)), .second, .val (.int (1 : Int32)), .val (.int (2 : Int32)), .val (.ref w_g_x0_0_1)] [(.int (own_cmp (f9_v27 x1 w_b_w_g_x0_0_0 w_r_w_g_x0_0_0 w_s_w_g_x0_0_0 w_p_w_g_x0_0_0 w_b_w_g_x0_0_1 w_r_w_g_x0_0_1 w_s_w_g_x0_0_1 w_p_w_g_x0_0_1) ((8 : Int64) * (x1.toInt64))))])) _
                refine XS.ifYes X29.here hx rfl (pc0 := 98) (pc' := 105) rfl (hb hby d9_98) rfl hc31 (by decide) (by decide) ?_
                show Steps p.tables e below (T29.setTop (mkF m 105 #[.val (.ref x0), .val (.int x1), .val (.long (f9_v27 x1 w_b_w_g_x0_0_0 w_r_w_g_x0_0_0 w_s_w_g_x0_0_0 w_p_w_g_x0_0_0 w_b_w_g_x0_0_1 w_r_w_g_x0_0_1 w_s_w_g_x0_0_1 w_p_w_g_x0_0_1)), .second, .val (.int (1 : Int32)), .val (.int (2 : Int32)), .val (.ref w_g_x0_0_1)] [])) _
                refine XS.iconst X29.here hx rfl (hb hby d9_105) ?_
                exact k
              have qj0 : (f9_j32 x1 w_b_w_g_x0_0_0 w_r_w_g_x0_0_0 w_s_w_g_x0_0_0 w_p_w_g_x0_0_0 w_b_w_g_x0_0_1 w_r_w_g_x0_0_1 w_s_w_g_x0_0_1 w_p_w_g_x0_0_1) = (0 : Int32) := if_pos hc31
              refine ⟨T29, _, X29, N0, e29, fun t k => pre34 _ ?_⟩
              rw [qj0] at k
              exact k
            · have pre35 : ∀ t, Steps p.tables e below (T29.setTop (mkF m 106 #[.val (.ref x0), .val (.int x1), .val (.long (f9_v27 x1 w_b_w_g_x0_0_0 w_r_w_g_x0_0_0 w_s_w_g_x0_0_0 w_p_w_g_x0_0_0 w_b_w_g_x0_0_1 w_r_w_g_x0_0_1 w_s_w_g_x0_0_1 w_p_w_g_x0_0_1)), .second, .val (.int (1 : Int32)), .val (.int (2 : Int32)), .val (.ref w_g_x0_0_1)] [(.int (1 : Int32))])) t → Steps p.tables e below (s₁.setTop (entryFrame m #[(.ref x0), (.int x1)] 7)) t := by
                intro t k
                refine pre30 _ ?_
                show Steps p.tables e below (T29.setTop (mkF m 98 #[.val (.ref x0), .val (.int x1), .val (.long (f9_v27 x1 w_b_w_g_x0_0_0 w_r_w_g_x0_0_0 w_s_w_g_x0_0_0 w_p_w_g_x0_0_0 w_b_w_g_x0_0_1 w_r_w_g_x0_0_1 w_s_w_g_x0_0_1 w_p_w_g_x0_0_1)), .second, .val (.int (1 : Int32)), .val (.int (2 : Int32)), .val (.ref w_g_x0_0_1)] [(.int (own_cmp (f9_v27 x1 w_b_w_g_x0_0_0 w_r_w_g_x0_0_0 w_s_w_g_x0_0_0 w_p_w_g_x0_0_0 w_b_w_g_x0_0_1 w_r_w_g_x0_0_1 w_s_w_g_x0_0_1 w_p_w_g_x0_0_1) ((8 : Int64) * (x1.toInt64))))])) _
                refine XS.ifNo X29.here hx rfl (hb hby d9_98) rfl hc31 ?_
                show Steps p.tables e below (T29.setTop (mkF m 101 #[.val (.ref x0), .val (.int x1), .val (.long (f9_v27 x1 w_b_w_g_x0_0_0 w_r_w_g_x0_0_0 w_s_w_g_x0_0_0 w_p_w_g_x0_0_0 w_b_w_g_x0_0_1 w_r_w_g_x0_0_1 w_s_w_g_x0_0_1 w_p_w_g_x0_0_1)), .second, .val (.int (1 : Int32)), .val (.int (2 : Int32)), .val (.ref w_g_x0_0_1)] [])) _
                refine XS.iconst X29.here hx rfl (hb hby d9_101) ?_
                show Steps p.tables e below (T29.setTop (mkF m 102 #[.val (.ref x0), .val (.int x1), .val (.long (f9_v27 x1 w_b_w_g_x0_0_0 w_r_w_g_x0_0_0 w_s_w_g_x0_0_0 w_p_w_g_x0_0_0 w_b_w_g_x0_0_1 w_r_w_g_x0_0_1 w_s_w_g_x0_0_1 w_p_w_g_x0_0_1)), .second, .val (.int (1 : Int32)), .val (.int (2 : Int32)), .val (.ref w_g_x0_0_1)] [(.int (1 : Int32))])) _
                refine XS.goto X29.here hx rfl (pc0 := 102) (pc' := 106) rfl (hb hby d9_102) (by decide) (by decide) ?_
                exact k
              have qj0 : (f9_j32 x1 w_b_w_g_x0_0_0 w_r_w_g_x0_0_0 w_s_w_g_x0_0_0 w_p_w_g_x0_0_0 w_b_w_g_x0_0_1 w_r_w_g_x0_0_1 w_s_w_g_x0_0_1 w_p_w_g_x0_0_1) = (1 : Int32) := if_neg (own_nt hc31)
              refine ⟨T29, _, X29, N0, e29, fun t k => pre35 _ ?_⟩
              rw [qj0] at k
              exact k
          obtain ⟨fs, hr, hrun, hended, hW, hsame⟩ := X33.leave (v := some (.int (nar .boolean (f9_j32 x1 w_b_w_g_x0_0_0 w_r_w_g_x0_0_0 w_s_w_g_x0_0_0 w_p_w_g_x0_0_0 w_b_w_g_x0_0_1 w_r_w_g_x0_0_1 w_s_w_g_x0_0_1 w_p_w_g_x0_0_1)))) (fun h => by rw [hret] at h; cases h)
          refine ⟨_, _, pre33 _ ?_, hrun, hended, _, _, rfl, ?_, ⟨_, rfl⟩, hW, hsame.mono (by decide) (by decide)⟩
          · show Steps p.tables e below (T33.setTop (mkF m 106 #[.val (.ref x0), .val (.int x1), .val (.long (f9_v27 x1 w_b_w_g_x0_0_0 w_r_w_g_x0_0_0 w_s_w_g_x0_0_0 w_p_w_g_x0_0_0 w_b_w_g_x0_0_1 w_r_w_g_x0_0_1 w_s_w_g_x0_0_1 w_p_w_g_x0_0_1)), .second, .val (.int (1 : Int32)), .val (.int (2 : Int32)), .val (.ref w_g_x0_0_1)] [(.int (f9_j32 x1 w_b_w_g_x0_0_0 w_r_w_g_x0_0_0 w_s_w_g_x0_0_0 w_p_w_g_x0_0_0 w_b_w_g_x0_0_1 w_r_w_g_x0_0_1 w_s_w_g_x0_0_1 w_p_w_g_x0_0_1))])) _
            exact retN X33 hx (t := .boolean) hret (by simp) (hb hby d9_106) hr
          · show Q9 Z x0 x1 w_g_x0 k_w_g_x0 w_g_x0_0 w_g_x0_1 k_w_g_x0_0 w_g_x0_0_0 w_g_x0_0_1 w_b_w_g_x0_0_0 w_r_w_g_x0_0_0 w_s_w_g_x0_0_0 w_p_w_g_x0_0_0 w_b_w_g_x0_0_1 w_r_w_g_x0_0_1 w_s_w_g_x0_0_1 w_p_w_g_x0_0_1 h0 n0 _ T33.heap _
            rw [e33]
            have rr : f9 x1 w_b_w_g_x0_0_0 w_r_w_g_x0_0_0 w_s_w_g_x0_0_0 w_p_w_g_x0_0_0 w_b_w_g_x0_0_1 w_r_w_g_x0_0_1 w_s_w_g_x0_0_1 w_p_w_g_x0_0_1 = (nar .boolean (f9_j32 x1 w_b_w_g_x0_0_0 w_r_w_g_x0_0_0 w_s_w_g_x0_0_0 w_p_w_g_x0_0_0 w_b_w_g_x0_0_1 w_r_w_g_x0_0_1 w_s_w_g_x0_0_1 w_p_w_g_x0_0_1)) := Eq.trans (if_neg (own_nt hc8)) (Eq.trans (if_pos hc12) (Eq.trans (if_neg (own_nt hc21)) (if_pos hc25)))
            exact ⟨congrArg (fun z => some (Value.int z)) rr.symm, N33, rfl⟩
        · obtain ⟨fs, hr, hrun, hended, hW, hsame⟩ := X23.leave (v := some (.int (0 : Int32))) (fun h => by rw [hret] at h; cases h)
          refine ⟨_, _, pre24 _ ?_, hrun, hended, _, _, rfl, ?_, ⟨_, rfl⟩, hW, hsame.mono (by decide) (by decide)⟩
          · show Steps p.tables e below (T23.setTop (mkF m 64 #[.val (.ref x0), .val (.int x1), .val (.long (f9_v14 x1 w_b_w_g_x0_0_0 w_r_w_g_x0_0_0 w_s_w_g_x0_0_0 w_p_w_g_x0_0_0 w_b_w_g_x0_0_1 w_r_w_g_x0_0_1 w_s_w_g_x0_0_1 w_p_w_g_x0_0_1)), .second, .val (.int (0 : Int32)), .val (.int (1 : Int32)), .val (.ref w_g_x0_0_1)] [(.int (22 : Int32)), (.int ((w_r_w_g_x0_0_1 + w_s_w_g_x0_0_1) + (2 : Int32)))])) _
            refine XS.icmpNo X23.here hx rfl (hb hby d9_64) rfl hc25 ?_
            show Steps p.tables e below (T23.setTop (mkF m 67 #[.val (.ref x0), .val (.int x1), .val (.long (f9_v14 x1 w_b_w_g_x0_0_0 w_r_w_g_x0_0_0 w_s_w_g_x0_0_0 w_p_w_g_x0_0_0 w_b_w_g_x0_0_1 w_r_w_g_x0_0_1 w_s_w_g_x0_0_1 w_p_w_g_x0_0_1)), .second, .val (.int (0 : Int32)), .val (.int (1 : Int32)), .val (.ref w_g_x0_0_1)] [])) _
            refine XS.iconst X23.here hx rfl (hb hby d9_67) ?_
            show Steps p.tables e below (T23.setTop (mkF m 68 #[.val (.ref x0), .val (.int x1), .val (.long (f9_v14 x1 w_b_w_g_x0_0_0 w_r_w_g_x0_0_0 w_s_w_g_x0_0_0 w_p_w_g_x0_0_0 w_b_w_g_x0_0_1 w_r_w_g_x0_0_1 w_s_w_g_x0_0_1 w_p_w_g_x0_0_1)), .second, .val (.int (0 : Int32)), .val (.int (1 : Int32)), .val (.ref w_g_x0_0_1)] [(.int (0 : Int32))])) _
            exact retN X23 hx (t := .boolean) hret (by simp) (hb hby d9_68) hr
          · show Q9 Z x0 x1 w_g_x0 k_w_g_x0 w_g_x0_0 w_g_x0_1 k_w_g_x0_0 w_g_x0_0_0 w_g_x0_0_1 w_b_w_g_x0_0_0 w_r_w_g_x0_0_0 w_s_w_g_x0_0_0 w_p_w_g_x0_0_0 w_b_w_g_x0_0_1 w_r_w_g_x0_0_1 w_s_w_g_x0_0_1 w_p_w_g_x0_0_1 h0 n0 _ T23.heap _
            rw [e23]
            have rr : f9 x1 w_b_w_g_x0_0_0 w_r_w_g_x0_0_0 w_s_w_g_x0_0_0 w_p_w_g_x0_0_0 w_b_w_g_x0_0_1 w_r_w_g_x0_0_1 w_s_w_g_x0_0_1 w_p_w_g_x0_0_1 = (0 : Int32) := Eq.trans (if_neg (own_nt hc8)) (Eq.trans (if_pos hc12) (Eq.trans (if_neg (own_nt hc21)) (if_neg (own_nt hc25))))
            exact ⟨congrArg (fun z => some (Value.int z)) rr.symm, N0, rfl⟩
    · obtain ⟨fs, hr, hrun, hended, hW, hsame⟩ := X10.leave (v := some (.int (0 : Int32))) (fun h => by rw [hret] at h; cases h)
      refine ⟨_, _, pre11 _ ?_, hrun, hended, _, _, rfl, ?_, ⟨_, rfl⟩, hW, hsame.mono (by decide) (by decide)⟩
      · show Steps p.tables e below (T10.setTop (mkF m 64 #[.val (.ref x0), .val (.int x1), .val (.long (0 : Int64)), .second, .val (.int (0 : Int32)), .val (.int (0 : Int32)), .val (.ref w_g_x0_0_0)] [(.int (22 : Int32)), (.int ((w_r_w_g_x0_0_0 + w_s_w_g_x0_0_0) + (2 : Int32)))])) _
        refine XS.icmpNo X10.here hx rfl (hb hby d9_64) rfl hc12 ?_
        show Steps p.tables e below (T10.setTop (mkF m 67 #[.val (.ref x0), .val (.int x1), .val (.long (0 : Int64)), .second, .val (.int (0 : Int32)), .val (.int (0 : Int32)), .val (.ref w_g_x0_0_0)] [])) _
        refine XS.iconst X10.here hx rfl (hb hby d9_67) ?_
        show Steps p.tables e below (T10.setTop (mkF m 68 #[.val (.ref x0), .val (.int x1), .val (.long (0 : Int64)), .second, .val (.int (0 : Int32)), .val (.int (0 : Int32)), .val (.ref w_g_x0_0_0)] [(.int (0 : Int32))])) _
        exact retN X10 hx (t := .boolean) hret (by simp) (hb hby d9_68) hr
      · show Q9 Z x0 x1 w_g_x0 k_w_g_x0 w_g_x0_0 w_g_x0_1 k_w_g_x0_0 w_g_x0_0_0 w_g_x0_0_1 w_b_w_g_x0_0_0 w_r_w_g_x0_0_0 w_s_w_g_x0_0_0 w_p_w_g_x0_0_0 w_b_w_g_x0_0_1 w_r_w_g_x0_0_1 w_s_w_g_x0_0_1 w_p_w_g_x0_0_1 h0 n0 _ T10.heap _
        rw [e10]
        have rr : f9 x1 w_b_w_g_x0_0_0 w_r_w_g_x0_0_0 w_s_w_g_x0_0_0 w_p_w_g_x0_0_0 w_b_w_g_x0_0_1 w_r_w_g_x0_0_1 w_s_w_g_x0_0_1 w_p_w_g_x0_0_1 = (0 : Int32) := Eq.trans (if_neg (own_nt hc8)) (if_neg (own_nt hc12))
        exact ⟨congrArg (fun z => some (Value.int z)) rr.symm, N0, rfl⟩
-- body 10: dev/stratumaudio/SideInformation.isPossible:(I)Z
theorem d10_0 : decode prog_81_method_6_code 0 = .ok (.lconst 0, 1) := by decide +kernel
theorem d10_1 : decode prog_81_method_6_code 1 = .ok (.lstore_n 2, 1) := by decide +kernel
theorem d10_2 : decode prog_81_method_6_code 2 = .ok (.iconst 0, 1) := by decide +kernel
theorem d10_3 : decode prog_81_method_6_code 3 = .ok (.istore 4, 2) := by decide +kernel
theorem d10_5 : decode prog_81_method_6_code 5 = .ok (.iload 4, 2) := by decide +kernel
theorem d10_7 : decode prog_81_method_6_code 7 = .ok (.aload_n 0, 1) := by decide +kernel
theorem d10_8 : decode prog_81_method_6_code 8 = .ok (.getfield 55, 3) := by decide +kernel
theorem d10_11 : decode prog_81_method_6_code 11 = .ok (.if_icmp .ge 79, 3) := by decide +kernel
theorem d10_14 : decode prog_81_method_6_code 14 = .ok (.iconst 0, 1) := by decide +kernel
theorem d10_15 : decode prog_81_method_6_code 15 = .ok (.istore 5, 2) := by decide +kernel
theorem d10_17 : decode prog_81_method_6_code 17 = .ok (.iload 5, 2) := by decide +kernel
theorem d10_19 : decode prog_81_method_6_code 19 = .ok (.aload_n 0, 1) := by decide +kernel
theorem d10_20 : decode prog_81_method_6_code 20 = .ok (.getfield 47, 3) := by decide +kernel
theorem d10_23 : decode prog_81_method_6_code 23 = .ok (.if_icmp .ge 61, 3) := by decide +kernel
theorem d10_26 : decode prog_81_method_6_code 26 = .ok (.aload_n 0, 1) := by decide +kernel
theorem d10_27 : decode prog_81_method_6_code 27 = .ok (.getfield 21, 3) := by decide +kernel
theorem d10_30 : decode prog_81_method_6_code 30 = .ok (.iload 4, 2) := by decide +kernel
theorem d10_32 : decode prog_81_method_6_code 32 = .ok (.aaload, 1) := by decide +kernel
theorem d10_33 : decode prog_81_method_6_code 33 = .ok (.iload 5, 2) := by decide +kernel
theorem d10_35 : decode prog_81_method_6_code 35 = .ok (.aaload, 1) := by decide +kernel
theorem d10_36 : decode prog_81_method_6_code 36 = .ok (.astore 6, 2) := by decide +kernel
theorem d10_38 : decode prog_81_method_6_code 38 = .ok (.aload 6, 2) := by decide +kernel
theorem d10_40 : decode prog_81_method_6_code 40 = .ok (.getfield 105, 3) := by decide +kernel
theorem d10_43 : decode prog_81_method_6_code 43 = .ok (.sipush 288, 3) := by decide +kernel
theorem d10_46 : decode prog_81_method_6_code 46 = .ok (.if_icmp .gt 21, 3) := by decide +kernel
theorem d10_49 : decode prog_81_method_6_code 49 = .ok (.aload 6, 2) := by decide +kernel
theorem d10_51 : decode prog_81_method_6_code 51 = .ok (.getfield 108, 3) := by decide +kernel
theorem d10_54 : decode prog_81_method_6_code 54 = .ok (.aload 6, 2) := by decide +kernel
theorem d10_56 : decode prog_81_method_6_code 56 = .ok (.getfield 111, 3) := by decide +kernel
theorem d10_59 : decode prog_81_method_6_code 59 = .ok (.iadd, 1) := by decide +kernel
theorem d10_60 : decode prog_81_method_6_code 60 = .ok (.iconst 2, 1) := by decide +kernel
theorem d10_61 : decode prog_81_method_6_code 61 = .ok (.iadd, 1) := by decide +kernel
theorem d10_62 : decode prog_81_method_6_code 62 = .ok (.bipush 22, 2) := by decide +kernel
theorem d10_64 : decode prog_81_method_6_code 64 = .ok (.if_icmp .le 5, 3) := by decide +kernel
theorem d10_67 : decode prog_81_method_6_code 67 = .ok (.iconst 0, 1) := by decide +kernel
theorem d10_68 : decode prog_81_method_6_code 68 = .ok (.ireturn, 1) := by decide +kernel
theorem d10_69 : decode prog_81_method_6_code 69 = .ok (.lload_n 2, 1) := by decide +kernel
theorem d10_70 : decode prog_81_method_6_code 70 = .ok (.aload 6, 2) := by decide +kernel
theorem d10_72 : decode prog_81_method_6_code 72 = .ok (.getfield 116, 3) := by decide +kernel
theorem d10_75 : decode prog_81_method_6_code 75 = .ok (.i2l, 1) := by decide +kernel
theorem d10_76 : decode prog_81_method_6_code 76 = .ok (.ladd, 1) := by decide +kernel
theorem d10_77 : decode prog_81_method_6_code 77 = .ok (.lstore_n 2, 1) := by decide +kernel
theorem d10_78 : decode prog_81_method_6_code 78 = .ok (.iinc 5 1, 3) := by decide +kernel
theorem d10_81 : decode prog_81_method_6_code 81 = .ok (.goto (-64), 3) := by decide +kernel
theorem d10_84 : decode prog_81_method_6_code 84 = .ok (.iinc 4 1, 3) := by decide +kernel
theorem d10_87 : decode prog_81_method_6_code 87 = .ok (.goto (-82), 3) := by decide +kernel
theorem d10_90 : decode prog_81_method_6_code 90 = .ok (.lload_n 2, 1) := by decide +kernel
theorem d10_91 : decode prog_81_method_6_code 91 = .ok (.ldc2_w 119, 3) := by decide +kernel
theorem d10_94 : decode prog_81_method_6_code 94 = .ok (.iload_n 1, 1) := by decide +kernel
theorem d10_95 : decode prog_81_method_6_code 95 = .ok (.i2l, 1) := by decide +kernel
theorem d10_96 : decode prog_81_method_6_code 96 = .ok (.lmul, 1) := by decide +kernel
theorem d10_97 : decode prog_81_method_6_code 97 = .ok (.lcmp, 1) := by decide +kernel
theorem d10_98 : decode prog_81_method_6_code 98 = .ok (.ifCond .gt 7, 3) := by decide +kernel
theorem d10_101 : decode prog_81_method_6_code 101 = .ok (.iconst 1, 1) := by decide +kernel
theorem d10_102 : decode prog_81_method_6_code 102 = .ok (.goto 4, 3) := by decide +kernel
theorem d10_105 : decode prog_81_method_6_code 105 = .ok (.iconst 0, 1) := by decide +kernel
theorem d10_106 : decode prog_81_method_6_code 106 = .ok (.ireturn, 1) := by decide +kernel
theorem ef_10 (m : MethodId) (x0 : Addr) (x1 : Int32) : entryFrame m #[(.ref x0), (.int x1)] 7 = mkF m 0 #[.val (.ref x0), .val (.int x1), .unset, .unset, .unset, .unset, .unset] [] := by first | (simp [entryFrame, mkF, argsToLocals, Value.category]; done) | rfl
def f10_v14 (x1 : Int32) (w_b_w_g_x0_0_0 : Int32) (w_r_w_g_x0_0_0 : Int32) (w_s_w_g_x0_0_0 : Int32) (w_p_w_g_x0_0_0 : Int32) (w_b_w_g_x0_1_0 : Int32) (w_r_w_g_x0_1_0 : Int32) (w_s_w_g_x0_1_0 : Int32) (w_p_w_g_x0_1_0 : Int32) : Int64 := ((0 : Int64) + (w_p_w_g_x0_0_0.toInt64))
def f10_v29 (x1 : Int32) (w_b_w_g_x0_0_0 : Int32) (w_r_w_g_x0_0_0 : Int32) (w_s_w_g_x0_0_0 : Int32) (w_p_w_g_x0_0_0 : Int32) (w_b_w_g_x0_1_0 : Int32) (w_r_w_g_x0_1_0 : Int32) (w_s_w_g_x0_1_0 : Int32) (w_p_w_g_x0_1_0 : Int32) : Int64 := ((f10_v14 x1 w_b_w_g_x0_0_0 w_r_w_g_x0_0_0 w_s_w_g_x0_0_0 w_p_w_g_x0_0_0 w_b_w_g_x0_1_0 w_r_w_g_x0_1_0 w_s_w_g_x0_1_0 w_p_w_g_x0_1_0) + (w_p_w_g_x0_1_0.toInt64))
def f10_j34 (x1 : Int32) (w_b_w_g_x0_0_0 : Int32) (w_r_w_g_x0_0_0 : Int32) (w_s_w_g_x0_0_0 : Int32) (w_p_w_g_x0_0_0 : Int32) (w_b_w_g_x0_1_0 : Int32) (w_r_w_g_x0_1_0 : Int32) (w_s_w_g_x0_1_0 : Int32) (w_p_w_g_x0_1_0 : Int32) : Int32 := if ifCond.holds .gt (own_cmp (f10_v29 x1 w_b_w_g_x0_0_0 w_r_w_g_x0_0_0 w_s_w_g_x0_0_0 w_p_w_g_x0_0_0 w_b_w_g_x0_1_0 w_r_w_g_x0_1_0 w_s_w_g_x0_1_0 w_p_w_g_x0_1_0) ((8 : Int64) * (x1.toInt64))) = true then (0 : Int32) else (1 : Int32)
def f10 (x1 : Int32) (w_b_w_g_x0_0_0 : Int32) (w_r_w_g_x0_0_0 : Int32) (w_s_w_g_x0_0_0 : Int32) (w_p_w_g_x0_0_0 : Int32) (w_b_w_g_x0_1_0 : Int32) (w_r_w_g_x0_1_0 : Int32) (w_s_w_g_x0_1_0 : Int32) (w_p_w_g_x0_1_0 : Int32) : Int32 := (if if_icmp.holds .gt w_b_w_g_x0_0_0 (288 : Int32) = true then (0 : Int32) else (if if_icmp.holds .le ((w_r_w_g_x0_0_0 + w_s_w_g_x0_0_0) + (2 : Int32)) (22 : Int32) = true then (if if_icmp.holds .gt w_b_w_g_x0_1_0 (288 : Int32) = true then (0 : Int32) else (if if_icmp.holds .le ((w_r_w_g_x0_1_0 + w_s_w_g_x0_1_0) + (2 : Int32)) (22 : Int32) = true then (nar .boolean (f10_j34 x1 w_b_w_g_x0_0_0 w_r_w_g_x0_0_0 w_s_w_g_x0_0_0 w_p_w_g_x0_0_0 w_b_w_g_x0_1_0 w_r_w_g_x0_1_0 w_s_w_g_x0_1_0 w_p_w_g_x0_1_0)) else (0 : Int32))) else (0 : Int32)))
def Q10 (Z : State) (x0 : Addr) (x1 : Int32) (w_g_x0 : Addr) (k_w_g_x0 : ClassId) (w_g_x0_0 : Addr) (w_g_x0_1 : Addr) (k_w_g_x0_0 : ClassId) (w_g_x0_0_0 : Addr) (w_g_x0_0_1 : Addr) (w_b_w_g_x0_0_0 : Int32) (w_r_w_g_x0_0_0 : Int32) (w_s_w_g_x0_0_0 : Int32) (w_p_w_g_x0_0_0 : Int32) (k_w_g_x0_1 : ClassId) (w_g_x0_1_0 : Addr) (w_g_x0_1_1 : Addr) (w_b_w_g_x0_1_0 : Int32) (w_r_w_g_x0_1_0 : Int32) (w_s_w_g_x0_1_0 : Int32) (w_p_w_g_x0_1_0 : Int32) (h0 : Heap) (n0 : Nat) (v : Option Value) (h : Heap) (L : List Loc) : Prop := v = some (.int (f10 x1 w_b_w_g_x0_0_0 w_r_w_g_x0_0_0 w_s_w_g_x0_0_0 w_p_w_g_x0_0_0 w_b_w_g_x0_1_0 w_r_w_g_x0_1_0 w_s_w_g_x0_1_0 w_p_w_g_x0_1_0)) ∧ Fr n0 L ∧ h = h0
set_option maxRecDepth 65536 in
set_option maxHeartbeats 40000000 in
theorem rm10 (l : Launch) (Z : State) (a0 : Array Value) (hw : ∀ d ∈ tables_1, d.before a0 Z = true) (ws : List Jvm.Cond) (x0 : Addr) (x1 : Int32) (w_g_x0 : Addr) (k_w_g_x0 : ClassId) (w_g_x0_0 : Addr) (w_g_x0_1 : Addr) (k_w_g_x0_0 : ClassId) (w_g_x0_0_0 : Addr) (w_g_x0_0_1 : Addr) (w_b_w_g_x0_0_0 : Int32) (w_r_w_g_x0_0_0 : Int32) (w_s_w_g_x0_0_0 : Int32) (w_p_w_g_x0_0_0 : Int32) (k_w_g_x0_1 : ClassId) (w_g_x0_1_0 : Addr) (w_g_x0_1_1 : Addr) (w_b_w_g_x0_1_0 : Int32) (w_r_w_g_x0_1_0 : Int32) (w_s_w_g_x0_1_0 : Int32) (w_p_w_g_x0_1_0 : Int32) (h0 : Heap) (n0 : Nat) (Z0 : n0 ≤ h0.size) (F_x0_granuleCount : Fld Z h0 x0 "dev/stratumaudio/SideInformation" "granuleCount" "I" (.int (2 : Int32))) (F_x0_channelCount : Fld Z h0 x0 "dev/stratumaudio/SideInformation" "channelCount" "I" (.int (1 : Int32))) (F_x0_granules : Fld Z h0 x0 "dev/stratumaudio/SideInformation" "granules" "[[Ldev/stratumaudio/SideInformation$Granule;" (.ref w_g_x0)) (A_w_g_x0 : Arv Z h0 w_g_x0 k_w_g_x0 (.array (.object "dev/stratumaudio/SideInformation$Granule")) (2 : Int32) [(.ref w_g_x0_0), (.ref w_g_x0_1)] .null) (A_w_g_x0_0 : Arv Z h0 w_g_x0_0 k_w_g_x0_0 (.object "dev/stratumaudio/SideInformation$Granule") (2 : Int32) [(.ref w_g_x0_0_0), (.ref w_g_x0_0_1)] .null) (F_w_g_x0_0_0_bigValues : Fld Z h0 w_g_x0_0_0 "dev/stratumaudio/SideInformation$Granule" "bigValues" "I" (.int w_b_w_g_x0_0_0)) (F_w_g_x0_0_0_region0Count : Fld Z h0 w_g_x0_0_0 "dev/stratumaudio/SideInformation$Granule" "region0Count" "I" (.int w_r_w_g_x0_0_0)) (F_w_g_x0_0_0_region1Count : Fld Z h0 w_g_x0_0_0 "dev/stratumaudio/SideInformation$Granule" "region1Count" "I" (.int w_s_w_g_x0_0_0)) (F_w_g_x0_0_0_part23Length : Fld Z h0 w_g_x0_0_0 "dev/stratumaudio/SideInformation$Granule" "part23Length" "I" (.int w_p_w_g_x0_0_0)) (A_w_g_x0_1 : Arv Z h0 w_g_x0_1 k_w_g_x0_1 (.object "dev/stratumaudio/SideInformation$Granule") (2 : Int32) [(.ref w_g_x0_1_0), (.ref w_g_x0_1_1)] .null) (F_w_g_x0_1_0_bigValues : Fld Z h0 w_g_x0_1_0 "dev/stratumaudio/SideInformation$Granule" "bigValues" "I" (.int w_b_w_g_x0_1_0)) (F_w_g_x0_1_0_region0Count : Fld Z h0 w_g_x0_1_0 "dev/stratumaudio/SideInformation$Granule" "region0Count" "I" (.int w_r_w_g_x0_1_0)) (F_w_g_x0_1_0_region1Count : Fld Z h0 w_g_x0_1_0 "dev/stratumaudio/SideInformation$Granule" "region1Count" "I" (.int w_s_w_g_x0_1_0)) (F_w_g_x0_1_0_part23Length : Fld Z h0 w_g_x0_1_0 "dev/stratumaudio/SideInformation$Granule" "part23Length" "I" (.int w_p_w_g_x0_1_0)) :
    MetFree l (⟨"dev/stratumaudio/SideInformation", "isPossible", "(I)Z"⟩ : MethodName) (head1 (Jvm.Cond.code (⟨"dev/stratumaudio/SideInformation", "isPossible", "(I)Z"⟩ : MethodName) prog_81_method_6_code 7 (some .boolean) :: ws) ({ frames := 0, cells := 0, slots := 0, locals := 0 } : Room)) (fun a U => a = #[(.ref x0), (.int x1)] ∧ Z.Warmed39 U.vm ∧ U.heap = h0) (fun _ _ _ _ _ => True) (fun _ U o U' => ∃ v L, o = .returned v ∧ Q10 Z x0 x1 w_g_x0 k_w_g_x0 w_g_x0_0 w_g_x0_1 k_w_g_x0_0 w_g_x0_0_0 w_g_x0_0_1 w_b_w_g_x0_0_0 w_r_w_g_x0_0_0 w_s_w_g_x0_0_0 w_p_w_g_x0_0_0 k_w_g_x0_1 w_g_x0_1_0 w_g_x0_1_1 w_b_w_g_x0_1_0 w_r_w_g_x0_1_0 w_s_w_g_x0_1_0 w_p_w_g_x0_1_0 h0 n0 v U'.heap L ∧ FrameEnd U o U' L ({ frames := 0, cells := 0, slots := 0, locals := 0 } : Room).cells ({ frames := 0, cells := 0, slots := 0, locals := 0 } : Room).slots) := by
  refine MetFree.of_bodySF (plainFor_of_name pn_1) hisR ?_
  intro p e s m args below meth c s₁ Bd hml0 hP hK0
  obtain ⟨rfl, hZ, hh⟩ := hP
  have hx := Bd.exec
  have hby := Bd.bytes
  have hml : c.maxLocals = 7 := hml0
  have hown : s.vm.findClass "dev/stratumaudio/SideInformation" = some m.cls := findClass_of_methodNamed Bd.named
  have hnm := (name_of_methodNamed Bd.named Bd.method).1
  have hret : meth.sig.returnType = some .boolean := Bd.returns
  have hlk : meth.locks = false := Bd.notSynchronized
  have X0 : Stand p l e ({ frames := 0, cells := 0, slots := 0, locals := 0 } : Room) s m #[(.ref x0), (.int x1)] below meth c s₁ [] 0 0 := Stand.of_body Bd
  have e0 : s₁.heap = h0 := by rw [← hh, Bd.state]; rfl
  have N0 := Fr.nil n0
  have pre0 : ∀ t, Steps p.tables e below (s₁.setTop (mkF m 0 #[.val (.ref x0), .val (.int x1), .unset, .unset, .unset, .unset, .unset] [])) t → Steps p.tables e below (s₁.setTop (entryFrame m #[(.ref x0), (.int x1)] 7)) t := fun t k => castTop (ef_10 m x0 x1) k
  obtain ⟨T1, X1, e1, st1⟩ := getF X0 hx hZ hown (host := "") (Or.inl (hw _ (List.mem_of_getElem? (i := 60) rfl))) Via.refl e0 F_x0_granuleCount (g := (mkF m 8 #[.val (.ref x0), .val (.int x1), .val (.long (0 : Int64)), .second, .val (.int (0 : Int32)), .unset, .unset] [(.ref x0), (.int (0 : Int32))])) rfl rfl (hb hby d10_8)
  obtain ⟨T2, X2, e2, st2⟩ := getF X1 hx hZ hown (host := "") (Or.inl (hw _ (List.mem_of_getElem? (i := 61) rfl))) Via.refl e1 F_x0_channelCount (g := (mkF m 20 #[.val (.ref x0), .val (.int x1), .val (.long (0 : Int64)), .second, .val (.int (0 : Int32)), .val (.int (0 : Int32)), .unset] [(.ref x0), (.int (0 : Int32))])) rfl rfl (hb hby d10_20)
  obtain ⟨T3, X3, e3, st3⟩ := getF X2 hx hZ hown (host := "") (Or.inl (hw _ (List.mem_of_getElem? (i := 32) rfl))) Via.refl e2 F_x0_granules (g := (mkF m 27 #[.val (.ref x0), .val (.int x1), .val (.long (0 : Int64)), .second, .val (.int (0 : Int32)), .val (.int (0 : Int32)), .unset] [(.ref x0)])) rfl rfl (hb hby d10_27)
  have Vc4 := A_w_g_x0
  obtain ⟨cl4, Ar4, q4, S4, NN4, H4, G4⟩ := Vc4
  have hin4 := inb_of (j := (0 : Int32)) S4 ⟨by decide, by decide⟩
  have Vc5 := A_w_g_x0_0
  obtain ⟨cl5, Ar5, q5, S5, NN5, H5, G5⟩ := Vc5
  have hin5 := inb_of (j := (0 : Int32)) S5 ⟨by decide, by decide⟩
  obtain ⟨T6, X6, e6, st6⟩ := getF X3 hx hZ hown (host := "") (Or.inl (hw _ (List.mem_of_getElem? (i := 62) rfl))) Via.refl e3 F_w_g_x0_0_0_bigValues (g := (mkF m 40 #[.val (.ref x0), .val (.int x1), .val (.long (0 : Int64)), .second, .val (.int (0 : Int32)), .val (.int (0 : Int32)), .val (.ref w_g_x0_0_0)] [(.ref w_g_x0_0_0)])) rfl rfl (hb hby d10_40)
  have pre7 : ∀ t, Steps p.tables e below (T6.setTop (mkF m 46 #[.val (.ref x0), .val (.int x1), .val (.long (0 : Int64)), .second, .val (.int (0 : Int32)), .val (.int (0 : Int32)), .val (.ref w_g_x0_0_0)] [(.int (288 : Int32)), (.int w_b_w_g_x0_0_0)])) t → Steps p.tables e below (s₁.setTop (entryFrame m #[(.ref x0), (.int x1)] 7)) t := by
    intro t k
    refine pre0 _ ?_
    show Steps p.tables e below (s₁.setTop (mkF m 0 #[.val (.ref x0), .val (.int x1), .unset, .unset, .unset, .unset, .unset] [])) _
    refine XS.lconst X0.here hx rfl (hb hby d10_0) ?_
    show Steps p.tables e below (s₁.setTop (mkF m 1 #[.val (.ref x0), .val (.int x1), .unset, .unset, .unset, .unset, .unset] [(.long (0 : Int64))])) _
    refine XS.lstoreN X0.here hx rfl (hb hby d10_1) rfl (l' := #[.val (.ref x0), .val (.int x1), .val (.long (0 : Int64)), .second, .unset, .unset, .unset]) rfl ?_
    show Steps p.tables e below (s₁.setTop (mkF m 2 #[.val (.ref x0), .val (.int x1), .val (.long (0 : Int64)), .second, .unset, .unset, .unset] [])) _
    refine XS.iconst X0.here hx rfl (hb hby d10_2) ?_
    show Steps p.tables e below (s₁.setTop (mkF m 3 #[.val (.ref x0), .val (.int x1), .val (.long (0 : Int64)), .second, .unset, .unset, .unset] [(.int (0 : Int32))])) _
    refine XS.istore X0.here hx rfl (hb hby d10_3) rfl (l' := #[.val (.ref x0), .val (.int x1), .val (.long (0 : Int64)), .second, .val (.int (0 : Int32)), .unset, .unset]) rfl ?_
    show Steps p.tables e below (s₁.setTop (mkF m 5 #[.val (.ref x0), .val (.int x1), .val (.long (0 : Int64)), .second, .val (.int (0 : Int32)), .unset, .unset] [])) _
    refine XS.iload X0.here hx rfl (hb hby d10_5) rfl ?_
    show Steps p.tables e below (s₁.setTop (mkF m 7 #[.val (.ref x0), .val (.int x1), .val (.long (0 : Int64)), .second, .val (.int (0 : Int32)), .unset, .unset] [(.int (0 : Int32))])) _
    refine XS.aloadN X0.here hx rfl (hb hby d10_7) rfl rfl ?_
    show Steps p.tables e below (s₁.setTop (mkF m 8 #[.val (.ref x0), .val (.int x1), .val (.long (0 : Int64)), .second, .val (.int (0 : Int32)), .unset, .unset] [(.ref x0), (.int (0 : Int32))])) _
    refine st1 _ ?_
    show Steps p.tables e below (T1.setTop (mkF m 11 #[.val (.ref x0), .val (.int x1), .val (.long (0 : Int64)), .second, .val (.int (0 : Int32)), .unset, .unset] [(.int (2 : Int32)), (.int (0 : Int32))])) _
    refine XS.icmpNo X1.here hx rfl (hb hby d10_11) rfl (by decide) ?_
    show Steps p.tables e below (T1.setTop (mkF m 14 #[.val (.ref x0), .val (.int x1), .val (.long (0 : Int64)), .second, .val (.int (0 : Int32)), .unset, .unset] [])) _
    refine XS.iconst X1.here hx rfl (hb hby d10_14) ?_
    show Steps p.tables e below (T1.setTop (mkF m 15 #[.val (.ref x0), .val (.int x1), .val (.long (0 : Int64)), .second, .val (.int (0 : Int32)), .unset, .unset] [(.int (0 : Int32))])) _
    refine XS.istore X1.here hx rfl (hb hby d10_15) rfl (l' := #[.val (.ref x0), .val (.int x1), .val (.long (0 : Int64)), .second, .val (.int (0 : Int32)), .val (.int (0 : Int32)), .unset]) rfl ?_
    show Steps p.tables e below (T1.setTop (mkF m 17 #[.val (.ref x0), .val (.int x1), .val (.long (0 : Int64)), .second, .val (.int (0 : Int32)), .val (.int (0 : Int32)), .unset] [])) _
    refine XS.iload X1.here hx rfl (hb hby d10_17) rfl ?_
    show Steps p.tables e below (T1.setTop (mkF m 19 #[.val (.ref x0), .val (.int x1), .val (.long (0 : Int64)), .second, .val (.int (0 : Int32)), .val (.int (0 : Int32)), .unset] [(.int (0 : Int32))])) _
    refine XS.aloadN X1.here hx rfl (hb hby d10_19) rfl rfl ?_
    show Steps p.tables e below (T1.setTop (mkF m 20 #[.val (.ref x0), .val (.int x1), .val (.long (0 : Int64)), .second, .val (.int (0 : Int32)), .val (.int (0 : Int32)), .unset] [(.ref x0), (.int (0 : Int32))])) _
    refine st2 _ ?_
    show Steps p.tables e below (T2.setTop (mkF m 23 #[.val (.ref x0), .val (.int x1), .val (.long (0 : Int64)), .second, .val (.int (0 : Int32)), .val (.int (0 : Int32)), .unset] [(.int (1 : Int32)), (.int (0 : Int32))])) _
    refine XS.icmpNo X2.here hx rfl (hb hby d10_23) rfl (by decide) ?_
    show Steps p.tables e below (T2.setTop (mkF m 26 #[.val (.ref x0), .val (.int x1), .val (.long (0 : Int64)), .second, .val (.int (0 : Int32)), .val (.int (0 : Int32)), .unset] [])) _
    refine XS.aloadN X2.here hx rfl (hb hby d10_26) rfl rfl ?_
    show Steps p.tables e below (T2.setTop (mkF m 27 #[.val (.ref x0), .val (.int x1), .val (.long (0 : Int64)), .second, .val (.int (0 : Int32)), .val (.int (0 : Int32)), .unset] [(.ref x0)])) _
    refine st3 _ ?_
    show Steps p.tables e below (T3.setTop (mkF m 30 #[.val (.ref x0), .val (.int x1), .val (.long (0 : Int64)), .second, .val (.int (0 : Int32)), .val (.int (0 : Int32)), .unset] [(.ref w_g_x0)])) _
    refine XS.iload X3.here hx rfl (hb hby d10_30) rfl ?_
    show Steps p.tables e below (T3.setTop (mkF m 32 #[.val (.ref x0), .val (.int x1), .val (.long (0 : Int64)), .second, .val (.int (0 : Int32)), .val (.int (0 : Int32)), .unset] [(.int (0 : Int32)), (.ref w_g_x0)])) _
    refine X3.aaload hx (j := (0 : Int32)) (v := (.ref w_g_x0_0)) (by rw [e3]; exact Ar4.1) (State.isArrayOf_alike hZ.alike Ar4.2.1) rfl Ar4.2.2 hin4 (Has.at H4 hin4 rfl) (g := (mkF m 32 #[.val (.ref x0), .val (.int x1), .val (.long (0 : Int64)), .second, .val (.int (0 : Int32)), .val (.int (0 : Int32)), .unset] [(.int (0 : Int32)), (.ref w_g_x0)])) rfl rfl (hb hby d10_32) _ ?_
    show Steps p.tables e below (T3.setTop (mkF m 33 #[.val (.ref x0), .val (.int x1), .val (.long (0 : Int64)), .second, .val (.int (0 : Int32)), .val (.int (0 : Int32)), .unset] [(.ref w_g_x0_0)])) _
    refine XS.iload X3.here hx rfl (hb hby d10_33) rfl ?_
    show Steps p.tables e below (T3.setTop (mkF m 35 #[.val (.ref x0), .val (.int x1), .val (.long (0 : Int64)), .second, .val (.int (0 : Int32)), .val (.int (0 : Int32)), .unset] [(.int (0 : Int32)), (.ref w_g_x0_0)])) _
    refine X3.aaload hx (j := (0 : Int32)) (v := (.ref w_g_x0_0_0)) (by rw [e3]; exact Ar5.1) (State.isArrayOf_alike hZ.alike Ar5.2.1) rfl Ar5.2.2 hin5 (Has.at H5 hin5 rfl) (g := (mkF m 35 #[.val (.ref x0), .val (.int x1), .val (.long (0 : Int64)), .second, .val (.int (0 : Int32)), .val (.int (0 : Int32)), .unset] [(.int (0 : Int32)), (.ref w_g_x0_0)])) rfl rfl (hb hby d10_35) _ ?_
    show Steps p.tables e below (T3.setTop (mkF m 36 #[.val (.ref x0), .val (.int x1), .val (.long (0 : Int64)), .second, .val (.int (0 : Int32)), .val (.int (0 : Int32)), .unset] [(.ref w_g_x0_0_0)])) _
    refine XS.astore X3.here hx rfl (hb hby d10_36) rfl rfl (l' := #[.val (.ref x0), .val (.int x1), .val (.long (0 : Int64)), .second, .val (.int (0 : Int32)), .val (.int (0 : Int32)), .val (.ref w_g_x0_0_0)]) rfl ?_
    show Steps p.tables e below (T3.setTop (mkF m 38 #[.val (.ref x0), .val (.int x1), .val (.long (0 : Int64)), .second, .val (.int (0 : Int32)), .val (.int (0 : Int32)), .val (.ref w_g_x0_0_0)] [])) _
    refine XS.aload X3.here hx rfl (hb hby d10_38) rfl rfl ?_
    show Steps p.tables e below (T3.setTop (mkF m 40 #[.val (.ref x0), .val (.int x1), .val (.long (0 : Int64)), .second, .val (.int (0 : Int32)), .val (.int (0 : Int32)), .val (.ref w_g_x0_0_0)] [(.ref w_g_x0_0_0)])) _
    refine st6 _ ?_
    show Steps p.tables e below (T6.setTop (mkF m 43 #[.val (.ref x0), .val (.int x1), .val (.long (0 : Int64)), .second, .val (.int (0 : Int32)), .val (.int (0 : Int32)), .val (.ref w_g_x0_0_0)] [(.int w_b_w_g_x0_0_0)])) _
    refine XS.sipush X6.here hx rfl (hb hby d10_43) ?_
    exact k
  rcases Bool.eq_false_or_eq_true (if_icmp.holds .gt w_b_w_g_x0_0_0 (288 : Int32)) with hc8 | hc8
  · obtain ⟨fs, hr, hrun, hended, hW, hsame⟩ := X6.leave (v := some (.int (0 : Int32))) (fun h => by rw [hret] at h; cases h)
    refine ⟨_, _, pre7 _ ?_, hrun, hended, _, _, rfl, ?_, ⟨_, rfl⟩, hW, hsame.mono (by decide) (by decide)⟩
    · show Steps p.tables e below (T6.setTop (mkF m 46 #[.val (.ref x0), .val (.int x1), .val (.long (0 : Int64)), .second, .val (.int (0 : Int32)), .val (.int (0 : Int32)), .val (.ref w_g_x0_0_0)] [(.int (288 : Int32)), (.int w_b_w_g_x0_0_0)])) _
      refine XS.icmpYes X6.here hx rfl (pc0 := 46) (pc' := 67) rfl (hb hby d10_46) rfl hc8 (by decide) (by decide) ?_
      show Steps p.tables e below (T6.setTop (mkF m 67 #[.val (.ref x0), .val (.int x1), .val (.long (0 : Int64)), .second, .val (.int (0 : Int32)), .val (.int (0 : Int32)), .val (.ref w_g_x0_0_0)] [])) _
      refine XS.iconst X6.here hx rfl (hb hby d10_67) ?_
      show Steps p.tables e below (T6.setTop (mkF m 68 #[.val (.ref x0), .val (.int x1), .val (.long (0 : Int64)), .second, .val (.int (0 : Int32)), .val (.int (0 : Int32)), .val (.ref w_g_x0_0_0)] [(.int (0 : Int32))])) _
      exact retN X6 hx (t := .boolean) hret (by simp) (hb hby d10_68) hr
    · show Q10 Z x0 x1 w_g_x0 k_w_g_x0 w_g_x0_0 w_g_x0_1 k_w_g_x0_0 w_g_x0_0_0 w_g_x0_0_1 w_b_w_g_x0_0_0 w_r_w_g_x0_0_0 w_s_w_g_x0_0_0 w_p_w_g_x0_0_0 k_w_g_x0_1 w_g_x0_1_0 w_g_x0_1_1 w_b_w_g_x0_1_0 w_r_w_g_x0_1_0 w_s_w_g_x0_1_0 w_p_w_g_x0_1_0 h0 n0 _ T6.heap _
      rw [e6]
      have rr : f10 x1 w_b_w_g_x0_0_0 w_r_w_g_x0_0_0 w_s_w_g_x0_0_0 w_p_w_g_x0_0_0 w_b_w_g_x0_1_0 w_r_w_g_x0_1_0 w_s_w_g_x0_1_0 w_p_w_g_x0_1_0 = (0 : Int32) := if_pos hc8
      exact ⟨congrArg (fun z => some (Value.int z)) rr.symm, N0, rfl⟩
  · obtain ⟨T9, X9, e9, st9⟩ := getF X6 hx hZ hown (host := "") (Or.inl (hw _ (List.mem_of_getElem? (i := 63) rfl))) Via.refl e6 F_w_g_x0_0_0_region0Count (g := (mkF m 51 #[.val (.ref x0), .val (.int x1), .val (.long (0 : Int64)), .second, .val (.int (0 : Int32)), .val (.int (0 : Int32)), .val (.ref w_g_x0_0_0)] [(.ref w_g_x0_0_0)])) rfl rfl (hb hby d10_51)
    obtain ⟨T10, X10, e10, st10⟩ := getF X9 hx hZ hown (host := "") (Or.inl (hw _ (List.mem_of_getElem? (i := 64) rfl))) Via.refl e9 F_w_g_x0_0_0_region1Count (g := (mkF m 56 #[.val (.ref x0), .val (.int x1), .val (.long (0 : Int64)), .second, .val (.int (0 : Int32)), .val (.int (0 : Int32)), .val (.ref w_g_x0_0_0)] [(.ref w_g_x0_0_0), (.int w_r_w_g_x0_0_0)])) rfl rfl (hb hby d10_56)
    have pre11 : ∀ t, Steps p.tables e below (T10.setTop (mkF m 64 #[.val (.ref x0), .val (.int x1), .val (.long (0 : Int64)), .second, .val (.int (0 : Int32)), .val (.int (0 : Int32)), .val (.ref w_g_x0_0_0)] [(.int (22 : Int32)), (.int ((w_r_w_g_x0_0_0 + w_s_w_g_x0_0_0) + (2 : Int32)))])) t → Steps p.tables e below (s₁.setTop (entryFrame m #[(.ref x0), (.int x1)] 7)) t := by
      intro t k
      refine pre7 _ ?_
      show Steps p.tables e below (T6.setTop (mkF m 46 #[.val (.ref x0), .val (.int x1), .val (.long (0 : Int64)), .second, .val (.int (0 : Int32)), .val (.int (0 : Int32)), .val (.ref w_g_x0_0_0)] [(.int (288 : Int32)), (.int w_b_w_g_x0_0_0)])) _
      refine XS.icmpNo X6.here hx rfl (hb hby d10_46) rfl hc8 ?_
      show Steps p.tables e below (T6.setTop (mkF m 49 #[.val (.ref x0), .val (.int x1), .val (.long (0 : Int64)), .second, .val (.int (0 : Int32)), .val (.int (0 : Int32)), .val (.ref w_g_x0_0_0)] [])) _
      refine XS.aload X6.here hx rfl (hb hby d10_49) rfl rfl ?_
      show Steps p.tables e below (T6.setTop (mkF m 51 #[.val (.ref x0), .val (.int x1), .val (.long (0 : Int64)), .second, .val (.int (0 : Int32)), .val (.int (0 : Int32)), .val (.ref w_g_x0_0_0)] [(.ref w_g_x0_0_0)])) _
      refine st9 _ ?_
      show Steps p.tables e below (T9.setTop (mkF m 54 #[.val (.ref x0), .val (.int x1), .val (.long (0 : Int64)), .second, .val (.int (0 : Int32)), .val (.int (0 : Int32)), .val (.ref w_g_x0_0_0)] [(.int w_r_w_g_x0_0_0)])) _
      refine XS.aload X9.here hx rfl (hb hby d10_54) rfl rfl ?_
      show Steps p.tables e below (T9.setTop (mkF m 56 #[.val (.ref x0), .val (.int x1), .val (.long (0 : Int64)), .second, .val (.int (0 : Int32)), .val (.int (0 : Int32)), .val (.ref w_g_x0_0_0)] [(.ref w_g_x0_0_0), (.int w_r_w_g_x0_0_0)])) _
      refine st10 _ ?_
      show Steps p.tables e below (T10.setTop (mkF m 59 #[.val (.ref x0), .val (.int x1), .val (.long (0 : Int64)), .second, .val (.int (0 : Int32)), .val (.int (0 : Int32)), .val (.ref w_g_x0_0_0)] [(.int w_s_w_g_x0_0_0), (.int w_r_w_g_x0_0_0)])) _
      refine XS.iadd X10.here hx rfl (hb hby d10_59) rfl ?_
      show Steps p.tables e below (T10.setTop (mkF m 60 #[.val (.ref x0), .val (.int x1), .val (.long (0 : Int64)), .second, .val (.int (0 : Int32)), .val (.int (0 : Int32)), .val (.ref w_g_x0_0_0)] [(.int (w_r_w_g_x0_0_0 + w_s_w_g_x0_0_0))])) _
      refine XS.iconst X10.here hx rfl (hb hby d10_60) ?_
      show Steps p.tables e below (T10.setTop (mkF m 61 #[.val (.ref x0), .val (.int x1), .val (.long (0 : Int64)), .second, .val (.int (0 : Int32)), .val (.int (0 : Int32)), .val (.ref w_g_x0_0_0)] [(.int (2 : Int32)), (.int (w_r_w_g_x0_0_0 + w_s_w_g_x0_0_0))])) _
      refine XS.iadd X10.here hx rfl (hb hby d10_61) rfl ?_
      show Steps p.tables e below (T10.setTop (mkF m 62 #[.val (.ref x0), .val (.int x1), .val (.long (0 : Int64)), .second, .val (.int (0 : Int32)), .val (.int (0 : Int32)), .val (.ref w_g_x0_0_0)] [(.int ((w_r_w_g_x0_0_0 + w_s_w_g_x0_0_0) + (2 : Int32)))])) _
      refine XS.bipush X10.here hx rfl (hb hby d10_62) ?_
      exact k
    rcases Bool.eq_false_or_eq_true (if_icmp.holds .le ((w_r_w_g_x0_0_0 + w_s_w_g_x0_0_0) + (2 : Int32)) (22 : Int32)) with hc12 | hc12
    · obtain ⟨T13, X13, e13, st13⟩ := getF X10 hx hZ hown (host := "") (Or.inl (hw _ (List.mem_of_getElem? (i := 65) rfl))) Via.refl e10 F_w_g_x0_0_0_part23Length (g := (mkF m 72 #[.val (.ref x0), .val (.int x1), .val (.long (0 : Int64)), .second, .val (.int (0 : Int32)), .val (.int (0 : Int32)), .val (.ref w_g_x0_0_0)] [(.ref w_g_x0_0_0), (.long (0 : Int64))])) rfl rfl (hb hby d10_72)
      obtain ⟨T15, X15, e15, st15⟩ := getF X13 hx hZ hown (host := "") (Or.inl (hw _ (List.mem_of_getElem? (i := 61) rfl))) Via.refl e13 F_x0_channelCount (g := (mkF m 20 #[.val (.ref x0), .val (.int x1), .val (.long (f10_v14 x1 w_b_w_g_x0_0_0 w_r_w_g_x0_0_0 w_s_w_g_x0_0_0 w_p_w_g_x0_0_0 w_b_w_g_x0_1_0 w_r_w_g_x0_1_0 w_s_w_g_x0_1_0 w_p_w_g_x0_1_0)), .second, .val (.int (0 : Int32)), .val (.int (1 : Int32)), .val (.ref w_g_x0_0_0)] [(.ref x0), (.int (1 : Int32))])) rfl rfl (hb hby d10_20)
      obtain ⟨T16, X16, e16, st16⟩ := getF X15 hx hZ hown (host := "") (Or.inl (hw _ (List.mem_of_getElem? (i := 60) rfl))) Via.refl e15 F_x0_granuleCount (g := (mkF m 8 #[.val (.ref x0), .val (.int x1), .val (.long (f10_v14 x1 w_b_w_g_x0_0_0 w_r_w_g_x0_0_0 w_s_w_g_x0_0_0 w_p_w_g_x0_0_0 w_b_w_g_x0_1_0 w_r_w_g_x0_1_0 w_s_w_g_x0_1_0 w_p_w_g_x0_1_0)), .second, .val (.int (1 : Int32)), .val (.int (1 : Int32)), .val (.ref w_g_x0_0_0)] [(.ref x0), (.int (1 : Int32))])) rfl rfl (hb hby d10_8)
      obtain ⟨T17, X17, e17, st17⟩ := getF X16 hx hZ hown (host := "") (Or.inl (hw _ (List.mem_of_getElem? (i := 61) rfl))) Via.refl e16 F_x0_channelCount (g := (mkF m 20 #[.val (.ref x0), .val (.int x1), .val (.long (f10_v14 x1 w_b_w_g_x0_0_0 w_r_w_g_x0_0_0 w_s_w_g_x0_0_0 w_p_w_g_x0_0_0 w_b_w_g_x0_1_0 w_r_w_g_x0_1_0 w_s_w_g_x0_1_0 w_p_w_g_x0_1_0)), .second, .val (.int (1 : Int32)), .val (.int (0 : Int32)), .val (.ref w_g_x0_0_0)] [(.ref x0), (.int (0 : Int32))])) rfl rfl (hb hby d10_20)
      obtain ⟨T18, X18, e18, st18⟩ := getF X17 hx hZ hown (host := "") (Or.inl (hw _ (List.mem_of_getElem? (i := 32) rfl))) Via.refl e17 F_x0_granules (g := (mkF m 27 #[.val (.ref x0), .val (.int x1), .val (.long (f10_v14 x1 w_b_w_g_x0_0_0 w_r_w_g_x0_0_0 w_s_w_g_x0_0_0 w_p_w_g_x0_0_0 w_b_w_g_x0_1_0 w_r_w_g_x0_1_0 w_s_w_g_x0_1_0 w_p_w_g_x0_1_0)), .second, .val (.int (1 : Int32)), .val (.int (0 : Int32)), .val (.ref w_g_x0_0_0)] [(.ref x0)])) rfl rfl (hb hby d10_27)
      have Vc19 := A_w_g_x0
      obtain ⟨cl19, Ar19, q19, S19, NN19, H19, G19⟩ := Vc19
      have hin19 := inb_of (j := (1 : Int32)) S19 ⟨by decide, by decide⟩
      have Vc20 := A_w_g_x0_1
      obtain ⟨cl20, Ar20, q20, S20, NN20, H20, G20⟩ := Vc20
      have hin20 := inb_of (j := (0 : Int32)) S20 ⟨by decide, by decide⟩
      obtain ⟨T21, X21, e21, st21⟩ := getF X18 hx hZ hown (host := "") (Or.inl (hw _ (List.mem_of_getElem? (i := 62) rfl))) Via.refl e18 F_w_g_x0_1_0_bigValues (g := (mkF m 40 #[.val (.ref x0), .val (.int x1), .val (.long (f10_v14 x1 w_b_w_g_x0_0_0 w_r_w_g_x0_0_0 w_s_w_g_x0_0_0 w_p_w_g_x0_0_0 w_b_w_g_x0_1_0 w_r_w_g_x0_1_0 w_s_w_g_x0_1_0 w_p_w_g_x0_1_0)), .second, .val (.int (1 : Int32)), .val (.int (0 : Int32)), .val (.ref w_g_x0_1_0)] [(.ref w_g_x0_1_0)])) rfl rfl (hb hby d10_40)
      have pre22 : ∀ t, Steps p.tables e below (T21.setTop (mkF m 46 #[.val (.ref x0), .val (.int x1), .val (.long (f10_v14 x1 w_b_w_g_x0_0_0 w_r_w_g_x0_0_0 w_s_w_g_x0_0_0 w_p_w_g_x0_0_0 w_b_w_g_x0_1_0 w_r_w_g_x0_1_0 w_s_w_g_x0_1_0 w_p_w_g_x0_1_0)), .second, .val (.int (1 : Int32)), .val (.int (0 : Int32)), .val (.ref w_g_x0_1_0)] [(.int (288 : Int32)), (.int w_b_w_g_x0_1_0)])) t → Steps p.tables e below (s₁.setTop (entryFrame m #[(.ref x0), (.int x1)] 7)) t := by
        intro t k
        refine pre11 _ ?_
        show Steps p.tables e below (T10.setTop (mkF m 64 #[.val (.ref x0), .val (.int x1), .val (.long (0 : Int64)), .second, .val (.int (0 : Int32)), .val (.int (0 : Int32)), .val (.ref w_g_x0_0_0)] [(.int (22 : Int32)), (.int ((w_r_w_g_x0_0_0 + w_s_w_g_x0_0_0) + (2 : Int32)))])) _
        refine XS.icmpYes X10.here hx rfl (pc0 := 64) (pc' := 69) rfl (hb hby d10_64) rfl hc12 (by decide) (by decide) ?_
        show Steps p.tables e below (T10.setTop (mkF m 69 #[.val (.ref x0), .val (.int x1), .val (.long (0 : Int64)), .second, .val (.int (0 : Int32)), .val (.int (0 : Int32)), .val (.ref w_g_x0_0_0)] [])) _
        refine XS.lloadN X10.here hx rfl (hb hby d10_69) rfl ?_
        show Steps p.tables e below (T10.setTop (mkF m 70 #[.val (.ref x0), .val (.int x1), .val (.long (0 : Int64)), .second, .val (.int (0 : Int32)), .val (.int (0 : Int32)), .val (.ref w_g_x0_0_0)] [(.long (0 : Int64))])) _
        refine XS.aload X10.here hx rfl (hb hby d10_70) rfl rfl ?_
        show Steps p.tables e below (T10.setTop (mkF m 72 #[.val (.ref x0), .val (.int x1), .val (.long (0 : Int64)), .second, .val (.int (0 : Int32)), .val (.int (0 : Int32)), .val (.ref w_g_x0_0_0)] [(.ref w_g_x0_0_0), (.long (0 : Int64))])) _
        refine st13 _ ?_
        show Steps p.tables e below (T13.setTop (mkF m 75 #[.val (.ref x0), .val (.int x1), .val (.long (0 : Int64)), .second, .val (.int (0 : Int32)), .val (.int (0 : Int32)), .val (.ref w_g_x0_0_0)] [(.int w_p_w_g_x0_0_0), (.long (0 : Int64))])) _
        refine XS.i2l X13.here hx rfl (hb hby d10_75) rfl ?_
        show Steps p.tables e below (T13.setTop (mkF m 76 #[.val (.ref x0), .val (.int x1), .val (.long (0 : Int64)), .second, .val (.int (0 : Int32)), .val (.int (0 : Int32)), .val (.ref w_g_x0_0_0)] [(.long (w_p_w_g_x0_0_0.toInt64)), (.long (0 : Int64))])) _
        refine XS.ladd X13.here hx rfl (hb hby d10_76) rfl ?_
        show Steps p.tables e below (T13.setTop (mkF m 77 #[.val (.ref x0), .val (.int x1), .val (.long (0 : Int64)), .second, .val (.int (0 : Int32)), .val (.int (0 : Int32)), .val (.ref w_g_x0_0_0)] [(.long ((0 : Int64) + (w_p_w_g_x0_0_0.toInt64)))])) _
        refine XS.lstoreN X13.here hx rfl (hb hby d10_77) rfl (l' := #[.val (.ref x0), .val (.int x1), .val (.long (f10_v14 x1 w_b_w_g_x0_0_0 w_r_w_g_x0_0_0 w_s_w_g_x0_0_0 w_p_w_g_x0_0_0 w_b_w_g_x0_1_0 w_r_w_g_x0_1_0 w_s_w_g_x0_1_0 w_p_w_g_x0_1_0)), .second, .val (.int (0 : Int32)), .val (.int (0 : Int32)), .val (.ref w_g_x0_0_0)]) rfl ?_
        show Steps p.tables e below (T13.setTop (mkF m 78 #[.val (.ref x0), .val (.int x1), .val (.long (f10_v14 x1 w_b_w_g_x0_0_0 w_r_w_g_x0_0_0 w_s_w_g_x0_0_0 w_p_w_g_x0_0_0 w_b_w_g_x0_1_0 w_r_w_g_x0_1_0 w_s_w_g_x0_1_0 w_p_w_g_x0_1_0)), .second, .val (.int (0 : Int32)), .val (.int (0 : Int32)), .val (.ref w_g_x0_0_0)] [])) _
        refine XS.iinc X13.here hx rfl (hb hby d10_78) rfl (l' := #[.val (.ref x0), .val (.int x1), .val (.long (f10_v14 x1 w_b_w_g_x0_0_0 w_r_w_g_x0_0_0 w_s_w_g_x0_0_0 w_p_w_g_x0_0_0 w_b_w_g_x0_1_0 w_r_w_g_x0_1_0 w_s_w_g_x0_1_0 w_p_w_g_x0_1_0)), .second, .val (.int (0 : Int32)), .val (.int (1 : Int32)), .val (.ref w_g_x0_0_0)]) rfl ?_
        show Steps p.tables e below (T13.setTop (mkF m 81 #[.val (.ref x0), .val (.int x1), .val (.long (f10_v14 x1 w_b_w_g_x0_0_0 w_r_w_g_x0_0_0 w_s_w_g_x0_0_0 w_p_w_g_x0_0_0 w_b_w_g_x0_1_0 w_r_w_g_x0_1_0 w_s_w_g_x0_1_0 w_p_w_g_x0_1_0)), .second, .val (.int (0 : Int32)), .val (.int (1 : Int32)), .val (.ref w_g_x0_0_0)] [])) _
        refine XS.goto X13.here hx rfl (pc0 := 81) (pc' := 17) rfl (hb hby d10_81) (by decide) (by decide) ?_
        show Steps p.tables e below (T13.setTop (mkF m 17 #[.val (.ref x0), .val (.int x1), .val (.long (f10_v14 x1 w_b_w_g_x0_0_0 w_r_w_g_x0_0_0 w_s_w_g_x0_0_0 w_p_w_g_x0_0_0 w_b_w_g_x0_1_0 w_r_w_g_x0_1_0 w_s_w_g_x0_1_0 w_p_w_g_x0_1_0)), .second, .val (.int (0 : Int32)), .val (.int (1 : Int32)), .val (.ref w_g_x0_0_0)] [])) _
        refine XS.iload X13.here hx rfl (hb hby d10_17) rfl ?_
        show Steps p.tables e below (T13.setTop (mkF m 19 #[.val (.ref x0), .val (.int x1), .val (.long (f10_v14 x1 w_b_w_g_x0_0_0 w_r_w_g_x0_0_0 w_s_w_g_x0_0_0 w_p_w_g_x0_0_0 w_b_w_g_x0_1_0 w_r_w_g_x0_1_0 w_s_w_g_x0_1_0 w_p_w_g_x0_1_0)), .second, .val (.int (0 : Int32)), .val (.int (1 : Int32)), .val (.ref w_g_x0_0_0)] [(.int (1 : Int32))])) _
        refine XS.aloadN X13.here hx rfl (hb hby d10_19) rfl rfl ?_
        show Steps p.tables e below (T13.setTop (mkF m 20 #[.val (.ref x0), .val (.int x1), .val (.long (f10_v14 x1 w_b_w_g_x0_0_0 w_r_w_g_x0_0_0 w_s_w_g_x0_0_0 w_p_w_g_x0_0_0 w_b_w_g_x0_1_0 w_r_w_g_x0_1_0 w_s_w_g_x0_1_0 w_p_w_g_x0_1_0)), .second, .val (.int (0 : Int32)), .val (.int (1 : Int32)), .val (.ref w_g_x0_0_0)] [(.ref x0), (.int (1 : Int32))])) _
        refine st15 _ ?_
        show Steps p.tables e below (T15.setTop (mkF m 23 #[.val (.ref x0), .val (.int x1), .val (.long (f10_v14 x1 w_b_w_g_x0_0_0 w_r_w_g_x0_0_0 w_s_w_g_x0_0_0 w_p_w_g_x0_0_0 w_b_w_g_x0_1_0 w_r_w_g_x0_1_0 w_s_w_g_x0_1_0 w_p_w_g_x0_1_0)), .second, .val (.int (0 : Int32)), .val (.int (1 : Int32)), .val (.ref w_g_x0_0_0)] [(.int (1 : Int32)), (.int (1 : Int32))])) _
        refine XS.icmpYes X15.here hx rfl (pc0 := 23) (pc' := 84) rfl (hb hby d10_23) rfl (by decide) (by decide) (by decide) ?_
        show Steps p.tables e below (T15.setTop (mkF m 84 #[.val (.ref x0), .val (.int x1), .val (.long (f10_v14 x1 w_b_w_g_x0_0_0 w_r_w_g_x0_0_0 w_s_w_g_x0_0_0 w_p_w_g_x0_0_0 w_b_w_g_x0_1_0 w_r_w_g_x0_1_0 w_s_w_g_x0_1_0 w_p_w_g_x0_1_0)), .second, .val (.int (0 : Int32)), .val (.int (1 : Int32)), .val (.ref w_g_x0_0_0)] [])) _
        refine XS.iinc X15.here hx rfl (hb hby d10_84) rfl (l' := #[.val (.ref x0), .val (.int x1), .val (.long (f10_v14 x1 w_b_w_g_x0_0_0 w_r_w_g_x0_0_0 w_s_w_g_x0_0_0 w_p_w_g_x0_0_0 w_b_w_g_x0_1_0 w_r_w_g_x0_1_0 w_s_w_g_x0_1_0 w_p_w_g_x0_1_0)), .second, .val (.int (1 : Int32)), .val (.int (1 : Int32)), .val (.ref w_g_x0_0_0)]) rfl ?_
        show Steps p.tables e below (T15.setTop (mkF m 87 #[.val (.ref x0), .val (.int x1), .val (.long (f10_v14 x1 w_b_w_g_x0_0_0 w_r_w_g_x0_0_0 w_s_w_g_x0_0_0 w_p_w_g_x0_0_0 w_b_w_g_x0_1_0 w_r_w_g_x0_1_0 w_s_w_g_x0_1_0 w_p_w_g_x0_1_0)), .second, .val (.int (1 : Int32)), .val (.int (1 : Int32)), .val (.ref w_g_x0_0_0)] [])) _
        refine XS.goto X15.here hx rfl (pc0 := 87) (pc' := 5) rfl (hb hby d10_87) (by decide) (by decide) ?_
        show Steps p.tables e below (T15.setTop (mkF m 5 #[.val (.ref x0), .val (.int x1), .val (.long (f10_v14 x1 w_b_w_g_x0_0_0 w_r_w_g_x0_0_0 w_s_w_g_x0_0_0 w_p_w_g_x0_0_0 w_b_w_g_x0_1_0 w_r_w_g_x0_1_0 w_s_w_g_x0_1_0 w_p_w_g_x0_1_0)), .second, .val (.int (1 : Int32)), .val (.int (1 : Int32)), .val (.ref w_g_x0_0_0)] [])) _
        refine XS.iload X15.here hx rfl (hb hby d10_5) rfl ?_
        show Steps p.tables e below (T15.setTop (mkF m 7 #[.val (.ref x0), .val (.int x1), .val (.long (f10_v14 x1 w_b_w_g_x0_0_0 w_r_w_g_x0_0_0 w_s_w_g_x0_0_0 w_p_w_g_x0_0_0 w_b_w_g_x0_1_0 w_r_w_g_x0_1_0 w_s_w_g_x0_1_0 w_p_w_g_x0_1_0)), .second, .val (.int (1 : Int32)), .val (.int (1 : Int32)), .val (.ref w_g_x0_0_0)] [(.int (1 : Int32))])) _
        refine XS.aloadN X15.here hx rfl (hb hby d10_7) rfl rfl ?_
        show Steps p.tables e below (T15.setTop (mkF m 8 #[.val (.ref x0), .val (.int x1), .val (.long (f10_v14 x1 w_b_w_g_x0_0_0 w_r_w_g_x0_0_0 w_s_w_g_x0_0_0 w_p_w_g_x0_0_0 w_b_w_g_x0_1_0 w_r_w_g_x0_1_0 w_s_w_g_x0_1_0 w_p_w_g_x0_1_0)), .second, .val (.int (1 : Int32)), .val (.int (1 : Int32)), .val (.ref w_g_x0_0_0)] [(.ref x0), (.int (1 : Int32))])) _
        refine st16 _ ?_
        show Steps p.tables e below (T16.setTop (mkF m 11 #[.val (.ref x0), .val (.int x1), .val (.long (f10_v14 x1 w_b_w_g_x0_0_0 w_r_w_g_x0_0_0 w_s_w_g_x0_0_0 w_p_w_g_x0_0_0 w_b_w_g_x0_1_0 w_r_w_g_x0_1_0 w_s_w_g_x0_1_0 w_p_w_g_x0_1_0)), .second, .val (.int (1 : Int32)), .val (.int (1 : Int32)), .val (.ref w_g_x0_0_0)] [(.int (2 : Int32)), (.int (1 : Int32))])) _
        refine XS.icmpNo X16.here hx rfl (hb hby d10_11) rfl (by decide) ?_
        show Steps p.tables e below (T16.setTop (mkF m 14 #[.val (.ref x0), .val (.int x1), .val (.long (f10_v14 x1 w_b_w_g_x0_0_0 w_r_w_g_x0_0_0 w_s_w_g_x0_0_0 w_p_w_g_x0_0_0 w_b_w_g_x0_1_0 w_r_w_g_x0_1_0 w_s_w_g_x0_1_0 w_p_w_g_x0_1_0)), .second, .val (.int (1 : Int32)), .val (.int (1 : Int32)), .val (.ref w_g_x0_0_0)] [])) _
        refine XS.iconst X16.here hx rfl (hb hby d10_14) ?_
        show Steps p.tables e below (T16.setTop (mkF m 15 #[.val (.ref x0), .val (.int x1), .val (.long (f10_v14 x1 w_b_w_g_x0_0_0 w_r_w_g_x0_0_0 w_s_w_g_x0_0_0 w_p_w_g_x0_0_0 w_b_w_g_x0_1_0 w_r_w_g_x0_1_0 w_s_w_g_x0_1_0 w_p_w_g_x0_1_0)), .second, .val (.int (1 : Int32)), .val (.int (1 : Int32)), .val (.ref w_g_x0_0_0)] [(.int (0 : Int32))])) _
        refine XS.istore X16.here hx rfl (hb hby d10_15) rfl (l' := #[.val (.ref x0), .val (.int x1), .val (.long (f10_v14 x1 w_b_w_g_x0_0_0 w_r_w_g_x0_0_0 w_s_w_g_x0_0_0 w_p_w_g_x0_0_0 w_b_w_g_x0_1_0 w_r_w_g_x0_1_0 w_s_w_g_x0_1_0 w_p_w_g_x0_1_0)), .second, .val (.int (1 : Int32)), .val (.int (0 : Int32)), .val (.ref w_g_x0_0_0)]) rfl ?_
        show Steps p.tables e below (T16.setTop (mkF m 17 #[.val (.ref x0), .val (.int x1), .val (.long (f10_v14 x1 w_b_w_g_x0_0_0 w_r_w_g_x0_0_0 w_s_w_g_x0_0_0 w_p_w_g_x0_0_0 w_b_w_g_x0_1_0 w_r_w_g_x0_1_0 w_s_w_g_x0_1_0 w_p_w_g_x0_1_0)), .second, .val (.int (1 : Int32)), .val (.int (0 : Int32)), .val (.ref w_g_x0_0_0)] [])) _
        refine XS.iload X16.here hx rfl (hb hby d10_17) rfl ?_
        show Steps p.tables e below (T16.setTop (mkF m 19 #[.val (.ref x0), .val (.int x1), .val (.long (f10_v14 x1 w_b_w_g_x0_0_0 w_r_w_g_x0_0_0 w_s_w_g_x0_0_0 w_p_w_g_x0_0_0 w_b_w_g_x0_1_0 w_r_w_g_x0_1_0 w_s_w_g_x0_1_0 w_p_w_g_x0_1_0)), .second, .val (.int (1 : Int32)), .val (.int (0 : Int32)), .val (.ref w_g_x0_0_0)] [(.int (0 : Int32))])) _
        refine XS.aloadN X16.here hx rfl (hb hby d10_19) rfl rfl ?_
        show Steps p.tables e below (T16.setTop (mkF m 20 #[.val (.ref x0), .val (.int x1), .val (.long (f10_v14 x1 w_b_w_g_x0_0_0 w_r_w_g_x0_0_0 w_s_w_g_x0_0_0 w_p_w_g_x0_0_0 w_b_w_g_x0_1_0 w_r_w_g_x0_1_0 w_s_w_g_x0_1_0 w_p_w_g_x0_1_0)), .second, .val (.int (1 : Int32)), .val (.int (0 : Int32)), .val (.ref w_g_x0_0_0)] [(.ref x0), (.int (0 : Int32))])) _
        refine st17 _ ?_
        show Steps p.tables e below (T17.setTop (mkF m 23 #[.val (.ref x0), .val (.int x1), .val (.long (f10_v14 x1 w_b_w_g_x0_0_0 w_r_w_g_x0_0_0 w_s_w_g_x0_0_0 w_p_w_g_x0_0_0 w_b_w_g_x0_1_0 w_r_w_g_x0_1_0 w_s_w_g_x0_1_0 w_p_w_g_x0_1_0)), .second, .val (.int (1 : Int32)), .val (.int (0 : Int32)), .val (.ref w_g_x0_0_0)] [(.int (1 : Int32)), (.int (0 : Int32))])) _
        refine XS.icmpNo X17.here hx rfl (hb hby d10_23) rfl (by decide) ?_
        show Steps p.tables e below (T17.setTop (mkF m 26 #[.val (.ref x0), .val (.int x1), .val (.long (f10_v14 x1 w_b_w_g_x0_0_0 w_r_w_g_x0_0_0 w_s_w_g_x0_0_0 w_p_w_g_x0_0_0 w_b_w_g_x0_1_0 w_r_w_g_x0_1_0 w_s_w_g_x0_1_0 w_p_w_g_x0_1_0)), .second, .val (.int (1 : Int32)), .val (.int (0 : Int32)), .val (.ref w_g_x0_0_0)] [])) _
        refine XS.aloadN X17.here hx rfl (hb hby d10_26) rfl rfl ?_
        show Steps p.tables e below (T17.setTop (mkF m 27 #[.val (.ref x0), .val (.int x1), .val (.long (f10_v14 x1 w_b_w_g_x0_0_0 w_r_w_g_x0_0_0 w_s_w_g_x0_0_0 w_p_w_g_x0_0_0 w_b_w_g_x0_1_0 w_r_w_g_x0_1_0 w_s_w_g_x0_1_0 w_p_w_g_x0_1_0)), .second, .val (.int (1 : Int32)), .val (.int (0 : Int32)), .val (.ref w_g_x0_0_0)] [(.ref x0)])) _
        refine st18 _ ?_
        show Steps p.tables e below (T18.setTop (mkF m 30 #[.val (.ref x0), .val (.int x1), .val (.long (f10_v14 x1 w_b_w_g_x0_0_0 w_r_w_g_x0_0_0 w_s_w_g_x0_0_0 w_p_w_g_x0_0_0 w_b_w_g_x0_1_0 w_r_w_g_x0_1_0 w_s_w_g_x0_1_0 w_p_w_g_x0_1_0)), .second, .val (.int (1 : Int32)), .val (.int (0 : Int32)), .val (.ref w_g_x0_0_0)] [(.ref w_g_x0)])) _
        refine XS.iload X18.here hx rfl (hb hby d10_30) rfl ?_
        show Steps p.tables e below (T18.setTop (mkF m 32 #[.val (.ref x0), .val (.int x1), .val (.long (f10_v14 x1 w_b_w_g_x0_0_0 w_r_w_g_x0_0_0 w_s_w_g_x0_0_0 w_p_w_g_x0_0_0 w_b_w_g_x0_1_0 w_r_w_g_x0_1_0 w_s_w_g_x0_1_0 w_p_w_g_x0_1_0)), .second, .val (.int (1 : Int32)), .val (.int (0 : Int32)), .val (.ref w_g_x0_0_0)] [(.int (1 : Int32)), (.ref w_g_x0)])) _
        refine X18.aaload hx (j := (1 : Int32)) (v := (.ref w_g_x0_1)) (by rw [e18]; exact Ar19.1) (State.isArrayOf_alike hZ.alike Ar19.2.1) rfl Ar19.2.2 hin19 (Has.at H19 hin19 rfl) (g := (mkF m 32 #[.val (.ref x0), .val (.int x1), .val (.long (f10_v14 x1 w_b_w_g_x0_0_0 w_r_w_g_x0_0_0 w_s_w_g_x0_0_0 w_p_w_g_x0_0_0 w_b_w_g_x0_1_0 w_r_w_g_x0_1_0 w_s_w_g_x0_1_0 w_p_w_g_x0_1_0)), .second, .val (.int (1 : Int32)), .val (.int (0 : Int32)), .val (.ref w_g_x0_0_0)] [(.int (1 : Int32)), (.ref w_g_x0)])) rfl rfl (hb hby d10_32) _ ?_
        show Steps p.tables e below (T18.setTop (mkF m 33 #[.val (.ref x0), .val (.int x1), .val (.long (f10_v14 x1 w_b_w_g_x0_0_0 w_r_w_g_x0_0_0 w_s_w_g_x0_0_0 w_p_w_g_x0_0_0 w_b_w_g_x0_1_0 w_r_w_g_x0_1_0 w_s_w_g_x0_1_0 w_p_w_g_x0_1_0)), .second, .val (.int (1 : Int32)), .val (.int (0 : Int32)), .val (.ref w_g_x0_0_0)] [(.ref w_g_x0_1)])) _
        refine XS.iload X18.here hx rfl (hb hby d10_33) rfl ?_
        show Steps p.tables e below (T18.setTop (mkF m 35 #[.val (.ref x0), .val (.int x1), .val (.long (f10_v14 x1 w_b_w_g_x0_0_0 w_r_w_g_x0_0_0 w_s_w_g_x0_0_0 w_p_w_g_x0_0_0 w_b_w_g_x0_1_0 w_r_w_g_x0_1_0 w_s_w_g_x0_1_0 w_p_w_g_x0_1_0)), .second, .val (.int (1 : Int32)), .val (.int (0 : Int32)), .val (.ref w_g_x0_0_0)] [(.int (0 : Int32)), (.ref w_g_x0_1)])) _
        refine X18.aaload hx (j := (0 : Int32)) (v := (.ref w_g_x0_1_0)) (by rw [e18]; exact Ar20.1) (State.isArrayOf_alike hZ.alike Ar20.2.1) rfl Ar20.2.2 hin20 (Has.at H20 hin20 rfl) (g := (mkF m 35 #[.val (.ref x0), .val (.int x1), .val (.long (f10_v14 x1 w_b_w_g_x0_0_0 w_r_w_g_x0_0_0 w_s_w_g_x0_0_0 w_p_w_g_x0_0_0 w_b_w_g_x0_1_0 w_r_w_g_x0_1_0 w_s_w_g_x0_1_0 w_p_w_g_x0_1_0)), .second, .val (.int (1 : Int32)), .val (.int (0 : Int32)), .val (.ref w_g_x0_0_0)] [(.int (0 : Int32)), (.ref w_g_x0_1)])) rfl rfl (hb hby d10_35) _ ?_
        show Steps p.tables e below (T18.setTop (mkF m 36 #[.val (.ref x0), .val (.int x1), .val (.long (f10_v14 x1 w_b_w_g_x0_0_0 w_r_w_g_x0_0_0 w_s_w_g_x0_0_0 w_p_w_g_x0_0_0 w_b_w_g_x0_1_0 w_r_w_g_x0_1_0 w_s_w_g_x0_1_0 w_p_w_g_x0_1_0)), .second, .val (.int (1 : Int32)), .val (.int (0 : Int32)), .val (.ref w_g_x0_0_0)] [(.ref w_g_x0_1_0)])) _
        refine XS.astore X18.here hx rfl (hb hby d10_36) rfl rfl (l' := #[.val (.ref x0), .val (.int x1), .val (.long (f10_v14 x1 w_b_w_g_x0_0_0 w_r_w_g_x0_0_0 w_s_w_g_x0_0_0 w_p_w_g_x0_0_0 w_b_w_g_x0_1_0 w_r_w_g_x0_1_0 w_s_w_g_x0_1_0 w_p_w_g_x0_1_0)), .second, .val (.int (1 : Int32)), .val (.int (0 : Int32)), .val (.ref w_g_x0_1_0)]) rfl ?_
        show Steps p.tables e below (T18.setTop (mkF m 38 #[.val (.ref x0), .val (.int x1), .val (.long (f10_v14 x1 w_b_w_g_x0_0_0 w_r_w_g_x0_0_0 w_s_w_g_x0_0_0 w_p_w_g_x0_0_0 w_b_w_g_x0_1_0 w_r_w_g_x0_1_0 w_s_w_g_x0_1_0 w_p_w_g_x0_1_0)), .second, .val (.int (1 : Int32)), .val (.int (0 : Int32)), .val (.ref w_g_x0_1_0)] [])) _
        refine XS.aload X18.here hx rfl (hb hby d10_38) rfl rfl ?_
        show Steps p.tables e below (T18.setTop (mkF m 40 #[.val (.ref x0), .val (.int x1), .val (.long (f10_v14 x1 w_b_w_g_x0_0_0 w_r_w_g_x0_0_0 w_s_w_g_x0_0_0 w_p_w_g_x0_0_0 w_b_w_g_x0_1_0 w_r_w_g_x0_1_0 w_s_w_g_x0_1_0 w_p_w_g_x0_1_0)), .second, .val (.int (1 : Int32)), .val (.int (0 : Int32)), .val (.ref w_g_x0_1_0)] [(.ref w_g_x0_1_0)])) _
        refine st21 _ ?_
        show Steps p.tables e below (T21.setTop (mkF m 43 #[.val (.ref x0), .val (.int x1), .val (.long (f10_v14 x1 w_b_w_g_x0_0_0 w_r_w_g_x0_0_0 w_s_w_g_x0_0_0 w_p_w_g_x0_0_0 w_b_w_g_x0_1_0 w_r_w_g_x0_1_0 w_s_w_g_x0_1_0 w_p_w_g_x0_1_0)), .second, .val (.int (1 : Int32)), .val (.int (0 : Int32)), .val (.ref w_g_x0_1_0)] [(.int w_b_w_g_x0_1_0)])) _
        refine XS.sipush X21.here hx rfl (hb hby d10_43) ?_
        exact k
      rcases Bool.eq_false_or_eq_true (if_icmp.holds .gt w_b_w_g_x0_1_0 (288 : Int32)) with hc23 | hc23
      · obtain ⟨fs, hr, hrun, hended, hW, hsame⟩ := X21.leave (v := some (.int (0 : Int32))) (fun h => by rw [hret] at h; cases h)
        refine ⟨_, _, pre22 _ ?_, hrun, hended, _, _, rfl, ?_, ⟨_, rfl⟩, hW, hsame.mono (by decide) (by decide)⟩
        · show Steps p.tables e below (T21.setTop (mkF m 46 #[.val (.ref x0), .val (.int x1), .val (.long (f10_v14 x1 w_b_w_g_x0_0_0 w_r_w_g_x0_0_0 w_s_w_g_x0_0_0 w_p_w_g_x0_0_0 w_b_w_g_x0_1_0 w_r_w_g_x0_1_0 w_s_w_g_x0_1_0 w_p_w_g_x0_1_0)), .second, .val (.int (1 : Int32)), .val (.int (0 : Int32)), .val (.ref w_g_x0_1_0)] [(.int (288 : Int32)), (.int w_b_w_g_x0_1_0)])) _
          refine XS.icmpYes X21.here hx rfl (pc0 := 46) (pc' := 67) rfl (hb hby d10_46) rfl hc23 (by decide) (by decide) ?_
          show Steps p.tables e below (T21.setTop (mkF m 67 #[.val (.ref x0), .val (.int x1), .val (.long (f10_v14 x1 w_b_w_g_x0_0_0 w_r_w_g_x0_0_0 w_s_w_g_x0_0_0 w_p_w_g_x0_0_0 w_b_w_g_x0_1_0 w_r_w_g_x0_1_0 w_s_w_g_x0_1_0 w_p_w_g_x0_1_0)), .second, .val (.int (1 : Int32)), .val (.int (0 : Int32)), .val (.ref w_g_x0_1_0)] [])) _
          refine XS.iconst X21.here hx rfl (hb hby d10_67) ?_
          show Steps p.tables e below (T21.setTop (mkF m 68 #[.val (.ref x0), .val (.int x1), .val (.long (f10_v14 x1 w_b_w_g_x0_0_0 w_r_w_g_x0_0_0 w_s_w_g_x0_0_0 w_p_w_g_x0_0_0 w_b_w_g_x0_1_0 w_r_w_g_x0_1_0 w_s_w_g_x0_1_0 w_p_w_g_x0_1_0)), .second, .val (.int (1 : Int32)), .val (.int (0 : Int32)), .val (.ref w_g_x0_1_0)] [(.int (0 : Int32))])) _
          exact retN X21 hx (t := .boolean) hret (by simp) (hb hby d10_68) hr
        · show Q10 Z x0 x1 w_g_x0 k_w_g_x0 w_g_x0_0 w_g_x0_1 k_w_g_x0_0 w_g_x0_0_0 w_g_x0_0_1 w_b_w_g_x0_0_0 w_r_w_g_x0_0_0 w_s_w_g_x0_0_0 w_p_w_g_x0_0_0 k_w_g_x0_1 w_g_x0_1_0 w_g_x0_1_1 w_b_w_g_x0_1_0 w_r_w_g_x0_1_0 w_s_w_g_x0_1_0 w_p_w_g_x0_1_0 h0 n0 _ T21.heap _
          rw [e21]
          have rr : f10 x1 w_b_w_g_x0_0_0 w_r_w_g_x0_0_0 w_s_w_g_x0_0_0 w_p_w_g_x0_0_0 w_b_w_g_x0_1_0 w_r_w_g_x0_1_0 w_s_w_g_x0_1_0 w_p_w_g_x0_1_0 = (0 : Int32) := Eq.trans (if_neg (own_nt hc8)) (Eq.trans (if_pos hc12) (if_pos hc23))
          exact ⟨congrArg (fun z => some (Value.int z)) rr.symm, N0, rfl⟩
      · obtain ⟨T24, X24, e24, st24⟩ := getF X21 hx hZ hown (host := "") (Or.inl (hw _ (List.mem_of_getElem? (i := 63) rfl))) Via.refl e21 F_w_g_x0_1_0_region0Count (g := (mkF m 51 #[.val (.ref x0), .val (.int x1), .val (.long (f10_v14 x1 w_b_w_g_x0_0_0 w_r_w_g_x0_0_0 w_s_w_g_x0_0_0 w_p_w_g_x0_0_0 w_b_w_g_x0_1_0 w_r_w_g_x0_1_0 w_s_w_g_x0_1_0 w_p_w_g_x0_1_0)), .second, .val (.int (1 : Int32)), .val (.int (0 : Int32)), .val (.ref w_g_x0_1_0)] [(.ref w_g_x0_1_0)])) rfl rfl (hb hby d10_51)
        obtain ⟨T25, X25, e25, st25⟩ := getF X24 hx hZ hown (host := "") (Or.inl (hw _ (List.mem_of_getElem? (i := 64) rfl))) Via.refl e24 F_w_g_x0_1_0_region1Count (g := (mkF m 56 #[.val (.ref x0), .val (.int x1), .val (.long (f10_v14 x1 w_b_w_g_x0_0_0 w_r_w_g_x0_0_0 w_s_w_g_x0_0_0 w_p_w_g_x0_0_0 w_b_w_g_x0_1_0 w_r_w_g_x0_1_0 w_s_w_g_x0_1_0 w_p_w_g_x0_1_0)), .second, .val (.int (1 : Int32)), .val (.int (0 : Int32)), .val (.ref w_g_x0_1_0)] [(.ref w_g_x0_1_0), (.int w_r_w_g_x0_1_0)])) rfl rfl (hb hby d10_56)
        have pre26 : ∀ t, Steps p.tables e below (T25.setTop (mkF m 64 #[.val (.ref x0), .val (.int x1), .val (.long (f10_v14 x1 w_b_w_g_x0_0_0 w_r_w_g_x0_0_0 w_s_w_g_x0_0_0 w_p_w_g_x0_0_0 w_b_w_g_x0_1_0 w_r_w_g_x0_1_0 w_s_w_g_x0_1_0 w_p_w_g_x0_1_0)), .second, .val (.int (1 : Int32)), .val (.int (0 : Int32)), .val (.ref w_g_x0_1_0)] [(.int (22 : Int32)), (.int ((w_r_w_g_x0_1_0 + w_s_w_g_x0_1_0) + (2 : Int32)))])) t → Steps p.tables e below (s₁.setTop (entryFrame m #[(.ref x0), (.int x1)] 7)) t := by
          intro t k
          refine pre22 _ ?_
          show Steps p.tables e below (T21.setTop (mkF m 46 #[.val (.ref x0), .val (.int x1), .val (.long (f10_v14 x1 w_b_w_g_x0_0_0 w_r_w_g_x0_0_0 w_s_w_g_x0_0_0 w_p_w_g_x0_0_0 w_b_w_g_x0_1_0 w_r_w_g_x0_1_0 w_s_w_g_x0_1_0 w_p_w_g_x0_1_0)), .second, .val (.int (1 : Int32)), .val (.int (0 : Int32)), .val (.ref w_g_x0_1_0)] [(.int (288 : Int32)), (.int w_b_w_g_x0_1_0)])) _
          refine XS.icmpNo X21.here hx rfl (hb hby d10_46) rfl hc23 ?_
          show Steps p.tables e below (T21.setTop (mkF m 49 #[.val (.ref x0), .val (.int x1), .val (.long (f10_v14 x1 w_b_w_g_x0_0_0 w_r_w_g_x0_0_0 w_s_w_g_x0_0_0 w_p_w_g_x0_0_0 w_b_w_g_x0_1_0 w_r_w_g_x0_1_0 w_s_w_g_x0_1_0 w_p_w_g_x0_1_0)), .second, .val (.int (1 : Int32)), .val (.int (0 : Int32)), .val (.ref w_g_x0_1_0)] [])) _
          refine XS.aload X21.here hx rfl (hb hby d10_49) rfl rfl ?_
          show Steps p.tables e below (T21.setTop (mkF m 51 #[.val (.ref x0), .val (.int x1), .val (.long (f10_v14 x1 w_b_w_g_x0_0_0 w_r_w_g_x0_0_0 w_s_w_g_x0_0_0 w_p_w_g_x0_0_0 w_b_w_g_x0_1_0 w_r_w_g_x0_1_0 w_s_w_g_x0_1_0 w_p_w_g_x0_1_0)), .second, .val (.int (1 : Int32)), .val (.int (0 : Int32)), .val (.ref w_g_x0_1_0)] [(.ref w_g_x0_1_0)])) _
          refine st24 _ ?_
          show Steps p.tables e below (T24.setTop (mkF m 54 #[.val (.ref x0), .val (.int x1), .val (.long (f10_v14 x1 w_b_w_g_x0_0_0 w_r_w_g_x0_0_0 w_s_w_g_x0_0_0 w_p_w_g_x0_0_0 w_b_w_g_x0_1_0 w_r_w_g_x0_1_0 w_s_w_g_x0_1_0 w_p_w_g_x0_1_0)), .second, .val (.int (1 : Int32)), .val (.int (0 : Int32)), .val (.ref w_g_x0_1_0)] [(.int w_r_w_g_x0_1_0)])) _
          refine XS.aload X24.here hx rfl (hb hby d10_54) rfl rfl ?_
          show Steps p.tables e below (T24.setTop (mkF m 56 #[.val (.ref x0), .val (.int x1), .val (.long (f10_v14 x1 w_b_w_g_x0_0_0 w_r_w_g_x0_0_0 w_s_w_g_x0_0_0 w_p_w_g_x0_0_0 w_b_w_g_x0_1_0 w_r_w_g_x0_1_0 w_s_w_g_x0_1_0 w_p_w_g_x0_1_0)), .second, .val (.int (1 : Int32)), .val (.int (0 : Int32)), .val (.ref w_g_x0_1_0)] [(.ref w_g_x0_1_0), (.int w_r_w_g_x0_1_0)])) _
          refine st25 _ ?_
          show Steps p.tables e below (T25.setTop (mkF m 59 #[.val (.ref x0), .val (.int x1), .val (.long (f10_v14 x1 w_b_w_g_x0_0_0 w_r_w_g_x0_0_0 w_s_w_g_x0_0_0 w_p_w_g_x0_0_0 w_b_w_g_x0_1_0 w_r_w_g_x0_1_0 w_s_w_g_x0_1_0 w_p_w_g_x0_1_0)), .second, .val (.int (1 : Int32)), .val (.int (0 : Int32)), .val (.ref w_g_x0_1_0)] [(.int w_s_w_g_x0_1_0), (.int w_r_w_g_x0_1_0)])) _
          refine XS.iadd X25.here hx rfl (hb hby d10_59) rfl ?_
          show Steps p.tables e below (T25.setTop (mkF m 60 #[.val (.ref x0), .val (.int x1), .val (.long (f10_v14 x1 w_b_w_g_x0_0_0 w_r_w_g_x0_0_0 w_s_w_g_x0_0_0 w_p_w_g_x0_0_0 w_b_w_g_x0_1_0 w_r_w_g_x0_1_0 w_s_w_g_x0_1_0 w_p_w_g_x0_1_0)), .second, .val (.int (1 : Int32)), .val (.int (0 : Int32)), .val (.ref w_g_x0_1_0)] [(.int (w_r_w_g_x0_1_0 + w_s_w_g_x0_1_0))])) _
          refine XS.iconst X25.here hx rfl (hb hby d10_60) ?_
          show Steps p.tables e below (T25.setTop (mkF m 61 #[.val (.ref x0), .val (.int x1), .val (.long (f10_v14 x1 w_b_w_g_x0_0_0 w_r_w_g_x0_0_0 w_s_w_g_x0_0_0 w_p_w_g_x0_0_0 w_b_w_g_x0_1_0 w_r_w_g_x0_1_0 w_s_w_g_x0_1_0 w_p_w_g_x0_1_0)), .second, .val (.int (1 : Int32)), .val (.int (0 : Int32)), .val (.ref w_g_x0_1_0)] [(.int (2 : Int32)), (.int (w_r_w_g_x0_1_0 + w_s_w_g_x0_1_0))])) _
          refine XS.iadd X25.here hx rfl (hb hby d10_61) rfl ?_
          show Steps p.tables e below (T25.setTop (mkF m 62 #[.val (.ref x0), .val (.int x1), .val (.long (f10_v14 x1 w_b_w_g_x0_0_0 w_r_w_g_x0_0_0 w_s_w_g_x0_0_0 w_p_w_g_x0_0_0 w_b_w_g_x0_1_0 w_r_w_g_x0_1_0 w_s_w_g_x0_1_0 w_p_w_g_x0_1_0)), .second, .val (.int (1 : Int32)), .val (.int (0 : Int32)), .val (.ref w_g_x0_1_0)] [(.int ((w_r_w_g_x0_1_0 + w_s_w_g_x0_1_0) + (2 : Int32)))])) _
          refine XS.bipush X25.here hx rfl (hb hby d10_62) ?_
          exact k
        rcases Bool.eq_false_or_eq_true (if_icmp.holds .le ((w_r_w_g_x0_1_0 + w_s_w_g_x0_1_0) + (2 : Int32)) (22 : Int32)) with hc27 | hc27
        · obtain ⟨T28, X28, e28, st28⟩ := getF X25 hx hZ hown (host := "") (Or.inl (hw _ (List.mem_of_getElem? (i := 65) rfl))) Via.refl e25 F_w_g_x0_1_0_part23Length (g := (mkF m 72 #[.val (.ref x0), .val (.int x1), .val (.long (f10_v14 x1 w_b_w_g_x0_0_0 w_r_w_g_x0_0_0 w_s_w_g_x0_0_0 w_p_w_g_x0_0_0 w_b_w_g_x0_1_0 w_r_w_g_x0_1_0 w_s_w_g_x0_1_0 w_p_w_g_x0_1_0)), .second, .val (.int (1 : Int32)), .val (.int (0 : Int32)), .val (.ref w_g_x0_1_0)] [(.ref w_g_x0_1_0), (.long (f10_v14 x1 w_b_w_g_x0_0_0 w_r_w_g_x0_0_0 w_s_w_g_x0_0_0 w_p_w_g_x0_0_0 w_b_w_g_x0_1_0 w_r_w_g_x0_1_0 w_s_w_g_x0_1_0 w_p_w_g_x0_1_0))])) rfl rfl (hb hby d10_72)
          obtain ⟨T30, X30, e30, st30⟩ := getF X28 hx hZ hown (host := "") (Or.inl (hw _ (List.mem_of_getElem? (i := 61) rfl))) Via.refl e28 F_x0_channelCount (g := (mkF m 20 #[.val (.ref x0), .val (.int x1), .val (.long (f10_v29 x1 w_b_w_g_x0_0_0 w_r_w_g_x0_0_0 w_s_w_g_x0_0_0 w_p_w_g_x0_0_0 w_b_w_g_x0_1_0 w_r_w_g_x0_1_0 w_s_w_g_x0_1_0 w_p_w_g_x0_1_0)), .second, .val (.int (1 : Int32)), .val (.int (1 : Int32)), .val (.ref w_g_x0_1_0)] [(.ref x0), (.int (1 : Int32))])) rfl rfl (hb hby d10_20)
          obtain ⟨T31, X31, e31, st31⟩ := getF X30 hx hZ hown (host := "") (Or.inl (hw _ (List.mem_of_getElem? (i := 60) rfl))) Via.refl e30 F_x0_granuleCount (g := (mkF m 8 #[.val (.ref x0), .val (.int x1), .val (.long (f10_v29 x1 w_b_w_g_x0_0_0 w_r_w_g_x0_0_0 w_s_w_g_x0_0_0 w_p_w_g_x0_0_0 w_b_w_g_x0_1_0 w_r_w_g_x0_1_0 w_s_w_g_x0_1_0 w_p_w_g_x0_1_0)), .second, .val (.int (2 : Int32)), .val (.int (1 : Int32)), .val (.ref w_g_x0_1_0)] [(.ref x0), (.int (2 : Int32))])) rfl rfl (hb hby d10_8)
          have pre32 : ∀ t, Steps p.tables e below (T31.setTop (mkF m 98 #[.val (.ref x0), .val (.int x1), .val (.long (f10_v29 x1 w_b_w_g_x0_0_0 w_r_w_g_x0_0_0 w_s_w_g_x0_0_0 w_p_w_g_x0_0_0 w_b_w_g_x0_1_0 w_r_w_g_x0_1_0 w_s_w_g_x0_1_0 w_p_w_g_x0_1_0)), .second, .val (.int (2 : Int32)), .val (.int (1 : Int32)), .val (.ref w_g_x0_1_0)] [(.int (own_cmp (f10_v29 x1 w_b_w_g_x0_0_0 w_r_w_g_x0_0_0 w_s_w_g_x0_0_0 w_p_w_g_x0_0_0 w_b_w_g_x0_1_0 w_r_w_g_x0_1_0 w_s_w_g_x0_1_0 w_p_w_g_x0_1_0) ((8 : Int64) * (x1.toInt64))))])) t → Steps p.tables e below (s₁.setTop (entryFrame m #[(.ref x0), (.int x1)] 7)) t := by
            intro t k
            refine pre26 _ ?_
            show Steps p.tables e below (T25.setTop (mkF m 64 #[.val (.ref x0), .val (.int x1), .val (.long (f10_v14 x1 w_b_w_g_x0_0_0 w_r_w_g_x0_0_0 w_s_w_g_x0_0_0 w_p_w_g_x0_0_0 w_b_w_g_x0_1_0 w_r_w_g_x0_1_0 w_s_w_g_x0_1_0 w_p_w_g_x0_1_0)), .second, .val (.int (1 : Int32)), .val (.int (0 : Int32)), .val (.ref w_g_x0_1_0)] [(.int (22 : Int32)), (.int ((w_r_w_g_x0_1_0 + w_s_w_g_x0_1_0) + (2 : Int32)))])) _
            refine XS.icmpYes X25.here hx rfl (pc0 := 64) (pc' := 69) rfl (hb hby d10_64) rfl hc27 (by decide) (by decide) ?_
            show Steps p.tables e below (T25.setTop (mkF m 69 #[.val (.ref x0), .val (.int x1), .val (.long (f10_v14 x1 w_b_w_g_x0_0_0 w_r_w_g_x0_0_0 w_s_w_g_x0_0_0 w_p_w_g_x0_0_0 w_b_w_g_x0_1_0 w_r_w_g_x0_1_0 w_s_w_g_x0_1_0 w_p_w_g_x0_1_0)), .second, .val (.int (1 : Int32)), .val (.int (0 : Int32)), .val (.ref w_g_x0_1_0)] [])) _
            refine XS.lloadN X25.here hx rfl (hb hby d10_69) rfl ?_
            show Steps p.tables e below (T25.setTop (mkF m 70 #[.val (.ref x0), .val (.int x1), .val (.long (f10_v14 x1 w_b_w_g_x0_0_0 w_r_w_g_x0_0_0 w_s_w_g_x0_0_0 w_p_w_g_x0_0_0 w_b_w_g_x0_1_0 w_r_w_g_x0_1_0 w_s_w_g_x0_1_0 w_p_w_g_x0_1_0)), .second, .val (.int (1 : Int32)), .val (.int (0 : Int32)), .val (.ref w_g_x0_1_0)] [(.long (f10_v14 x1 w_b_w_g_x0_0_0 w_r_w_g_x0_0_0 w_s_w_g_x0_0_0 w_p_w_g_x0_0_0 w_b_w_g_x0_1_0 w_r_w_g_x0_1_0 w_s_w_g_x0_1_0 w_p_w_g_x0_1_0))])) _
            refine XS.aload X25.here hx rfl (hb hby d10_70) rfl rfl ?_
            show Steps p.tables e below (T25.setTop (mkF m 72 #[.val (.ref x0), .val (.int x1), .val (.long (f10_v14 x1 w_b_w_g_x0_0_0 w_r_w_g_x0_0_0 w_s_w_g_x0_0_0 w_p_w_g_x0_0_0 w_b_w_g_x0_1_0 w_r_w_g_x0_1_0 w_s_w_g_x0_1_0 w_p_w_g_x0_1_0)), .second, .val (.int (1 : Int32)), .val (.int (0 : Int32)), .val (.ref w_g_x0_1_0)] [(.ref w_g_x0_1_0), (.long (f10_v14 x1 w_b_w_g_x0_0_0 w_r_w_g_x0_0_0 w_s_w_g_x0_0_0 w_p_w_g_x0_0_0 w_b_w_g_x0_1_0 w_r_w_g_x0_1_0 w_s_w_g_x0_1_0 w_p_w_g_x0_1_0))])) _
            refine st28 _ ?_
            show Steps p.tables e below (T28.setTop (mkF m 75 #[.val (.ref x0), .val (.int x1), .val (.long (f10_v14 x1 w_b_w_g_x0_0_0 w_r_w_g_x0_0_0 w_s_w_g_x0_0_0 w_p_w_g_x0_0_0 w_b_w_g_x0_1_0 w_r_w_g_x0_1_0 w_s_w_g_x0_1_0 w_p_w_g_x0_1_0)), .second, .val (.int (1 : Int32)), .val (.int (0 : Int32)), .val (.ref w_g_x0_1_0)] [(.int w_p_w_g_x0_1_0), (.long (f10_v14 x1 w_b_w_g_x0_0_0 w_r_w_g_x0_0_0 w_s_w_g_x0_0_0 w_p_w_g_x0_0_0 w_b_w_g_x0_1_0 w_r_w_g_x0_1_0 w_s_w_g_x0_1_0 w_p_w_g_x0_1_0))])) _
            refine XS.i2l X28.here hx rfl (hb hby d10_75) rfl ?_
            show Steps p.tables e below (T28.setTop (mkF m 76 #[.val (.ref x0), .val (.int x1), .val (.long (f10_v14 x1 w_b_w_g_x0_0_0 w_r_w_g_x0_0_0 w_s_w_g_x0_0_0 w_p_w_g_x0_0_0 w_b_w_g_x0_1_0 w_r_w_g_x0_1_0 w_s_w_g_x0_1_0 w_p_w_g_x0_1_0)), .second, .val (.int (1 : Int32)), .val (.int (0 : Int32)), .val (.ref w_g_x0_1_0)] [(.long (w_p_w_g_x0_1_0.toInt64)), (.long (f10_v14 x1 w_b_w_g_x0_0_0 w_r_w_g_x0_0_0 w_s_w_g_x0_0_0 w_p_w_g_x0_0_0 w_b_w_g_x0_1_0 w_r_w_g_x0_1_0 w_s_w_g_x0_1_0 w_p_w_g_x0_1_0))])) _
            refine XS.ladd X28.here hx rfl (hb hby d10_76) rfl ?_
            show Steps p.tables e below (T28.setTop (mkF m 77 #[.val (.ref x0), .val (.int x1), .val (.long (f10_v14 x1 w_b_w_g_x0_0_0 w_r_w_g_x0_0_0 w_s_w_g_x0_0_0 w_p_w_g_x0_0_0 w_b_w_g_x0_1_0 w_r_w_g_x0_1_0 w_s_w_g_x0_1_0 w_p_w_g_x0_1_0)), .second, .val (.int (1 : Int32)), .val (.int (0 : Int32)), .val (.ref w_g_x0_1_0)] [(.long ((f10_v14 x1 w_b_w_g_x0_0_0 w_r_w_g_x0_0_0 w_s_w_g_x0_0_0 w_p_w_g_x0_0_0 w_b_w_g_x0_1_0 w_r_w_g_x0_1_0 w_s_w_g_x0_1_0 w_p_w_g_x0_1_0) + (w_p_w_g_x0_1_0.toInt64)))])) _
            refine XS.lstoreN X28.here hx rfl (hb hby d10_77) rfl (l' := #[.val (.ref x0), .val (.int x1), .val (.long (f10_v29 x1 w_b_w_g_x0_0_0 w_r_w_g_x0_0_0 w_s_w_g_x0_0_0 w_p_w_g_x0_0_0 w_b_w_g_x0_1_0 w_r_w_g_x0_1_0 w_s_w_g_x0_1_0 w_p_w_g_x0_1_0)), .second, .val (.int (1 : Int32)), .val (.int (0 : Int32)), .val (.ref w_g_x0_1_0)]) rfl ?_
            show Steps p.tables e below (T28.setTop (mkF m 78 #[.val (.ref x0), .val (.int x1), .val (.long (f10_v29 x1 w_b_w_g_x0_0_0 w_r_w_g_x0_0_0 w_s_w_g_x0_0_0 w_p_w_g_x0_0_0 w_b_w_g_x0_1_0 w_r_w_g_x0_1_0 w_s_w_g_x0_1_0 w_p_w_g_x0_1_0)), .second, .val (.int (1 : Int32)), .val (.int (0 : Int32)), .val (.ref w_g_x0_1_0)] [])) _
            refine XS.iinc X28.here hx rfl (hb hby d10_78) rfl (l' := #[.val (.ref x0), .val (.int x1), .val (.long (f10_v29 x1 w_b_w_g_x0_0_0 w_r_w_g_x0_0_0 w_s_w_g_x0_0_0 w_p_w_g_x0_0_0 w_b_w_g_x0_1_0 w_r_w_g_x0_1_0 w_s_w_g_x0_1_0 w_p_w_g_x0_1_0)), .second, .val (.int (1 : Int32)), .val (.int (1 : Int32)), .val (.ref w_g_x0_1_0)]) rfl ?_
            show Steps p.tables e below (T28.setTop (mkF m 81 #[.val (.ref x0), .val (.int x1), .val (.long (f10_v29 x1 w_b_w_g_x0_0_0 w_r_w_g_x0_0_0 w_s_w_g_x0_0_0 w_p_w_g_x0_0_0 w_b_w_g_x0_1_0 w_r_w_g_x0_1_0 w_s_w_g_x0_1_0 w_p_w_g_x0_1_0)), .second, .val (.int (1 : Int32)), .val (.int (1 : Int32)), .val (.ref w_g_x0_1_0)] [])) _
            refine XS.goto X28.here hx rfl (pc0 := 81) (pc' := 17) rfl (hb hby d10_81) (by decide) (by decide) ?_
            show Steps p.tables e below (T28.setTop (mkF m 17 #[.val (.ref x0), .val (.int x1), .val (.long (f10_v29 x1 w_b_w_g_x0_0_0 w_r_w_g_x0_0_0 w_s_w_g_x0_0_0 w_p_w_g_x0_0_0 w_b_w_g_x0_1_0 w_r_w_g_x0_1_0 w_s_w_g_x0_1_0 w_p_w_g_x0_1_0)), .second, .val (.int (1 : Int32)), .val (.int (1 : Int32)), .val (.ref w_g_x0_1_0)] [])) _
            refine XS.iload X28.here hx rfl (hb hby d10_17) rfl ?_
            show Steps p.tables e below (T28.setTop (mkF m 19 #[.val (.ref x0), .val (.int x1), .val (.long (f10_v29 x1 w_b_w_g_x0_0_0 w_r_w_g_x0_0_0 w_s_w_g_x0_0_0 w_p_w_g_x0_0_0 w_b_w_g_x0_1_0 w_r_w_g_x0_1_0 w_s_w_g_x0_1_0 w_p_w_g_x0_1_0)), .second, .val (.int (1 : Int32)), .val (.int (1 : Int32)), .val (.ref w_g_x0_1_0)] [(.int (1 : Int32))])) _
            refine XS.aloadN X28.here hx rfl (hb hby d10_19) rfl rfl ?_
            show Steps p.tables e below (T28.setTop (mkF m 20 #[.val (.ref x0), .val (.int x1), .val (.long (f10_v29 x1 w_b_w_g_x0_0_0 w_r_w_g_x0_0_0 w_s_w_g_x0_0_0 w_p_w_g_x0_0_0 w_b_w_g_x0_1_0 w_r_w_g_x0_1_0 w_s_w_g_x0_1_0 w_p_w_g_x0_1_0)), .second, .val (.int (1 : Int32)), .val (.int (1 : Int32)), .val (.ref w_g_x0_1_0)] [(.ref x0), (.int (1 : Int32))])) _
            refine st30 _ ?_
            show Steps p.tables e below (T30.setTop (mkF m 23 #[.val (.ref x0), .val (.int x1), .val (.long (f10_v29 x1 w_b_w_g_x0_0_0 w_r_w_g_x0_0_0 w_s_w_g_x0_0_0 w_p_w_g_x0_0_0 w_b_w_g_x0_1_0 w_r_w_g_x0_1_0 w_s_w_g_x0_1_0 w_p_w_g_x0_1_0)), .second, .val (.int (1 : Int32)), .val (.int (1 : Int32)), .val (.ref w_g_x0_1_0)] [(.int (1 : Int32)), (.int (1 : Int32))])) _
            refine XS.icmpYes X30.here hx rfl (pc0 := 23) (pc' := 84) rfl (hb hby d10_23) rfl (by decide) (by decide) (by decide) ?_
            show Steps p.tables e below (T30.setTop (mkF m 84 #[.val (.ref x0), .val (.int x1), .val (.long (f10_v29 x1 w_b_w_g_x0_0_0 w_r_w_g_x0_0_0 w_s_w_g_x0_0_0 w_p_w_g_x0_0_0 w_b_w_g_x0_1_0 w_r_w_g_x0_1_0 w_s_w_g_x0_1_0 w_p_w_g_x0_1_0)), .second, .val (.int (1 : Int32)), .val (.int (1 : Int32)), .val (.ref w_g_x0_1_0)] [])) _
            refine XS.iinc X30.here hx rfl (hb hby d10_84) rfl (l' := #[.val (.ref x0), .val (.int x1), .val (.long (f10_v29 x1 w_b_w_g_x0_0_0 w_r_w_g_x0_0_0 w_s_w_g_x0_0_0 w_p_w_g_x0_0_0 w_b_w_g_x0_1_0 w_r_w_g_x0_1_0 w_s_w_g_x0_1_0 w_p_w_g_x0_1_0)), .second, .val (.int (2 : Int32)), .val (.int (1 : Int32)), .val (.ref w_g_x0_1_0)]) rfl ?_
            show Steps p.tables e below (T30.setTop (mkF m 87 #[.val (.ref x0), .val (.int x1), .val (.long (f10_v29 x1 w_b_w_g_x0_0_0 w_r_w_g_x0_0_0 w_s_w_g_x0_0_0 w_p_w_g_x0_0_0 w_b_w_g_x0_1_0 w_r_w_g_x0_1_0 w_s_w_g_x0_1_0 w_p_w_g_x0_1_0)), .second, .val (.int (2 : Int32)), .val (.int (1 : Int32)), .val (.ref w_g_x0_1_0)] [])) _
            refine XS.goto X30.here hx rfl (pc0 := 87) (pc' := 5) rfl (hb hby d10_87) (by decide) (by decide) ?_
            show Steps p.tables e below (T30.setTop (mkF m 5 #[.val (.ref x0), .val (.int x1), .val (.long (f10_v29 x1 w_b_w_g_x0_0_0 w_r_w_g_x0_0_0 w_s_w_g_x0_0_0 w_p_w_g_x0_0_0 w_b_w_g_x0_1_0 w_r_w_g_x0_1_0 w_s_w_g_x0_1_0 w_p_w_g_x0_1_0)), .second, .val (.int (2 : Int32)), .val (.int (1 : Int32)), .val (.ref w_g_x0_1_0)] [])) _
            refine XS.iload X30.here hx rfl (hb hby d10_5) rfl ?_
            show Steps p.tables e below (T30.setTop (mkF m 7 #[.val (.ref x0), .val (.int x1), .val (.long (f10_v29 x1 w_b_w_g_x0_0_0 w_r_w_g_x0_0_0 w_s_w_g_x0_0_0 w_p_w_g_x0_0_0 w_b_w_g_x0_1_0 w_r_w_g_x0_1_0 w_s_w_g_x0_1_0 w_p_w_g_x0_1_0)), .second, .val (.int (2 : Int32)), .val (.int (1 : Int32)), .val (.ref w_g_x0_1_0)] [(.int (2 : Int32))])) _
            refine XS.aloadN X30.here hx rfl (hb hby d10_7) rfl rfl ?_
            show Steps p.tables e below (T30.setTop (mkF m 8 #[.val (.ref x0), .val (.int x1), .val (.long (f10_v29 x1 w_b_w_g_x0_0_0 w_r_w_g_x0_0_0 w_s_w_g_x0_0_0 w_p_w_g_x0_0_0 w_b_w_g_x0_1_0 w_r_w_g_x0_1_0 w_s_w_g_x0_1_0 w_p_w_g_x0_1_0)), .second, .val (.int (2 : Int32)), .val (.int (1 : Int32)), .val (.ref w_g_x0_1_0)] [(.ref x0), (.int (2 : Int32))])) _
            refine st31 _ ?_
            show Steps p.tables e below (T31.setTop (mkF m 11 #[.val (.ref x0), .val (.int x1), .val (.long (f10_v29 x1 w_b_w_g_x0_0_0 w_r_w_g_x0_0_0 w_s_w_g_x0_0_0 w_p_w_g_x0_0_0 w_b_w_g_x0_1_0 w_r_w_g_x0_1_0 w_s_w_g_x0_1_0 w_p_w_g_x0_1_0)), .second, .val (.int (2 : Int32)), .val (.int (1 : Int32)), .val (.ref w_g_x0_1_0)] [(.int (2 : Int32)), (.int (2 : Int32))])) _
            refine XS.icmpYes X31.here hx rfl (pc0 := 11) (pc' := 90) rfl (hb hby d10_11) rfl (by decide) (by decide) (by decide) ?_
            show Steps p.tables e below (T31.setTop (mkF m 90 #[.val (.ref x0), .val (.int x1), .val (.long (f10_v29 x1 w_b_w_g_x0_0_0 w_r_w_g_x0_0_0 w_s_w_g_x0_0_0 w_p_w_g_x0_0_0 w_b_w_g_x0_1_0 w_r_w_g_x0_1_0 w_s_w_g_x0_1_0 w_p_w_g_x0_1_0)), .second, .val (.int (2 : Int32)), .val (.int (1 : Int32)), .val (.ref w_g_x0_1_0)] [])) _
            refine XS.lloadN X31.here hx rfl (hb hby d10_90) rfl ?_
            show Steps p.tables e below (T31.setTop (mkF m 91 #[.val (.ref x0), .val (.int x1), .val (.long (f10_v29 x1 w_b_w_g_x0_0_0 w_r_w_g_x0_0_0 w_s_w_g_x0_0_0 w_p_w_g_x0_0_0 w_b_w_g_x0_1_0 w_r_w_g_x0_1_0 w_s_w_g_x0_1_0 w_p_w_g_x0_1_0)), .second, .val (.int (2 : Int32)), .val (.int (1 : Int32)), .val (.ref w_g_x0_1_0)] [(.long (f10_v29 x1 w_b_w_g_x0_0_0 w_r_w_g_x0_0_0 w_s_w_g_x0_0_0 w_p_w_g_x0_0_0 w_b_w_g_x0_1_0 w_r_w_g_x0_1_0 w_s_w_g_x0_1_0 w_p_w_g_x0_1_0))])) _
            refine X31.ldc2Long hx hown (mvT hZ (hw _ (List.mem_of_getElem? (i := 66) rfl))) (g := (mkF m 91 #[.val (.ref x0), .val (.int x1), .val (.long (f10_v29 x1 w_b_w_g_x0_0_0 w_r_w_g_x0_0_0 w_s_w_g_x0_0_0 w_p_w_g_x0_0_0 w_b_w_g_x0_1_0 w_r_w_g_x0_1_0 w_s_w_g_x0_1_0 w_p_w_g_x0_1_0)), .second, .val (.int (2 : Int32)), .val (.int (1 : Int32)), .val (.ref w_g_x0_1_0)] [(.long (f10_v29 x1 w_b_w_g_x0_0_0 w_r_w_g_x0_0_0 w_s_w_g_x0_0_0 w_p_w_g_x0_0_0 w_b_w_g_x0_1_0 w_r_w_g_x0_1_0 w_s_w_g_x0_1_0 w_p_w_g_x0_1_0))])) rfl (hb hby d10_91) _ ?_
            show Steps p.tables e below (T31.setTop (mkF m 94 #[.val (.ref x0), .val (.int x1), .val (.long (f10_v29 x1 w_b_w_g_x0_0_0 w_r_w_g_x0_0_0 w_s_w_g_x0_0_0 w_p_w_g_x0_0_0 w_b_w_g_x0_1_0 w_r_w_g_x0_1_0 w_s_w_g_x0_1_0 w_p_w_g_x0_1_0)), .second, .val (.int (2 : Int32)), .val (.int (1 : Int32)), .val (.ref w_g_x0_1_0)] [(.long (8 : Int64)), (.long (f10_v29 x1 w_b_w_g_x0_0_0 w_r_w_g_x0_0_0 w_s_w_g_x0_0_0 w_p_w_g_x0_0_0 w_b_w_g_x0_1_0 w_r_w_g_x0_1_0 w_s_w_g_x0_1_0 w_p_w_g_x0_1_0))])) _
            refine XS.iloadN X31.here hx rfl (hb hby d10_94) rfl ?_
            show Steps p.tables e below (T31.setTop (mkF m 95 #[.val (.ref x0), .val (.int x1), .val (.long (f10_v29 x1 w_b_w_g_x0_0_0 w_r_w_g_x0_0_0 w_s_w_g_x0_0_0 w_p_w_g_x0_0_0 w_b_w_g_x0_1_0 w_r_w_g_x0_1_0 w_s_w_g_x0_1_0 w_p_w_g_x0_1_0)), .second, .val (.int (2 : Int32)), .val (.int (1 : Int32)), .val (.ref w_g_x0_1_0)] [(.int x1), (.long (8 : Int64)), (.long (f10_v29 x1 w_b_w_g_x0_0_0 w_r_w_g_x0_0_0 w_s_w_g_x0_0_0 w_p_w_g_x0_0_0 w_b_w_g_x0_1_0 w_r_w_g_x0_1_0 w_s_w_g_x0_1_0 w_p_w_g_x0_1_0))])) _
            refine XS.i2l X31.here hx rfl (hb hby d10_95) rfl ?_
            show Steps p.tables e below (T31.setTop (mkF m 96 #[.val (.ref x0), .val (.int x1), .val (.long (f10_v29 x1 w_b_w_g_x0_0_0 w_r_w_g_x0_0_0 w_s_w_g_x0_0_0 w_p_w_g_x0_0_0 w_b_w_g_x0_1_0 w_r_w_g_x0_1_0 w_s_w_g_x0_1_0 w_p_w_g_x0_1_0)), .second, .val (.int (2 : Int32)), .val (.int (1 : Int32)), .val (.ref w_g_x0_1_0)] [(.long (x1.toInt64)), (.long (8 : Int64)), (.long (f10_v29 x1 w_b_w_g_x0_0_0 w_r_w_g_x0_0_0 w_s_w_g_x0_0_0 w_p_w_g_x0_0_0 w_b_w_g_x0_1_0 w_r_w_g_x0_1_0 w_s_w_g_x0_1_0 w_p_w_g_x0_1_0))])) _
            refine XS.lmul X31.here hx rfl (hb hby d10_96) rfl ?_
            show Steps p.tables e below (T31.setTop (mkF m 97 #[.val (.ref x0), .val (.int x1), .val (.long (f10_v29 x1 w_b_w_g_x0_0_0 w_r_w_g_x0_0_0 w_s_w_g_x0_0_0 w_p_w_g_x0_0_0 w_b_w_g_x0_1_0 w_r_w_g_x0_1_0 w_s_w_g_x0_1_0 w_p_w_g_x0_1_0)), .second, .val (.int (2 : Int32)), .val (.int (1 : Int32)), .val (.ref w_g_x0_1_0)] [(.long ((8 : Int64) * (x1.toInt64))), (.long (f10_v29 x1 w_b_w_g_x0_0_0 w_r_w_g_x0_0_0 w_s_w_g_x0_0_0 w_p_w_g_x0_0_0 w_b_w_g_x0_1_0 w_r_w_g_x0_1_0 w_s_w_g_x0_1_0 w_p_w_g_x0_1_0))])) _
            refine own_xlcmp X31.here hx rfl (hb hby d10_97) rfl ?_
            exact k
          obtain ⟨T35, L35, X35, N35, e35, pre35⟩ : ∃ (T' : State) (L' : List Loc), Stand p l e ({ frames := 0, cells := 0, slots := 0, locals := 0 } : Room) s m #[(.ref x0), (.int x1)] below meth c T' L' 0 0 ∧ Fr n0 L' ∧ T'.heap = h0 ∧ ∀ t, Steps p.tables e below (T'.setTop (mkF m 106 #[.val (.ref x0), .val (.int x1), .val (.long (f10_v29 x1 w_b_w_g_x0_0_0 w_r_w_g_x0_0_0 w_s_w_g_x0_0_0 w_p_w_g_x0_0_0 w_b_w_g_x0_1_0 w_r_w_g_x0_1_0 w_s_w_g_x0_1_0 w_p_w_g_x0_1_0)), .second, .val (.int (2 : Int32)), .val (.int (1 : Int32)), .val (.ref w_g_x0_1_0)] [(.int (f10_j34 x1 w_b_w_g_x0_0_0 w_r_w_g_x0_0_0 w_s_w_g_x0_0_0 w_p_w_g_x0_0_0 w_b_w_g_x0_1_0 w_r_w_g_x0_1_0 w_s_w_g_x0_1_0 w_p_w_g_x0_1_0))])) t → Steps p.tables e below (s₁.setTop (entryFrame m #[(.ref x0), (.int x1)] 7)) t := by
            rcases Bool.eq_false_or_eq_true (ifCond.holds .gt (own_cmp (f10_v29 x1 w_b_w_g_x0_0_0 w_r_w_g_x0_0_0 w_s_w_g_x0_0_0 w_p_w_g_x0_0_0 w_b_w_g_x0_1_0 w_r_w_g_x0_1_0 w_s_w_g_x0_1_0 w_p_w_g_x0_1_0) ((8 : Int64) * (x1.toInt64)))) with hc33 | hc33
            · have pre36 : ∀ t, Steps p.tables e below (T31.setTop (mkF m 106 #[.val (.ref x0), .val (.int x1), .val (.long (f10_v29 x1 w_b_w_g_x0_0_0 w_r_w_g_x0_0_0 w_s_w_g_x0_0_0 w_p_w_g_x0_0_0 w_b_w_g_x0_1_0 w_r_w_g_x0_1_0 w_s_w_g_x0_1_0 w_p_w_g_x0_1_0)), .second, .val (.int (2 : Int32)), .val (.int (1 : Int32)), .val (.ref w_g_x0_1_0)] [(.int (0 : Int32))])) t → Steps p.tables e below (s₁.setTop (entryFrame m #[(.ref x0), (.int x1)] 7)) t := by
                intro t k
                refine pre32 _ ?_
                show Steps p.tables e below (T31.setTop (mkF m 98 #[.val (.ref x0), .val (.int x1), .val (.long (f10_v29 x1 w_b_w_g_x0_0_0 w_r_w_g_x0_0_0 w_s_w_g_x0_0_0 w_p_w_g_x0_0_0 w_b_w_g_x0_1_0 w_r_w_g_x0_1_0 w_s_w_g_x0_1_0 w_p_w_g_x0_1_0)), .second, .val (.int (2 : Int32)), .val (.int (1 : Int32)), .val (.ref w_g_x0_1_0)] [(.int (own_cmp (f10_v29 x1 w_b_w_g_x0_0_0 w_r_w_g_x0_0_0 w_s_w_g_x0_0_0 w_p_w_g_x0_0_0 w_b_w_g_x0_1_0 w_r_w_g_x0_1_0 w_s_w_g_x0_1_0 w_p_w_g_x0_1_0) ((8 : Int64) * (x1.toInt64))))])) _
                refine XS.ifYes X31.here hx rfl (pc0 := 98) (pc' := 105) rfl (hb hby d10_98) rfl hc33 (by decide) (by decide) ?_
                show Steps p.tables e below (T31.setTop (mkF m 105 #[.val (.ref x0), .val (.int x1), .val (.long (f10_v29 x1 w_b_w_g_x0_0_0 w_r_w_g_x0_0_0 w_s_w_g_x0_0_0 w_p_w_g_x0_0_0 w_b_w_g_x0_1_0 w_r_w_g_x0_1_0 w_s_w_g_x0_1_0 w_p_w_g_x0_1_0)), .second, .val (.int (2 : Int32)), .val (.int (1 : Int32)), .val (.ref w_g_x0_1_0)] [])) _
                refine XS.iconst X31.here hx rfl (hb hby d10_105) ?_
                exact k
              have qj0 : (f10_j34 x1 w_b_w_g_x0_0_0 w_r_w_g_x0_0_0 w_s_w_g_x0_0_0 w_p_w_g_x0_0_0 w_b_w_g_x0_1_0 w_r_w_g_x0_1_0 w_s_w_g_x0_1_0 w_p_w_g_x0_1_0) = (0 : Int32) := if_pos hc33
              refine ⟨T31, _, X31, N0, e31, fun t k => pre36 _ ?_⟩
              rw [qj0] at k
              exact k
            · have pre37 : ∀ t, Steps p.tables e below (T31.setTop (mkF m 106 #[.val (.ref x0), .val (.int x1), .val (.long (f10_v29 x1 w_b_w_g_x0_0_0 w_r_w_g_x0_0_0 w_s_w_g_x0_0_0 w_p_w_g_x0_0_0 w_b_w_g_x0_1_0 w_r_w_g_x0_1_0 w_s_w_g_x0_1_0 w_p_w_g_x0_1_0)), .second, .val (.int (2 : Int32)), .val (.int (1 : Int32)), .val (.ref w_g_x0_1_0)] [(.int (1 : Int32))])) t → Steps p.tables e below (s₁.setTop (entryFrame m #[(.ref x0), (.int x1)] 7)) t := by
                intro t k
                refine pre32 _ ?_
                show Steps p.tables e below (T31.setTop (mkF m 98 #[.val (.ref x0), .val (.int x1), .val (.long (f10_v29 x1 w_b_w_g_x0_0_0 w_r_w_g_x0_0_0 w_s_w_g_x0_0_0 w_p_w_g_x0_0_0 w_b_w_g_x0_1_0 w_r_w_g_x0_1_0 w_s_w_g_x0_1_0 w_p_w_g_x0_1_0)), .second, .val (.int (2 : Int32)), .val (.int (1 : Int32)), .val (.ref w_g_x0_1_0)] [(.int (own_cmp (f10_v29 x1 w_b_w_g_x0_0_0 w_r_w_g_x0_0_0 w_s_w_g_x0_0_0 w_p_w_g_x0_0_0 w_b_w_g_x0_1_0 w_r_w_g_x0_1_0 w_s_w_g_x0_1_0 w_p_w_g_x0_1_0) ((8 : Int64) * (x1.toInt64))))])) _
                refine XS.ifNo X31.here hx rfl (hb hby d10_98) rfl hc33 ?_
                show Steps p.tables e below (T31.setTop (mkF m 101 #[.val (.ref x0), .val (.int x1), .val (.long (f10_v29 x1 w_b_w_g_x0_0_0 w_r_w_g_x0_0_0 w_s_w_g_x0_0_0 w_p_w_g_x0_0_0 w_b_w_g_x0_1_0 w_r_w_g_x0_1_0 w_s_w_g_x0_1_0 w_p_w_g_x0_1_0)), .second, .val (.int (2 : Int32)), .val (.int (1 : Int32)), .val (.ref w_g_x0_1_0)] [])) _
                refine XS.iconst X31.here hx rfl (hb hby d10_101) ?_
                show Steps p.tables e below (T31.setTop (mkF m 102 #[.val (.ref x0), .val (.int x1), .val (.long (f10_v29 x1 w_b_w_g_x0_0_0 w_r_w_g_x0_0_0 w_s_w_g_x0_0_0 w_p_w_g_x0_0_0 w_b_w_g_x0_1_0 w_r_w_g_x0_1_0 w_s_w_g_x0_1_0 w_p_w_g_x0_1_0)), .second, .val (.int (2 : Int32)), .val (.int (1 : Int32)), .val (.ref w_g_x0_1_0)] [(.int (1 : Int32))])) _
                refine XS.goto X31.here hx rfl (pc0 := 102) (pc' := 106) rfl (hb hby d10_102) (by decide) (by decide) ?_
                exact k
              have qj0 : (f10_j34 x1 w_b_w_g_x0_0_0 w_r_w_g_x0_0_0 w_s_w_g_x0_0_0 w_p_w_g_x0_0_0 w_b_w_g_x0_1_0 w_r_w_g_x0_1_0 w_s_w_g_x0_1_0 w_p_w_g_x0_1_0) = (1 : Int32) := if_neg (own_nt hc33)
              refine ⟨T31, _, X31, N0, e31, fun t k => pre37 _ ?_⟩
              rw [qj0] at k
              exact k
          obtain ⟨fs, hr, hrun, hended, hW, hsame⟩ := X35.leave (v := some (.int (nar .boolean (f10_j34 x1 w_b_w_g_x0_0_0 w_r_w_g_x0_0_0 w_s_w_g_x0_0_0 w_p_w_g_x0_0_0 w_b_w_g_x0_1_0 w_r_w_g_x0_1_0 w_s_w_g_x0_1_0 w_p_w_g_x0_1_0)))) (fun h => by rw [hret] at h; cases h)
          refine ⟨_, _, pre35 _ ?_, hrun, hended, _, _, rfl, ?_, ⟨_, rfl⟩, hW, hsame.mono (by decide) (by decide)⟩
          · show Steps p.tables e below (T35.setTop (mkF m 106 #[.val (.ref x0), .val (.int x1), .val (.long (f10_v29 x1 w_b_w_g_x0_0_0 w_r_w_g_x0_0_0 w_s_w_g_x0_0_0 w_p_w_g_x0_0_0 w_b_w_g_x0_1_0 w_r_w_g_x0_1_0 w_s_w_g_x0_1_0 w_p_w_g_x0_1_0)), .second, .val (.int (2 : Int32)), .val (.int (1 : Int32)), .val (.ref w_g_x0_1_0)] [(.int (f10_j34 x1 w_b_w_g_x0_0_0 w_r_w_g_x0_0_0 w_s_w_g_x0_0_0 w_p_w_g_x0_0_0 w_b_w_g_x0_1_0 w_r_w_g_x0_1_0 w_s_w_g_x0_1_0 w_p_w_g_x0_1_0))])) _
            exact retN X35 hx (t := .boolean) hret (by simp) (hb hby d10_106) hr
          · show Q10 Z x0 x1 w_g_x0 k_w_g_x0 w_g_x0_0 w_g_x0_1 k_w_g_x0_0 w_g_x0_0_0 w_g_x0_0_1 w_b_w_g_x0_0_0 w_r_w_g_x0_0_0 w_s_w_g_x0_0_0 w_p_w_g_x0_0_0 k_w_g_x0_1 w_g_x0_1_0 w_g_x0_1_1 w_b_w_g_x0_1_0 w_r_w_g_x0_1_0 w_s_w_g_x0_1_0 w_p_w_g_x0_1_0 h0 n0 _ T35.heap _
            rw [e35]
            have rr : f10 x1 w_b_w_g_x0_0_0 w_r_w_g_x0_0_0 w_s_w_g_x0_0_0 w_p_w_g_x0_0_0 w_b_w_g_x0_1_0 w_r_w_g_x0_1_0 w_s_w_g_x0_1_0 w_p_w_g_x0_1_0 = (nar .boolean (f10_j34 x1 w_b_w_g_x0_0_0 w_r_w_g_x0_0_0 w_s_w_g_x0_0_0 w_p_w_g_x0_0_0 w_b_w_g_x0_1_0 w_r_w_g_x0_1_0 w_s_w_g_x0_1_0 w_p_w_g_x0_1_0)) := Eq.trans (if_neg (own_nt hc8)) (Eq.trans (if_pos hc12) (Eq.trans (if_neg (own_nt hc23)) (if_pos hc27)))
            exact ⟨congrArg (fun z => some (Value.int z)) rr.symm, N35, rfl⟩
        · obtain ⟨fs, hr, hrun, hended, hW, hsame⟩ := X25.leave (v := some (.int (0 : Int32))) (fun h => by rw [hret] at h; cases h)
          refine ⟨_, _, pre26 _ ?_, hrun, hended, _, _, rfl, ?_, ⟨_, rfl⟩, hW, hsame.mono (by decide) (by decide)⟩
          · show Steps p.tables e below (T25.setTop (mkF m 64 #[.val (.ref x0), .val (.int x1), .val (.long (f10_v14 x1 w_b_w_g_x0_0_0 w_r_w_g_x0_0_0 w_s_w_g_x0_0_0 w_p_w_g_x0_0_0 w_b_w_g_x0_1_0 w_r_w_g_x0_1_0 w_s_w_g_x0_1_0 w_p_w_g_x0_1_0)), .second, .val (.int (1 : Int32)), .val (.int (0 : Int32)), .val (.ref w_g_x0_1_0)] [(.int (22 : Int32)), (.int ((w_r_w_g_x0_1_0 + w_s_w_g_x0_1_0) + (2 : Int32)))])) _
            refine XS.icmpNo X25.here hx rfl (hb hby d10_64) rfl hc27 ?_
            show Steps p.tables e below (T25.setTop (mkF m 67 #[.val (.ref x0), .val (.int x1), .val (.long (f10_v14 x1 w_b_w_g_x0_0_0 w_r_w_g_x0_0_0 w_s_w_g_x0_0_0 w_p_w_g_x0_0_0 w_b_w_g_x0_1_0 w_r_w_g_x0_1_0 w_s_w_g_x0_1_0 w_p_w_g_x0_1_0)), .second, .val (.int (1 : Int32)), .val (.int (0 : Int32)), .val (.ref w_g_x0_1_0)] [])) _
            refine XS.iconst X25.here hx rfl (hb hby d10_67) ?_
            show Steps p.tables e below (T25.setTop (mkF m 68 #[.val (.ref x0), .val (.int x1), .val (.long (f10_v14 x1 w_b_w_g_x0_0_0 w_r_w_g_x0_0_0 w_s_w_g_x0_0_0 w_p_w_g_x0_0_0 w_b_w_g_x0_1_0 w_r_w_g_x0_1_0 w_s_w_g_x0_1_0 w_p_w_g_x0_1_0)), .second, .val (.int (1 : Int32)), .val (.int (0 : Int32)), .val (.ref w_g_x0_1_0)] [(.int (0 : Int32))])) _
            exact retN X25 hx (t := .boolean) hret (by simp) (hb hby d10_68) hr
          · show Q10 Z x0 x1 w_g_x0 k_w_g_x0 w_g_x0_0 w_g_x0_1 k_w_g_x0_0 w_g_x0_0_0 w_g_x0_0_1 w_b_w_g_x0_0_0 w_r_w_g_x0_0_0 w_s_w_g_x0_0_0 w_p_w_g_x0_0_0 k_w_g_x0_1 w_g_x0_1_0 w_g_x0_1_1 w_b_w_g_x0_1_0 w_r_w_g_x0_1_0 w_s_w_g_x0_1_0 w_p_w_g_x0_1_0 h0 n0 _ T25.heap _
            rw [e25]
            have rr : f10 x1 w_b_w_g_x0_0_0 w_r_w_g_x0_0_0 w_s_w_g_x0_0_0 w_p_w_g_x0_0_0 w_b_w_g_x0_1_0 w_r_w_g_x0_1_0 w_s_w_g_x0_1_0 w_p_w_g_x0_1_0 = (0 : Int32) := Eq.trans (if_neg (own_nt hc8)) (Eq.trans (if_pos hc12) (Eq.trans (if_neg (own_nt hc23)) (if_neg (own_nt hc27))))
            exact ⟨congrArg (fun z => some (Value.int z)) rr.symm, N0, rfl⟩
    · obtain ⟨fs, hr, hrun, hended, hW, hsame⟩ := X10.leave (v := some (.int (0 : Int32))) (fun h => by rw [hret] at h; cases h)
      refine ⟨_, _, pre11 _ ?_, hrun, hended, _, _, rfl, ?_, ⟨_, rfl⟩, hW, hsame.mono (by decide) (by decide)⟩
      · show Steps p.tables e below (T10.setTop (mkF m 64 #[.val (.ref x0), .val (.int x1), .val (.long (0 : Int64)), .second, .val (.int (0 : Int32)), .val (.int (0 : Int32)), .val (.ref w_g_x0_0_0)] [(.int (22 : Int32)), (.int ((w_r_w_g_x0_0_0 + w_s_w_g_x0_0_0) + (2 : Int32)))])) _
        refine XS.icmpNo X10.here hx rfl (hb hby d10_64) rfl hc12 ?_
        show Steps p.tables e below (T10.setTop (mkF m 67 #[.val (.ref x0), .val (.int x1), .val (.long (0 : Int64)), .second, .val (.int (0 : Int32)), .val (.int (0 : Int32)), .val (.ref w_g_x0_0_0)] [])) _
        refine XS.iconst X10.here hx rfl (hb hby d10_67) ?_
        show Steps p.tables e below (T10.setTop (mkF m 68 #[.val (.ref x0), .val (.int x1), .val (.long (0 : Int64)), .second, .val (.int (0 : Int32)), .val (.int (0 : Int32)), .val (.ref w_g_x0_0_0)] [(.int (0 : Int32))])) _
        exact retN X10 hx (t := .boolean) hret (by simp) (hb hby d10_68) hr
      · show Q10 Z x0 x1 w_g_x0 k_w_g_x0 w_g_x0_0 w_g_x0_1 k_w_g_x0_0 w_g_x0_0_0 w_g_x0_0_1 w_b_w_g_x0_0_0 w_r_w_g_x0_0_0 w_s_w_g_x0_0_0 w_p_w_g_x0_0_0 k_w_g_x0_1 w_g_x0_1_0 w_g_x0_1_1 w_b_w_g_x0_1_0 w_r_w_g_x0_1_0 w_s_w_g_x0_1_0 w_p_w_g_x0_1_0 h0 n0 _ T10.heap _
        rw [e10]
        have rr : f10 x1 w_b_w_g_x0_0_0 w_r_w_g_x0_0_0 w_s_w_g_x0_0_0 w_p_w_g_x0_0_0 w_b_w_g_x0_1_0 w_r_w_g_x0_1_0 w_s_w_g_x0_1_0 w_p_w_g_x0_1_0 = (0 : Int32) := Eq.trans (if_neg (own_nt hc8)) (if_neg (own_nt hc12))
        exact ⟨congrArg (fun z => some (Value.int z)) rr.symm, N0, rfl⟩
-- body 11: dev/stratumaudio/SideInformation.isPossible:(I)Z
theorem d11_0 : decode prog_81_method_6_code 0 = .ok (.lconst 0, 1) := by decide +kernel
theorem d11_1 : decode prog_81_method_6_code 1 = .ok (.lstore_n 2, 1) := by decide +kernel
theorem d11_2 : decode prog_81_method_6_code 2 = .ok (.iconst 0, 1) := by decide +kernel
theorem d11_3 : decode prog_81_method_6_code 3 = .ok (.istore 4, 2) := by decide +kernel
theorem d11_5 : decode prog_81_method_6_code 5 = .ok (.iload 4, 2) := by decide +kernel
theorem d11_7 : decode prog_81_method_6_code 7 = .ok (.aload_n 0, 1) := by decide +kernel
theorem d11_8 : decode prog_81_method_6_code 8 = .ok (.getfield 55, 3) := by decide +kernel
theorem d11_11 : decode prog_81_method_6_code 11 = .ok (.if_icmp .ge 79, 3) := by decide +kernel
theorem d11_14 : decode prog_81_method_6_code 14 = .ok (.iconst 0, 1) := by decide +kernel
theorem d11_15 : decode prog_81_method_6_code 15 = .ok (.istore 5, 2) := by decide +kernel
theorem d11_17 : decode prog_81_method_6_code 17 = .ok (.iload 5, 2) := by decide +kernel
theorem d11_19 : decode prog_81_method_6_code 19 = .ok (.aload_n 0, 1) := by decide +kernel
theorem d11_20 : decode prog_81_method_6_code 20 = .ok (.getfield 47, 3) := by decide +kernel
theorem d11_23 : decode prog_81_method_6_code 23 = .ok (.if_icmp .ge 61, 3) := by decide +kernel
theorem d11_26 : decode prog_81_method_6_code 26 = .ok (.aload_n 0, 1) := by decide +kernel
theorem d11_27 : decode prog_81_method_6_code 27 = .ok (.getfield 21, 3) := by decide +kernel
theorem d11_30 : decode prog_81_method_6_code 30 = .ok (.iload 4, 2) := by decide +kernel
theorem d11_32 : decode prog_81_method_6_code 32 = .ok (.aaload, 1) := by decide +kernel
theorem d11_33 : decode prog_81_method_6_code 33 = .ok (.iload 5, 2) := by decide +kernel
theorem d11_35 : decode prog_81_method_6_code 35 = .ok (.aaload, 1) := by decide +kernel
theorem d11_36 : decode prog_81_method_6_code 36 = .ok (.astore 6, 2) := by decide +kernel
theorem d11_38 : decode prog_81_method_6_code 38 = .ok (.aload 6, 2) := by decide +kernel
theorem d11_40 : decode prog_81_method_6_code 40 = .ok (.getfield 105, 3) := by decide +kernel
theorem d11_43 : decode prog_81_method_6_code 43 = .ok (.sipush 288, 3) := by decide +kernel
theorem d11_46 : decode prog_81_method_6_code 46 = .ok (.if_icmp .gt 21, 3) := by decide +kernel
theorem d11_49 : decode prog_81_method_6_code 49 = .ok (.aload 6, 2) := by decide +kernel
theorem d11_51 : decode prog_81_method_6_code 51 = .ok (.getfield 108, 3) := by decide +kernel
theorem d11_54 : decode prog_81_method_6_code 54 = .ok (.aload 6, 2) := by decide +kernel
theorem d11_56 : decode prog_81_method_6_code 56 = .ok (.getfield 111, 3) := by decide +kernel
theorem d11_59 : decode prog_81_method_6_code 59 = .ok (.iadd, 1) := by decide +kernel
theorem d11_60 : decode prog_81_method_6_code 60 = .ok (.iconst 2, 1) := by decide +kernel
theorem d11_61 : decode prog_81_method_6_code 61 = .ok (.iadd, 1) := by decide +kernel
theorem d11_62 : decode prog_81_method_6_code 62 = .ok (.bipush 22, 2) := by decide +kernel
theorem d11_64 : decode prog_81_method_6_code 64 = .ok (.if_icmp .le 5, 3) := by decide +kernel
theorem d11_67 : decode prog_81_method_6_code 67 = .ok (.iconst 0, 1) := by decide +kernel
theorem d11_68 : decode prog_81_method_6_code 68 = .ok (.ireturn, 1) := by decide +kernel
theorem d11_69 : decode prog_81_method_6_code 69 = .ok (.lload_n 2, 1) := by decide +kernel
theorem d11_70 : decode prog_81_method_6_code 70 = .ok (.aload 6, 2) := by decide +kernel
theorem d11_72 : decode prog_81_method_6_code 72 = .ok (.getfield 116, 3) := by decide +kernel
theorem d11_75 : decode prog_81_method_6_code 75 = .ok (.i2l, 1) := by decide +kernel
theorem d11_76 : decode prog_81_method_6_code 76 = .ok (.ladd, 1) := by decide +kernel
theorem d11_77 : decode prog_81_method_6_code 77 = .ok (.lstore_n 2, 1) := by decide +kernel
theorem d11_78 : decode prog_81_method_6_code 78 = .ok (.iinc 5 1, 3) := by decide +kernel
theorem d11_81 : decode prog_81_method_6_code 81 = .ok (.goto (-64), 3) := by decide +kernel
theorem d11_84 : decode prog_81_method_6_code 84 = .ok (.iinc 4 1, 3) := by decide +kernel
theorem d11_87 : decode prog_81_method_6_code 87 = .ok (.goto (-82), 3) := by decide +kernel
theorem d11_90 : decode prog_81_method_6_code 90 = .ok (.lload_n 2, 1) := by decide +kernel
theorem d11_91 : decode prog_81_method_6_code 91 = .ok (.ldc2_w 119, 3) := by decide +kernel
theorem d11_94 : decode prog_81_method_6_code 94 = .ok (.iload_n 1, 1) := by decide +kernel
theorem d11_95 : decode prog_81_method_6_code 95 = .ok (.i2l, 1) := by decide +kernel
theorem d11_96 : decode prog_81_method_6_code 96 = .ok (.lmul, 1) := by decide +kernel
theorem d11_97 : decode prog_81_method_6_code 97 = .ok (.lcmp, 1) := by decide +kernel
theorem d11_98 : decode prog_81_method_6_code 98 = .ok (.ifCond .gt 7, 3) := by decide +kernel
theorem d11_101 : decode prog_81_method_6_code 101 = .ok (.iconst 1, 1) := by decide +kernel
theorem d11_102 : decode prog_81_method_6_code 102 = .ok (.goto 4, 3) := by decide +kernel
theorem d11_105 : decode prog_81_method_6_code 105 = .ok (.iconst 0, 1) := by decide +kernel
theorem d11_106 : decode prog_81_method_6_code 106 = .ok (.ireturn, 1) := by decide +kernel
theorem ef_11 (m : MethodId) (x0 : Addr) (x1 : Int32) : entryFrame m #[(.ref x0), (.int x1)] 7 = mkF m 0 #[.val (.ref x0), .val (.int x1), .unset, .unset, .unset, .unset, .unset] [] := by first | (simp [entryFrame, mkF, argsToLocals, Value.category]; done) | rfl
def f11_v14 (x1 : Int32) (w_b_w_g_x0_0_0 : Int32) (w_r_w_g_x0_0_0 : Int32) (w_s_w_g_x0_0_0 : Int32) (w_p_w_g_x0_0_0 : Int32) (w_b_w_g_x0_0_1 : Int32) (w_r_w_g_x0_0_1 : Int32) (w_s_w_g_x0_0_1 : Int32) (w_p_w_g_x0_0_1 : Int32) (w_b_w_g_x0_1_0 : Int32) (w_r_w_g_x0_1_0 : Int32) (w_s_w_g_x0_1_0 : Int32) (w_p_w_g_x0_1_0 : Int32) (w_b_w_g_x0_1_1 : Int32) (w_r_w_g_x0_1_1 : Int32) (w_s_w_g_x0_1_1 : Int32) (w_p_w_g_x0_1_1 : Int32) : Int64 := ((0 : Int64) + (w_p_w_g_x0_0_0.toInt64))
def f11_v27 (x1 : Int32) (w_b_w_g_x0_0_0 : Int32) (w_r_w_g_x0_0_0 : Int32) (w_s_w_g_x0_0_0 : Int32) (w_p_w_g_x0_0_0 : Int32) (w_b_w_g_x0_0_1 : Int32) (w_r_w_g_x0_0_1 : Int32) (w_s_w_g_x0_0_1 : Int32) (w_p_w_g_x0_0_1 : Int32) (w_b_w_g_x0_1_0 : Int32) (w_r_w_g_x0_1_0 : Int32) (w_s_w_g_x0_1_0 : Int32) (w_p_w_g_x0_1_0 : Int32) (w_b_w_g_x0_1_1 : Int32) (w_r_w_g_x0_1_1 : Int32) (w_s_w_g_x0_1_1 : Int32) (w_p_w_g_x0_1_1 : Int32) : Int64 := ((f11_v14 x1 w_b_w_g_x0_0_0 w_r_w_g_x0_0_0 w_s_w_g_x0_0_0 w_p_w_g_x0_0_0 w_b_w_g_x0_0_1 w_r_w_g_x0_0_1 w_s_w_g_x0_0_1 w_p_w_g_x0_0_1 w_b_w_g_x0_1_0 w_r_w_g_x0_1_0 w_s_w_g_x0_1_0 w_p_w_g_x0_1_0 w_b_w_g_x0_1_1 w_r_w_g_x0_1_1 w_s_w_g_x0_1_1 w_p_w_g_x0_1_1) + (w_p_w_g_x0_0_1.toInt64))
def f11_v42 (x1 : Int32) (w_b_w_g_x0_0_0 : Int32) (w_r_w_g_x0_0_0 : Int32) (w_s_w_g_x0_0_0 : Int32) (w_p_w_g_x0_0_0 : Int32) (w_b_w_g_x0_0_1 : Int32) (w_r_w_g_x0_0_1 : Int32) (w_s_w_g_x0_0_1 : Int32) (w_p_w_g_x0_0_1 : Int32) (w_b_w_g_x0_1_0 : Int32) (w_r_w_g_x0_1_0 : Int32) (w_s_w_g_x0_1_0 : Int32) (w_p_w_g_x0_1_0 : Int32) (w_b_w_g_x0_1_1 : Int32) (w_r_w_g_x0_1_1 : Int32) (w_s_w_g_x0_1_1 : Int32) (w_p_w_g_x0_1_1 : Int32) : Int64 := ((f11_v27 x1 w_b_w_g_x0_0_0 w_r_w_g_x0_0_0 w_s_w_g_x0_0_0 w_p_w_g_x0_0_0 w_b_w_g_x0_0_1 w_r_w_g_x0_0_1 w_s_w_g_x0_0_1 w_p_w_g_x0_0_1 w_b_w_g_x0_1_0 w_r_w_g_x0_1_0 w_s_w_g_x0_1_0 w_p_w_g_x0_1_0 w_b_w_g_x0_1_1 w_r_w_g_x0_1_1 w_s_w_g_x0_1_1 w_p_w_g_x0_1_1) + (w_p_w_g_x0_1_0.toInt64))
def f11_v55 (x1 : Int32) (w_b_w_g_x0_0_0 : Int32) (w_r_w_g_x0_0_0 : Int32) (w_s_w_g_x0_0_0 : Int32) (w_p_w_g_x0_0_0 : Int32) (w_b_w_g_x0_0_1 : Int32) (w_r_w_g_x0_0_1 : Int32) (w_s_w_g_x0_0_1 : Int32) (w_p_w_g_x0_0_1 : Int32) (w_b_w_g_x0_1_0 : Int32) (w_r_w_g_x0_1_0 : Int32) (w_s_w_g_x0_1_0 : Int32) (w_p_w_g_x0_1_0 : Int32) (w_b_w_g_x0_1_1 : Int32) (w_r_w_g_x0_1_1 : Int32) (w_s_w_g_x0_1_1 : Int32) (w_p_w_g_x0_1_1 : Int32) : Int64 := ((f11_v42 x1 w_b_w_g_x0_0_0 w_r_w_g_x0_0_0 w_s_w_g_x0_0_0 w_p_w_g_x0_0_0 w_b_w_g_x0_0_1 w_r_w_g_x0_0_1 w_s_w_g_x0_0_1 w_p_w_g_x0_0_1 w_b_w_g_x0_1_0 w_r_w_g_x0_1_0 w_s_w_g_x0_1_0 w_p_w_g_x0_1_0 w_b_w_g_x0_1_1 w_r_w_g_x0_1_1 w_s_w_g_x0_1_1 w_p_w_g_x0_1_1) + (w_p_w_g_x0_1_1.toInt64))
def f11_j60 (x1 : Int32) (w_b_w_g_x0_0_0 : Int32) (w_r_w_g_x0_0_0 : Int32) (w_s_w_g_x0_0_0 : Int32) (w_p_w_g_x0_0_0 : Int32) (w_b_w_g_x0_0_1 : Int32) (w_r_w_g_x0_0_1 : Int32) (w_s_w_g_x0_0_1 : Int32) (w_p_w_g_x0_0_1 : Int32) (w_b_w_g_x0_1_0 : Int32) (w_r_w_g_x0_1_0 : Int32) (w_s_w_g_x0_1_0 : Int32) (w_p_w_g_x0_1_0 : Int32) (w_b_w_g_x0_1_1 : Int32) (w_r_w_g_x0_1_1 : Int32) (w_s_w_g_x0_1_1 : Int32) (w_p_w_g_x0_1_1 : Int32) : Int32 := if ifCond.holds .gt (own_cmp (f11_v55 x1 w_b_w_g_x0_0_0 w_r_w_g_x0_0_0 w_s_w_g_x0_0_0 w_p_w_g_x0_0_0 w_b_w_g_x0_0_1 w_r_w_g_x0_0_1 w_s_w_g_x0_0_1 w_p_w_g_x0_0_1 w_b_w_g_x0_1_0 w_r_w_g_x0_1_0 w_s_w_g_x0_1_0 w_p_w_g_x0_1_0 w_b_w_g_x0_1_1 w_r_w_g_x0_1_1 w_s_w_g_x0_1_1 w_p_w_g_x0_1_1) ((8 : Int64) * (x1.toInt64))) = true then (0 : Int32) else (1 : Int32)
def f11 (x1 : Int32) (w_b_w_g_x0_0_0 : Int32) (w_r_w_g_x0_0_0 : Int32) (w_s_w_g_x0_0_0 : Int32) (w_p_w_g_x0_0_0 : Int32) (w_b_w_g_x0_0_1 : Int32) (w_r_w_g_x0_0_1 : Int32) (w_s_w_g_x0_0_1 : Int32) (w_p_w_g_x0_0_1 : Int32) (w_b_w_g_x0_1_0 : Int32) (w_r_w_g_x0_1_0 : Int32) (w_s_w_g_x0_1_0 : Int32) (w_p_w_g_x0_1_0 : Int32) (w_b_w_g_x0_1_1 : Int32) (w_r_w_g_x0_1_1 : Int32) (w_s_w_g_x0_1_1 : Int32) (w_p_w_g_x0_1_1 : Int32) : Int32 := (if if_icmp.holds .gt w_b_w_g_x0_0_0 (288 : Int32) = true then (0 : Int32) else (if if_icmp.holds .le ((w_r_w_g_x0_0_0 + w_s_w_g_x0_0_0) + (2 : Int32)) (22 : Int32) = true then (if if_icmp.holds .gt w_b_w_g_x0_0_1 (288 : Int32) = true then (0 : Int32) else (if if_icmp.holds .le ((w_r_w_g_x0_0_1 + w_s_w_g_x0_0_1) + (2 : Int32)) (22 : Int32) = true then (if if_icmp.holds .gt w_b_w_g_x0_1_0 (288 : Int32) = true then (0 : Int32) else (if if_icmp.holds .le ((w_r_w_g_x0_1_0 + w_s_w_g_x0_1_0) + (2 : Int32)) (22 : Int32) = true then (if if_icmp.holds .gt w_b_w_g_x0_1_1 (288 : Int32) = true then (0 : Int32) else (if if_icmp.holds .le ((w_r_w_g_x0_1_1 + w_s_w_g_x0_1_1) + (2 : Int32)) (22 : Int32) = true then (nar .boolean (f11_j60 x1 w_b_w_g_x0_0_0 w_r_w_g_x0_0_0 w_s_w_g_x0_0_0 w_p_w_g_x0_0_0 w_b_w_g_x0_0_1 w_r_w_g_x0_0_1 w_s_w_g_x0_0_1 w_p_w_g_x0_0_1 w_b_w_g_x0_1_0 w_r_w_g_x0_1_0 w_s_w_g_x0_1_0 w_p_w_g_x0_1_0 w_b_w_g_x0_1_1 w_r_w_g_x0_1_1 w_s_w_g_x0_1_1 w_p_w_g_x0_1_1)) else (0 : Int32))) else (0 : Int32))) else (0 : Int32))) else (0 : Int32)))
def Q11 (Z : State) (x0 : Addr) (x1 : Int32) (w_g_x0 : Addr) (k_w_g_x0 : ClassId) (w_g_x0_0 : Addr) (w_g_x0_1 : Addr) (k_w_g_x0_0 : ClassId) (w_g_x0_0_0 : Addr) (w_g_x0_0_1 : Addr) (w_b_w_g_x0_0_0 : Int32) (w_r_w_g_x0_0_0 : Int32) (w_s_w_g_x0_0_0 : Int32) (w_p_w_g_x0_0_0 : Int32) (w_b_w_g_x0_0_1 : Int32) (w_r_w_g_x0_0_1 : Int32) (w_s_w_g_x0_0_1 : Int32) (w_p_w_g_x0_0_1 : Int32) (k_w_g_x0_1 : ClassId) (w_g_x0_1_0 : Addr) (w_g_x0_1_1 : Addr) (w_b_w_g_x0_1_0 : Int32) (w_r_w_g_x0_1_0 : Int32) (w_s_w_g_x0_1_0 : Int32) (w_p_w_g_x0_1_0 : Int32) (w_b_w_g_x0_1_1 : Int32) (w_r_w_g_x0_1_1 : Int32) (w_s_w_g_x0_1_1 : Int32) (w_p_w_g_x0_1_1 : Int32) (h0 : Heap) (n0 : Nat) (v : Option Value) (h : Heap) (L : List Loc) : Prop := v = some (.int (f11 x1 w_b_w_g_x0_0_0 w_r_w_g_x0_0_0 w_s_w_g_x0_0_0 w_p_w_g_x0_0_0 w_b_w_g_x0_0_1 w_r_w_g_x0_0_1 w_s_w_g_x0_0_1 w_p_w_g_x0_0_1 w_b_w_g_x0_1_0 w_r_w_g_x0_1_0 w_s_w_g_x0_1_0 w_p_w_g_x0_1_0 w_b_w_g_x0_1_1 w_r_w_g_x0_1_1 w_s_w_g_x0_1_1 w_p_w_g_x0_1_1)) ∧ Fr n0 L ∧ h = h0
set_option maxRecDepth 65536 in
set_option maxHeartbeats 40000000 in
theorem rm11 (l : Launch) (Z : State) (a0 : Array Value) (hw : ∀ d ∈ tables_1, d.before a0 Z = true) (ws : List Jvm.Cond) (x0 : Addr) (x1 : Int32) (w_g_x0 : Addr) (k_w_g_x0 : ClassId) (w_g_x0_0 : Addr) (w_g_x0_1 : Addr) (k_w_g_x0_0 : ClassId) (w_g_x0_0_0 : Addr) (w_g_x0_0_1 : Addr) (w_b_w_g_x0_0_0 : Int32) (w_r_w_g_x0_0_0 : Int32) (w_s_w_g_x0_0_0 : Int32) (w_p_w_g_x0_0_0 : Int32) (w_b_w_g_x0_0_1 : Int32) (w_r_w_g_x0_0_1 : Int32) (w_s_w_g_x0_0_1 : Int32) (w_p_w_g_x0_0_1 : Int32) (k_w_g_x0_1 : ClassId) (w_g_x0_1_0 : Addr) (w_g_x0_1_1 : Addr) (w_b_w_g_x0_1_0 : Int32) (w_r_w_g_x0_1_0 : Int32) (w_s_w_g_x0_1_0 : Int32) (w_p_w_g_x0_1_0 : Int32) (w_b_w_g_x0_1_1 : Int32) (w_r_w_g_x0_1_1 : Int32) (w_s_w_g_x0_1_1 : Int32) (w_p_w_g_x0_1_1 : Int32) (h0 : Heap) (n0 : Nat) (Z0 : n0 ≤ h0.size) (F_x0_granuleCount : Fld Z h0 x0 "dev/stratumaudio/SideInformation" "granuleCount" "I" (.int (2 : Int32))) (F_x0_channelCount : Fld Z h0 x0 "dev/stratumaudio/SideInformation" "channelCount" "I" (.int (2 : Int32))) (F_x0_granules : Fld Z h0 x0 "dev/stratumaudio/SideInformation" "granules" "[[Ldev/stratumaudio/SideInformation$Granule;" (.ref w_g_x0)) (A_w_g_x0 : Arv Z h0 w_g_x0 k_w_g_x0 (.array (.object "dev/stratumaudio/SideInformation$Granule")) (2 : Int32) [(.ref w_g_x0_0), (.ref w_g_x0_1)] .null) (A_w_g_x0_0 : Arv Z h0 w_g_x0_0 k_w_g_x0_0 (.object "dev/stratumaudio/SideInformation$Granule") (2 : Int32) [(.ref w_g_x0_0_0), (.ref w_g_x0_0_1)] .null) (F_w_g_x0_0_0_bigValues : Fld Z h0 w_g_x0_0_0 "dev/stratumaudio/SideInformation$Granule" "bigValues" "I" (.int w_b_w_g_x0_0_0)) (F_w_g_x0_0_0_region0Count : Fld Z h0 w_g_x0_0_0 "dev/stratumaudio/SideInformation$Granule" "region0Count" "I" (.int w_r_w_g_x0_0_0)) (F_w_g_x0_0_0_region1Count : Fld Z h0 w_g_x0_0_0 "dev/stratumaudio/SideInformation$Granule" "region1Count" "I" (.int w_s_w_g_x0_0_0)) (F_w_g_x0_0_0_part23Length : Fld Z h0 w_g_x0_0_0 "dev/stratumaudio/SideInformation$Granule" "part23Length" "I" (.int w_p_w_g_x0_0_0)) (F_w_g_x0_0_1_bigValues : Fld Z h0 w_g_x0_0_1 "dev/stratumaudio/SideInformation$Granule" "bigValues" "I" (.int w_b_w_g_x0_0_1)) (F_w_g_x0_0_1_region0Count : Fld Z h0 w_g_x0_0_1 "dev/stratumaudio/SideInformation$Granule" "region0Count" "I" (.int w_r_w_g_x0_0_1)) (F_w_g_x0_0_1_region1Count : Fld Z h0 w_g_x0_0_1 "dev/stratumaudio/SideInformation$Granule" "region1Count" "I" (.int w_s_w_g_x0_0_1)) (F_w_g_x0_0_1_part23Length : Fld Z h0 w_g_x0_0_1 "dev/stratumaudio/SideInformation$Granule" "part23Length" "I" (.int w_p_w_g_x0_0_1)) (A_w_g_x0_1 : Arv Z h0 w_g_x0_1 k_w_g_x0_1 (.object "dev/stratumaudio/SideInformation$Granule") (2 : Int32) [(.ref w_g_x0_1_0), (.ref w_g_x0_1_1)] .null) (F_w_g_x0_1_0_bigValues : Fld Z h0 w_g_x0_1_0 "dev/stratumaudio/SideInformation$Granule" "bigValues" "I" (.int w_b_w_g_x0_1_0)) (F_w_g_x0_1_0_region0Count : Fld Z h0 w_g_x0_1_0 "dev/stratumaudio/SideInformation$Granule" "region0Count" "I" (.int w_r_w_g_x0_1_0)) (F_w_g_x0_1_0_region1Count : Fld Z h0 w_g_x0_1_0 "dev/stratumaudio/SideInformation$Granule" "region1Count" "I" (.int w_s_w_g_x0_1_0)) (F_w_g_x0_1_0_part23Length : Fld Z h0 w_g_x0_1_0 "dev/stratumaudio/SideInformation$Granule" "part23Length" "I" (.int w_p_w_g_x0_1_0)) (F_w_g_x0_1_1_bigValues : Fld Z h0 w_g_x0_1_1 "dev/stratumaudio/SideInformation$Granule" "bigValues" "I" (.int w_b_w_g_x0_1_1)) (F_w_g_x0_1_1_region0Count : Fld Z h0 w_g_x0_1_1 "dev/stratumaudio/SideInformation$Granule" "region0Count" "I" (.int w_r_w_g_x0_1_1)) (F_w_g_x0_1_1_region1Count : Fld Z h0 w_g_x0_1_1 "dev/stratumaudio/SideInformation$Granule" "region1Count" "I" (.int w_s_w_g_x0_1_1)) (F_w_g_x0_1_1_part23Length : Fld Z h0 w_g_x0_1_1 "dev/stratumaudio/SideInformation$Granule" "part23Length" "I" (.int w_p_w_g_x0_1_1)) :
    MetFree l (⟨"dev/stratumaudio/SideInformation", "isPossible", "(I)Z"⟩ : MethodName) (head1 (Jvm.Cond.code (⟨"dev/stratumaudio/SideInformation", "isPossible", "(I)Z"⟩ : MethodName) prog_81_method_6_code 7 (some .boolean) :: ws) ({ frames := 0, cells := 0, slots := 0, locals := 0 } : Room)) (fun a U => a = #[(.ref x0), (.int x1)] ∧ Z.Warmed39 U.vm ∧ U.heap = h0) (fun _ _ _ _ _ => True) (fun _ U o U' => ∃ v L, o = .returned v ∧ Q11 Z x0 x1 w_g_x0 k_w_g_x0 w_g_x0_0 w_g_x0_1 k_w_g_x0_0 w_g_x0_0_0 w_g_x0_0_1 w_b_w_g_x0_0_0 w_r_w_g_x0_0_0 w_s_w_g_x0_0_0 w_p_w_g_x0_0_0 w_b_w_g_x0_0_1 w_r_w_g_x0_0_1 w_s_w_g_x0_0_1 w_p_w_g_x0_0_1 k_w_g_x0_1 w_g_x0_1_0 w_g_x0_1_1 w_b_w_g_x0_1_0 w_r_w_g_x0_1_0 w_s_w_g_x0_1_0 w_p_w_g_x0_1_0 w_b_w_g_x0_1_1 w_r_w_g_x0_1_1 w_s_w_g_x0_1_1 w_p_w_g_x0_1_1 h0 n0 v U'.heap L ∧ FrameEnd U o U' L ({ frames := 0, cells := 0, slots := 0, locals := 0 } : Room).cells ({ frames := 0, cells := 0, slots := 0, locals := 0 } : Room).slots) := by
  refine MetFree.of_bodySF (plainFor_of_name pn_1) hisR ?_
  intro p e s m args below meth c s₁ Bd hml0 hP hK0
  obtain ⟨rfl, hZ, hh⟩ := hP
  have hx := Bd.exec
  have hby := Bd.bytes
  have hml : c.maxLocals = 7 := hml0
  have hown : s.vm.findClass "dev/stratumaudio/SideInformation" = some m.cls := findClass_of_methodNamed Bd.named
  have hnm := (name_of_methodNamed Bd.named Bd.method).1
  have hret : meth.sig.returnType = some .boolean := Bd.returns
  have hlk : meth.locks = false := Bd.notSynchronized
  have X0 : Stand p l e ({ frames := 0, cells := 0, slots := 0, locals := 0 } : Room) s m #[(.ref x0), (.int x1)] below meth c s₁ [] 0 0 := Stand.of_body Bd
  have e0 : s₁.heap = h0 := by rw [← hh, Bd.state]; rfl
  have N0 := Fr.nil n0
  have pre0 : ∀ t, Steps p.tables e below (s₁.setTop (mkF m 0 #[.val (.ref x0), .val (.int x1), .unset, .unset, .unset, .unset, .unset] [])) t → Steps p.tables e below (s₁.setTop (entryFrame m #[(.ref x0), (.int x1)] 7)) t := fun t k => castTop (ef_11 m x0 x1) k
  obtain ⟨T1, X1, e1, st1⟩ := getF X0 hx hZ hown (host := "") (Or.inl (hw _ (List.mem_of_getElem? (i := 60) rfl))) Via.refl e0 F_x0_granuleCount (g := (mkF m 8 #[.val (.ref x0), .val (.int x1), .val (.long (0 : Int64)), .second, .val (.int (0 : Int32)), .unset, .unset] [(.ref x0), (.int (0 : Int32))])) rfl rfl (hb hby d11_8)
  obtain ⟨T2, X2, e2, st2⟩ := getF X1 hx hZ hown (host := "") (Or.inl (hw _ (List.mem_of_getElem? (i := 61) rfl))) Via.refl e1 F_x0_channelCount (g := (mkF m 20 #[.val (.ref x0), .val (.int x1), .val (.long (0 : Int64)), .second, .val (.int (0 : Int32)), .val (.int (0 : Int32)), .unset] [(.ref x0), (.int (0 : Int32))])) rfl rfl (hb hby d11_20)
  obtain ⟨T3, X3, e3, st3⟩ := getF X2 hx hZ hown (host := "") (Or.inl (hw _ (List.mem_of_getElem? (i := 32) rfl))) Via.refl e2 F_x0_granules (g := (mkF m 27 #[.val (.ref x0), .val (.int x1), .val (.long (0 : Int64)), .second, .val (.int (0 : Int32)), .val (.int (0 : Int32)), .unset] [(.ref x0)])) rfl rfl (hb hby d11_27)
  have Vc4 := A_w_g_x0
  obtain ⟨cl4, Ar4, q4, S4, NN4, H4, G4⟩ := Vc4
  have hin4 := inb_of (j := (0 : Int32)) S4 ⟨by decide, by decide⟩
  have Vc5 := A_w_g_x0_0
  obtain ⟨cl5, Ar5, q5, S5, NN5, H5, G5⟩ := Vc5
  have hin5 := inb_of (j := (0 : Int32)) S5 ⟨by decide, by decide⟩
  obtain ⟨T6, X6, e6, st6⟩ := getF X3 hx hZ hown (host := "") (Or.inl (hw _ (List.mem_of_getElem? (i := 62) rfl))) Via.refl e3 F_w_g_x0_0_0_bigValues (g := (mkF m 40 #[.val (.ref x0), .val (.int x1), .val (.long (0 : Int64)), .second, .val (.int (0 : Int32)), .val (.int (0 : Int32)), .val (.ref w_g_x0_0_0)] [(.ref w_g_x0_0_0)])) rfl rfl (hb hby d11_40)
  have pre7 : ∀ t, Steps p.tables e below (T6.setTop (mkF m 46 #[.val (.ref x0), .val (.int x1), .val (.long (0 : Int64)), .second, .val (.int (0 : Int32)), .val (.int (0 : Int32)), .val (.ref w_g_x0_0_0)] [(.int (288 : Int32)), (.int w_b_w_g_x0_0_0)])) t → Steps p.tables e below (s₁.setTop (entryFrame m #[(.ref x0), (.int x1)] 7)) t := by
    intro t k
    refine pre0 _ ?_
    show Steps p.tables e below (s₁.setTop (mkF m 0 #[.val (.ref x0), .val (.int x1), .unset, .unset, .unset, .unset, .unset] [])) _
    refine XS.lconst X0.here hx rfl (hb hby d11_0) ?_
    show Steps p.tables e below (s₁.setTop (mkF m 1 #[.val (.ref x0), .val (.int x1), .unset, .unset, .unset, .unset, .unset] [(.long (0 : Int64))])) _
    refine XS.lstoreN X0.here hx rfl (hb hby d11_1) rfl (l' := #[.val (.ref x0), .val (.int x1), .val (.long (0 : Int64)), .second, .unset, .unset, .unset]) rfl ?_
    show Steps p.tables e below (s₁.setTop (mkF m 2 #[.val (.ref x0), .val (.int x1), .val (.long (0 : Int64)), .second, .unset, .unset, .unset] [])) _
    refine XS.iconst X0.here hx rfl (hb hby d11_2) ?_
    show Steps p.tables e below (s₁.setTop (mkF m 3 #[.val (.ref x0), .val (.int x1), .val (.long (0 : Int64)), .second, .unset, .unset, .unset] [(.int (0 : Int32))])) _
    refine XS.istore X0.here hx rfl (hb hby d11_3) rfl (l' := #[.val (.ref x0), .val (.int x1), .val (.long (0 : Int64)), .second, .val (.int (0 : Int32)), .unset, .unset]) rfl ?_
    show Steps p.tables e below (s₁.setTop (mkF m 5 #[.val (.ref x0), .val (.int x1), .val (.long (0 : Int64)), .second, .val (.int (0 : Int32)), .unset, .unset] [])) _
    refine XS.iload X0.here hx rfl (hb hby d11_5) rfl ?_
    show Steps p.tables e below (s₁.setTop (mkF m 7 #[.val (.ref x0), .val (.int x1), .val (.long (0 : Int64)), .second, .val (.int (0 : Int32)), .unset, .unset] [(.int (0 : Int32))])) _
    refine XS.aloadN X0.here hx rfl (hb hby d11_7) rfl rfl ?_
    show Steps p.tables e below (s₁.setTop (mkF m 8 #[.val (.ref x0), .val (.int x1), .val (.long (0 : Int64)), .second, .val (.int (0 : Int32)), .unset, .unset] [(.ref x0), (.int (0 : Int32))])) _
    refine st1 _ ?_
    show Steps p.tables e below (T1.setTop (mkF m 11 #[.val (.ref x0), .val (.int x1), .val (.long (0 : Int64)), .second, .val (.int (0 : Int32)), .unset, .unset] [(.int (2 : Int32)), (.int (0 : Int32))])) _
    refine XS.icmpNo X1.here hx rfl (hb hby d11_11) rfl (by decide) ?_
    show Steps p.tables e below (T1.setTop (mkF m 14 #[.val (.ref x0), .val (.int x1), .val (.long (0 : Int64)), .second, .val (.int (0 : Int32)), .unset, .unset] [])) _
    refine XS.iconst X1.here hx rfl (hb hby d11_14) ?_
    show Steps p.tables e below (T1.setTop (mkF m 15 #[.val (.ref x0), .val (.int x1), .val (.long (0 : Int64)), .second, .val (.int (0 : Int32)), .unset, .unset] [(.int (0 : Int32))])) _
    refine XS.istore X1.here hx rfl (hb hby d11_15) rfl (l' := #[.val (.ref x0), .val (.int x1), .val (.long (0 : Int64)), .second, .val (.int (0 : Int32)), .val (.int (0 : Int32)), .unset]) rfl ?_
    show Steps p.tables e below (T1.setTop (mkF m 17 #[.val (.ref x0), .val (.int x1), .val (.long (0 : Int64)), .second, .val (.int (0 : Int32)), .val (.int (0 : Int32)), .unset] [])) _
    refine XS.iload X1.here hx rfl (hb hby d11_17) rfl ?_
    show Steps p.tables e below (T1.setTop (mkF m 19 #[.val (.ref x0), .val (.int x1), .val (.long (0 : Int64)), .second, .val (.int (0 : Int32)), .val (.int (0 : Int32)), .unset] [(.int (0 : Int32))])) _
    refine XS.aloadN X1.here hx rfl (hb hby d11_19) rfl rfl ?_
    show Steps p.tables e below (T1.setTop (mkF m 20 #[.val (.ref x0), .val (.int x1), .val (.long (0 : Int64)), .second, .val (.int (0 : Int32)), .val (.int (0 : Int32)), .unset] [(.ref x0), (.int (0 : Int32))])) _
    refine st2 _ ?_
    show Steps p.tables e below (T2.setTop (mkF m 23 #[.val (.ref x0), .val (.int x1), .val (.long (0 : Int64)), .second, .val (.int (0 : Int32)), .val (.int (0 : Int32)), .unset] [(.int (2 : Int32)), (.int (0 : Int32))])) _
    refine XS.icmpNo X2.here hx rfl (hb hby d11_23) rfl (by decide) ?_
    show Steps p.tables e below (T2.setTop (mkF m 26 #[.val (.ref x0), .val (.int x1), .val (.long (0 : Int64)), .second, .val (.int (0 : Int32)), .val (.int (0 : Int32)), .unset] [])) _
    refine XS.aloadN X2.here hx rfl (hb hby d11_26) rfl rfl ?_
    show Steps p.tables e below (T2.setTop (mkF m 27 #[.val (.ref x0), .val (.int x1), .val (.long (0 : Int64)), .second, .val (.int (0 : Int32)), .val (.int (0 : Int32)), .unset] [(.ref x0)])) _
    refine st3 _ ?_
    show Steps p.tables e below (T3.setTop (mkF m 30 #[.val (.ref x0), .val (.int x1), .val (.long (0 : Int64)), .second, .val (.int (0 : Int32)), .val (.int (0 : Int32)), .unset] [(.ref w_g_x0)])) _
    refine XS.iload X3.here hx rfl (hb hby d11_30) rfl ?_
    show Steps p.tables e below (T3.setTop (mkF m 32 #[.val (.ref x0), .val (.int x1), .val (.long (0 : Int64)), .second, .val (.int (0 : Int32)), .val (.int (0 : Int32)), .unset] [(.int (0 : Int32)), (.ref w_g_x0)])) _
    refine X3.aaload hx (j := (0 : Int32)) (v := (.ref w_g_x0_0)) (by rw [e3]; exact Ar4.1) (State.isArrayOf_alike hZ.alike Ar4.2.1) rfl Ar4.2.2 hin4 (Has.at H4 hin4 rfl) (g := (mkF m 32 #[.val (.ref x0), .val (.int x1), .val (.long (0 : Int64)), .second, .val (.int (0 : Int32)), .val (.int (0 : Int32)), .unset] [(.int (0 : Int32)), (.ref w_g_x0)])) rfl rfl (hb hby d11_32) _ ?_
    show Steps p.tables e below (T3.setTop (mkF m 33 #[.val (.ref x0), .val (.int x1), .val (.long (0 : Int64)), .second, .val (.int (0 : Int32)), .val (.int (0 : Int32)), .unset] [(.ref w_g_x0_0)])) _
    refine XS.iload X3.here hx rfl (hb hby d11_33) rfl ?_
    show Steps p.tables e below (T3.setTop (mkF m 35 #[.val (.ref x0), .val (.int x1), .val (.long (0 : Int64)), .second, .val (.int (0 : Int32)), .val (.int (0 : Int32)), .unset] [(.int (0 : Int32)), (.ref w_g_x0_0)])) _
    refine X3.aaload hx (j := (0 : Int32)) (v := (.ref w_g_x0_0_0)) (by rw [e3]; exact Ar5.1) (State.isArrayOf_alike hZ.alike Ar5.2.1) rfl Ar5.2.2 hin5 (Has.at H5 hin5 rfl) (g := (mkF m 35 #[.val (.ref x0), .val (.int x1), .val (.long (0 : Int64)), .second, .val (.int (0 : Int32)), .val (.int (0 : Int32)), .unset] [(.int (0 : Int32)), (.ref w_g_x0_0)])) rfl rfl (hb hby d11_35) _ ?_
    show Steps p.tables e below (T3.setTop (mkF m 36 #[.val (.ref x0), .val (.int x1), .val (.long (0 : Int64)), .second, .val (.int (0 : Int32)), .val (.int (0 : Int32)), .unset] [(.ref w_g_x0_0_0)])) _
    refine XS.astore X3.here hx rfl (hb hby d11_36) rfl rfl (l' := #[.val (.ref x0), .val (.int x1), .val (.long (0 : Int64)), .second, .val (.int (0 : Int32)), .val (.int (0 : Int32)), .val (.ref w_g_x0_0_0)]) rfl ?_
    show Steps p.tables e below (T3.setTop (mkF m 38 #[.val (.ref x0), .val (.int x1), .val (.long (0 : Int64)), .second, .val (.int (0 : Int32)), .val (.int (0 : Int32)), .val (.ref w_g_x0_0_0)] [])) _
    refine XS.aload X3.here hx rfl (hb hby d11_38) rfl rfl ?_
    show Steps p.tables e below (T3.setTop (mkF m 40 #[.val (.ref x0), .val (.int x1), .val (.long (0 : Int64)), .second, .val (.int (0 : Int32)), .val (.int (0 : Int32)), .val (.ref w_g_x0_0_0)] [(.ref w_g_x0_0_0)])) _
    refine st6 _ ?_
    show Steps p.tables e below (T6.setTop (mkF m 43 #[.val (.ref x0), .val (.int x1), .val (.long (0 : Int64)), .second, .val (.int (0 : Int32)), .val (.int (0 : Int32)), .val (.ref w_g_x0_0_0)] [(.int w_b_w_g_x0_0_0)])) _
    refine XS.sipush X6.here hx rfl (hb hby d11_43) ?_
    exact k
  rcases Bool.eq_false_or_eq_true (if_icmp.holds .gt w_b_w_g_x0_0_0 (288 : Int32)) with hc8 | hc8
  · obtain ⟨fs, hr, hrun, hended, hW, hsame⟩ := X6.leave (v := some (.int (0 : Int32))) (fun h => by rw [hret] at h; cases h)
    refine ⟨_, _, pre7 _ ?_, hrun, hended, _, _, rfl, ?_, ⟨_, rfl⟩, hW, hsame.mono (by decide) (by decide)⟩
    · show Steps p.tables e below (T6.setTop (mkF m 46 #[.val (.ref x0), .val (.int x1), .val (.long (0 : Int64)), .second, .val (.int (0 : Int32)), .val (.int (0 : Int32)), .val (.ref w_g_x0_0_0)] [(.int (288 : Int32)), (.int w_b_w_g_x0_0_0)])) _
      refine XS.icmpYes X6.here hx rfl (pc0 := 46) (pc' := 67) rfl (hb hby d11_46) rfl hc8 (by decide) (by decide) ?_
      show Steps p.tables e below (T6.setTop (mkF m 67 #[.val (.ref x0), .val (.int x1), .val (.long (0 : Int64)), .second, .val (.int (0 : Int32)), .val (.int (0 : Int32)), .val (.ref w_g_x0_0_0)] [])) _
      refine XS.iconst X6.here hx rfl (hb hby d11_67) ?_
      show Steps p.tables e below (T6.setTop (mkF m 68 #[.val (.ref x0), .val (.int x1), .val (.long (0 : Int64)), .second, .val (.int (0 : Int32)), .val (.int (0 : Int32)), .val (.ref w_g_x0_0_0)] [(.int (0 : Int32))])) _
      exact retN X6 hx (t := .boolean) hret (by simp) (hb hby d11_68) hr
    · show Q11 Z x0 x1 w_g_x0 k_w_g_x0 w_g_x0_0 w_g_x0_1 k_w_g_x0_0 w_g_x0_0_0 w_g_x0_0_1 w_b_w_g_x0_0_0 w_r_w_g_x0_0_0 w_s_w_g_x0_0_0 w_p_w_g_x0_0_0 w_b_w_g_x0_0_1 w_r_w_g_x0_0_1 w_s_w_g_x0_0_1 w_p_w_g_x0_0_1 k_w_g_x0_1 w_g_x0_1_0 w_g_x0_1_1 w_b_w_g_x0_1_0 w_r_w_g_x0_1_0 w_s_w_g_x0_1_0 w_p_w_g_x0_1_0 w_b_w_g_x0_1_1 w_r_w_g_x0_1_1 w_s_w_g_x0_1_1 w_p_w_g_x0_1_1 h0 n0 _ T6.heap _
      rw [e6]
      have rr : f11 x1 w_b_w_g_x0_0_0 w_r_w_g_x0_0_0 w_s_w_g_x0_0_0 w_p_w_g_x0_0_0 w_b_w_g_x0_0_1 w_r_w_g_x0_0_1 w_s_w_g_x0_0_1 w_p_w_g_x0_0_1 w_b_w_g_x0_1_0 w_r_w_g_x0_1_0 w_s_w_g_x0_1_0 w_p_w_g_x0_1_0 w_b_w_g_x0_1_1 w_r_w_g_x0_1_1 w_s_w_g_x0_1_1 w_p_w_g_x0_1_1 = (0 : Int32) := if_pos hc8
      exact ⟨congrArg (fun z => some (Value.int z)) rr.symm, N0, rfl⟩
  · obtain ⟨T9, X9, e9, st9⟩ := getF X6 hx hZ hown (host := "") (Or.inl (hw _ (List.mem_of_getElem? (i := 63) rfl))) Via.refl e6 F_w_g_x0_0_0_region0Count (g := (mkF m 51 #[.val (.ref x0), .val (.int x1), .val (.long (0 : Int64)), .second, .val (.int (0 : Int32)), .val (.int (0 : Int32)), .val (.ref w_g_x0_0_0)] [(.ref w_g_x0_0_0)])) rfl rfl (hb hby d11_51)
    obtain ⟨T10, X10, e10, st10⟩ := getF X9 hx hZ hown (host := "") (Or.inl (hw _ (List.mem_of_getElem? (i := 64) rfl))) Via.refl e9 F_w_g_x0_0_0_region1Count (g := (mkF m 56 #[.val (.ref x0), .val (.int x1), .val (.long (0 : Int64)), .second, .val (.int (0 : Int32)), .val (.int (0 : Int32)), .val (.ref w_g_x0_0_0)] [(.ref w_g_x0_0_0), (.int w_r_w_g_x0_0_0)])) rfl rfl (hb hby d11_56)
    have pre11 : ∀ t, Steps p.tables e below (T10.setTop (mkF m 64 #[.val (.ref x0), .val (.int x1), .val (.long (0 : Int64)), .second, .val (.int (0 : Int32)), .val (.int (0 : Int32)), .val (.ref w_g_x0_0_0)] [(.int (22 : Int32)), (.int ((w_r_w_g_x0_0_0 + w_s_w_g_x0_0_0) + (2 : Int32)))])) t → Steps p.tables e below (s₁.setTop (entryFrame m #[(.ref x0), (.int x1)] 7)) t := by
      intro t k
      refine pre7 _ ?_
      show Steps p.tables e below (T6.setTop (mkF m 46 #[.val (.ref x0), .val (.int x1), .val (.long (0 : Int64)), .second, .val (.int (0 : Int32)), .val (.int (0 : Int32)), .val (.ref w_g_x0_0_0)] [(.int (288 : Int32)), (.int w_b_w_g_x0_0_0)])) _
      refine XS.icmpNo X6.here hx rfl (hb hby d11_46) rfl hc8 ?_
      show Steps p.tables e below (T6.setTop (mkF m 49 #[.val (.ref x0), .val (.int x1), .val (.long (0 : Int64)), .second, .val (.int (0 : Int32)), .val (.int (0 : Int32)), .val (.ref w_g_x0_0_0)] [])) _
      refine XS.aload X6.here hx rfl (hb hby d11_49) rfl rfl ?_
      show Steps p.tables e below (T6.setTop (mkF m 51 #[.val (.ref x0), .val (.int x1), .val (.long (0 : Int64)), .second, .val (.int (0 : Int32)), .val (.int (0 : Int32)), .val (.ref w_g_x0_0_0)] [(.ref w_g_x0_0_0)])) _
      refine st9 _ ?_
      show Steps p.tables e below (T9.setTop (mkF m 54 #[.val (.ref x0), .val (.int x1), .val (.long (0 : Int64)), .second, .val (.int (0 : Int32)), .val (.int (0 : Int32)), .val (.ref w_g_x0_0_0)] [(.int w_r_w_g_x0_0_0)])) _
      refine XS.aload X9.here hx rfl (hb hby d11_54) rfl rfl ?_
      show Steps p.tables e below (T9.setTop (mkF m 56 #[.val (.ref x0), .val (.int x1), .val (.long (0 : Int64)), .second, .val (.int (0 : Int32)), .val (.int (0 : Int32)), .val (.ref w_g_x0_0_0)] [(.ref w_g_x0_0_0), (.int w_r_w_g_x0_0_0)])) _
      refine st10 _ ?_
      show Steps p.tables e below (T10.setTop (mkF m 59 #[.val (.ref x0), .val (.int x1), .val (.long (0 : Int64)), .second, .val (.int (0 : Int32)), .val (.int (0 : Int32)), .val (.ref w_g_x0_0_0)] [(.int w_s_w_g_x0_0_0), (.int w_r_w_g_x0_0_0)])) _
      refine XS.iadd X10.here hx rfl (hb hby d11_59) rfl ?_
      show Steps p.tables e below (T10.setTop (mkF m 60 #[.val (.ref x0), .val (.int x1), .val (.long (0 : Int64)), .second, .val (.int (0 : Int32)), .val (.int (0 : Int32)), .val (.ref w_g_x0_0_0)] [(.int (w_r_w_g_x0_0_0 + w_s_w_g_x0_0_0))])) _
      refine XS.iconst X10.here hx rfl (hb hby d11_60) ?_
      show Steps p.tables e below (T10.setTop (mkF m 61 #[.val (.ref x0), .val (.int x1), .val (.long (0 : Int64)), .second, .val (.int (0 : Int32)), .val (.int (0 : Int32)), .val (.ref w_g_x0_0_0)] [(.int (2 : Int32)), (.int (w_r_w_g_x0_0_0 + w_s_w_g_x0_0_0))])) _
      refine XS.iadd X10.here hx rfl (hb hby d11_61) rfl ?_
      show Steps p.tables e below (T10.setTop (mkF m 62 #[.val (.ref x0), .val (.int x1), .val (.long (0 : Int64)), .second, .val (.int (0 : Int32)), .val (.int (0 : Int32)), .val (.ref w_g_x0_0_0)] [(.int ((w_r_w_g_x0_0_0 + w_s_w_g_x0_0_0) + (2 : Int32)))])) _
      refine XS.bipush X10.here hx rfl (hb hby d11_62) ?_
      exact k
    rcases Bool.eq_false_or_eq_true (if_icmp.holds .le ((w_r_w_g_x0_0_0 + w_s_w_g_x0_0_0) + (2 : Int32)) (22 : Int32)) with hc12 | hc12
    · obtain ⟨T13, X13, e13, st13⟩ := getF X10 hx hZ hown (host := "") (Or.inl (hw _ (List.mem_of_getElem? (i := 65) rfl))) Via.refl e10 F_w_g_x0_0_0_part23Length (g := (mkF m 72 #[.val (.ref x0), .val (.int x1), .val (.long (0 : Int64)), .second, .val (.int (0 : Int32)), .val (.int (0 : Int32)), .val (.ref w_g_x0_0_0)] [(.ref w_g_x0_0_0), (.long (0 : Int64))])) rfl rfl (hb hby d11_72)
      obtain ⟨T15, X15, e15, st15⟩ := getF X13 hx hZ hown (host := "") (Or.inl (hw _ (List.mem_of_getElem? (i := 61) rfl))) Via.refl e13 F_x0_channelCount (g := (mkF m 20 #[.val (.ref x0), .val (.int x1), .val (.long (f11_v14 x1 w_b_w_g_x0_0_0 w_r_w_g_x0_0_0 w_s_w_g_x0_0_0 w_p_w_g_x0_0_0 w_b_w_g_x0_0_1 w_r_w_g_x0_0_1 w_s_w_g_x0_0_1 w_p_w_g_x0_0_1 w_b_w_g_x0_1_0 w_r_w_g_x0_1_0 w_s_w_g_x0_1_0 w_p_w_g_x0_1_0 w_b_w_g_x0_1_1 w_r_w_g_x0_1_1 w_s_w_g_x0_1_1 w_p_w_g_x0_1_1)), .second, .val (.int (0 : Int32)), .val (.int (1 : Int32)), .val (.ref w_g_x0_0_0)] [(.ref x0), (.int (1 : Int32))])) rfl rfl (hb hby d11_20)
      obtain ⟨T16, X16, e16, st16⟩ := getF X15 hx hZ hown (host := "") (Or.inl (hw _ (List.mem_of_getElem? (i := 32) rfl))) Via.refl e15 F_x0_granules (g := (mkF m 27 #[.val (.ref x0), .val (.int x1), .val (.long (f11_v14 x1 w_b_w_g_x0_0_0 w_r_w_g_x0_0_0 w_s_w_g_x0_0_0 w_p_w_g_x0_0_0 w_b_w_g_x0_0_1 w_r_w_g_x0_0_1 w_s_w_g_x0_0_1 w_p_w_g_x0_0_1 w_b_w_g_x0_1_0 w_r_w_g_x0_1_0 w_s_w_g_x0_1_0 w_p_w_g_x0_1_0 w_b_w_g_x0_1_1 w_r_w_g_x0_1_1 w_s_w_g_x0_1_1 w_p_w_g_x0_1_1)), .second, .val (.int (0 : Int32)), .val (.int (1 : Int32)), .val (.ref w_g_x0_0_0)] [(.ref x0)])) rfl rfl (hb hby d11_27)
      have Vc17 := A_w_g_x0
      obtain ⟨cl17, Ar17, q17, S17, NN17, H17, G17⟩ := Vc17
      have hin17 := inb_of (j := (0 : Int32)) S17 ⟨by decide, by decide⟩
      have Vc18 := A_w_g_x0_0
      obtain ⟨cl18, Ar18, q18, S18, NN18, H18, G18⟩ := Vc18
      have hin18 := inb_of (j := (1 : Int32)) S18 ⟨by decide, by decide⟩
      obtain ⟨T19, X19, e19, st19⟩ := getF X16 hx hZ hown (host := "") (Or.inl (hw _ (List.mem_of_getElem? (i := 62) rfl))) Via.refl e16 F_w_g_x0_0_1_bigValues (g := (mkF m 40 #[.val (.ref x0), .val (.int x1), .val (.long (f11_v14 x1 w_b_w_g_x0_0_0 w_r_w_g_x0_0_0 w_s_w_g_x0_0_0 w_p_w_g_x0_0_0 w_b_w_g_x0_0_1 w_r_w_g_x0_0_1 w_s_w_g_x0_0_1 w_p_w_g_x0_0_1 w_b_w_g_x0_1_0 w_r_w_g_x0_1_0 w_s_w_g_x0_1_0 w_p_w_g_x0_1_0 w_b_w_g_x0_1_1 w_r_w_g_x0_1_1 w_s_w_g_x0_1_1 w_p_w_g_x0_1_1)), .second, .val (.int (0 : Int32)), .val (.int (1 : Int32)), .val (.ref w_g_x0_0_1)] [(.ref w_g_x0_0_1)])) rfl rfl (hb hby d11_40)
      have pre20 : ∀ t, Steps p.tables e below (T19.setTop (mkF m 46 #[.val (.ref x0), .val (.int x1), .val (.long (f11_v14 x1 w_b_w_g_x0_0_0 w_r_w_g_x0_0_0 w_s_w_g_x0_0_0 w_p_w_g_x0_0_0 w_b_w_g_x0_0_1 w_r_w_g_x0_0_1 w_s_w_g_x0_0_1 w_p_w_g_x0_0_1 w_b_w_g_x0_1_0 w_r_w_g_x0_1_0 w_s_w_g_x0_1_0 w_p_w_g_x0_1_0 w_b_w_g_x0_1_1 w_r_w_g_x0_1_1 w_s_w_g_x0_1_1 w_p_w_g_x0_1_1)), .second, .val (.int (0 : Int32)), .val (.int (1 : Int32)), .val (.ref w_g_x0_0_1)] [(.int (288 : Int32)), (.int w_b_w_g_x0_0_1)])) t → Steps p.tables e below (s₁.setTop (entryFrame m #[(.ref x0), (.int x1)] 7)) t := by
        intro t k
        refine pre11 _ ?_
        show Steps p.tables e below (T10.setTop (mkF m 64 #[.val (.ref x0), .val (.int x1), .val (.long (0 : Int64)), .second, .val (.int (0 : Int32)), .val (.int (0 : Int32)), .val (.ref w_g_x0_0_0)] [(.int (22 : Int32)), (.int ((w_r_w_g_x0_0_0 + w_s_w_g_x0_0_0) + (2 : Int32)))])) _
        refine XS.icmpYes X10.here hx rfl (pc0 := 64) (pc' := 69) rfl (hb hby d11_64) rfl hc12 (by decide) (by decide) ?_
        show Steps p.tables e below (T10.setTop (mkF m 69 #[.val (.ref x0), .val (.int x1), .val (.long (0 : Int64)), .second, .val (.int (0 : Int32)), .val (.int (0 : Int32)), .val (.ref w_g_x0_0_0)] [])) _
        refine XS.lloadN X10.here hx rfl (hb hby d11_69) rfl ?_
        show Steps p.tables e below (T10.setTop (mkF m 70 #[.val (.ref x0), .val (.int x1), .val (.long (0 : Int64)), .second, .val (.int (0 : Int32)), .val (.int (0 : Int32)), .val (.ref w_g_x0_0_0)] [(.long (0 : Int64))])) _
        refine XS.aload X10.here hx rfl (hb hby d11_70) rfl rfl ?_
        show Steps p.tables e below (T10.setTop (mkF m 72 #[.val (.ref x0), .val (.int x1), .val (.long (0 : Int64)), .second, .val (.int (0 : Int32)), .val (.int (0 : Int32)), .val (.ref w_g_x0_0_0)] [(.ref w_g_x0_0_0), (.long (0 : Int64))])) _
        refine st13 _ ?_
        show Steps p.tables e below (T13.setTop (mkF m 75 #[.val (.ref x0), .val (.int x1), .val (.long (0 : Int64)), .second, .val (.int (0 : Int32)), .val (.int (0 : Int32)), .val (.ref w_g_x0_0_0)] [(.int w_p_w_g_x0_0_0), (.long (0 : Int64))])) _
        refine XS.i2l X13.here hx rfl (hb hby d11_75) rfl ?_
        show Steps p.tables e below (T13.setTop (mkF m 76 #[.val (.ref x0), .val (.int x1), .val (.long (0 : Int64)), .second, .val (.int (0 : Int32)), .val (.int (0 : Int32)), .val (.ref w_g_x0_0_0)] [(.long (w_p_w_g_x0_0_0.toInt64)), (.long (0 : Int64))])) _
        refine XS.ladd X13.here hx rfl (hb hby d11_76) rfl ?_
        show Steps p.tables e below (T13.setTop (mkF m 77 #[.val (.ref x0), .val (.int x1), .val (.long (0 : Int64)), .second, .val (.int (0 : Int32)), .val (.int (0 : Int32)), .val (.ref w_g_x0_0_0)] [(.long ((0 : Int64) + (w_p_w_g_x0_0_0.toInt64)))])) _
        refine XS.lstoreN X13.here hx rfl (hb hby d11_77) rfl (l' := #[.val (.ref x0), .val (.int x1), .val (.long (f11_v14 x1 w_b_w_g_x0_0_0 w_r_w_g_x0_0_0 w_s_w_g_x0_0_0 w_p_w_g_x0_0_0 w_b_w_g_x0_0_1 w_r_w_g_x0_0_1 w_s_w_g_x0_0_1 w_p_w_g_x0_0_1 w_b_w_g_x0_1_0 w_r_w_g_x0_1_0 w_s_w_g_x0_1_0 w_p_w_g_x0_1_0 w_b_w_g_x0_1_1 w_r_w_g_x0_1_1 w_s_w_g_x0_1_1 w_p_w_g_x0_1_1)), .second, .val (.int (0 : Int32)), .val (.int (0 : Int32)), .val (.ref w_g_x0_0_0)]) rfl ?_
        show Steps p.tables e below (T13.setTop (mkF m 78 #[.val (.ref x0), .val (.int x1), .val (.long (f11_v14 x1 w_b_w_g_x0_0_0 w_r_w_g_x0_0_0 w_s_w_g_x0_0_0 w_p_w_g_x0_0_0 w_b_w_g_x0_0_1 w_r_w_g_x0_0_1 w_s_w_g_x0_0_1 w_p_w_g_x0_0_1 w_b_w_g_x0_1_0 w_r_w_g_x0_1_0 w_s_w_g_x0_1_0 w_p_w_g_x0_1_0 w_b_w_g_x0_1_1 w_r_w_g_x0_1_1 w_s_w_g_x0_1_1 w_p_w_g_x0_1_1)), .second, .val (.int (0 : Int32)), .val (.int (0 : Int32)), .val (.ref w_g_x0_0_0)] [])) _
        refine XS.iinc X13.here hx rfl (hb hby d11_78) rfl (l' := #[.val (.ref x0), .val (.int x1), .val (.long (f11_v14 x1 w_b_w_g_x0_0_0 w_r_w_g_x0_0_0 w_s_w_g_x0_0_0 w_p_w_g_x0_0_0 w_b_w_g_x0_0_1 w_r_w_g_x0_0_1 w_s_w_g_x0_0_1 w_p_w_g_x0_0_1 w_b_w_g_x0_1_0 w_r_w_g_x0_1_0 w_s_w_g_x0_1_0 w_p_w_g_x0_1_0 w_b_w_g_x0_1_1 w_r_w_g_x0_1_1 w_s_w_g_x0_1_1 w_p_w_g_x0_1_1)), .second, .val (.int (0 : Int32)), .val (.int (1 : Int32)), .val (.ref w_g_x0_0_0)]) rfl ?_
        show Steps p.tables e below (T13.setTop (mkF m 81 #[.val (.ref x0), .val (.int x1), .val (.long (f11_v14 x1 w_b_w_g_x0_0_0 w_r_w_g_x0_0_0 w_s_w_g_x0_0_0 w_p_w_g_x0_0_0 w_b_w_g_x0_0_1 w_r_w_g_x0_0_1 w_s_w_g_x0_0_1 w_p_w_g_x0_0_1 w_b_w_g_x0_1_0 w_r_w_g_x0_1_0 w_s_w_g_x0_1_0 w_p_w_g_x0_1_0 w_b_w_g_x0_1_1 w_r_w_g_x0_1_1 w_s_w_g_x0_1_1 w_p_w_g_x0_1_1)), .second, .val (.int (0 : Int32)), .val (.int (1 : Int32)), .val (.ref w_g_x0_0_0)] [])) _
        refine XS.goto X13.here hx rfl (pc0 := 81) (pc' := 17) rfl (hb hby d11_81) (by decide) (by decide) ?_
        show Steps p.tables e below (T13.setTop (mkF m 17 #[.val (.ref x0), .val (.int x1), .val (.long (f11_v14 x1 w_b_w_g_x0_0_0 w_r_w_g_x0_0_0 w_s_w_g_x0_0_0 w_p_w_g_x0_0_0 w_b_w_g_x0_0_1 w_r_w_g_x0_0_1 w_s_w_g_x0_0_1 w_p_w_g_x0_0_1 w_b_w_g_x0_1_0 w_r_w_g_x0_1_0 w_s_w_g_x0_1_0 w_p_w_g_x0_1_0 w_b_w_g_x0_1_1 w_r_w_g_x0_1_1 w_s_w_g_x0_1_1 w_p_w_g_x0_1_1)), .second, .val (.int (0 : Int32)), .val (.int (1 : Int32)), .val (.ref w_g_x0_0_0)] [])) _
        refine XS.iload X13.here hx rfl (hb hby d11_17) rfl ?_
        show Steps p.tables e below (T13.setTop (mkF m 19 #[.val (.ref x0), .val (.int x1), .val (.long (f11_v14 x1 w_b_w_g_x0_0_0 w_r_w_g_x0_0_0 w_s_w_g_x0_0_0 w_p_w_g_x0_0_0 w_b_w_g_x0_0_1 w_r_w_g_x0_0_1 w_s_w_g_x0_0_1 w_p_w_g_x0_0_1 w_b_w_g_x0_1_0 w_r_w_g_x0_1_0 w_s_w_g_x0_1_0 w_p_w_g_x0_1_0 w_b_w_g_x0_1_1 w_r_w_g_x0_1_1 w_s_w_g_x0_1_1 w_p_w_g_x0_1_1)), .second, .val (.int (0 : Int32)), .val (.int (1 : Int32)), .val (.ref w_g_x0_0_0)] [(.int (1 : Int32))])) _
        refine XS.aloadN X13.here hx rfl (hb hby d11_19) rfl rfl ?_
        show Steps p.tables e below (T13.setTop (mkF m 20 #[.val (.ref x0), .val (.int x1), .val (.long (f11_v14 x1 w_b_w_g_x0_0_0 w_r_w_g_x0_0_0 w_s_w_g_x0_0_0 w_p_w_g_x0_0_0 w_b_w_g_x0_0_1 w_r_w_g_x0_0_1 w_s_w_g_x0_0_1 w_p_w_g_x0_0_1 w_b_w_g_x0_1_0 w_r_w_g_x0_1_0 w_s_w_g_x0_1_0 w_p_w_g_x0_1_0 w_b_w_g_x0_1_1 w_r_w_g_x0_1_1 w_s_w_g_x0_1_1 w_p_w_g_x0_1_1)), .second, .val (.int (0 : Int32)), .val (.int (1 : Int32)), .val (.ref w_g_x0_0_0)] [(.ref x0), (.int (1 : Int32))])) _
        refine st15 _ ?_
        show Steps p.tables e below (T15.setTop (mkF m 23 #[.val (.ref x0), .val (.int x1), .val (.long (f11_v14 x1 w_b_w_g_x0_0_0 w_r_w_g_x0_0_0 w_s_w_g_x0_0_0 w_p_w_g_x0_0_0 w_b_w_g_x0_0_1 w_r_w_g_x0_0_1 w_s_w_g_x0_0_1 w_p_w_g_x0_0_1 w_b_w_g_x0_1_0 w_r_w_g_x0_1_0 w_s_w_g_x0_1_0 w_p_w_g_x0_1_0 w_b_w_g_x0_1_1 w_r_w_g_x0_1_1 w_s_w_g_x0_1_1 w_p_w_g_x0_1_1)), .second, .val (.int (0 : Int32)), .val (.int (1 : Int32)), .val (.ref w_g_x0_0_0)] [(.int (2 : Int32)), (.int (1 : Int32))])) _
        refine XS.icmpNo X15.here hx rfl (hb hby d11_23) rfl (by decide) ?_
        show Steps p.tables e below (T15.setTop (mkF m 26 #[.val (.ref x0), .val (.int x1), .val (.long (f11_v14 x1 w_b_w_g_x0_0_0 w_r_w_g_x0_0_0 w_s_w_g_x0_0_0 w_p_w_g_x0_0_0 w_b_w_g_x0_0_1 w_r_w_g_x0_0_1 w_s_w_g_x0_0_1 w_p_w_g_x0_0_1 w_b_w_g_x0_1_0 w_r_w_g_x0_1_0 w_s_w_g_x0_1_0 w_p_w_g_x0_1_0 w_b_w_g_x0_1_1 w_r_w_g_x0_1_1 w_s_w_g_x0_1_1 w_p_w_g_x0_1_1)), .second, .val (.int (0 : Int32)), .val (.int (1 : Int32)), .val (.ref w_g_x0_0_0)] [])) _
        refine XS.aloadN X15.here hx rfl (hb hby d11_26) rfl rfl ?_
        show Steps p.tables e below (T15.setTop (mkF m 27 #[.val (.ref x0), .val (.int x1), .val (.long (f11_v14 x1 w_b_w_g_x0_0_0 w_r_w_g_x0_0_0 w_s_w_g_x0_0_0 w_p_w_g_x0_0_0 w_b_w_g_x0_0_1 w_r_w_g_x0_0_1 w_s_w_g_x0_0_1 w_p_w_g_x0_0_1 w_b_w_g_x0_1_0 w_r_w_g_x0_1_0 w_s_w_g_x0_1_0 w_p_w_g_x0_1_0 w_b_w_g_x0_1_1 w_r_w_g_x0_1_1 w_s_w_g_x0_1_1 w_p_w_g_x0_1_1)), .second, .val (.int (0 : Int32)), .val (.int (1 : Int32)), .val (.ref w_g_x0_0_0)] [(.ref x0)])) _
        refine st16 _ ?_
        show Steps p.tables e below (T16.setTop (mkF m 30 #[.val (.ref x0), .val (.int x1), .val (.long (f11_v14 x1 w_b_w_g_x0_0_0 w_r_w_g_x0_0_0 w_s_w_g_x0_0_0 w_p_w_g_x0_0_0 w_b_w_g_x0_0_1 w_r_w_g_x0_0_1 w_s_w_g_x0_0_1 w_p_w_g_x0_0_1 w_b_w_g_x0_1_0 w_r_w_g_x0_1_0 w_s_w_g_x0_1_0 w_p_w_g_x0_1_0 w_b_w_g_x0_1_1 w_r_w_g_x0_1_1 w_s_w_g_x0_1_1 w_p_w_g_x0_1_1)), .second, .val (.int (0 : Int32)), .val (.int (1 : Int32)), .val (.ref w_g_x0_0_0)] [(.ref w_g_x0)])) _
        refine XS.iload X16.here hx rfl (hb hby d11_30) rfl ?_
        show Steps p.tables e below (T16.setTop (mkF m 32 #[.val (.ref x0), .val (.int x1), .val (.long (f11_v14 x1 w_b_w_g_x0_0_0 w_r_w_g_x0_0_0 w_s_w_g_x0_0_0 w_p_w_g_x0_0_0 w_b_w_g_x0_0_1 w_r_w_g_x0_0_1 w_s_w_g_x0_0_1 w_p_w_g_x0_0_1 w_b_w_g_x0_1_0 w_r_w_g_x0_1_0 w_s_w_g_x0_1_0 w_p_w_g_x0_1_0 w_b_w_g_x0_1_1 w_r_w_g_x0_1_1 w_s_w_g_x0_1_1 w_p_w_g_x0_1_1)), .second, .val (.int (0 : Int32)), .val (.int (1 : Int32)), .val (.ref w_g_x0_0_0)] [(.int (0 : Int32)), (.ref w_g_x0)])) _
        refine X16.aaload hx (j := (0 : Int32)) (v := (.ref w_g_x0_0)) (by rw [e16]; exact Ar17.1) (State.isArrayOf_alike hZ.alike Ar17.2.1) rfl Ar17.2.2 hin17 (Has.at H17 hin17 rfl) (g := (mkF m 32 #[.val (.ref x0), .val (.int x1), .val (.long (f11_v14 x1 w_b_w_g_x0_0_0 w_r_w_g_x0_0_0 w_s_w_g_x0_0_0 w_p_w_g_x0_0_0 w_b_w_g_x0_0_1 w_r_w_g_x0_0_1 w_s_w_g_x0_0_1 w_p_w_g_x0_0_1 w_b_w_g_x0_1_0 w_r_w_g_x0_1_0 w_s_w_g_x0_1_0 w_p_w_g_x0_1_0 w_b_w_g_x0_1_1 w_r_w_g_x0_1_1 w_s_w_g_x0_1_1 w_p_w_g_x0_1_1)), .second, .val (.int (0 : Int32)), .val (.int (1 : Int32)), .val (.ref w_g_x0_0_0)] [(.int (0 : Int32)), (.ref w_g_x0)])) rfl rfl (hb hby d11_32) _ ?_
        show Steps p.tables e below (T16.setTop (mkF m 33 #[.val (.ref x0), .val (.int x1), .val (.long (f11_v14 x1 w_b_w_g_x0_0_0 w_r_w_g_x0_0_0 w_s_w_g_x0_0_0 w_p_w_g_x0_0_0 w_b_w_g_x0_0_1 w_r_w_g_x0_0_1 w_s_w_g_x0_0_1 w_p_w_g_x0_0_1 w_b_w_g_x0_1_0 w_r_w_g_x0_1_0 w_s_w_g_x0_1_0 w_p_w_g_x0_1_0 w_b_w_g_x0_1_1 w_r_w_g_x0_1_1 w_s_w_g_x0_1_1 w_p_w_g_x0_1_1)), .second, .val (.int (0 : Int32)), .val (.int (1 : Int32)), .val (.ref w_g_x0_0_0)] [(.ref w_g_x0_0)])) _
        refine XS.iload X16.here hx rfl (hb hby d11_33) rfl ?_
        show Steps p.tables e below (T16.setTop (mkF m 35 #[.val (.ref x0), .val (.int x1), .val (.long (f11_v14 x1 w_b_w_g_x0_0_0 w_r_w_g_x0_0_0 w_s_w_g_x0_0_0 w_p_w_g_x0_0_0 w_b_w_g_x0_0_1 w_r_w_g_x0_0_1 w_s_w_g_x0_0_1 w_p_w_g_x0_0_1 w_b_w_g_x0_1_0 w_r_w_g_x0_1_0 w_s_w_g_x0_1_0 w_p_w_g_x0_1_0 w_b_w_g_x0_1_1 w_r_w_g_x0_1_1 w_s_w_g_x0_1_1 w_p_w_g_x0_1_1)), .second, .val (.int (0 : Int32)), .val (.int (1 : Int32)), .val (.ref w_g_x0_0_0)] [(.int (1 : Int32)), (.ref w_g_x0_0)])) _
        refine X16.aaload hx (j := (1 : Int32)) (v := (.ref w_g_x0_0_1)) (by rw [e16]; exact Ar18.1) (State.isArrayOf_alike hZ.alike Ar18.2.1) rfl Ar18.2.2 hin18 (Has.at H18 hin18 rfl) (g := (mkF m 35 #[.val (.ref x0), .val (.int x1), .val (.long (f11_v14 x1 w_b_w_g_x0_0_0 w_r_w_g_x0_0_0 w_s_w_g_x0_0_0 w_p_w_g_x0_0_0 w_b_w_g_x0_0_1 w_r_w_g_x0_0_1 w_s_w_g_x0_0_1 w_p_w_g_x0_0_1 w_b_w_g_x0_1_0 w_r_w_g_x0_1_0 w_s_w_g_x0_1_0 w_p_w_g_x0_1_0 w_b_w_g_x0_1_1 w_r_w_g_x0_1_1 w_s_w_g_x0_1_1 w_p_w_g_x0_1_1)), .second, .val (.int (0 : Int32)), .val (.int (1 : Int32)), .val (.ref w_g_x0_0_0)] [(.int (1 : Int32)), (.ref w_g_x0_0)])) rfl rfl (hb hby d11_35) _ ?_
        show Steps p.tables e below (T16.setTop (mkF m 36 #[.val (.ref x0), .val (.int x1), .val (.long (f11_v14 x1 w_b_w_g_x0_0_0 w_r_w_g_x0_0_0 w_s_w_g_x0_0_0 w_p_w_g_x0_0_0 w_b_w_g_x0_0_1 w_r_w_g_x0_0_1 w_s_w_g_x0_0_1 w_p_w_g_x0_0_1 w_b_w_g_x0_1_0 w_r_w_g_x0_1_0 w_s_w_g_x0_1_0 w_p_w_g_x0_1_0 w_b_w_g_x0_1_1 w_r_w_g_x0_1_1 w_s_w_g_x0_1_1 w_p_w_g_x0_1_1)), .second, .val (.int (0 : Int32)), .val (.int (1 : Int32)), .val (.ref w_g_x0_0_0)] [(.ref w_g_x0_0_1)])) _
        refine XS.astore X16.here hx rfl (hb hby d11_36) rfl rfl (l' := #[.val (.ref x0), .val (.int x1), .val (.long (f11_v14 x1 w_b_w_g_x0_0_0 w_r_w_g_x0_0_0 w_s_w_g_x0_0_0 w_p_w_g_x0_0_0 w_b_w_g_x0_0_1 w_r_w_g_x0_0_1 w_s_w_g_x0_0_1 w_p_w_g_x0_0_1 w_b_w_g_x0_1_0 w_r_w_g_x0_1_0 w_s_w_g_x0_1_0 w_p_w_g_x0_1_0 w_b_w_g_x0_1_1 w_r_w_g_x0_1_1 w_s_w_g_x0_1_1 w_p_w_g_x0_1_1)), .second, .val (.int (0 : Int32)), .val (.int (1 : Int32)), .val (.ref w_g_x0_0_1)]) rfl ?_
        show Steps p.tables e below (T16.setTop (mkF m 38 #[.val (.ref x0), .val (.int x1), .val (.long (f11_v14 x1 w_b_w_g_x0_0_0 w_r_w_g_x0_0_0 w_s_w_g_x0_0_0 w_p_w_g_x0_0_0 w_b_w_g_x0_0_1 w_r_w_g_x0_0_1 w_s_w_g_x0_0_1 w_p_w_g_x0_0_1 w_b_w_g_x0_1_0 w_r_w_g_x0_1_0 w_s_w_g_x0_1_0 w_p_w_g_x0_1_0 w_b_w_g_x0_1_1 w_r_w_g_x0_1_1 w_s_w_g_x0_1_1 w_p_w_g_x0_1_1)), .second, .val (.int (0 : Int32)), .val (.int (1 : Int32)), .val (.ref w_g_x0_0_1)] [])) _
        refine XS.aload X16.here hx rfl (hb hby d11_38) rfl rfl ?_
        show Steps p.tables e below (T16.setTop (mkF m 40 #[.val (.ref x0), .val (.int x1), .val (.long (f11_v14 x1 w_b_w_g_x0_0_0 w_r_w_g_x0_0_0 w_s_w_g_x0_0_0 w_p_w_g_x0_0_0 w_b_w_g_x0_0_1 w_r_w_g_x0_0_1 w_s_w_g_x0_0_1 w_p_w_g_x0_0_1 w_b_w_g_x0_1_0 w_r_w_g_x0_1_0 w_s_w_g_x0_1_0 w_p_w_g_x0_1_0 w_b_w_g_x0_1_1 w_r_w_g_x0_1_1 w_s_w_g_x0_1_1 w_p_w_g_x0_1_1)), .second, .val (.int (0 : Int32)), .val (.int (1 : Int32)), .val (.ref w_g_x0_0_1)] [(.ref w_g_x0_0_1)])) _
        refine st19 _ ?_
        show Steps p.tables e below (T19.setTop (mkF m 43 #[.val (.ref x0), .val (.int x1), .val (.long (f11_v14 x1 w_b_w_g_x0_0_0 w_r_w_g_x0_0_0 w_s_w_g_x0_0_0 w_p_w_g_x0_0_0 w_b_w_g_x0_0_1 w_r_w_g_x0_0_1 w_s_w_g_x0_0_1 w_p_w_g_x0_0_1 w_b_w_g_x0_1_0 w_r_w_g_x0_1_0 w_s_w_g_x0_1_0 w_p_w_g_x0_1_0 w_b_w_g_x0_1_1 w_r_w_g_x0_1_1 w_s_w_g_x0_1_1 w_p_w_g_x0_1_1)), .second, .val (.int (0 : Int32)), .val (.int (1 : Int32)), .val (.ref w_g_x0_0_1)] [(.int w_b_w_g_x0_0_1)])) _
        refine XS.sipush X19.here hx rfl (hb hby d11_43) ?_
        exact k
      rcases Bool.eq_false_or_eq_true (if_icmp.holds .gt w_b_w_g_x0_0_1 (288 : Int32)) with hc21 | hc21
      · obtain ⟨fs, hr, hrun, hended, hW, hsame⟩ := X19.leave (v := some (.int (0 : Int32))) (fun h => by rw [hret] at h; cases h)
        refine ⟨_, _, pre20 _ ?_, hrun, hended, _, _, rfl, ?_, ⟨_, rfl⟩, hW, hsame.mono (by decide) (by decide)⟩
        · show Steps p.tables e below (T19.setTop (mkF m 46 #[.val (.ref x0), .val (.int x1), .val (.long (f11_v14 x1 w_b_w_g_x0_0_0 w_r_w_g_x0_0_0 w_s_w_g_x0_0_0 w_p_w_g_x0_0_0 w_b_w_g_x0_0_1 w_r_w_g_x0_0_1 w_s_w_g_x0_0_1 w_p_w_g_x0_0_1 w_b_w_g_x0_1_0 w_r_w_g_x0_1_0 w_s_w_g_x0_1_0 w_p_w_g_x0_1_0 w_b_w_g_x0_1_1 w_r_w_g_x0_1_1 w_s_w_g_x0_1_1 w_p_w_g_x0_1_1)), .second, .val (.int (0 : Int32)), .val (.int (1 : Int32)), .val (.ref w_g_x0_0_1)] [(.int (288 : Int32)), (.int w_b_w_g_x0_0_1)])) _
          refine XS.icmpYes X19.here hx rfl (pc0 := 46) (pc' := 67) rfl (hb hby d11_46) rfl hc21 (by decide) (by decide) ?_
          show Steps p.tables e below (T19.setTop (mkF m 67 #[.val (.ref x0), .val (.int x1), .val (.long (f11_v14 x1 w_b_w_g_x0_0_0 w_r_w_g_x0_0_0 w_s_w_g_x0_0_0 w_p_w_g_x0_0_0 w_b_w_g_x0_0_1 w_r_w_g_x0_0_1 w_s_w_g_x0_0_1 w_p_w_g_x0_0_1 w_b_w_g_x0_1_0 w_r_w_g_x0_1_0 w_s_w_g_x0_1_0 w_p_w_g_x0_1_0 w_b_w_g_x0_1_1 w_r_w_g_x0_1_1 w_s_w_g_x0_1_1 w_p_w_g_x0_1_1)), .second, .val (.int (0 : Int32)), .val (.int (1 : Int32)), .val (.ref w_g_x0_0_1)] [])) _
          refine XS.iconst X19.here hx rfl (hb hby d11_67) ?_
          show Steps p.tables e below (T19.setTop (mkF m 68 #[.val (.ref x0), .val (.int x1), .val (.long (f11_v14 x1 w_b_w_g_x0_0_0 w_r_w_g_x0_0_0 w_s_w_g_x0_0_0 w_p_w_g_x0_0_0 w_b_w_g_x0_0_1 w_r_w_g_x0_0_1 w_s_w_g_x0_0_1 w_p_w_g_x0_0_1 w_b_w_g_x0_1_0 w_r_w_g_x0_1_0 w_s_w_g_x0_1_0 w_p_w_g_x0_1_0 w_b_w_g_x0_1_1 w_r_w_g_x0_1_1 w_s_w_g_x0_1_1 w_p_w_g_x0_1_1)), .second, .val (.int (0 : Int32)), .val (.int (1 : Int32)), .val (.ref w_g_x0_0_1)] [(.int (0 : Int32))])) _
          exact retN X19 hx (t := .boolean) hret (by simp) (hb hby d11_68) hr
        · show Q11 Z x0 x1 w_g_x0 k_w_g_x0 w_g_x0_0 w_g_x0_1 k_w_g_x0_0 w_g_x0_0_0 w_g_x0_0_1 w_b_w_g_x0_0_0 w_r_w_g_x0_0_0 w_s_w_g_x0_0_0 w_p_w_g_x0_0_0 w_b_w_g_x0_0_1 w_r_w_g_x0_0_1 w_s_w_g_x0_0_1 w_p_w_g_x0_0_1 k_w_g_x0_1 w_g_x0_1_0 w_g_x0_1_1 w_b_w_g_x0_1_0 w_r_w_g_x0_1_0 w_s_w_g_x0_1_0 w_p_w_g_x0_1_0 w_b_w_g_x0_1_1 w_r_w_g_x0_1_1 w_s_w_g_x0_1_1 w_p_w_g_x0_1_1 h0 n0 _ T19.heap _
          rw [e19]
          have rr : f11 x1 w_b_w_g_x0_0_0 w_r_w_g_x0_0_0 w_s_w_g_x0_0_0 w_p_w_g_x0_0_0 w_b_w_g_x0_0_1 w_r_w_g_x0_0_1 w_s_w_g_x0_0_1 w_p_w_g_x0_0_1 w_b_w_g_x0_1_0 w_r_w_g_x0_1_0 w_s_w_g_x0_1_0 w_p_w_g_x0_1_0 w_b_w_g_x0_1_1 w_r_w_g_x0_1_1 w_s_w_g_x0_1_1 w_p_w_g_x0_1_1 = (0 : Int32) := Eq.trans (if_neg (own_nt hc8)) (Eq.trans (if_pos hc12) (if_pos hc21))
          exact ⟨congrArg (fun z => some (Value.int z)) rr.symm, N0, rfl⟩
      · obtain ⟨T22, X22, e22, st22⟩ := getF X19 hx hZ hown (host := "") (Or.inl (hw _ (List.mem_of_getElem? (i := 63) rfl))) Via.refl e19 F_w_g_x0_0_1_region0Count (g := (mkF m 51 #[.val (.ref x0), .val (.int x1), .val (.long (f11_v14 x1 w_b_w_g_x0_0_0 w_r_w_g_x0_0_0 w_s_w_g_x0_0_0 w_p_w_g_x0_0_0 w_b_w_g_x0_0_1 w_r_w_g_x0_0_1 w_s_w_g_x0_0_1 w_p_w_g_x0_0_1 w_b_w_g_x0_1_0 w_r_w_g_x0_1_0 w_s_w_g_x0_1_0 w_p_w_g_x0_1_0 w_b_w_g_x0_1_1 w_r_w_g_x0_1_1 w_s_w_g_x0_1_1 w_p_w_g_x0_1_1)), .second, .val (.int (0 : Int32)), .val (.int (1 : Int32)), .val (.ref w_g_x0_0_1)] [(.ref w_g_x0_0_1)])) rfl rfl (hb hby d11_51)
        obtain ⟨T23, X23, e23, st23⟩ := getF X22 hx hZ hown (host := "") (Or.inl (hw _ (List.mem_of_getElem? (i := 64) rfl))) Via.refl e22 F_w_g_x0_0_1_region1Count (g := (mkF m 56 #[.val (.ref x0), .val (.int x1), .val (.long (f11_v14 x1 w_b_w_g_x0_0_0 w_r_w_g_x0_0_0 w_s_w_g_x0_0_0 w_p_w_g_x0_0_0 w_b_w_g_x0_0_1 w_r_w_g_x0_0_1 w_s_w_g_x0_0_1 w_p_w_g_x0_0_1 w_b_w_g_x0_1_0 w_r_w_g_x0_1_0 w_s_w_g_x0_1_0 w_p_w_g_x0_1_0 w_b_w_g_x0_1_1 w_r_w_g_x0_1_1 w_s_w_g_x0_1_1 w_p_w_g_x0_1_1)), .second, .val (.int (0 : Int32)), .val (.int (1 : Int32)), .val (.ref w_g_x0_0_1)] [(.ref w_g_x0_0_1), (.int w_r_w_g_x0_0_1)])) rfl rfl (hb hby d11_56)
        have pre24 : ∀ t, Steps p.tables e below (T23.setTop (mkF m 64 #[.val (.ref x0), .val (.int x1), .val (.long (f11_v14 x1 w_b_w_g_x0_0_0 w_r_w_g_x0_0_0 w_s_w_g_x0_0_0 w_p_w_g_x0_0_0 w_b_w_g_x0_0_1 w_r_w_g_x0_0_1 w_s_w_g_x0_0_1 w_p_w_g_x0_0_1 w_b_w_g_x0_1_0 w_r_w_g_x0_1_0 w_s_w_g_x0_1_0 w_p_w_g_x0_1_0 w_b_w_g_x0_1_1 w_r_w_g_x0_1_1 w_s_w_g_x0_1_1 w_p_w_g_x0_1_1)), .second, .val (.int (0 : Int32)), .val (.int (1 : Int32)), .val (.ref w_g_x0_0_1)] [(.int (22 : Int32)), (.int ((w_r_w_g_x0_0_1 + w_s_w_g_x0_0_1) + (2 : Int32)))])) t → Steps p.tables e below (s₁.setTop (entryFrame m #[(.ref x0), (.int x1)] 7)) t := by
          intro t k
          refine pre20 _ ?_
          show Steps p.tables e below (T19.setTop (mkF m 46 #[.val (.ref x0), .val (.int x1), .val (.long (f11_v14 x1 w_b_w_g_x0_0_0 w_r_w_g_x0_0_0 w_s_w_g_x0_0_0 w_p_w_g_x0_0_0 w_b_w_g_x0_0_1 w_r_w_g_x0_0_1 w_s_w_g_x0_0_1 w_p_w_g_x0_0_1 w_b_w_g_x0_1_0 w_r_w_g_x0_1_0 w_s_w_g_x0_1_0 w_p_w_g_x0_1_0 w_b_w_g_x0_1_1 w_r_w_g_x0_1_1 w_s_w_g_x0_1_1 w_p_w_g_x0_1_1)), .second, .val (.int (0 : Int32)), .val (.int (1 : Int32)), .val (.ref w_g_x0_0_1)] [(.int (288 : Int32)), (.int w_b_w_g_x0_0_1)])) _
          refine XS.icmpNo X19.here hx rfl (hb hby d11_46) rfl hc21 ?_
          show Steps p.tables e below (T19.setTop (mkF m 49 #[.val (.ref x0), .val (.int x1), .val (.long (f11_v14 x1 w_b_w_g_x0_0_0 w_r_w_g_x0_0_0 w_s_w_g_x0_0_0 w_p_w_g_x0_0_0 w_b_w_g_x0_0_1 w_r_w_g_x0_0_1 w_s_w_g_x0_0_1 w_p_w_g_x0_0_1 w_b_w_g_x0_1_0 w_r_w_g_x0_1_0 w_s_w_g_x0_1_0 w_p_w_g_x0_1_0 w_b_w_g_x0_1_1 w_r_w_g_x0_1_1 w_s_w_g_x0_1_1 w_p_w_g_x0_1_1)), .second, .val (.int (0 : Int32)), .val (.int (1 : Int32)), .val (.ref w_g_x0_0_1)] [])) _
          refine XS.aload X19.here hx rfl (hb hby d11_49) rfl rfl ?_
          show Steps p.tables e below (T19.setTop (mkF m 51 #[.val (.ref x0), .val (.int x1), .val (.long (f11_v14 x1 w_b_w_g_x0_0_0 w_r_w_g_x0_0_0 w_s_w_g_x0_0_0 w_p_w_g_x0_0_0 w_b_w_g_x0_0_1 w_r_w_g_x0_0_1 w_s_w_g_x0_0_1 w_p_w_g_x0_0_1 w_b_w_g_x0_1_0 w_r_w_g_x0_1_0 w_s_w_g_x0_1_0 w_p_w_g_x0_1_0 w_b_w_g_x0_1_1 w_r_w_g_x0_1_1 w_s_w_g_x0_1_1 w_p_w_g_x0_1_1)), .second, .val (.int (0 : Int32)), .val (.int (1 : Int32)), .val (.ref w_g_x0_0_1)] [(.ref w_g_x0_0_1)])) _
          refine st22 _ ?_
          show Steps p.tables e below (T22.setTop (mkF m 54 #[.val (.ref x0), .val (.int x1), .val (.long (f11_v14 x1 w_b_w_g_x0_0_0 w_r_w_g_x0_0_0 w_s_w_g_x0_0_0 w_p_w_g_x0_0_0 w_b_w_g_x0_0_1 w_r_w_g_x0_0_1 w_s_w_g_x0_0_1 w_p_w_g_x0_0_1 w_b_w_g_x0_1_0 w_r_w_g_x0_1_0 w_s_w_g_x0_1_0 w_p_w_g_x0_1_0 w_b_w_g_x0_1_1 w_r_w_g_x0_1_1 w_s_w_g_x0_1_1 w_p_w_g_x0_1_1)), .second, .val (.int (0 : Int32)), .val (.int (1 : Int32)), .val (.ref w_g_x0_0_1)] [(.int w_r_w_g_x0_0_1)])) _
          refine XS.aload X22.here hx rfl (hb hby d11_54) rfl rfl ?_
          show Steps p.tables e below (T22.setTop (mkF m 56 #[.val (.ref x0), .val (.int x1), .val (.long (f11_v14 x1 w_b_w_g_x0_0_0 w_r_w_g_x0_0_0 w_s_w_g_x0_0_0 w_p_w_g_x0_0_0 w_b_w_g_x0_0_1 w_r_w_g_x0_0_1 w_s_w_g_x0_0_1 w_p_w_g_x0_0_1 w_b_w_g_x0_1_0 w_r_w_g_x0_1_0 w_s_w_g_x0_1_0 w_p_w_g_x0_1_0 w_b_w_g_x0_1_1 w_r_w_g_x0_1_1 w_s_w_g_x0_1_1 w_p_w_g_x0_1_1)), .second, .val (.int (0 : Int32)), .val (.int (1 : Int32)), .val (.ref w_g_x0_0_1)] [(.ref w_g_x0_0_1), (.int w_r_w_g_x0_0_1)])) _
          refine st23 _ ?_
          show Steps p.tables e below (T23.setTop (mkF m 59 #[.val (.ref x0), .val (.int x1), .val (.long (f11_v14 x1 w_b_w_g_x0_0_0 w_r_w_g_x0_0_0 w_s_w_g_x0_0_0 w_p_w_g_x0_0_0 w_b_w_g_x0_0_1 w_r_w_g_x0_0_1 w_s_w_g_x0_0_1 w_p_w_g_x0_0_1 w_b_w_g_x0_1_0 w_r_w_g_x0_1_0 w_s_w_g_x0_1_0 w_p_w_g_x0_1_0 w_b_w_g_x0_1_1 w_r_w_g_x0_1_1 w_s_w_g_x0_1_1 w_p_w_g_x0_1_1)), .second, .val (.int (0 : Int32)), .val (.int (1 : Int32)), .val (.ref w_g_x0_0_1)] [(.int w_s_w_g_x0_0_1), (.int w_r_w_g_x0_0_1)])) _
          refine XS.iadd X23.here hx rfl (hb hby d11_59) rfl ?_
          show Steps p.tables e below (T23.setTop (mkF m 60 #[.val (.ref x0), .val (.int x1), .val (.long (f11_v14 x1 w_b_w_g_x0_0_0 w_r_w_g_x0_0_0 w_s_w_g_x0_0_0 w_p_w_g_x0_0_0 w_b_w_g_x0_0_1 w_r_w_g_x0_0_1 w_s_w_g_x0_0_1 w_p_w_g_x0_0_1 w_b_w_g_x0_1_0 w_r_w_g_x0_1_0 w_s_w_g_x0_1_0 w_p_w_g_x0_1_0 w_b_w_g_x0_1_1 w_r_w_g_x0_1_1 w_s_w_g_x0_1_1 w_p_w_g_x0_1_1)), .second, .val (.int (0 : Int32)), .val (.int (1 : Int32)), .val (.ref w_g_x0_0_1)] [(.int (w_r_w_g_x0_0_1 + w_s_w_g_x0_0_1))])) _
          refine XS.iconst X23.here hx rfl (hb hby d11_60) ?_
          show Steps p.tables e below (T23.setTop (mkF m 61 #[.val (.ref x0), .val (.int x1), .val (.long (f11_v14 x1 w_b_w_g_x0_0_0 w_r_w_g_x0_0_0 w_s_w_g_x0_0_0 w_p_w_g_x0_0_0 w_b_w_g_x0_0_1 w_r_w_g_x0_0_1 w_s_w_g_x0_0_1 w_p_w_g_x0_0_1 w_b_w_g_x0_1_0 w_r_w_g_x0_1_0 w_s_w_g_x0_1_0 w_p_w_g_x0_1_0 w_b_w_g_x0_1_1 w_r_w_g_x0_1_1 w_s_w_g_x0_1_1 w_p_w_g_x0_1_1)), .second, .val (.int (0 : Int32)), .val (.int (1 : Int32)), .val (.ref w_g_x0_0_1)] [(.int (2 : Int32)), (.int (w_r_w_g_x0_0_1 + w_s_w_g_x0_0_1))])) _
          refine XS.iadd X23.here hx rfl (hb hby d11_61) rfl ?_
          show Steps p.tables e below (T23.setTop (mkF m 62 #[.val (.ref x0), .val (.int x1), .val (.long (f11_v14 x1 w_b_w_g_x0_0_0 w_r_w_g_x0_0_0 w_s_w_g_x0_0_0 w_p_w_g_x0_0_0 w_b_w_g_x0_0_1 w_r_w_g_x0_0_1 w_s_w_g_x0_0_1 w_p_w_g_x0_0_1 w_b_w_g_x0_1_0 w_r_w_g_x0_1_0 w_s_w_g_x0_1_0 w_p_w_g_x0_1_0 w_b_w_g_x0_1_1 w_r_w_g_x0_1_1 w_s_w_g_x0_1_1 w_p_w_g_x0_1_1)), .second, .val (.int (0 : Int32)), .val (.int (1 : Int32)), .val (.ref w_g_x0_0_1)] [(.int ((w_r_w_g_x0_0_1 + w_s_w_g_x0_0_1) + (2 : Int32)))])) _
          refine XS.bipush X23.here hx rfl (hb hby d11_62) ?_
          exact k
        rcases Bool.eq_false_or_eq_true (if_icmp.holds .le ((w_r_w_g_x0_0_1 + w_s_w_g_x0_0_1) + (2 : Int32)) (22 : Int32)) with hc25 | hc25
        · obtain ⟨T26, X26, e26, st26⟩ := getF X23 hx hZ hown (host := "") (Or.inl (hw _ (List.mem_of_getElem? (i := 65) rfl))) Via.refl e23 F_w_g_x0_0_1_part23Length (g := (mkF m 72 #[.val (.ref x0), .val (.int x1), .val (.long (f11_v14 x1 w_b_w_g_x0_0_0 w_r_w_g_x0_0_0 w_s_w_g_x0_0_0 w_p_w_g_x0_0_0 w_b_w_g_x0_0_1 w_r_w_g_x0_0_1 w_s_w_g_x0_0_1 w_p_w_g_x0_0_1 w_b_w_g_x0_1_0 w_r_w_g_x0_1_0 w_s_w_g_x0_1_0 w_p_w_g_x0_1_0 w_b_w_g_x0_1_1 w_r_w_g_x0_1_1 w_s_w_g_x0_1_1 w_p_w_g_x0_1_1)), .second, .val (.int (0 : Int32)), .val (.int (1 : Int32)), .val (.ref w_g_x0_0_1)] [(.ref w_g_x0_0_1), (.long (f11_v14 x1 w_b_w_g_x0_0_0 w_r_w_g_x0_0_0 w_s_w_g_x0_0_0 w_p_w_g_x0_0_0 w_b_w_g_x0_0_1 w_r_w_g_x0_0_1 w_s_w_g_x0_0_1 w_p_w_g_x0_0_1 w_b_w_g_x0_1_0 w_r_w_g_x0_1_0 w_s_w_g_x0_1_0 w_p_w_g_x0_1_0 w_b_w_g_x0_1_1 w_r_w_g_x0_1_1 w_s_w_g_x0_1_1 w_p_w_g_x0_1_1))])) rfl rfl (hb hby d11_72)
          obtain ⟨T28, X28, e28, st28⟩ := getF X26 hx hZ hown (host := "") (Or.inl (hw _ (List.mem_of_getElem? (i := 61) rfl))) Via.refl e26 F_x0_channelCount (g := (mkF m 20 #[.val (.ref x0), .val (.int x1), .val (.long (f11_v27 x1 w_b_w_g_x0_0_0 w_r_w_g_x0_0_0 w_s_w_g_x0_0_0 w_p_w_g_x0_0_0 w_b_w_g_x0_0_1 w_r_w_g_x0_0_1 w_s_w_g_x0_0_1 w_p_w_g_x0_0_1 w_b_w_g_x0_1_0 w_r_w_g_x0_1_0 w_s_w_g_x0_1_0 w_p_w_g_x0_1_0 w_b_w_g_x0_1_1 w_r_w_g_x0_1_1 w_s_w_g_x0_1_1 w_p_w_g_x0_1_1)), .second, .val (.int (0 : Int32)), .val (.int (2 : Int32)), .val (.ref w_g_x0_0_1)] [(.ref x0), (.int (2 : Int32))])) rfl rfl (hb hby d11_20)
          obtain ⟨T29, X29, e29, st29⟩ := getF X28 hx hZ hown (host := "") (Or.inl (hw _ (List.mem_of_getElem? (i := 60) rfl))) Via.refl e28 F_x0_granuleCount (g := (mkF m 8 #[.val (.ref x0), .val (.int x1), .val (.long (f11_v27 x1 w_b_w_g_x0_0_0 w_r_w_g_x0_0_0 w_s_w_g_x0_0_0 w_p_w_g_x0_0_0 w_b_w_g_x0_0_1 w_r_w_g_x0_0_1 w_s_w_g_x0_0_1 w_p_w_g_x0_0_1 w_b_w_g_x0_1_0 w_r_w_g_x0_1_0 w_s_w_g_x0_1_0 w_p_w_g_x0_1_0 w_b_w_g_x0_1_1 w_r_w_g_x0_1_1 w_s_w_g_x0_1_1 w_p_w_g_x0_1_1)), .second, .val (.int (1 : Int32)), .val (.int (2 : Int32)), .val (.ref w_g_x0_0_1)] [(.ref x0), (.int (1 : Int32))])) rfl rfl (hb hby d11_8)
          obtain ⟨T30, X30, e30, st30⟩ := getF X29 hx hZ hown (host := "") (Or.inl (hw _ (List.mem_of_getElem? (i := 61) rfl))) Via.refl e29 F_x0_channelCount (g := (mkF m 20 #[.val (.ref x0), .val (.int x1), .val (.long (f11_v27 x1 w_b_w_g_x0_0_0 w_r_w_g_x0_0_0 w_s_w_g_x0_0_0 w_p_w_g_x0_0_0 w_b_w_g_x0_0_1 w_r_w_g_x0_0_1 w_s_w_g_x0_0_1 w_p_w_g_x0_0_1 w_b_w_g_x0_1_0 w_r_w_g_x0_1_0 w_s_w_g_x0_1_0 w_p_w_g_x0_1_0 w_b_w_g_x0_1_1 w_r_w_g_x0_1_1 w_s_w_g_x0_1_1 w_p_w_g_x0_1_1)), .second, .val (.int (1 : Int32)), .val (.int (0 : Int32)), .val (.ref w_g_x0_0_1)] [(.ref x0), (.int (0 : Int32))])) rfl rfl (hb hby d11_20)
          obtain ⟨T31, X31, e31, st31⟩ := getF X30 hx hZ hown (host := "") (Or.inl (hw _ (List.mem_of_getElem? (i := 32) rfl))) Via.refl e30 F_x0_granules (g := (mkF m 27 #[.val (.ref x0), .val (.int x1), .val (.long (f11_v27 x1 w_b_w_g_x0_0_0 w_r_w_g_x0_0_0 w_s_w_g_x0_0_0 w_p_w_g_x0_0_0 w_b_w_g_x0_0_1 w_r_w_g_x0_0_1 w_s_w_g_x0_0_1 w_p_w_g_x0_0_1 w_b_w_g_x0_1_0 w_r_w_g_x0_1_0 w_s_w_g_x0_1_0 w_p_w_g_x0_1_0 w_b_w_g_x0_1_1 w_r_w_g_x0_1_1 w_s_w_g_x0_1_1 w_p_w_g_x0_1_1)), .second, .val (.int (1 : Int32)), .val (.int (0 : Int32)), .val (.ref w_g_x0_0_1)] [(.ref x0)])) rfl rfl (hb hby d11_27)
          have Vc32 := A_w_g_x0
          obtain ⟨cl32, Ar32, q32, S32, NN32, H32, G32⟩ := Vc32
          have hin32 := inb_of (j := (1 : Int32)) S32 ⟨by decide, by decide⟩
          have Vc33 := A_w_g_x0_1
          obtain ⟨cl33, Ar33, q33, S33, NN33, H33, G33⟩ := Vc33
          have hin33 := inb_of (j := (0 : Int32)) S33 ⟨by decide, by decide⟩
          obtain ⟨T34, X34, e34, st34⟩ := getF X31 hx hZ hown (host := "") (Or.inl (hw _ (List.mem_of_getElem? (i := 62) rfl))) Via.refl e31 F_w_g_x0_1_0_bigValues (g := (mkF m 40 #[.val (.ref x0), .val (.int x1), .val (.long (f11_v27 x1 w_b_w_g_x0_0_0 w_r_w_g_x0_0_0 w_s_w_g_x0_0_0 w_p_w_g_x0_0_0 w_b_w_g_x0_0_1 w_r_w_g_x0_0_1 w_s_w_g_x0_0_1 w_p_w_g_x0_0_1 w_b_w_g_x0_1_0 w_r_w_g_x0_1_0 w_s_w_g_x0_1_0 w_p_w_g_x0_1_0 w_b_w_g_x0_1_1 w_r_w_g_x0_1_1 w_s_w_g_x0_1_1 w_p_w_g_x0_1_1)), .second, .val (.int (1 : Int32)), .val (.int (0 : Int32)), .val (.ref w_g_x0_1_0)] [(.ref w_g_x0_1_0)])) rfl rfl (hb hby d11_40)
          have pre35 : ∀ t, Steps p.tables e below (T34.setTop (mkF m 46 #[.val (.ref x0), .val (.int x1), .val (.long (f11_v27 x1 w_b_w_g_x0_0_0 w_r_w_g_x0_0_0 w_s_w_g_x0_0_0 w_p_w_g_x0_0_0 w_b_w_g_x0_0_1 w_r_w_g_x0_0_1 w_s_w_g_x0_0_1 w_p_w_g_x0_0_1 w_b_w_g_x0_1_0 w_r_w_g_x0_1_0 w_s_w_g_x0_1_0 w_p_w_g_x0_1_0 w_b_w_g_x0_1_1 w_r_w_g_x0_1_1 w_s_w_g_x0_1_1 w_p_w_g_x0_1_1)), .second, .val (.int (1 : Int32)), .val (.int (0 : Int32)), .val (.ref w_g_x0_1_0)] [(.int (288 : Int32)), (.int w_b_w_g_x0_1_0)])) t → Steps p.tables e below (s₁.setTop (entryFrame m #[(.ref x0), (.int x1)] 7)) t := by
            intro t k
            refine pre24 _ ?_
            show Steps p.tables e below (T23.setTop (mkF m 64 #[.val (.ref x0), .val (.int x1), .val (.long (f11_v14 x1 w_b_w_g_x0_0_0 w_r_w_g_x0_0_0 w_s_w_g_x0_0_0 w_p_w_g_x0_0_0 w_b_w_g_x0_0_1 w_r_w_g_x0_0_1 w_s_w_g_x0_0_1 w_p_w_g_x0_0_1 w_b_w_g_x0_1_0 w_r_w_g_x0_1_0 w_s_w_g_x0_1_0 w_p_w_g_x0_1_0 w_b_w_g_x0_1_1 w_r_w_g_x0_1_1 w_s_w_g_x0_1_1 w_p_w_g_x0_1_1)), .second, .val (.int (0 : Int32)), .val (.int (1 : Int32)), .val (.ref w_g_x0_0_1)] [(.int (22 : Int32)), (.int ((w_r_w_g_x0_0_1 + w_s_w_g_x0_0_1) + (2 : Int32)))])) _
            refine XS.icmpYes X23.here hx rfl (pc0 := 64) (pc' := 69) rfl (hb hby d11_64) rfl hc25 (by decide) (by decide) ?_
            show Steps p.tables e below (T23.setTop (mkF m 69 #[.val (.ref x0), .val (.int x1), .val (.long (f11_v14 x1 w_b_w_g_x0_0_0 w_r_w_g_x0_0_0 w_s_w_g_x0_0_0 w_p_w_g_x0_0_0 w_b_w_g_x0_0_1 w_r_w_g_x0_0_1 w_s_w_g_x0_0_1 w_p_w_g_x0_0_1 w_b_w_g_x0_1_0 w_r_w_g_x0_1_0 w_s_w_g_x0_1_0 w_p_w_g_x0_1_0 w_b_w_g_x0_1_1 w_r_w_g_x0_1_1 w_s_w_g_x0_1_1 w_p_w_g_x0_1_1)), .second, .val (.int (0 : Int32)), .val (.int (1 : Int32)), .val (.ref w_g_x0_0_1)] [])) _
            refine XS.lloadN X23.here hx rfl (hb hby d11_69) rfl ?_
            show Steps p.tables e below (T23.setTop (mkF m 70 #[.val (.ref x0), .val (.int x1), .val (.long (f11_v14 x1 w_b_w_g_x0_0_0 w_r_w_g_x0_0_0 w_s_w_g_x0_0_0 w_p_w_g_x0_0_0 w_b_w_g_x0_0_1 w_r_w_g_x0_0_1 w_s_w_g_x0_0_1 w_p_w_g_x0_0_1 w_b_w_g_x0_1_0 w_r_w_g_x0_1_0 w_s_w_g_x0_1_0 w_p_w_g_x0_1_0 w_b_w_g_x0_1_1 w_r_w_g_x0_1_1 w_s_w_g_x0_1_1 w_p_w_g_x0_1_1)), .second, .val (.int (0 : Int32)), .val (.int (1 : Int32)), .val (.ref w_g_x0_0_1)] [(.long (f11_v14 x1 w_b_w_g_x0_0_0 w_r_w_g_x0_0_0 w_s_w_g_x0_0_0 w_p_w_g_x0_0_0 w_b_w_g_x0_0_1 w_r_w_g_x0_0_1 w_s_w_g_x0_0_1 w_p_w_g_x0_0_1 w_b_w_g_x0_1_0 w_r_w_g_x0_1_0 w_s_w_g_x0_1_0 w_p_w_g_x0_1_0 w_b_w_g_x0_1_1 w_r_w_g_x0_1_1 w_s_w_g_x0_1_1 w_p_w_g_x0_1_1))])) _
            refine XS.aload X23.here hx rfl (hb hby d11_70) rfl rfl ?_
            show Steps p.tables e below (T23.setTop (mkF m 72 #[.val (.ref x0), .val (.int x1), .val (.long (f11_v14 x1 w_b_w_g_x0_0_0 w_r_w_g_x0_0_0 w_s_w_g_x0_0_0 w_p_w_g_x0_0_0 w_b_w_g_x0_0_1 w_r_w_g_x0_0_1 w_s_w_g_x0_0_1 w_p_w_g_x0_0_1 w_b_w_g_x0_1_0 w_r_w_g_x0_1_0 w_s_w_g_x0_1_0 w_p_w_g_x0_1_0 w_b_w_g_x0_1_1 w_r_w_g_x0_1_1 w_s_w_g_x0_1_1 w_p_w_g_x0_1_1)), .second, .val (.int (0 : Int32)), .val (.int (1 : Int32)), .val (.ref w_g_x0_0_1)] [(.ref w_g_x0_0_1), (.long (f11_v14 x1 w_b_w_g_x0_0_0 w_r_w_g_x0_0_0 w_s_w_g_x0_0_0 w_p_w_g_x0_0_0 w_b_w_g_x0_0_1 w_r_w_g_x0_0_1 w_s_w_g_x0_0_1 w_p_w_g_x0_0_1 w_b_w_g_x0_1_0 w_r_w_g_x0_1_0 w_s_w_g_x0_1_0 w_p_w_g_x0_1_0 w_b_w_g_x0_1_1 w_r_w_g_x0_1_1 w_s_w_g_x0_1_1 w_p_w_g_x0_1_1))])) _
            refine st26 _ ?_
            show Steps p.tables e below (T26.setTop (mkF m 75 #[.val (.ref x0), .val (.int x1), .val (.long (f11_v14 x1 w_b_w_g_x0_0_0 w_r_w_g_x0_0_0 w_s_w_g_x0_0_0 w_p_w_g_x0_0_0 w_b_w_g_x0_0_1 w_r_w_g_x0_0_1 w_s_w_g_x0_0_1 w_p_w_g_x0_0_1 w_b_w_g_x0_1_0 w_r_w_g_x0_1_0 w_s_w_g_x0_1_0 w_p_w_g_x0_1_0 w_b_w_g_x0_1_1 w_r_w_g_x0_1_1 w_s_w_g_x0_1_1 w_p_w_g_x0_1_1)), .second, .val (.int (0 : Int32)), .val (.int (1 : Int32)), .val (.ref w_g_x0_0_1)] [(.int w_p_w_g_x0_0_1), (.long (f11_v14 x1 w_b_w_g_x0_0_0 w_r_w_g_x0_0_0 w_s_w_g_x0_0_0 w_p_w_g_x0_0_0 w_b_w_g_x0_0_1 w_r_w_g_x0_0_1 w_s_w_g_x0_0_1 w_p_w_g_x0_0_1 w_b_w_g_x0_1_0 w_r_w_g_x0_1_0 w_s_w_g_x0_1_0 w_p_w_g_x0_1_0 w_b_w_g_x0_1_1 w_r_w_g_x0_1_1 w_s_w_g_x0_1_1 w_p_w_g_x0_1_1))])) _
            refine XS.i2l X26.here hx rfl (hb hby d11_75) rfl ?_
            show Steps p.tables e below (T26.setTop (mkF m 76 #[.val (.ref x0), .val (.int x1), .val (.long (f11_v14 x1 w_b_w_g_x0_0_0 w_r_w_g_x0_0_0 w_s_w_g_x0_0_0 w_p_w_g_x0_0_0 w_b_w_g_x0_0_1 w_r_w_g_x0_0_1 w_s_w_g_x0_0_1 w_p_w_g_x0_0_1 w_b_w_g_x0_1_0 w_r_w_g_x0_1_0 w_s_w_g_x0_1_0 w_p_w_g_x0_1_0 w_b_w_g_x0_1_1 w_r_w_g_x0_1_1 w_s_w_g_x0_1_1 w_p_w_g_x0_1_1)), .second, .val (.int (0 : Int32)), .val (.int (1 : Int32)), .val (.ref w_g_x0_0_1)] [(.long (w_p_w_g_x0_0_1.toInt64)), (.long (f11_v14 x1 w_b_w_g_x0_0_0 w_r_w_g_x0_0_0 w_s_w_g_x0_0_0 w_p_w_g_x0_0_0 w_b_w_g_x0_0_1 w_r_w_g_x0_0_1 w_s_w_g_x0_0_1 w_p_w_g_x0_0_1 w_b_w_g_x0_1_0 w_r_w_g_x0_1_0 w_s_w_g_x0_1_0 w_p_w_g_x0_1_0 w_b_w_g_x0_1_1 w_r_w_g_x0_1_1 w_s_w_g_x0_1_1 w_p_w_g_x0_1_1))])) _
            refine XS.ladd X26.here hx rfl (hb hby d11_76) rfl ?_
            show Steps p.tables e below (T26.setTop (mkF m 77 #[.val (.ref x0), .val (.int x1), .val (.long (f11_v14 x1 w_b_w_g_x0_0_0 w_r_w_g_x0_0_0 w_s_w_g_x0_0_0 w_p_w_g_x0_0_0 w_b_w_g_x0_0_1 w_r_w_g_x0_0_1 w_s_w_g_x0_0_1 w_p_w_g_x0_0_1 w_b_w_g_x0_1_0 w_r_w_g_x0_1_0 w_s_w_g_x0_1_0 w_p_w_g_x0_1_0 w_b_w_g_x0_1_1 w_r_w_g_x0_1_1 w_s_w_g_x0_1_1 w_p_w_g_x0_1_1)), .second, .val (.int (0 : Int32)), .val (.int (1 : Int32)), .val (.ref w_g_x0_0_1)] [(.long ((f11_v14 x1 w_b_w_g_x0_0_0 w_r_w_g_x0_0_0 w_s_w_g_x0_0_0 w_p_w_g_x0_0_0 w_b_w_g_x0_0_1 w_r_w_g_x0_0_1 w_s_w_g_x0_0_1 w_p_w_g_x0_0_1 w_b_w_g_x0_1_0 w_r_w_g_x0_1_0 w_s_w_g_x0_1_0 w_p_w_g_x0_1_0 w_b_w_g_x0_1_1 w_r_w_g_x0_1_1 w_s_w_g_x0_1_1 w_p_w_g_x0_1_1) + (w_p_w_g_x0_0_1.toInt64)))])) _
            refine XS.lstoreN X26.here hx rfl (hb hby d11_77) rfl (l' := #[.val (.ref x0), .val (.int x1), .val (.long (f11_v27 x1 w_b_w_g_x0_0_0 w_r_w_g_x0_0_0 w_s_w_g_x0_0_0 w_p_w_g_x0_0_0 w_b_w_g_x0_0_1 w_r_w_g_x0_0_1 w_s_w_g_x0_0_1 w_p_w_g_x0_0_1 w_b_w_g_x0_1_0 w_r_w_g_x0_1_0 w_s_w_g_x0_1_0 w_p_w_g_x0_1_0 w_b_w_g_x0_1_1 w_r_w_g_x0_1_1 w_s_w_g_x0_1_1 w_p_w_g_x0_1_1)), .second, .val (.int (0 : Int32)), .val (.int (1 : Int32)), .val (.ref w_g_x0_0_1)]) rfl ?_
            show Steps p.tables e below (T26.setTop (mkF m 78 #[.val (.ref x0), .val (.int x1), .val (.long (f11_v27 x1 w_b_w_g_x0_0_0 w_r_w_g_x0_0_0 w_s_w_g_x0_0_0 w_p_w_g_x0_0_0 w_b_w_g_x0_0_1 w_r_w_g_x0_0_1 w_s_w_g_x0_0_1 w_p_w_g_x0_0_1 w_b_w_g_x0_1_0 w_r_w_g_x0_1_0 w_s_w_g_x0_1_0 w_p_w_g_x0_1_0 w_b_w_g_x0_1_1 w_r_w_g_x0_1_1 w_s_w_g_x0_1_1 w_p_w_g_x0_1_1)), .second, .val (.int (0 : Int32)), .val (.int (1 : Int32)), .val (.ref w_g_x0_0_1)] [])) _
            refine XS.iinc X26.here hx rfl (hb hby d11_78) rfl (l' := #[.val (.ref x0), .val (.int x1), .val (.long (f11_v27 x1 w_b_w_g_x0_0_0 w_r_w_g_x0_0_0 w_s_w_g_x0_0_0 w_p_w_g_x0_0_0 w_b_w_g_x0_0_1 w_r_w_g_x0_0_1 w_s_w_g_x0_0_1 w_p_w_g_x0_0_1 w_b_w_g_x0_1_0 w_r_w_g_x0_1_0 w_s_w_g_x0_1_0 w_p_w_g_x0_1_0 w_b_w_g_x0_1_1 w_r_w_g_x0_1_1 w_s_w_g_x0_1_1 w_p_w_g_x0_1_1)), .second, .val (.int (0 : Int32)), .val (.int (2 : Int32)), .val (.ref w_g_x0_0_1)]) rfl ?_
            show Steps p.tables e below (T26.setTop (mkF m 81 #[.val (.ref x0), .val (.int x1), .val (.long (f11_v27 x1 w_b_w_g_x0_0_0 w_r_w_g_x0_0_0 w_s_w_g_x0_0_0 w_p_w_g_x0_0_0 w_b_w_g_x0_0_1 w_r_w_g_x0_0_1 w_s_w_g_x0_0_1 w_p_w_g_x0_0_1 w_b_w_g_x0_1_0 w_r_w_g_x0_1_0 w_s_w_g_x0_1_0 w_p_w_g_x0_1_0 w_b_w_g_x0_1_1 w_r_w_g_x0_1_1 w_s_w_g_x0_1_1 w_p_w_g_x0_1_1)), .second, .val (.int (0 : Int32)), .val (.int (2 : Int32)), .val (.ref w_g_x0_0_1)] [])) _
            refine XS.goto X26.here hx rfl (pc0 := 81) (pc' := 17) rfl (hb hby d11_81) (by decide) (by decide) ?_
            show Steps p.tables e below (T26.setTop (mkF m 17 #[.val (.ref x0), .val (.int x1), .val (.long (f11_v27 x1 w_b_w_g_x0_0_0 w_r_w_g_x0_0_0 w_s_w_g_x0_0_0 w_p_w_g_x0_0_0 w_b_w_g_x0_0_1 w_r_w_g_x0_0_1 w_s_w_g_x0_0_1 w_p_w_g_x0_0_1 w_b_w_g_x0_1_0 w_r_w_g_x0_1_0 w_s_w_g_x0_1_0 w_p_w_g_x0_1_0 w_b_w_g_x0_1_1 w_r_w_g_x0_1_1 w_s_w_g_x0_1_1 w_p_w_g_x0_1_1)), .second, .val (.int (0 : Int32)), .val (.int (2 : Int32)), .val (.ref w_g_x0_0_1)] [])) _
            refine XS.iload X26.here hx rfl (hb hby d11_17) rfl ?_
            show Steps p.tables e below (T26.setTop (mkF m 19 #[.val (.ref x0), .val (.int x1), .val (.long (f11_v27 x1 w_b_w_g_x0_0_0 w_r_w_g_x0_0_0 w_s_w_g_x0_0_0 w_p_w_g_x0_0_0 w_b_w_g_x0_0_1 w_r_w_g_x0_0_1 w_s_w_g_x0_0_1 w_p_w_g_x0_0_1 w_b_w_g_x0_1_0 w_r_w_g_x0_1_0 w_s_w_g_x0_1_0 w_p_w_g_x0_1_0 w_b_w_g_x0_1_1 w_r_w_g_x0_1_1 w_s_w_g_x0_1_1 w_p_w_g_x0_1_1)), .second, .val (.int (0 : Int32)), .val (.int (2 : Int32)), .val (.ref w_g_x0_0_1)] [(.int (2 : Int32))])) _
            refine XS.aloadN X26.here hx rfl (hb hby d11_19) rfl rfl ?_
            show Steps p.tables e below (T26.setTop (mkF m 20 #[.val (.ref x0), .val (.int x1), .val (.long (f11_v27 x1 w_b_w_g_x0_0_0 w_r_w_g_x0_0_0 w_s_w_g_x0_0_0 w_p_w_g_x0_0_0 w_b_w_g_x0_0_1 w_r_w_g_x0_0_1 w_s_w_g_x0_0_1 w_p_w_g_x0_0_1 w_b_w_g_x0_1_0 w_r_w_g_x0_1_0 w_s_w_g_x0_1_0 w_p_w_g_x0_1_0 w_b_w_g_x0_1_1 w_r_w_g_x0_1_1 w_s_w_g_x0_1_1 w_p_w_g_x0_1_1)), .second, .val (.int (0 : Int32)), .val (.int (2 : Int32)), .val (.ref w_g_x0_0_1)] [(.ref x0), (.int (2 : Int32))])) _
            refine st28 _ ?_
            show Steps p.tables e below (T28.setTop (mkF m 23 #[.val (.ref x0), .val (.int x1), .val (.long (f11_v27 x1 w_b_w_g_x0_0_0 w_r_w_g_x0_0_0 w_s_w_g_x0_0_0 w_p_w_g_x0_0_0 w_b_w_g_x0_0_1 w_r_w_g_x0_0_1 w_s_w_g_x0_0_1 w_p_w_g_x0_0_1 w_b_w_g_x0_1_0 w_r_w_g_x0_1_0 w_s_w_g_x0_1_0 w_p_w_g_x0_1_0 w_b_w_g_x0_1_1 w_r_w_g_x0_1_1 w_s_w_g_x0_1_1 w_p_w_g_x0_1_1)), .second, .val (.int (0 : Int32)), .val (.int (2 : Int32)), .val (.ref w_g_x0_0_1)] [(.int (2 : Int32)), (.int (2 : Int32))])) _
            refine XS.icmpYes X28.here hx rfl (pc0 := 23) (pc' := 84) rfl (hb hby d11_23) rfl (by decide) (by decide) (by decide) ?_
            show Steps p.tables e below (T28.setTop (mkF m 84 #[.val (.ref x0), .val (.int x1), .val (.long (f11_v27 x1 w_b_w_g_x0_0_0 w_r_w_g_x0_0_0 w_s_w_g_x0_0_0 w_p_w_g_x0_0_0 w_b_w_g_x0_0_1 w_r_w_g_x0_0_1 w_s_w_g_x0_0_1 w_p_w_g_x0_0_1 w_b_w_g_x0_1_0 w_r_w_g_x0_1_0 w_s_w_g_x0_1_0 w_p_w_g_x0_1_0 w_b_w_g_x0_1_1 w_r_w_g_x0_1_1 w_s_w_g_x0_1_1 w_p_w_g_x0_1_1)), .second, .val (.int (0 : Int32)), .val (.int (2 : Int32)), .val (.ref w_g_x0_0_1)] [])) _
            refine XS.iinc X28.here hx rfl (hb hby d11_84) rfl (l' := #[.val (.ref x0), .val (.int x1), .val (.long (f11_v27 x1 w_b_w_g_x0_0_0 w_r_w_g_x0_0_0 w_s_w_g_x0_0_0 w_p_w_g_x0_0_0 w_b_w_g_x0_0_1 w_r_w_g_x0_0_1 w_s_w_g_x0_0_1 w_p_w_g_x0_0_1 w_b_w_g_x0_1_0 w_r_w_g_x0_1_0 w_s_w_g_x0_1_0 w_p_w_g_x0_1_0 w_b_w_g_x0_1_1 w_r_w_g_x0_1_1 w_s_w_g_x0_1_1 w_p_w_g_x0_1_1)), .second, .val (.int (1 : Int32)), .val (.int (2 : Int32)), .val (.ref w_g_x0_0_1)]) rfl ?_
            show Steps p.tables e below (T28.setTop (mkF m 87 #[.val (.ref x0), .val (.int x1), .val (.long (f11_v27 x1 w_b_w_g_x0_0_0 w_r_w_g_x0_0_0 w_s_w_g_x0_0_0 w_p_w_g_x0_0_0 w_b_w_g_x0_0_1 w_r_w_g_x0_0_1 w_s_w_g_x0_0_1 w_p_w_g_x0_0_1 w_b_w_g_x0_1_0 w_r_w_g_x0_1_0 w_s_w_g_x0_1_0 w_p_w_g_x0_1_0 w_b_w_g_x0_1_1 w_r_w_g_x0_1_1 w_s_w_g_x0_1_1 w_p_w_g_x0_1_1)), .second, .val (.int (1 : Int32)), .val (.int (2 : Int32)), .val (.ref w_g_x0_0_1)] [])) _
            refine XS.goto X28.here hx rfl (pc0 := 87) (pc' := 5) rfl (hb hby d11_87) (by decide) (by decide) ?_
            show Steps p.tables e below (T28.setTop (mkF m 5 #[.val (.ref x0), .val (.int x1), .val (.long (f11_v27 x1 w_b_w_g_x0_0_0 w_r_w_g_x0_0_0 w_s_w_g_x0_0_0 w_p_w_g_x0_0_0 w_b_w_g_x0_0_1 w_r_w_g_x0_0_1 w_s_w_g_x0_0_1 w_p_w_g_x0_0_1 w_b_w_g_x0_1_0 w_r_w_g_x0_1_0 w_s_w_g_x0_1_0 w_p_w_g_x0_1_0 w_b_w_g_x0_1_1 w_r_w_g_x0_1_1 w_s_w_g_x0_1_1 w_p_w_g_x0_1_1)), .second, .val (.int (1 : Int32)), .val (.int (2 : Int32)), .val (.ref w_g_x0_0_1)] [])) _
            refine XS.iload X28.here hx rfl (hb hby d11_5) rfl ?_
            show Steps p.tables e below (T28.setTop (mkF m 7 #[.val (.ref x0), .val (.int x1), .val (.long (f11_v27 x1 w_b_w_g_x0_0_0 w_r_w_g_x0_0_0 w_s_w_g_x0_0_0 w_p_w_g_x0_0_0 w_b_w_g_x0_0_1 w_r_w_g_x0_0_1 w_s_w_g_x0_0_1 w_p_w_g_x0_0_1 w_b_w_g_x0_1_0 w_r_w_g_x0_1_0 w_s_w_g_x0_1_0 w_p_w_g_x0_1_0 w_b_w_g_x0_1_1 w_r_w_g_x0_1_1 w_s_w_g_x0_1_1 w_p_w_g_x0_1_1)), .second, .val (.int (1 : Int32)), .val (.int (2 : Int32)), .val (.ref w_g_x0_0_1)] [(.int (1 : Int32))])) _
            refine XS.aloadN X28.here hx rfl (hb hby d11_7) rfl rfl ?_
            show Steps p.tables e below (T28.setTop (mkF m 8 #[.val (.ref x0), .val (.int x1), .val (.long (f11_v27 x1 w_b_w_g_x0_0_0 w_r_w_g_x0_0_0 w_s_w_g_x0_0_0 w_p_w_g_x0_0_0 w_b_w_g_x0_0_1 w_r_w_g_x0_0_1 w_s_w_g_x0_0_1 w_p_w_g_x0_0_1 w_b_w_g_x0_1_0 w_r_w_g_x0_1_0 w_s_w_g_x0_1_0 w_p_w_g_x0_1_0 w_b_w_g_x0_1_1 w_r_w_g_x0_1_1 w_s_w_g_x0_1_1 w_p_w_g_x0_1_1)), .second, .val (.int (1 : Int32)), .val (.int (2 : Int32)), .val (.ref w_g_x0_0_1)] [(.ref x0), (.int (1 : Int32))])) _
            refine st29 _ ?_
            show Steps p.tables e below (T29.setTop (mkF m 11 #[.val (.ref x0), .val (.int x1), .val (.long (f11_v27 x1 w_b_w_g_x0_0_0 w_r_w_g_x0_0_0 w_s_w_g_x0_0_0 w_p_w_g_x0_0_0 w_b_w_g_x0_0_1 w_r_w_g_x0_0_1 w_s_w_g_x0_0_1 w_p_w_g_x0_0_1 w_b_w_g_x0_1_0 w_r_w_g_x0_1_0 w_s_w_g_x0_1_0 w_p_w_g_x0_1_0 w_b_w_g_x0_1_1 w_r_w_g_x0_1_1 w_s_w_g_x0_1_1 w_p_w_g_x0_1_1)), .second, .val (.int (1 : Int32)), .val (.int (2 : Int32)), .val (.ref w_g_x0_0_1)] [(.int (2 : Int32)), (.int (1 : Int32))])) _
            refine XS.icmpNo X29.here hx rfl (hb hby d11_11) rfl (by decide) ?_
            show Steps p.tables e below (T29.setTop (mkF m 14 #[.val (.ref x0), .val (.int x1), .val (.long (f11_v27 x1 w_b_w_g_x0_0_0 w_r_w_g_x0_0_0 w_s_w_g_x0_0_0 w_p_w_g_x0_0_0 w_b_w_g_x0_0_1 w_r_w_g_x0_0_1 w_s_w_g_x0_0_1 w_p_w_g_x0_0_1 w_b_w_g_x0_1_0 w_r_w_g_x0_1_0 w_s_w_g_x0_1_0 w_p_w_g_x0_1_0 w_b_w_g_x0_1_1 w_r_w_g_x0_1_1 w_s_w_g_x0_1_1 w_p_w_g_x0_1_1)), .second, .val (.int (1 : Int32)), .val (.int (2 : Int32)), .val (.ref w_g_x0_0_1)] [])) _
            refine XS.iconst X29.here hx rfl (hb hby d11_14) ?_
            show Steps p.tables e below (T29.setTop (mkF m 15 #[.val (.ref x0), .val (.int x1), .val (.long (f11_v27 x1 w_b_w_g_x0_0_0 w_r_w_g_x0_0_0 w_s_w_g_x0_0_0 w_p_w_g_x0_0_0 w_b_w_g_x0_0_1 w_r_w_g_x0_0_1 w_s_w_g_x0_0_1 w_p_w_g_x0_0_1 w_b_w_g_x0_1_0 w_r_w_g_x0_1_0 w_s_w_g_x0_1_0 w_p_w_g_x0_1_0 w_b_w_g_x0_1_1 w_r_w_g_x0_1_1 w_s_w_g_x0_1_1 w_p_w_g_x0_1_1)), .second, .val (.int (1 : Int32)), .val (.int (2 : Int32)), .val (.ref w_g_x0_0_1)] [(.int (0 : Int32))])) _
            refine XS.istore X29.here hx rfl (hb hby d11_15) rfl (l' := #[.val (.ref x0), .val (.int x1), .val (.long (f11_v27 x1 w_b_w_g_x0_0_0 w_r_w_g_x0_0_0 w_s_w_g_x0_0_0 w_p_w_g_x0_0_0 w_b_w_g_x0_0_1 w_r_w_g_x0_0_1 w_s_w_g_x0_0_1 w_p_w_g_x0_0_1 w_b_w_g_x0_1_0 w_r_w_g_x0_1_0 w_s_w_g_x0_1_0 w_p_w_g_x0_1_0 w_b_w_g_x0_1_1 w_r_w_g_x0_1_1 w_s_w_g_x0_1_1 w_p_w_g_x0_1_1)), .second, .val (.int (1 : Int32)), .val (.int (0 : Int32)), .val (.ref w_g_x0_0_1)]) rfl ?_
            show Steps p.tables e below (T29.setTop (mkF m 17 #[.val (.ref x0), .val (.int x1), .val (.long (f11_v27 x1 w_b_w_g_x0_0_0 w_r_w_g_x0_0_0 w_s_w_g_x0_0_0 w_p_w_g_x0_0_0 w_b_w_g_x0_0_1 w_r_w_g_x0_0_1 w_s_w_g_x0_0_1 w_p_w_g_x0_0_1 w_b_w_g_x0_1_0 w_r_w_g_x0_1_0 w_s_w_g_x0_1_0 w_p_w_g_x0_1_0 w_b_w_g_x0_1_1 w_r_w_g_x0_1_1 w_s_w_g_x0_1_1 w_p_w_g_x0_1_1)), .second, .val (.int (1 : Int32)), .val (.int (0 : Int32)), .val (.ref w_g_x0_0_1)] [])) _
            refine XS.iload X29.here hx rfl (hb hby d11_17) rfl ?_
            show Steps p.tables e below (T29.setTop (mkF m 19 #[.val (.ref x0), .val (.int x1), .val (.long (f11_v27 x1 w_b_w_g_x0_0_0 w_r_w_g_x0_0_0 w_s_w_g_x0_0_0 w_p_w_g_x0_0_0 w_b_w_g_x0_0_1 w_r_w_g_x0_0_1 w_s_w_g_x0_0_1 w_p_w_g_x0_0_1 w_b_w_g_x0_1_0 w_r_w_g_x0_1_0 w_s_w_g_x0_1_0 w_p_w_g_x0_1_0 w_b_w_g_x0_1_1 w_r_w_g_x0_1_1 w_s_w_g_x0_1_1 w_p_w_g_x0_1_1)), .second, .val (.int (1 : Int32)), .val (.int (0 : Int32)), .val (.ref w_g_x0_0_1)] [(.int (0 : Int32))])) _
            refine XS.aloadN X29.here hx rfl (hb hby d11_19) rfl rfl ?_
            show Steps p.tables e below (T29.setTop (mkF m 20 #[.val (.ref x0), .val (.int x1), .val (.long (f11_v27 x1 w_b_w_g_x0_0_0 w_r_w_g_x0_0_0 w_s_w_g_x0_0_0 w_p_w_g_x0_0_0 w_b_w_g_x0_0_1 w_r_w_g_x0_0_1 w_s_w_g_x0_0_1 w_p_w_g_x0_0_1 w_b_w_g_x0_1_0 w_r_w_g_x0_1_0 w_s_w_g_x0_1_0 w_p_w_g_x0_1_0 w_b_w_g_x0_1_1 w_r_w_g_x0_1_1 w_s_w_g_x0_1_1 w_p_w_g_x0_1_1)), .second, .val (.int (1 : Int32)), .val (.int (0 : Int32)), .val (.ref w_g_x0_0_1)] [(.ref x0), (.int (0 : Int32))])) _
            refine st30 _ ?_
            show Steps p.tables e below (T30.setTop (mkF m 23 #[.val (.ref x0), .val (.int x1), .val (.long (f11_v27 x1 w_b_w_g_x0_0_0 w_r_w_g_x0_0_0 w_s_w_g_x0_0_0 w_p_w_g_x0_0_0 w_b_w_g_x0_0_1 w_r_w_g_x0_0_1 w_s_w_g_x0_0_1 w_p_w_g_x0_0_1 w_b_w_g_x0_1_0 w_r_w_g_x0_1_0 w_s_w_g_x0_1_0 w_p_w_g_x0_1_0 w_b_w_g_x0_1_1 w_r_w_g_x0_1_1 w_s_w_g_x0_1_1 w_p_w_g_x0_1_1)), .second, .val (.int (1 : Int32)), .val (.int (0 : Int32)), .val (.ref w_g_x0_0_1)] [(.int (2 : Int32)), (.int (0 : Int32))])) _
            refine XS.icmpNo X30.here hx rfl (hb hby d11_23) rfl (by decide) ?_
            show Steps p.tables e below (T30.setTop (mkF m 26 #[.val (.ref x0), .val (.int x1), .val (.long (f11_v27 x1 w_b_w_g_x0_0_0 w_r_w_g_x0_0_0 w_s_w_g_x0_0_0 w_p_w_g_x0_0_0 w_b_w_g_x0_0_1 w_r_w_g_x0_0_1 w_s_w_g_x0_0_1 w_p_w_g_x0_0_1 w_b_w_g_x0_1_0 w_r_w_g_x0_1_0 w_s_w_g_x0_1_0 w_p_w_g_x0_1_0 w_b_w_g_x0_1_1 w_r_w_g_x0_1_1 w_s_w_g_x0_1_1 w_p_w_g_x0_1_1)), .second, .val (.int (1 : Int32)), .val (.int (0 : Int32)), .val (.ref w_g_x0_0_1)] [])) _
            refine XS.aloadN X30.here hx rfl (hb hby d11_26) rfl rfl ?_
            show Steps p.tables e below (T30.setTop (mkF m 27 #[.val (.ref x0), .val (.int x1), .val (.long (f11_v27 x1 w_b_w_g_x0_0_0 w_r_w_g_x0_0_0 w_s_w_g_x0_0_0 w_p_w_g_x0_0_0 w_b_w_g_x0_0_1 w_r_w_g_x0_0_1 w_s_w_g_x0_0_1 w_p_w_g_x0_0_1 w_b_w_g_x0_1_0 w_r_w_g_x0_1_0 w_s_w_g_x0_1_0 w_p_w_g_x0_1_0 w_b_w_g_x0_1_1 w_r_w_g_x0_1_1 w_s_w_g_x0_1_1 w_p_w_g_x0_1_1)), .second, .val (.int (1 : Int32)), .val (.int (0 : Int32)), .val (.ref w_g_x0_0_1)] [(.ref x0)])) _
            refine st31 _ ?_
            show Steps p.tables e below (T31.setTop (mkF m 30 #[.val (.ref x0), .val (.int x1), .val (.long (f11_v27 x1 w_b_w_g_x0_0_0 w_r_w_g_x0_0_0 w_s_w_g_x0_0_0 w_p_w_g_x0_0_0 w_b_w_g_x0_0_1 w_r_w_g_x0_0_1 w_s_w_g_x0_0_1 w_p_w_g_x0_0_1 w_b_w_g_x0_1_0 w_r_w_g_x0_1_0 w_s_w_g_x0_1_0 w_p_w_g_x0_1_0 w_b_w_g_x0_1_1 w_r_w_g_x0_1_1 w_s_w_g_x0_1_1 w_p_w_g_x0_1_1)), .second, .val (.int (1 : Int32)), .val (.int (0 : Int32)), .val (.ref w_g_x0_0_1)] [(.ref w_g_x0)])) _
            refine XS.iload X31.here hx rfl (hb hby d11_30) rfl ?_
            show Steps p.tables e below (T31.setTop (mkF m 32 #[.val (.ref x0), .val (.int x1), .val (.long (f11_v27 x1 w_b_w_g_x0_0_0 w_r_w_g_x0_0_0 w_s_w_g_x0_0_0 w_p_w_g_x0_0_0 w_b_w_g_x0_0_1 w_r_w_g_x0_0_1 w_s_w_g_x0_0_1 w_p_w_g_x0_0_1 w_b_w_g_x0_1_0 w_r_w_g_x0_1_0 w_s_w_g_x0_1_0 w_p_w_g_x0_1_0 w_b_w_g_x0_1_1 w_r_w_g_x0_1_1 w_s_w_g_x0_1_1 w_p_w_g_x0_1_1)), .second, .val (.int (1 : Int32)), .val (.int (0 : Int32)), .val (.ref w_g_x0_0_1)] [(.int (1 : Int32)), (.ref w_g_x0)])) _
            refine X31.aaload hx (j := (1 : Int32)) (v := (.ref w_g_x0_1)) (by rw [e31]; exact Ar32.1) (State.isArrayOf_alike hZ.alike Ar32.2.1) rfl Ar32.2.2 hin32 (Has.at H32 hin32 rfl) (g := (mkF m 32 #[.val (.ref x0), .val (.int x1), .val (.long (f11_v27 x1 w_b_w_g_x0_0_0 w_r_w_g_x0_0_0 w_s_w_g_x0_0_0 w_p_w_g_x0_0_0 w_b_w_g_x0_0_1 w_r_w_g_x0_0_1 w_s_w_g_x0_0_1 w_p_w_g_x0_0_1 w_b_w_g_x0_1_0 w_r_w_g_x0_1_0 w_s_w_g_x0_1_0 w_p_w_g_x0_1_0 w_b_w_g_x0_1_1 w_r_w_g_x0_1_1 w_s_w_g_x0_1_1 w_p_w_g_x0_1_1)), .second, .val (.int (1 : Int32)), .val (.int (0 : Int32)), .val (.ref w_g_x0_0_1)] [(.int (1 : Int32)), (.ref w_g_x0)])) rfl rfl (hb hby d11_32) _ ?_
            show Steps p.tables e below (T31.setTop (mkF m 33 #[.val (.ref x0), .val (.int x1), .val (.long (f11_v27 x1 w_b_w_g_x0_0_0 w_r_w_g_x0_0_0 w_s_w_g_x0_0_0 w_p_w_g_x0_0_0 w_b_w_g_x0_0_1 w_r_w_g_x0_0_1 w_s_w_g_x0_0_1 w_p_w_g_x0_0_1 w_b_w_g_x0_1_0 w_r_w_g_x0_1_0 w_s_w_g_x0_1_0 w_p_w_g_x0_1_0 w_b_w_g_x0_1_1 w_r_w_g_x0_1_1 w_s_w_g_x0_1_1 w_p_w_g_x0_1_1)), .second, .val (.int (1 : Int32)), .val (.int (0 : Int32)), .val (.ref w_g_x0_0_1)] [(.ref w_g_x0_1)])) _
            refine XS.iload X31.here hx rfl (hb hby d11_33) rfl ?_
            show Steps p.tables e below (T31.setTop (mkF m 35 #[.val (.ref x0), .val (.int x1), .val (.long (f11_v27 x1 w_b_w_g_x0_0_0 w_r_w_g_x0_0_0 w_s_w_g_x0_0_0 w_p_w_g_x0_0_0 w_b_w_g_x0_0_1 w_r_w_g_x0_0_1 w_s_w_g_x0_0_1 w_p_w_g_x0_0_1 w_b_w_g_x0_1_0 w_r_w_g_x0_1_0 w_s_w_g_x0_1_0 w_p_w_g_x0_1_0 w_b_w_g_x0_1_1 w_r_w_g_x0_1_1 w_s_w_g_x0_1_1 w_p_w_g_x0_1_1)), .second, .val (.int (1 : Int32)), .val (.int (0 : Int32)), .val (.ref w_g_x0_0_1)] [(.int (0 : Int32)), (.ref w_g_x0_1)])) _
            refine X31.aaload hx (j := (0 : Int32)) (v := (.ref w_g_x0_1_0)) (by rw [e31]; exact Ar33.1) (State.isArrayOf_alike hZ.alike Ar33.2.1) rfl Ar33.2.2 hin33 (Has.at H33 hin33 rfl) (g := (mkF m 35 #[.val (.ref x0), .val (.int x1), .val (.long (f11_v27 x1 w_b_w_g_x0_0_0 w_r_w_g_x0_0_0 w_s_w_g_x0_0_0 w_p_w_g_x0_0_0 w_b_w_g_x0_0_1 w_r_w_g_x0_0_1 w_s_w_g_x0_0_1 w_p_w_g_x0_0_1 w_b_w_g_x0_1_0 w_r_w_g_x0_1_0 w_s_w_g_x0_1_0 w_p_w_g_x0_1_0 w_b_w_g_x0_1_1 w_r_w_g_x0_1_1 w_s_w_g_x0_1_1 w_p_w_g_x0_1_1)), .second, .val (.int (1 : Int32)), .val (.int (0 : Int32)), .val (.ref w_g_x0_0_1)] [(.int (0 : Int32)), (.ref w_g_x0_1)])) rfl rfl (hb hby d11_35) _ ?_
            show Steps p.tables e below (T31.setTop (mkF m 36 #[.val (.ref x0), .val (.int x1), .val (.long (f11_v27 x1 w_b_w_g_x0_0_0 w_r_w_g_x0_0_0 w_s_w_g_x0_0_0 w_p_w_g_x0_0_0 w_b_w_g_x0_0_1 w_r_w_g_x0_0_1 w_s_w_g_x0_0_1 w_p_w_g_x0_0_1 w_b_w_g_x0_1_0 w_r_w_g_x0_1_0 w_s_w_g_x0_1_0 w_p_w_g_x0_1_0 w_b_w_g_x0_1_1 w_r_w_g_x0_1_1 w_s_w_g_x0_1_1 w_p_w_g_x0_1_1)), .second, .val (.int (1 : Int32)), .val (.int (0 : Int32)), .val (.ref w_g_x0_0_1)] [(.ref w_g_x0_1_0)])) _
            refine XS.astore X31.here hx rfl (hb hby d11_36) rfl rfl (l' := #[.val (.ref x0), .val (.int x1), .val (.long (f11_v27 x1 w_b_w_g_x0_0_0 w_r_w_g_x0_0_0 w_s_w_g_x0_0_0 w_p_w_g_x0_0_0 w_b_w_g_x0_0_1 w_r_w_g_x0_0_1 w_s_w_g_x0_0_1 w_p_w_g_x0_0_1 w_b_w_g_x0_1_0 w_r_w_g_x0_1_0 w_s_w_g_x0_1_0 w_p_w_g_x0_1_0 w_b_w_g_x0_1_1 w_r_w_g_x0_1_1 w_s_w_g_x0_1_1 w_p_w_g_x0_1_1)), .second, .val (.int (1 : Int32)), .val (.int (0 : Int32)), .val (.ref w_g_x0_1_0)]) rfl ?_
            show Steps p.tables e below (T31.setTop (mkF m 38 #[.val (.ref x0), .val (.int x1), .val (.long (f11_v27 x1 w_b_w_g_x0_0_0 w_r_w_g_x0_0_0 w_s_w_g_x0_0_0 w_p_w_g_x0_0_0 w_b_w_g_x0_0_1 w_r_w_g_x0_0_1 w_s_w_g_x0_0_1 w_p_w_g_x0_0_1 w_b_w_g_x0_1_0 w_r_w_g_x0_1_0 w_s_w_g_x0_1_0 w_p_w_g_x0_1_0 w_b_w_g_x0_1_1 w_r_w_g_x0_1_1 w_s_w_g_x0_1_1 w_p_w_g_x0_1_1)), .second, .val (.int (1 : Int32)), .val (.int (0 : Int32)), .val (.ref w_g_x0_1_0)] [])) _
            refine XS.aload X31.here hx rfl (hb hby d11_38) rfl rfl ?_
            show Steps p.tables e below (T31.setTop (mkF m 40 #[.val (.ref x0), .val (.int x1), .val (.long (f11_v27 x1 w_b_w_g_x0_0_0 w_r_w_g_x0_0_0 w_s_w_g_x0_0_0 w_p_w_g_x0_0_0 w_b_w_g_x0_0_1 w_r_w_g_x0_0_1 w_s_w_g_x0_0_1 w_p_w_g_x0_0_1 w_b_w_g_x0_1_0 w_r_w_g_x0_1_0 w_s_w_g_x0_1_0 w_p_w_g_x0_1_0 w_b_w_g_x0_1_1 w_r_w_g_x0_1_1 w_s_w_g_x0_1_1 w_p_w_g_x0_1_1)), .second, .val (.int (1 : Int32)), .val (.int (0 : Int32)), .val (.ref w_g_x0_1_0)] [(.ref w_g_x0_1_0)])) _
            refine st34 _ ?_
            show Steps p.tables e below (T34.setTop (mkF m 43 #[.val (.ref x0), .val (.int x1), .val (.long (f11_v27 x1 w_b_w_g_x0_0_0 w_r_w_g_x0_0_0 w_s_w_g_x0_0_0 w_p_w_g_x0_0_0 w_b_w_g_x0_0_1 w_r_w_g_x0_0_1 w_s_w_g_x0_0_1 w_p_w_g_x0_0_1 w_b_w_g_x0_1_0 w_r_w_g_x0_1_0 w_s_w_g_x0_1_0 w_p_w_g_x0_1_0 w_b_w_g_x0_1_1 w_r_w_g_x0_1_1 w_s_w_g_x0_1_1 w_p_w_g_x0_1_1)), .second, .val (.int (1 : Int32)), .val (.int (0 : Int32)), .val (.ref w_g_x0_1_0)] [(.int w_b_w_g_x0_1_0)])) _
            refine XS.sipush X34.here hx rfl (hb hby d11_43) ?_
            exact k
          rcases Bool.eq_false_or_eq_true (if_icmp.holds .gt w_b_w_g_x0_1_0 (288 : Int32)) with hc36 | hc36
          · obtain ⟨fs, hr, hrun, hended, hW, hsame⟩ := X34.leave (v := some (.int (0 : Int32))) (fun h => by rw [hret] at h; cases h)
            refine ⟨_, _, pre35 _ ?_, hrun, hended, _, _, rfl, ?_, ⟨_, rfl⟩, hW, hsame.mono (by decide) (by decide)⟩
            · show Steps p.tables e below (T34.setTop (mkF m 46 #[.val (.ref x0), .val (.int x1), .val (.long (f11_v27 x1 w_b_w_g_x0_0_0 w_r_w_g_x0_0_0 w_s_w_g_x0_0_0 w_p_w_g_x0_0_0 w_b_w_g_x0_0_1 w_r_w_g_x0_0_1 w_s_w_g_x0_0_1 w_p_w_g_x0_0_1 w_b_w_g_x0_1_0 w_r_w_g_x0_1_0 w_s_w_g_x0_1_0 w_p_w_g_x0_1_0 w_b_w_g_x0_1_1 w_r_w_g_x0_1_1 w_s_w_g_x0_1_1 w_p_w_g_x0_1_1)), .second, .val (.int (1 : Int32)), .val (.int (0 : Int32)), .val (.ref w_g_x0_1_0)] [(.int (288 : Int32)), (.int w_b_w_g_x0_1_0)])) _
              refine XS.icmpYes X34.here hx rfl (pc0 := 46) (pc' := 67) rfl (hb hby d11_46) rfl hc36 (by decide) (by decide) ?_
              show Steps p.tables e below (T34.setTop (mkF m 67 #[.val (.ref x0), .val (.int x1), .val (.long (f11_v27 x1 w_b_w_g_x0_0_0 w_r_w_g_x0_0_0 w_s_w_g_x0_0_0 w_p_w_g_x0_0_0 w_b_w_g_x0_0_1 w_r_w_g_x0_0_1 w_s_w_g_x0_0_1 w_p_w_g_x0_0_1 w_b_w_g_x0_1_0 w_r_w_g_x0_1_0 w_s_w_g_x0_1_0 w_p_w_g_x0_1_0 w_b_w_g_x0_1_1 w_r_w_g_x0_1_1 w_s_w_g_x0_1_1 w_p_w_g_x0_1_1)), .second, .val (.int (1 : Int32)), .val (.int (0 : Int32)), .val (.ref w_g_x0_1_0)] [])) _
              refine XS.iconst X34.here hx rfl (hb hby d11_67) ?_
              show Steps p.tables e below (T34.setTop (mkF m 68 #[.val (.ref x0), .val (.int x1), .val (.long (f11_v27 x1 w_b_w_g_x0_0_0 w_r_w_g_x0_0_0 w_s_w_g_x0_0_0 w_p_w_g_x0_0_0 w_b_w_g_x0_0_1 w_r_w_g_x0_0_1 w_s_w_g_x0_0_1 w_p_w_g_x0_0_1 w_b_w_g_x0_1_0 w_r_w_g_x0_1_0 w_s_w_g_x0_1_0 w_p_w_g_x0_1_0 w_b_w_g_x0_1_1 w_r_w_g_x0_1_1 w_s_w_g_x0_1_1 w_p_w_g_x0_1_1)), .second, .val (.int (1 : Int32)), .val (.int (0 : Int32)), .val (.ref w_g_x0_1_0)] [(.int (0 : Int32))])) _
              exact retN X34 hx (t := .boolean) hret (by simp) (hb hby d11_68) hr
            · show Q11 Z x0 x1 w_g_x0 k_w_g_x0 w_g_x0_0 w_g_x0_1 k_w_g_x0_0 w_g_x0_0_0 w_g_x0_0_1 w_b_w_g_x0_0_0 w_r_w_g_x0_0_0 w_s_w_g_x0_0_0 w_p_w_g_x0_0_0 w_b_w_g_x0_0_1 w_r_w_g_x0_0_1 w_s_w_g_x0_0_1 w_p_w_g_x0_0_1 k_w_g_x0_1 w_g_x0_1_0 w_g_x0_1_1 w_b_w_g_x0_1_0 w_r_w_g_x0_1_0 w_s_w_g_x0_1_0 w_p_w_g_x0_1_0 w_b_w_g_x0_1_1 w_r_w_g_x0_1_1 w_s_w_g_x0_1_1 w_p_w_g_x0_1_1 h0 n0 _ T34.heap _
              rw [e34]
              have rr : f11 x1 w_b_w_g_x0_0_0 w_r_w_g_x0_0_0 w_s_w_g_x0_0_0 w_p_w_g_x0_0_0 w_b_w_g_x0_0_1 w_r_w_g_x0_0_1 w_s_w_g_x0_0_1 w_p_w_g_x0_0_1 w_b_w_g_x0_1_0 w_r_w_g_x0_1_0 w_s_w_g_x0_1_0 w_p_w_g_x0_1_0 w_b_w_g_x0_1_1 w_r_w_g_x0_1_1 w_s_w_g_x0_1_1 w_p_w_g_x0_1_1 = (0 : Int32) := Eq.trans (if_neg (own_nt hc8)) (Eq.trans (if_pos hc12) (Eq.trans (if_neg (own_nt hc21)) (Eq.trans (if_pos hc25) (if_pos hc36))))
              exact ⟨congrArg (fun z => some (Value.int z)) rr.symm, N0, rfl⟩
          · obtain ⟨T37, X37, e37, st37⟩ := getF X34 hx hZ hown (host := "") (Or.inl (hw _ (List.mem_of_getElem? (i := 63) rfl))) Via.refl e34 F_w_g_x0_1_0_region0Count (g := (mkF m 51 #[.val (.ref x0), .val (.int x1), .val (.long (f11_v27 x1 w_b_w_g_x0_0_0 w_r_w_g_x0_0_0 w_s_w_g_x0_0_0 w_p_w_g_x0_0_0 w_b_w_g_x0_0_1 w_r_w_g_x0_0_1 w_s_w_g_x0_0_1 w_p_w_g_x0_0_1 w_b_w_g_x0_1_0 w_r_w_g_x0_1_0 w_s_w_g_x0_1_0 w_p_w_g_x0_1_0 w_b_w_g_x0_1_1 w_r_w_g_x0_1_1 w_s_w_g_x0_1_1 w_p_w_g_x0_1_1)), .second, .val (.int (1 : Int32)), .val (.int (0 : Int32)), .val (.ref w_g_x0_1_0)] [(.ref w_g_x0_1_0)])) rfl rfl (hb hby d11_51)
            obtain ⟨T38, X38, e38, st38⟩ := getF X37 hx hZ hown (host := "") (Or.inl (hw _ (List.mem_of_getElem? (i := 64) rfl))) Via.refl e37 F_w_g_x0_1_0_region1Count (g := (mkF m 56 #[.val (.ref x0), .val (.int x1), .val (.long (f11_v27 x1 w_b_w_g_x0_0_0 w_r_w_g_x0_0_0 w_s_w_g_x0_0_0 w_p_w_g_x0_0_0 w_b_w_g_x0_0_1 w_r_w_g_x0_0_1 w_s_w_g_x0_0_1 w_p_w_g_x0_0_1 w_b_w_g_x0_1_0 w_r_w_g_x0_1_0 w_s_w_g_x0_1_0 w_p_w_g_x0_1_0 w_b_w_g_x0_1_1 w_r_w_g_x0_1_1 w_s_w_g_x0_1_1 w_p_w_g_x0_1_1)), .second, .val (.int (1 : Int32)), .val (.int (0 : Int32)), .val (.ref w_g_x0_1_0)] [(.ref w_g_x0_1_0), (.int w_r_w_g_x0_1_0)])) rfl rfl (hb hby d11_56)
            have pre39 : ∀ t, Steps p.tables e below (T38.setTop (mkF m 64 #[.val (.ref x0), .val (.int x1), .val (.long (f11_v27 x1 w_b_w_g_x0_0_0 w_r_w_g_x0_0_0 w_s_w_g_x0_0_0 w_p_w_g_x0_0_0 w_b_w_g_x0_0_1 w_r_w_g_x0_0_1 w_s_w_g_x0_0_1 w_p_w_g_x0_0_1 w_b_w_g_x0_1_0 w_r_w_g_x0_1_0 w_s_w_g_x0_1_0 w_p_w_g_x0_1_0 w_b_w_g_x0_1_1 w_r_w_g_x0_1_1 w_s_w_g_x0_1_1 w_p_w_g_x0_1_1)), .second, .val (.int (1 : Int32)), .val (.int (0 : Int32)), .val (.ref w_g_x0_1_0)] [(.int (22 : Int32)), (.int ((w_r_w_g_x0_1_0 + w_s_w_g_x0_1_0) + (2 : Int32)))])) t → Steps p.tables e below (s₁.setTop (entryFrame m #[(.ref x0), (.int x1)] 7)) t := by
              intro t k
              refine pre35 _ ?_
              show Steps p.tables e below (T34.setTop (mkF m 46 #[.val (.ref x0), .val (.int x1), .val (.long (f11_v27 x1 w_b_w_g_x0_0_0 w_r_w_g_x0_0_0 w_s_w_g_x0_0_0 w_p_w_g_x0_0_0 w_b_w_g_x0_0_1 w_r_w_g_x0_0_1 w_s_w_g_x0_0_1 w_p_w_g_x0_0_1 w_b_w_g_x0_1_0 w_r_w_g_x0_1_0 w_s_w_g_x0_1_0 w_p_w_g_x0_1_0 w_b_w_g_x0_1_1 w_r_w_g_x0_1_1 w_s_w_g_x0_1_1 w_p_w_g_x0_1_1)), .second, .val (.int (1 : Int32)), .val (.int (0 : Int32)), .val (.ref w_g_x0_1_0)] [(.int (288 : Int32)), (.int w_b_w_g_x0_1_0)])) _
              refine XS.icmpNo X34.here hx rfl (hb hby d11_46) rfl hc36 ?_
              show Steps p.tables e below (T34.setTop (mkF m 49 #[.val (.ref x0), .val (.int x1), .val (.long (f11_v27 x1 w_b_w_g_x0_0_0 w_r_w_g_x0_0_0 w_s_w_g_x0_0_0 w_p_w_g_x0_0_0 w_b_w_g_x0_0_1 w_r_w_g_x0_0_1 w_s_w_g_x0_0_1 w_p_w_g_x0_0_1 w_b_w_g_x0_1_0 w_r_w_g_x0_1_0 w_s_w_g_x0_1_0 w_p_w_g_x0_1_0 w_b_w_g_x0_1_1 w_r_w_g_x0_1_1 w_s_w_g_x0_1_1 w_p_w_g_x0_1_1)), .second, .val (.int (1 : Int32)), .val (.int (0 : Int32)), .val (.ref w_g_x0_1_0)] [])) _
              refine XS.aload X34.here hx rfl (hb hby d11_49) rfl rfl ?_
              show Steps p.tables e below (T34.setTop (mkF m 51 #[.val (.ref x0), .val (.int x1), .val (.long (f11_v27 x1 w_b_w_g_x0_0_0 w_r_w_g_x0_0_0 w_s_w_g_x0_0_0 w_p_w_g_x0_0_0 w_b_w_g_x0_0_1 w_r_w_g_x0_0_1 w_s_w_g_x0_0_1 w_p_w_g_x0_0_1 w_b_w_g_x0_1_0 w_r_w_g_x0_1_0 w_s_w_g_x0_1_0 w_p_w_g_x0_1_0 w_b_w_g_x0_1_1 w_r_w_g_x0_1_1 w_s_w_g_x0_1_1 w_p_w_g_x0_1_1)), .second, .val (.int (1 : Int32)), .val (.int (0 : Int32)), .val (.ref w_g_x0_1_0)] [(.ref w_g_x0_1_0)])) _
              refine st37 _ ?_
              show Steps p.tables e below (T37.setTop (mkF m 54 #[.val (.ref x0), .val (.int x1), .val (.long (f11_v27 x1 w_b_w_g_x0_0_0 w_r_w_g_x0_0_0 w_s_w_g_x0_0_0 w_p_w_g_x0_0_0 w_b_w_g_x0_0_1 w_r_w_g_x0_0_1 w_s_w_g_x0_0_1 w_p_w_g_x0_0_1 w_b_w_g_x0_1_0 w_r_w_g_x0_1_0 w_s_w_g_x0_1_0 w_p_w_g_x0_1_0 w_b_w_g_x0_1_1 w_r_w_g_x0_1_1 w_s_w_g_x0_1_1 w_p_w_g_x0_1_1)), .second, .val (.int (1 : Int32)), .val (.int (0 : Int32)), .val (.ref w_g_x0_1_0)] [(.int w_r_w_g_x0_1_0)])) _
              refine XS.aload X37.here hx rfl (hb hby d11_54) rfl rfl ?_
              show Steps p.tables e below (T37.setTop (mkF m 56 #[.val (.ref x0), .val (.int x1), .val (.long (f11_v27 x1 w_b_w_g_x0_0_0 w_r_w_g_x0_0_0 w_s_w_g_x0_0_0 w_p_w_g_x0_0_0 w_b_w_g_x0_0_1 w_r_w_g_x0_0_1 w_s_w_g_x0_0_1 w_p_w_g_x0_0_1 w_b_w_g_x0_1_0 w_r_w_g_x0_1_0 w_s_w_g_x0_1_0 w_p_w_g_x0_1_0 w_b_w_g_x0_1_1 w_r_w_g_x0_1_1 w_s_w_g_x0_1_1 w_p_w_g_x0_1_1)), .second, .val (.int (1 : Int32)), .val (.int (0 : Int32)), .val (.ref w_g_x0_1_0)] [(.ref w_g_x0_1_0), (.int w_r_w_g_x0_1_0)])) _
              refine st38 _ ?_
              show Steps p.tables e below (T38.setTop (mkF m 59 #[.val (.ref x0), .val (.int x1), .val (.long (f11_v27 x1 w_b_w_g_x0_0_0 w_r_w_g_x0_0_0 w_s_w_g_x0_0_0 w_p_w_g_x0_0_0 w_b_w_g_x0_0_1 w_r_w_g_x0_0_1 w_s_w_g_x0_0_1 w_p_w_g_x0_0_1 w_b_w_g_x0_1_0 w_r_w_g_x0_1_0 w_s_w_g_x0_1_0 w_p_w_g_x0_1_0 w_b_w_g_x0_1_1 w_r_w_g_x0_1_1 w_s_w_g_x0_1_1 w_p_w_g_x0_1_1)), .second, .val (.int (1 : Int32)), .val (.int (0 : Int32)), .val (.ref w_g_x0_1_0)] [(.int w_s_w_g_x0_1_0), (.int w_r_w_g_x0_1_0)])) _
              refine XS.iadd X38.here hx rfl (hb hby d11_59) rfl ?_
              show Steps p.tables e below (T38.setTop (mkF m 60 #[.val (.ref x0), .val (.int x1), .val (.long (f11_v27 x1 w_b_w_g_x0_0_0 w_r_w_g_x0_0_0 w_s_w_g_x0_0_0 w_p_w_g_x0_0_0 w_b_w_g_x0_0_1 w_r_w_g_x0_0_1 w_s_w_g_x0_0_1 w_p_w_g_x0_0_1 w_b_w_g_x0_1_0 w_r_w_g_x0_1_0 w_s_w_g_x0_1_0 w_p_w_g_x0_1_0 w_b_w_g_x0_1_1 w_r_w_g_x0_1_1 w_s_w_g_x0_1_1 w_p_w_g_x0_1_1)), .second, .val (.int (1 : Int32)), .val (.int (0 : Int32)), .val (.ref w_g_x0_1_0)] [(.int (w_r_w_g_x0_1_0 + w_s_w_g_x0_1_0))])) _
              refine XS.iconst X38.here hx rfl (hb hby d11_60) ?_
              show Steps p.tables e below (T38.setTop (mkF m 61 #[.val (.ref x0), .val (.int x1), .val (.long (f11_v27 x1 w_b_w_g_x0_0_0 w_r_w_g_x0_0_0 w_s_w_g_x0_0_0 w_p_w_g_x0_0_0 w_b_w_g_x0_0_1 w_r_w_g_x0_0_1 w_s_w_g_x0_0_1 w_p_w_g_x0_0_1 w_b_w_g_x0_1_0 w_r_w_g_x0_1_0 w_s_w_g_x0_1_0 w_p_w_g_x0_1_0 w_b_w_g_x0_1_1 w_r_w_g_x0_1_1 w_s_w_g_x0_1_1 w_p_w_g_x0_1_1)), .second, .val (.int (1 : Int32)), .val (.int (0 : Int32)), .val (.ref w_g_x0_1_0)] [(.int (2 : Int32)), (.int (w_r_w_g_x0_1_0 + w_s_w_g_x0_1_0))])) _
              refine XS.iadd X38.here hx rfl (hb hby d11_61) rfl ?_
              show Steps p.tables e below (T38.setTop (mkF m 62 #[.val (.ref x0), .val (.int x1), .val (.long (f11_v27 x1 w_b_w_g_x0_0_0 w_r_w_g_x0_0_0 w_s_w_g_x0_0_0 w_p_w_g_x0_0_0 w_b_w_g_x0_0_1 w_r_w_g_x0_0_1 w_s_w_g_x0_0_1 w_p_w_g_x0_0_1 w_b_w_g_x0_1_0 w_r_w_g_x0_1_0 w_s_w_g_x0_1_0 w_p_w_g_x0_1_0 w_b_w_g_x0_1_1 w_r_w_g_x0_1_1 w_s_w_g_x0_1_1 w_p_w_g_x0_1_1)), .second, .val (.int (1 : Int32)), .val (.int (0 : Int32)), .val (.ref w_g_x0_1_0)] [(.int ((w_r_w_g_x0_1_0 + w_s_w_g_x0_1_0) + (2 : Int32)))])) _
              refine XS.bipush X38.here hx rfl (hb hby d11_62) ?_
              exact k
            rcases Bool.eq_false_or_eq_true (if_icmp.holds .le ((w_r_w_g_x0_1_0 + w_s_w_g_x0_1_0) + (2 : Int32)) (22 : Int32)) with hc40 | hc40
            · obtain ⟨T41, X41, e41, st41⟩ := getF X38 hx hZ hown (host := "") (Or.inl (hw _ (List.mem_of_getElem? (i := 65) rfl))) Via.refl e38 F_w_g_x0_1_0_part23Length (g := (mkF m 72 #[.val (.ref x0), .val (.int x1), .val (.long (f11_v27 x1 w_b_w_g_x0_0_0 w_r_w_g_x0_0_0 w_s_w_g_x0_0_0 w_p_w_g_x0_0_0 w_b_w_g_x0_0_1 w_r_w_g_x0_0_1 w_s_w_g_x0_0_1 w_p_w_g_x0_0_1 w_b_w_g_x0_1_0 w_r_w_g_x0_1_0 w_s_w_g_x0_1_0 w_p_w_g_x0_1_0 w_b_w_g_x0_1_1 w_r_w_g_x0_1_1 w_s_w_g_x0_1_1 w_p_w_g_x0_1_1)), .second, .val (.int (1 : Int32)), .val (.int (0 : Int32)), .val (.ref w_g_x0_1_0)] [(.ref w_g_x0_1_0), (.long (f11_v27 x1 w_b_w_g_x0_0_0 w_r_w_g_x0_0_0 w_s_w_g_x0_0_0 w_p_w_g_x0_0_0 w_b_w_g_x0_0_1 w_r_w_g_x0_0_1 w_s_w_g_x0_0_1 w_p_w_g_x0_0_1 w_b_w_g_x0_1_0 w_r_w_g_x0_1_0 w_s_w_g_x0_1_0 w_p_w_g_x0_1_0 w_b_w_g_x0_1_1 w_r_w_g_x0_1_1 w_s_w_g_x0_1_1 w_p_w_g_x0_1_1))])) rfl rfl (hb hby d11_72)
              obtain ⟨T43, X43, e43, st43⟩ := getF X41 hx hZ hown (host := "") (Or.inl (hw _ (List.mem_of_getElem? (i := 61) rfl))) Via.refl e41 F_x0_channelCount (g := (mkF m 20 #[.val (.ref x0), .val (.int x1), .val (.long (f11_v42 x1 w_b_w_g_x0_0_0 w_r_w_g_x0_0_0 w_s_w_g_x0_0_0 w_p_w_g_x0_0_0 w_b_w_g_x0_0_1 w_r_w_g_x0_0_1 w_s_w_g_x0_0_1 w_p_w_g_x0_0_1 w_b_w_g_x0_1_0 w_r_w_g_x0_1_0 w_s_w_g_x0_1_0 w_p_w_g_x0_1_0 w_b_w_g_x0_1_1 w_r_w_g_x0_1_1 w_s_w_g_x0_1_1 w_p_w_g_x0_1_1)), .second, .val (.int (1 : Int32)), .val (.int (1 : Int32)), .val (.ref w_g_x0_1_0)] [(.ref x0), (.int (1 : Int32))])) rfl rfl (hb hby d11_20)
              obtain ⟨T44, X44, e44, st44⟩ := getF X43 hx hZ hown (host := "") (Or.inl (hw _ (List.mem_of_getElem? (i := 32) rfl))) Via.refl e43 F_x0_granules (g := (mkF m 27 #[.val (.ref x0), .val (.int x1), .val (.long (f11_v42 x1 w_b_w_g_x0_0_0 w_r_w_g_x0_0_0 w_s_w_g_x0_0_0 w_p_w_g_x0_0_0 w_b_w_g_x0_0_1 w_r_w_g_x0_0_1 w_s_w_g_x0_0_1 w_p_w_g_x0_0_1 w_b_w_g_x0_1_0 w_r_w_g_x0_1_0 w_s_w_g_x0_1_0 w_p_w_g_x0_1_0 w_b_w_g_x0_1_1 w_r_w_g_x0_1_1 w_s_w_g_x0_1_1 w_p_w_g_x0_1_1)), .second, .val (.int (1 : Int32)), .val (.int (1 : Int32)), .val (.ref w_g_x0_1_0)] [(.ref x0)])) rfl rfl (hb hby d11_27)
              have Vc45 := A_w_g_x0
              obtain ⟨cl45, Ar45, q45, S45, NN45, H45, G45⟩ := Vc45
              have hin45 := inb_of (j := (1 : Int32)) S45 ⟨by decide, by decide⟩
              have Vc46 := A_w_g_x0_1
              obtain ⟨cl46, Ar46, q46, S46, NN46, H46, G46⟩ := Vc46
              have hin46 := inb_of (j := (1 : Int32)) S46 ⟨by decide, by decide⟩
              obtain ⟨T47, X47, e47, st47⟩ := getF X44 hx hZ hown (host := "") (Or.inl (hw _ (List.mem_of_getElem? (i := 62) rfl))) Via.refl e44 F_w_g_x0_1_1_bigValues (g := (mkF m 40 #[.val (.ref x0), .val (.int x1), .val (.long (f11_v42 x1 w_b_w_g_x0_0_0 w_r_w_g_x0_0_0 w_s_w_g_x0_0_0 w_p_w_g_x0_0_0 w_b_w_g_x0_0_1 w_r_w_g_x0_0_1 w_s_w_g_x0_0_1 w_p_w_g_x0_0_1 w_b_w_g_x0_1_0 w_r_w_g_x0_1_0 w_s_w_g_x0_1_0 w_p_w_g_x0_1_0 w_b_w_g_x0_1_1 w_r_w_g_x0_1_1 w_s_w_g_x0_1_1 w_p_w_g_x0_1_1)), .second, .val (.int (1 : Int32)), .val (.int (1 : Int32)), .val (.ref w_g_x0_1_1)] [(.ref w_g_x0_1_1)])) rfl rfl (hb hby d11_40)
              have pre48 : ∀ t, Steps p.tables e below (T47.setTop (mkF m 46 #[.val (.ref x0), .val (.int x1), .val (.long (f11_v42 x1 w_b_w_g_x0_0_0 w_r_w_g_x0_0_0 w_s_w_g_x0_0_0 w_p_w_g_x0_0_0 w_b_w_g_x0_0_1 w_r_w_g_x0_0_1 w_s_w_g_x0_0_1 w_p_w_g_x0_0_1 w_b_w_g_x0_1_0 w_r_w_g_x0_1_0 w_s_w_g_x0_1_0 w_p_w_g_x0_1_0 w_b_w_g_x0_1_1 w_r_w_g_x0_1_1 w_s_w_g_x0_1_1 w_p_w_g_x0_1_1)), .second, .val (.int (1 : Int32)), .val (.int (1 : Int32)), .val (.ref w_g_x0_1_1)] [(.int (288 : Int32)), (.int w_b_w_g_x0_1_1)])) t → Steps p.tables e below (s₁.setTop (entryFrame m #[(.ref x0), (.int x1)] 7)) t := by
                intro t k
                refine pre39 _ ?_
                show Steps p.tables e below (T38.setTop (mkF m 64 #[.val (.ref x0), .val (.int x1), .val (.long (f11_v27 x1 w_b_w_g_x0_0_0 w_r_w_g_x0_0_0 w_s_w_g_x0_0_0 w_p_w_g_x0_0_0 w_b_w_g_x0_0_1 w_r_w_g_x0_0_1 w_s_w_g_x0_0_1 w_p_w_g_x0_0_1 w_b_w_g_x0_1_0 w_r_w_g_x0_1_0 w_s_w_g_x0_1_0 w_p_w_g_x0_1_0 w_b_w_g_x0_1_1 w_r_w_g_x0_1_1 w_s_w_g_x0_1_1 w_p_w_g_x0_1_1)), .second, .val (.int (1 : Int32)), .val (.int (0 : Int32)), .val (.ref w_g_x0_1_0)] [(.int (22 : Int32)), (.int ((w_r_w_g_x0_1_0 + w_s_w_g_x0_1_0) + (2 : Int32)))])) _
                refine XS.icmpYes X38.here hx rfl (pc0 := 64) (pc' := 69) rfl (hb hby d11_64) rfl hc40 (by decide) (by decide) ?_
                show Steps p.tables e below (T38.setTop (mkF m 69 #[.val (.ref x0), .val (.int x1), .val (.long (f11_v27 x1 w_b_w_g_x0_0_0 w_r_w_g_x0_0_0 w_s_w_g_x0_0_0 w_p_w_g_x0_0_0 w_b_w_g_x0_0_1 w_r_w_g_x0_0_1 w_s_w_g_x0_0_1 w_p_w_g_x0_0_1 w_b_w_g_x0_1_0 w_r_w_g_x0_1_0 w_s_w_g_x0_1_0 w_p_w_g_x0_1_0 w_b_w_g_x0_1_1 w_r_w_g_x0_1_1 w_s_w_g_x0_1_1 w_p_w_g_x0_1_1)), .second, .val (.int (1 : Int32)), .val (.int (0 : Int32)), .val (.ref w_g_x0_1_0)] [])) _
                refine XS.lloadN X38.here hx rfl (hb hby d11_69) rfl ?_
                show Steps p.tables e below (T38.setTop (mkF m 70 #[.val (.ref x0), .val (.int x1), .val (.long (f11_v27 x1 w_b_w_g_x0_0_0 w_r_w_g_x0_0_0 w_s_w_g_x0_0_0 w_p_w_g_x0_0_0 w_b_w_g_x0_0_1 w_r_w_g_x0_0_1 w_s_w_g_x0_0_1 w_p_w_g_x0_0_1 w_b_w_g_x0_1_0 w_r_w_g_x0_1_0 w_s_w_g_x0_1_0 w_p_w_g_x0_1_0 w_b_w_g_x0_1_1 w_r_w_g_x0_1_1 w_s_w_g_x0_1_1 w_p_w_g_x0_1_1)), .second, .val (.int (1 : Int32)), .val (.int (0 : Int32)), .val (.ref w_g_x0_1_0)] [(.long (f11_v27 x1 w_b_w_g_x0_0_0 w_r_w_g_x0_0_0 w_s_w_g_x0_0_0 w_p_w_g_x0_0_0 w_b_w_g_x0_0_1 w_r_w_g_x0_0_1 w_s_w_g_x0_0_1 w_p_w_g_x0_0_1 w_b_w_g_x0_1_0 w_r_w_g_x0_1_0 w_s_w_g_x0_1_0 w_p_w_g_x0_1_0 w_b_w_g_x0_1_1 w_r_w_g_x0_1_1 w_s_w_g_x0_1_1 w_p_w_g_x0_1_1))])) _
                refine XS.aload X38.here hx rfl (hb hby d11_70) rfl rfl ?_
                show Steps p.tables e below (T38.setTop (mkF m 72 #[.val (.ref x0), .val (.int x1), .val (.long (f11_v27 x1 w_b_w_g_x0_0_0 w_r_w_g_x0_0_0 w_s_w_g_x0_0_0 w_p_w_g_x0_0_0 w_b_w_g_x0_0_1 w_r_w_g_x0_0_1 w_s_w_g_x0_0_1 w_p_w_g_x0_0_1 w_b_w_g_x0_1_0 w_r_w_g_x0_1_0 w_s_w_g_x0_1_0 w_p_w_g_x0_1_0 w_b_w_g_x0_1_1 w_r_w_g_x0_1_1 w_s_w_g_x0_1_1 w_p_w_g_x0_1_1)), .second, .val (.int (1 : Int32)), .val (.int (0 : Int32)), .val (.ref w_g_x0_1_0)] [(.ref w_g_x0_1_0), (.long (f11_v27 x1 w_b_w_g_x0_0_0 w_r_w_g_x0_0_0 w_s_w_g_x0_0_0 w_p_w_g_x0_0_0 w_b_w_g_x0_0_1 w_r_w_g_x0_0_1 w_s_w_g_x0_0_1 w_p_w_g_x0_0_1 w_b_w_g_x0_1_0 w_r_w_g_x0_1_0 w_s_w_g_x0_1_0 w_p_w_g_x0_1_0 w_b_w_g_x0_1_1 w_r_w_g_x0_1_1 w_s_w_g_x0_1_1 w_p_w_g_x0_1_1))])) _
                refine st41 _ ?_
                show Steps p.tables e below (T41.setTop (mkF m 75 #[.val (.ref x0), .val (.int x1), .val (.long (f11_v27 x1 w_b_w_g_x0_0_0 w_r_w_g_x0_0_0 w_s_w_g_x0_0_0 w_p_w_g_x0_0_0 w_b_w_g_x0_0_1 w_r_w_g_x0_0_1 w_s_w_g_x0_0_1 w_p_w_g_x0_0_1 w_b_w_g_x0_1_0 w_r_w_g_x0_1_0 w_s_w_g_x0_1_0 w_p_w_g_x0_1_0 w_b_w_g_x0_1_1 w_r_w_g_x0_1_1 w_s_w_g_x0_1_1 w_p_w_g_x0_1_1)), .second, .val (.int (1 : Int32)), .val (.int (0 : Int32)), .val (.ref w_g_x0_1_0)] [(.int w_p_w_g_x0_1_0), (.long (f11_v27 x1 w_b_w_g_x0_0_0 w_r_w_g_x0_0_0 w_s_w_g_x0_0_0 w_p_w_g_x0_0_0 w_b_w_g_x0_0_1 w_r_w_g_x0_0_1 w_s_w_g_x0_0_1 w_p_w_g_x0_0_1 w_b_w_g_x0_1_0 w_r_w_g_x0_1_0 w_s_w_g_x0_1_0 w_p_w_g_x0_1_0 w_b_w_g_x0_1_1 w_r_w_g_x0_1_1 w_s_w_g_x0_1_1 w_p_w_g_x0_1_1))])) _
                refine XS.i2l X41.here hx rfl (hb hby d11_75) rfl ?_
                show Steps p.tables e below (T41.setTop (mkF m 76 #[.val (.ref x0), .val (.int x1), .val (.long (f11_v27 x1 w_b_w_g_x0_0_0 w_r_w_g_x0_0_0 w_s_w_g_x0_0_0 w_p_w_g_x0_0_0 w_b_w_g_x0_0_1 w_r_w_g_x0_0_1 w_s_w_g_x0_0_1 w_p_w_g_x0_0_1 w_b_w_g_x0_1_0 w_r_w_g_x0_1_0 w_s_w_g_x0_1_0 w_p_w_g_x0_1_0 w_b_w_g_x0_1_1 w_r_w_g_x0_1_1 w_s_w_g_x0_1_1 w_p_w_g_x0_1_1)), .second, .val (.int (1 : Int32)), .val (.int (0 : Int32)), .val (.ref w_g_x0_1_0)] [(.long (w_p_w_g_x0_1_0.toInt64)), (.long (f11_v27 x1 w_b_w_g_x0_0_0 w_r_w_g_x0_0_0 w_s_w_g_x0_0_0 w_p_w_g_x0_0_0 w_b_w_g_x0_0_1 w_r_w_g_x0_0_1 w_s_w_g_x0_0_1 w_p_w_g_x0_0_1 w_b_w_g_x0_1_0 w_r_w_g_x0_1_0 w_s_w_g_x0_1_0 w_p_w_g_x0_1_0 w_b_w_g_x0_1_1 w_r_w_g_x0_1_1 w_s_w_g_x0_1_1 w_p_w_g_x0_1_1))])) _
                refine XS.ladd X41.here hx rfl (hb hby d11_76) rfl ?_
                show Steps p.tables e below (T41.setTop (mkF m 77 #[.val (.ref x0), .val (.int x1), .val (.long (f11_v27 x1 w_b_w_g_x0_0_0 w_r_w_g_x0_0_0 w_s_w_g_x0_0_0 w_p_w_g_x0_0_0 w_b_w_g_x0_0_1 w_r_w_g_x0_0_1 w_s_w_g_x0_0_1 w_p_w_g_x0_0_1 w_b_w_g_x0_1_0 w_r_w_g_x0_1_0 w_s_w_g_x0_1_0 w_p_w_g_x0_1_0 w_b_w_g_x0_1_1 w_r_w_g_x0_1_1 w_s_w_g_x0_1_1 w_p_w_g_x0_1_1)), .second, .val (.int (1 : Int32)), .val (.int (0 : Int32)), .val (.ref w_g_x0_1_0)] [(.long ((f11_v27 x1 w_b_w_g_x0_0_0 w_r_w_g_x0_0_0 w_s_w_g_x0_0_0 w_p_w_g_x0_0_0 w_b_w_g_x0_0_1 w_r_w_g_x0_0_1 w_s_w_g_x0_0_1 w_p_w_g_x0_0_1 w_b_w_g_x0_1_0 w_r_w_g_x0_1_0 w_s_w_g_x0_1_0 w_p_w_g_x0_1_0 w_b_w_g_x0_1_1 w_r_w_g_x0_1_1 w_s_w_g_x0_1_1 w_p_w_g_x0_1_1) + (w_p_w_g_x0_1_0.toInt64)))])) _
                refine XS.lstoreN X41.here hx rfl (hb hby d11_77) rfl (l' := #[.val (.ref x0), .val (.int x1), .val (.long (f11_v42 x1 w_b_w_g_x0_0_0 w_r_w_g_x0_0_0 w_s_w_g_x0_0_0 w_p_w_g_x0_0_0 w_b_w_g_x0_0_1 w_r_w_g_x0_0_1 w_s_w_g_x0_0_1 w_p_w_g_x0_0_1 w_b_w_g_x0_1_0 w_r_w_g_x0_1_0 w_s_w_g_x0_1_0 w_p_w_g_x0_1_0 w_b_w_g_x0_1_1 w_r_w_g_x0_1_1 w_s_w_g_x0_1_1 w_p_w_g_x0_1_1)), .second, .val (.int (1 : Int32)), .val (.int (0 : Int32)), .val (.ref w_g_x0_1_0)]) rfl ?_
                show Steps p.tables e below (T41.setTop (mkF m 78 #[.val (.ref x0), .val (.int x1), .val (.long (f11_v42 x1 w_b_w_g_x0_0_0 w_r_w_g_x0_0_0 w_s_w_g_x0_0_0 w_p_w_g_x0_0_0 w_b_w_g_x0_0_1 w_r_w_g_x0_0_1 w_s_w_g_x0_0_1 w_p_w_g_x0_0_1 w_b_w_g_x0_1_0 w_r_w_g_x0_1_0 w_s_w_g_x0_1_0 w_p_w_g_x0_1_0 w_b_w_g_x0_1_1 w_r_w_g_x0_1_1 w_s_w_g_x0_1_1 w_p_w_g_x0_1_1)), .second, .val (.int (1 : Int32)), .val (.int (0 : Int32)), .val (.ref w_g_x0_1_0)] [])) _
                refine XS.iinc X41.here hx rfl (hb hby d11_78) rfl (l' := #[.val (.ref x0), .val (.int x1), .val (.long (f11_v42 x1 w_b_w_g_x0_0_0 w_r_w_g_x0_0_0 w_s_w_g_x0_0_0 w_p_w_g_x0_0_0 w_b_w_g_x0_0_1 w_r_w_g_x0_0_1 w_s_w_g_x0_0_1 w_p_w_g_x0_0_1 w_b_w_g_x0_1_0 w_r_w_g_x0_1_0 w_s_w_g_x0_1_0 w_p_w_g_x0_1_0 w_b_w_g_x0_1_1 w_r_w_g_x0_1_1 w_s_w_g_x0_1_1 w_p_w_g_x0_1_1)), .second, .val (.int (1 : Int32)), .val (.int (1 : Int32)), .val (.ref w_g_x0_1_0)]) rfl ?_
                show Steps p.tables e below (T41.setTop (mkF m 81 #[.val (.ref x0), .val (.int x1), .val (.long (f11_v42 x1 w_b_w_g_x0_0_0 w_r_w_g_x0_0_0 w_s_w_g_x0_0_0 w_p_w_g_x0_0_0 w_b_w_g_x0_0_1 w_r_w_g_x0_0_1 w_s_w_g_x0_0_1 w_p_w_g_x0_0_1 w_b_w_g_x0_1_0 w_r_w_g_x0_1_0 w_s_w_g_x0_1_0 w_p_w_g_x0_1_0 w_b_w_g_x0_1_1 w_r_w_g_x0_1_1 w_s_w_g_x0_1_1 w_p_w_g_x0_1_1)), .second, .val (.int (1 : Int32)), .val (.int (1 : Int32)), .val (.ref w_g_x0_1_0)] [])) _
                refine XS.goto X41.here hx rfl (pc0 := 81) (pc' := 17) rfl (hb hby d11_81) (by decide) (by decide) ?_
                show Steps p.tables e below (T41.setTop (mkF m 17 #[.val (.ref x0), .val (.int x1), .val (.long (f11_v42 x1 w_b_w_g_x0_0_0 w_r_w_g_x0_0_0 w_s_w_g_x0_0_0 w_p_w_g_x0_0_0 w_b_w_g_x0_0_1 w_r_w_g_x0_0_1 w_s_w_g_x0_0_1 w_p_w_g_x0_0_1 w_b_w_g_x0_1_0 w_r_w_g_x0_1_0 w_s_w_g_x0_1_0 w_p_w_g_x0_1_0 w_b_w_g_x0_1_1 w_r_w_g_x0_1_1 w_s_w_g_x0_1_1 w_p_w_g_x0_1_1)), .second, .val (.int (1 : Int32)), .val (.int (1 : Int32)), .val (.ref w_g_x0_1_0)] [])) _
                refine XS.iload X41.here hx rfl (hb hby d11_17) rfl ?_
                show Steps p.tables e below (T41.setTop (mkF m 19 #[.val (.ref x0), .val (.int x1), .val (.long (f11_v42 x1 w_b_w_g_x0_0_0 w_r_w_g_x0_0_0 w_s_w_g_x0_0_0 w_p_w_g_x0_0_0 w_b_w_g_x0_0_1 w_r_w_g_x0_0_1 w_s_w_g_x0_0_1 w_p_w_g_x0_0_1 w_b_w_g_x0_1_0 w_r_w_g_x0_1_0 w_s_w_g_x0_1_0 w_p_w_g_x0_1_0 w_b_w_g_x0_1_1 w_r_w_g_x0_1_1 w_s_w_g_x0_1_1 w_p_w_g_x0_1_1)), .second, .val (.int (1 : Int32)), .val (.int (1 : Int32)), .val (.ref w_g_x0_1_0)] [(.int (1 : Int32))])) _
                refine XS.aloadN X41.here hx rfl (hb hby d11_19) rfl rfl ?_
                show Steps p.tables e below (T41.setTop (mkF m 20 #[.val (.ref x0), .val (.int x1), .val (.long (f11_v42 x1 w_b_w_g_x0_0_0 w_r_w_g_x0_0_0 w_s_w_g_x0_0_0 w_p_w_g_x0_0_0 w_b_w_g_x0_0_1 w_r_w_g_x0_0_1 w_s_w_g_x0_0_1 w_p_w_g_x0_0_1 w_b_w_g_x0_1_0 w_r_w_g_x0_1_0 w_s_w_g_x0_1_0 w_p_w_g_x0_1_0 w_b_w_g_x0_1_1 w_r_w_g_x0_1_1 w_s_w_g_x0_1_1 w_p_w_g_x0_1_1)), .second, .val (.int (1 : Int32)), .val (.int (1 : Int32)), .val (.ref w_g_x0_1_0)] [(.ref x0), (.int (1 : Int32))])) _
                refine st43 _ ?_
                show Steps p.tables e below (T43.setTop (mkF m 23 #[.val (.ref x0), .val (.int x1), .val (.long (f11_v42 x1 w_b_w_g_x0_0_0 w_r_w_g_x0_0_0 w_s_w_g_x0_0_0 w_p_w_g_x0_0_0 w_b_w_g_x0_0_1 w_r_w_g_x0_0_1 w_s_w_g_x0_0_1 w_p_w_g_x0_0_1 w_b_w_g_x0_1_0 w_r_w_g_x0_1_0 w_s_w_g_x0_1_0 w_p_w_g_x0_1_0 w_b_w_g_x0_1_1 w_r_w_g_x0_1_1 w_s_w_g_x0_1_1 w_p_w_g_x0_1_1)), .second, .val (.int (1 : Int32)), .val (.int (1 : Int32)), .val (.ref w_g_x0_1_0)] [(.int (2 : Int32)), (.int (1 : Int32))])) _
                refine XS.icmpNo X43.here hx rfl (hb hby d11_23) rfl (by decide) ?_
                show Steps p.tables e below (T43.setTop (mkF m 26 #[.val (.ref x0), .val (.int x1), .val (.long (f11_v42 x1 w_b_w_g_x0_0_0 w_r_w_g_x0_0_0 w_s_w_g_x0_0_0 w_p_w_g_x0_0_0 w_b_w_g_x0_0_1 w_r_w_g_x0_0_1 w_s_w_g_x0_0_1 w_p_w_g_x0_0_1 w_b_w_g_x0_1_0 w_r_w_g_x0_1_0 w_s_w_g_x0_1_0 w_p_w_g_x0_1_0 w_b_w_g_x0_1_1 w_r_w_g_x0_1_1 w_s_w_g_x0_1_1 w_p_w_g_x0_1_1)), .second, .val (.int (1 : Int32)), .val (.int (1 : Int32)), .val (.ref w_g_x0_1_0)] [])) _
                refine XS.aloadN X43.here hx rfl (hb hby d11_26) rfl rfl ?_
                show Steps p.tables e below (T43.setTop (mkF m 27 #[.val (.ref x0), .val (.int x1), .val (.long (f11_v42 x1 w_b_w_g_x0_0_0 w_r_w_g_x0_0_0 w_s_w_g_x0_0_0 w_p_w_g_x0_0_0 w_b_w_g_x0_0_1 w_r_w_g_x0_0_1 w_s_w_g_x0_0_1 w_p_w_g_x0_0_1 w_b_w_g_x0_1_0 w_r_w_g_x0_1_0 w_s_w_g_x0_1_0 w_p_w_g_x0_1_0 w_b_w_g_x0_1_1 w_r_w_g_x0_1_1 w_s_w_g_x0_1_1 w_p_w_g_x0_1_1)), .second, .val (.int (1 : Int32)), .val (.int (1 : Int32)), .val (.ref w_g_x0_1_0)] [(.ref x0)])) _
                refine st44 _ ?_
                show Steps p.tables e below (T44.setTop (mkF m 30 #[.val (.ref x0), .val (.int x1), .val (.long (f11_v42 x1 w_b_w_g_x0_0_0 w_r_w_g_x0_0_0 w_s_w_g_x0_0_0 w_p_w_g_x0_0_0 w_b_w_g_x0_0_1 w_r_w_g_x0_0_1 w_s_w_g_x0_0_1 w_p_w_g_x0_0_1 w_b_w_g_x0_1_0 w_r_w_g_x0_1_0 w_s_w_g_x0_1_0 w_p_w_g_x0_1_0 w_b_w_g_x0_1_1 w_r_w_g_x0_1_1 w_s_w_g_x0_1_1 w_p_w_g_x0_1_1)), .second, .val (.int (1 : Int32)), .val (.int (1 : Int32)), .val (.ref w_g_x0_1_0)] [(.ref w_g_x0)])) _
                refine XS.iload X44.here hx rfl (hb hby d11_30) rfl ?_
                show Steps p.tables e below (T44.setTop (mkF m 32 #[.val (.ref x0), .val (.int x1), .val (.long (f11_v42 x1 w_b_w_g_x0_0_0 w_r_w_g_x0_0_0 w_s_w_g_x0_0_0 w_p_w_g_x0_0_0 w_b_w_g_x0_0_1 w_r_w_g_x0_0_1 w_s_w_g_x0_0_1 w_p_w_g_x0_0_1 w_b_w_g_x0_1_0 w_r_w_g_x0_1_0 w_s_w_g_x0_1_0 w_p_w_g_x0_1_0 w_b_w_g_x0_1_1 w_r_w_g_x0_1_1 w_s_w_g_x0_1_1 w_p_w_g_x0_1_1)), .second, .val (.int (1 : Int32)), .val (.int (1 : Int32)), .val (.ref w_g_x0_1_0)] [(.int (1 : Int32)), (.ref w_g_x0)])) _
                refine X44.aaload hx (j := (1 : Int32)) (v := (.ref w_g_x0_1)) (by rw [e44]; exact Ar45.1) (State.isArrayOf_alike hZ.alike Ar45.2.1) rfl Ar45.2.2 hin45 (Has.at H45 hin45 rfl) (g := (mkF m 32 #[.val (.ref x0), .val (.int x1), .val (.long (f11_v42 x1 w_b_w_g_x0_0_0 w_r_w_g_x0_0_0 w_s_w_g_x0_0_0 w_p_w_g_x0_0_0 w_b_w_g_x0_0_1 w_r_w_g_x0_0_1 w_s_w_g_x0_0_1 w_p_w_g_x0_0_1 w_b_w_g_x0_1_0 w_r_w_g_x0_1_0 w_s_w_g_x0_1_0 w_p_w_g_x0_1_0 w_b_w_g_x0_1_1 w_r_w_g_x0_1_1 w_s_w_g_x0_1_1 w_p_w_g_x0_1_1)), .second, .val (.int (1 : Int32)), .val (.int (1 : Int32)), .val (.ref w_g_x0_1_0)] [(.int (1 : Int32)), (.ref w_g_x0)])) rfl rfl (hb hby d11_32) _ ?_
                show Steps p.tables e below (T44.setTop (mkF m 33 #[.val (.ref x0), .val (.int x1), .val (.long (f11_v42 x1 w_b_w_g_x0_0_0 w_r_w_g_x0_0_0 w_s_w_g_x0_0_0 w_p_w_g_x0_0_0 w_b_w_g_x0_0_1 w_r_w_g_x0_0_1 w_s_w_g_x0_0_1 w_p_w_g_x0_0_1 w_b_w_g_x0_1_0 w_r_w_g_x0_1_0 w_s_w_g_x0_1_0 w_p_w_g_x0_1_0 w_b_w_g_x0_1_1 w_r_w_g_x0_1_1 w_s_w_g_x0_1_1 w_p_w_g_x0_1_1)), .second, .val (.int (1 : Int32)), .val (.int (1 : Int32)), .val (.ref w_g_x0_1_0)] [(.ref w_g_x0_1)])) _
                refine XS.iload X44.here hx rfl (hb hby d11_33) rfl ?_
                show Steps p.tables e below (T44.setTop (mkF m 35 #[.val (.ref x0), .val (.int x1), .val (.long (f11_v42 x1 w_b_w_g_x0_0_0 w_r_w_g_x0_0_0 w_s_w_g_x0_0_0 w_p_w_g_x0_0_0 w_b_w_g_x0_0_1 w_r_w_g_x0_0_1 w_s_w_g_x0_0_1 w_p_w_g_x0_0_1 w_b_w_g_x0_1_0 w_r_w_g_x0_1_0 w_s_w_g_x0_1_0 w_p_w_g_x0_1_0 w_b_w_g_x0_1_1 w_r_w_g_x0_1_1 w_s_w_g_x0_1_1 w_p_w_g_x0_1_1)), .second, .val (.int (1 : Int32)), .val (.int (1 : Int32)), .val (.ref w_g_x0_1_0)] [(.int (1 : Int32)), (.ref w_g_x0_1)])) _
                refine X44.aaload hx (j := (1 : Int32)) (v := (.ref w_g_x0_1_1)) (by rw [e44]; exact Ar46.1) (State.isArrayOf_alike hZ.alike Ar46.2.1) rfl Ar46.2.2 hin46 (Has.at H46 hin46 rfl) (g := (mkF m 35 #[.val (.ref x0), .val (.int x1), .val (.long (f11_v42 x1 w_b_w_g_x0_0_0 w_r_w_g_x0_0_0 w_s_w_g_x0_0_0 w_p_w_g_x0_0_0 w_b_w_g_x0_0_1 w_r_w_g_x0_0_1 w_s_w_g_x0_0_1 w_p_w_g_x0_0_1 w_b_w_g_x0_1_0 w_r_w_g_x0_1_0 w_s_w_g_x0_1_0 w_p_w_g_x0_1_0 w_b_w_g_x0_1_1 w_r_w_g_x0_1_1 w_s_w_g_x0_1_1 w_p_w_g_x0_1_1)), .second, .val (.int (1 : Int32)), .val (.int (1 : Int32)), .val (.ref w_g_x0_1_0)] [(.int (1 : Int32)), (.ref w_g_x0_1)])) rfl rfl (hb hby d11_35) _ ?_
                show Steps p.tables e below (T44.setTop (mkF m 36 #[.val (.ref x0), .val (.int x1), .val (.long (f11_v42 x1 w_b_w_g_x0_0_0 w_r_w_g_x0_0_0 w_s_w_g_x0_0_0 w_p_w_g_x0_0_0 w_b_w_g_x0_0_1 w_r_w_g_x0_0_1 w_s_w_g_x0_0_1 w_p_w_g_x0_0_1 w_b_w_g_x0_1_0 w_r_w_g_x0_1_0 w_s_w_g_x0_1_0 w_p_w_g_x0_1_0 w_b_w_g_x0_1_1 w_r_w_g_x0_1_1 w_s_w_g_x0_1_1 w_p_w_g_x0_1_1)), .second, .val (.int (1 : Int32)), .val (.int (1 : Int32)), .val (.ref w_g_x0_1_0)] [(.ref w_g_x0_1_1)])) _
                refine XS.astore X44.here hx rfl (hb hby d11_36) rfl rfl (l' := #[.val (.ref x0), .val (.int x1), .val (.long (f11_v42 x1 w_b_w_g_x0_0_0 w_r_w_g_x0_0_0 w_s_w_g_x0_0_0 w_p_w_g_x0_0_0 w_b_w_g_x0_0_1 w_r_w_g_x0_0_1 w_s_w_g_x0_0_1 w_p_w_g_x0_0_1 w_b_w_g_x0_1_0 w_r_w_g_x0_1_0 w_s_w_g_x0_1_0 w_p_w_g_x0_1_0 w_b_w_g_x0_1_1 w_r_w_g_x0_1_1 w_s_w_g_x0_1_1 w_p_w_g_x0_1_1)), .second, .val (.int (1 : Int32)), .val (.int (1 : Int32)), .val (.ref w_g_x0_1_1)]) rfl ?_
                show Steps p.tables e below (T44.setTop (mkF m 38 #[.val (.ref x0), .val (.int x1), .val (.long (f11_v42 x1 w_b_w_g_x0_0_0 w_r_w_g_x0_0_0 w_s_w_g_x0_0_0 w_p_w_g_x0_0_0 w_b_w_g_x0_0_1 w_r_w_g_x0_0_1 w_s_w_g_x0_0_1 w_p_w_g_x0_0_1 w_b_w_g_x0_1_0 w_r_w_g_x0_1_0 w_s_w_g_x0_1_0 w_p_w_g_x0_1_0 w_b_w_g_x0_1_1 w_r_w_g_x0_1_1 w_s_w_g_x0_1_1 w_p_w_g_x0_1_1)), .second, .val (.int (1 : Int32)), .val (.int (1 : Int32)), .val (.ref w_g_x0_1_1)] [])) _
                refine XS.aload X44.here hx rfl (hb hby d11_38) rfl rfl ?_
                show Steps p.tables e below (T44.setTop (mkF m 40 #[.val (.ref x0), .val (.int x1), .val (.long (f11_v42 x1 w_b_w_g_x0_0_0 w_r_w_g_x0_0_0 w_s_w_g_x0_0_0 w_p_w_g_x0_0_0 w_b_w_g_x0_0_1 w_r_w_g_x0_0_1 w_s_w_g_x0_0_1 w_p_w_g_x0_0_1 w_b_w_g_x0_1_0 w_r_w_g_x0_1_0 w_s_w_g_x0_1_0 w_p_w_g_x0_1_0 w_b_w_g_x0_1_1 w_r_w_g_x0_1_1 w_s_w_g_x0_1_1 w_p_w_g_x0_1_1)), .second, .val (.int (1 : Int32)), .val (.int (1 : Int32)), .val (.ref w_g_x0_1_1)] [(.ref w_g_x0_1_1)])) _
                refine st47 _ ?_
                show Steps p.tables e below (T47.setTop (mkF m 43 #[.val (.ref x0), .val (.int x1), .val (.long (f11_v42 x1 w_b_w_g_x0_0_0 w_r_w_g_x0_0_0 w_s_w_g_x0_0_0 w_p_w_g_x0_0_0 w_b_w_g_x0_0_1 w_r_w_g_x0_0_1 w_s_w_g_x0_0_1 w_p_w_g_x0_0_1 w_b_w_g_x0_1_0 w_r_w_g_x0_1_0 w_s_w_g_x0_1_0 w_p_w_g_x0_1_0 w_b_w_g_x0_1_1 w_r_w_g_x0_1_1 w_s_w_g_x0_1_1 w_p_w_g_x0_1_1)), .second, .val (.int (1 : Int32)), .val (.int (1 : Int32)), .val (.ref w_g_x0_1_1)] [(.int w_b_w_g_x0_1_1)])) _
                refine XS.sipush X47.here hx rfl (hb hby d11_43) ?_
                exact k
              rcases Bool.eq_false_or_eq_true (if_icmp.holds .gt w_b_w_g_x0_1_1 (288 : Int32)) with hc49 | hc49
              · obtain ⟨fs, hr, hrun, hended, hW, hsame⟩ := X47.leave (v := some (.int (0 : Int32))) (fun h => by rw [hret] at h; cases h)
                refine ⟨_, _, pre48 _ ?_, hrun, hended, _, _, rfl, ?_, ⟨_, rfl⟩, hW, hsame.mono (by decide) (by decide)⟩
                · show Steps p.tables e below (T47.setTop (mkF m 46 #[.val (.ref x0), .val (.int x1), .val (.long (f11_v42 x1 w_b_w_g_x0_0_0 w_r_w_g_x0_0_0 w_s_w_g_x0_0_0 w_p_w_g_x0_0_0 w_b_w_g_x0_0_1 w_r_w_g_x0_0_1 w_s_w_g_x0_0_1 w_p_w_g_x0_0_1 w_b_w_g_x0_1_0 w_r_w_g_x0_1_0 w_s_w_g_x0_1_0 w_p_w_g_x0_1_0 w_b_w_g_x0_1_1 w_r_w_g_x0_1_1 w_s_w_g_x0_1_1 w_p_w_g_x0_1_1)), .second, .val (.int (1 : Int32)), .val (.int (1 : Int32)), .val (.ref w_g_x0_1_1)] [(.int (288 : Int32)), (.int w_b_w_g_x0_1_1)])) _
                  refine XS.icmpYes X47.here hx rfl (pc0 := 46) (pc' := 67) rfl (hb hby d11_46) rfl hc49 (by decide) (by decide) ?_
                  show Steps p.tables e below (T47.setTop (mkF m 67 #[.val (.ref x0), .val (.int x1), .val (.long (f11_v42 x1 w_b_w_g_x0_0_0 w_r_w_g_x0_0_0 w_s_w_g_x0_0_0 w_p_w_g_x0_0_0 w_b_w_g_x0_0_1 w_r_w_g_x0_0_1 w_s_w_g_x0_0_1 w_p_w_g_x0_0_1 w_b_w_g_x0_1_0 w_r_w_g_x0_1_0 w_s_w_g_x0_1_0 w_p_w_g_x0_1_0 w_b_w_g_x0_1_1 w_r_w_g_x0_1_1 w_s_w_g_x0_1_1 w_p_w_g_x0_1_1)), .second, .val (.int (1 : Int32)), .val (.int (1 : Int32)), .val (.ref w_g_x0_1_1)] [])) _
                  refine XS.iconst X47.here hx rfl (hb hby d11_67) ?_
                  show Steps p.tables e below (T47.setTop (mkF m 68 #[.val (.ref x0), .val (.int x1), .val (.long (f11_v42 x1 w_b_w_g_x0_0_0 w_r_w_g_x0_0_0 w_s_w_g_x0_0_0 w_p_w_g_x0_0_0 w_b_w_g_x0_0_1 w_r_w_g_x0_0_1 w_s_w_g_x0_0_1 w_p_w_g_x0_0_1 w_b_w_g_x0_1_0 w_r_w_g_x0_1_0 w_s_w_g_x0_1_0 w_p_w_g_x0_1_0 w_b_w_g_x0_1_1 w_r_w_g_x0_1_1 w_s_w_g_x0_1_1 w_p_w_g_x0_1_1)), .second, .val (.int (1 : Int32)), .val (.int (1 : Int32)), .val (.ref w_g_x0_1_1)] [(.int (0 : Int32))])) _
                  exact retN X47 hx (t := .boolean) hret (by simp) (hb hby d11_68) hr
                · show Q11 Z x0 x1 w_g_x0 k_w_g_x0 w_g_x0_0 w_g_x0_1 k_w_g_x0_0 w_g_x0_0_0 w_g_x0_0_1 w_b_w_g_x0_0_0 w_r_w_g_x0_0_0 w_s_w_g_x0_0_0 w_p_w_g_x0_0_0 w_b_w_g_x0_0_1 w_r_w_g_x0_0_1 w_s_w_g_x0_0_1 w_p_w_g_x0_0_1 k_w_g_x0_1 w_g_x0_1_0 w_g_x0_1_1 w_b_w_g_x0_1_0 w_r_w_g_x0_1_0 w_s_w_g_x0_1_0 w_p_w_g_x0_1_0 w_b_w_g_x0_1_1 w_r_w_g_x0_1_1 w_s_w_g_x0_1_1 w_p_w_g_x0_1_1 h0 n0 _ T47.heap _
                  rw [e47]
                  have rr : f11 x1 w_b_w_g_x0_0_0 w_r_w_g_x0_0_0 w_s_w_g_x0_0_0 w_p_w_g_x0_0_0 w_b_w_g_x0_0_1 w_r_w_g_x0_0_1 w_s_w_g_x0_0_1 w_p_w_g_x0_0_1 w_b_w_g_x0_1_0 w_r_w_g_x0_1_0 w_s_w_g_x0_1_0 w_p_w_g_x0_1_0 w_b_w_g_x0_1_1 w_r_w_g_x0_1_1 w_s_w_g_x0_1_1 w_p_w_g_x0_1_1 = (0 : Int32) := Eq.trans (if_neg (own_nt hc8)) (Eq.trans (if_pos hc12) (Eq.trans (if_neg (own_nt hc21)) (Eq.trans (if_pos hc25) (Eq.trans (if_neg (own_nt hc36)) (Eq.trans (if_pos hc40) (if_pos hc49))))))
                  exact ⟨congrArg (fun z => some (Value.int z)) rr.symm, N0, rfl⟩
              · obtain ⟨T50, X50, e50, st50⟩ := getF X47 hx hZ hown (host := "") (Or.inl (hw _ (List.mem_of_getElem? (i := 63) rfl))) Via.refl e47 F_w_g_x0_1_1_region0Count (g := (mkF m 51 #[.val (.ref x0), .val (.int x1), .val (.long (f11_v42 x1 w_b_w_g_x0_0_0 w_r_w_g_x0_0_0 w_s_w_g_x0_0_0 w_p_w_g_x0_0_0 w_b_w_g_x0_0_1 w_r_w_g_x0_0_1 w_s_w_g_x0_0_1 w_p_w_g_x0_0_1 w_b_w_g_x0_1_0 w_r_w_g_x0_1_0 w_s_w_g_x0_1_0 w_p_w_g_x0_1_0 w_b_w_g_x0_1_1 w_r_w_g_x0_1_1 w_s_w_g_x0_1_1 w_p_w_g_x0_1_1)), .second, .val (.int (1 : Int32)), .val (.int (1 : Int32)), .val (.ref w_g_x0_1_1)] [(.ref w_g_x0_1_1)])) rfl rfl (hb hby d11_51)
                obtain ⟨T51, X51, e51, st51⟩ := getF X50 hx hZ hown (host := "") (Or.inl (hw _ (List.mem_of_getElem? (i := 64) rfl))) Via.refl e50 F_w_g_x0_1_1_region1Count (g := (mkF m 56 #[.val (.ref x0), .val (.int x1), .val (.long (f11_v42 x1 w_b_w_g_x0_0_0 w_r_w_g_x0_0_0 w_s_w_g_x0_0_0 w_p_w_g_x0_0_0 w_b_w_g_x0_0_1 w_r_w_g_x0_0_1 w_s_w_g_x0_0_1 w_p_w_g_x0_0_1 w_b_w_g_x0_1_0 w_r_w_g_x0_1_0 w_s_w_g_x0_1_0 w_p_w_g_x0_1_0 w_b_w_g_x0_1_1 w_r_w_g_x0_1_1 w_s_w_g_x0_1_1 w_p_w_g_x0_1_1)), .second, .val (.int (1 : Int32)), .val (.int (1 : Int32)), .val (.ref w_g_x0_1_1)] [(.ref w_g_x0_1_1), (.int w_r_w_g_x0_1_1)])) rfl rfl (hb hby d11_56)
                have pre52 : ∀ t, Steps p.tables e below (T51.setTop (mkF m 64 #[.val (.ref x0), .val (.int x1), .val (.long (f11_v42 x1 w_b_w_g_x0_0_0 w_r_w_g_x0_0_0 w_s_w_g_x0_0_0 w_p_w_g_x0_0_0 w_b_w_g_x0_0_1 w_r_w_g_x0_0_1 w_s_w_g_x0_0_1 w_p_w_g_x0_0_1 w_b_w_g_x0_1_0 w_r_w_g_x0_1_0 w_s_w_g_x0_1_0 w_p_w_g_x0_1_0 w_b_w_g_x0_1_1 w_r_w_g_x0_1_1 w_s_w_g_x0_1_1 w_p_w_g_x0_1_1)), .second, .val (.int (1 : Int32)), .val (.int (1 : Int32)), .val (.ref w_g_x0_1_1)] [(.int (22 : Int32)), (.int ((w_r_w_g_x0_1_1 + w_s_w_g_x0_1_1) + (2 : Int32)))])) t → Steps p.tables e below (s₁.setTop (entryFrame m #[(.ref x0), (.int x1)] 7)) t := by
                  intro t k
                  refine pre48 _ ?_
                  show Steps p.tables e below (T47.setTop (mkF m 46 #[.val (.ref x0), .val (.int x1), .val (.long (f11_v42 x1 w_b_w_g_x0_0_0 w_r_w_g_x0_0_0 w_s_w_g_x0_0_0 w_p_w_g_x0_0_0 w_b_w_g_x0_0_1 w_r_w_g_x0_0_1 w_s_w_g_x0_0_1 w_p_w_g_x0_0_1 w_b_w_g_x0_1_0 w_r_w_g_x0_1_0 w_s_w_g_x0_1_0 w_p_w_g_x0_1_0 w_b_w_g_x0_1_1 w_r_w_g_x0_1_1 w_s_w_g_x0_1_1 w_p_w_g_x0_1_1)), .second, .val (.int (1 : Int32)), .val (.int (1 : Int32)), .val (.ref w_g_x0_1_1)] [(.int (288 : Int32)), (.int w_b_w_g_x0_1_1)])) _
                  refine XS.icmpNo X47.here hx rfl (hb hby d11_46) rfl hc49 ?_
                  show Steps p.tables e below (T47.setTop (mkF m 49 #[.val (.ref x0), .val (.int x1), .val (.long (f11_v42 x1 w_b_w_g_x0_0_0 w_r_w_g_x0_0_0 w_s_w_g_x0_0_0 w_p_w_g_x0_0_0 w_b_w_g_x0_0_1 w_r_w_g_x0_0_1 w_s_w_g_x0_0_1 w_p_w_g_x0_0_1 w_b_w_g_x0_1_0 w_r_w_g_x0_1_0 w_s_w_g_x0_1_0 w_p_w_g_x0_1_0 w_b_w_g_x0_1_1 w_r_w_g_x0_1_1 w_s_w_g_x0_1_1 w_p_w_g_x0_1_1)), .second, .val (.int (1 : Int32)), .val (.int (1 : Int32)), .val (.ref w_g_x0_1_1)] [])) _
                  refine XS.aload X47.here hx rfl (hb hby d11_49) rfl rfl ?_
                  show Steps p.tables e below (T47.setTop (mkF m 51 #[.val (.ref x0), .val (.int x1), .val (.long (f11_v42 x1 w_b_w_g_x0_0_0 w_r_w_g_x0_0_0 w_s_w_g_x0_0_0 w_p_w_g_x0_0_0 w_b_w_g_x0_0_1 w_r_w_g_x0_0_1 w_s_w_g_x0_0_1 w_p_w_g_x0_0_1 w_b_w_g_x0_1_0 w_r_w_g_x0_1_0 w_s_w_g_x0_1_0 w_p_w_g_x0_1_0 w_b_w_g_x0_1_1 w_r_w_g_x0_1_1 w_s_w_g_x0_1_1 w_p_w_g_x0_1_1)), .second, .val (.int (1 : Int32)), .val (.int (1 : Int32)), .val (.ref w_g_x0_1_1)] [(.ref w_g_x0_1_1)])) _
                  refine st50 _ ?_
                  show Steps p.tables e below (T50.setTop (mkF m 54 #[.val (.ref x0), .val (.int x1), .val (.long (f11_v42 x1 w_b_w_g_x0_0_0 w_r_w_g_x0_0_0 w_s_w_g_x0_0_0 w_p_w_g_x0_0_0 w_b_w_g_x0_0_1 w_r_w_g_x0_0_1 w_s_w_g_x0_0_1 w_p_w_g_x0_0_1 w_b_w_g_x0_1_0 w_r_w_g_x0_1_0 w_s_w_g_x0_1_0 w_p_w_g_x0_1_0 w_b_w_g_x0_1_1 w_r_w_g_x0_1_1 w_s_w_g_x0_1_1 w_p_w_g_x0_1_1)), .second, .val (.int (1 : Int32)), .val (.int (1 : Int32)), .val (.ref w_g_x0_1_1)] [(.int w_r_w_g_x0_1_1)])) _
                  refine XS.aload X50.here hx rfl (hb hby d11_54) rfl rfl ?_
                  show Steps p.tables e below (T50.setTop (mkF m 56 #[.val (.ref x0), .val (.int x1), .val (.long (f11_v42 x1 w_b_w_g_x0_0_0 w_r_w_g_x0_0_0 w_s_w_g_x0_0_0 w_p_w_g_x0_0_0 w_b_w_g_x0_0_1 w_r_w_g_x0_0_1 w_s_w_g_x0_0_1 w_p_w_g_x0_0_1 w_b_w_g_x0_1_0 w_r_w_g_x0_1_0 w_s_w_g_x0_1_0 w_p_w_g_x0_1_0 w_b_w_g_x0_1_1 w_r_w_g_x0_1_1 w_s_w_g_x0_1_1 w_p_w_g_x0_1_1)), .second, .val (.int (1 : Int32)), .val (.int (1 : Int32)), .val (.ref w_g_x0_1_1)] [(.ref w_g_x0_1_1), (.int w_r_w_g_x0_1_1)])) _
                  refine st51 _ ?_
                  show Steps p.tables e below (T51.setTop (mkF m 59 #[.val (.ref x0), .val (.int x1), .val (.long (f11_v42 x1 w_b_w_g_x0_0_0 w_r_w_g_x0_0_0 w_s_w_g_x0_0_0 w_p_w_g_x0_0_0 w_b_w_g_x0_0_1 w_r_w_g_x0_0_1 w_s_w_g_x0_0_1 w_p_w_g_x0_0_1 w_b_w_g_x0_1_0 w_r_w_g_x0_1_0 w_s_w_g_x0_1_0 w_p_w_g_x0_1_0 w_b_w_g_x0_1_1 w_r_w_g_x0_1_1 w_s_w_g_x0_1_1 w_p_w_g_x0_1_1)), .second, .val (.int (1 : Int32)), .val (.int (1 : Int32)), .val (.ref w_g_x0_1_1)] [(.int w_s_w_g_x0_1_1), (.int w_r_w_g_x0_1_1)])) _
                  refine XS.iadd X51.here hx rfl (hb hby d11_59) rfl ?_
                  show Steps p.tables e below (T51.setTop (mkF m 60 #[.val (.ref x0), .val (.int x1), .val (.long (f11_v42 x1 w_b_w_g_x0_0_0 w_r_w_g_x0_0_0 w_s_w_g_x0_0_0 w_p_w_g_x0_0_0 w_b_w_g_x0_0_1 w_r_w_g_x0_0_1 w_s_w_g_x0_0_1 w_p_w_g_x0_0_1 w_b_w_g_x0_1_0 w_r_w_g_x0_1_0 w_s_w_g_x0_1_0 w_p_w_g_x0_1_0 w_b_w_g_x0_1_1 w_r_w_g_x0_1_1 w_s_w_g_x0_1_1 w_p_w_g_x0_1_1)), .second, .val (.int (1 : Int32)), .val (.int (1 : Int32)), .val (.ref w_g_x0_1_1)] [(.int (w_r_w_g_x0_1_1 + w_s_w_g_x0_1_1))])) _
                  refine XS.iconst X51.here hx rfl (hb hby d11_60) ?_
                  show Steps p.tables e below (T51.setTop (mkF m 61 #[.val (.ref x0), .val (.int x1), .val (.long (f11_v42 x1 w_b_w_g_x0_0_0 w_r_w_g_x0_0_0 w_s_w_g_x0_0_0 w_p_w_g_x0_0_0 w_b_w_g_x0_0_1 w_r_w_g_x0_0_1 w_s_w_g_x0_0_1 w_p_w_g_x0_0_1 w_b_w_g_x0_1_0 w_r_w_g_x0_1_0 w_s_w_g_x0_1_0 w_p_w_g_x0_1_0 w_b_w_g_x0_1_1 w_r_w_g_x0_1_1 w_s_w_g_x0_1_1 w_p_w_g_x0_1_1)), .second, .val (.int (1 : Int32)), .val (.int (1 : Int32)), .val (.ref w_g_x0_1_1)] [(.int (2 : Int32)), (.int (w_r_w_g_x0_1_1 + w_s_w_g_x0_1_1))])) _
                  refine XS.iadd X51.here hx rfl (hb hby d11_61) rfl ?_
                  show Steps p.tables e below (T51.setTop (mkF m 62 #[.val (.ref x0), .val (.int x1), .val (.long (f11_v42 x1 w_b_w_g_x0_0_0 w_r_w_g_x0_0_0 w_s_w_g_x0_0_0 w_p_w_g_x0_0_0 w_b_w_g_x0_0_1 w_r_w_g_x0_0_1 w_s_w_g_x0_0_1 w_p_w_g_x0_0_1 w_b_w_g_x0_1_0 w_r_w_g_x0_1_0 w_s_w_g_x0_1_0 w_p_w_g_x0_1_0 w_b_w_g_x0_1_1 w_r_w_g_x0_1_1 w_s_w_g_x0_1_1 w_p_w_g_x0_1_1)), .second, .val (.int (1 : Int32)), .val (.int (1 : Int32)), .val (.ref w_g_x0_1_1)] [(.int ((w_r_w_g_x0_1_1 + w_s_w_g_x0_1_1) + (2 : Int32)))])) _
                  refine XS.bipush X51.here hx rfl (hb hby d11_62) ?_
                  exact k
                rcases Bool.eq_false_or_eq_true (if_icmp.holds .le ((w_r_w_g_x0_1_1 + w_s_w_g_x0_1_1) + (2 : Int32)) (22 : Int32)) with hc53 | hc53
                · obtain ⟨T54, X54, e54, st54⟩ := getF X51 hx hZ hown (host := "") (Or.inl (hw _ (List.mem_of_getElem? (i := 65) rfl))) Via.refl e51 F_w_g_x0_1_1_part23Length (g := (mkF m 72 #[.val (.ref x0), .val (.int x1), .val (.long (f11_v42 x1 w_b_w_g_x0_0_0 w_r_w_g_x0_0_0 w_s_w_g_x0_0_0 w_p_w_g_x0_0_0 w_b_w_g_x0_0_1 w_r_w_g_x0_0_1 w_s_w_g_x0_0_1 w_p_w_g_x0_0_1 w_b_w_g_x0_1_0 w_r_w_g_x0_1_0 w_s_w_g_x0_1_0 w_p_w_g_x0_1_0 w_b_w_g_x0_1_1 w_r_w_g_x0_1_1 w_s_w_g_x0_1_1 w_p_w_g_x0_1_1)), .second, .val (.int (1 : Int32)), .val (.int (1 : Int32)), .val (.ref w_g_x0_1_1)] [(.ref w_g_x0_1_1), (.long (f11_v42 x1 w_b_w_g_x0_0_0 w_r_w_g_x0_0_0 w_s_w_g_x0_0_0 w_p_w_g_x0_0_0 w_b_w_g_x0_0_1 w_r_w_g_x0_0_1 w_s_w_g_x0_0_1 w_p_w_g_x0_0_1 w_b_w_g_x0_1_0 w_r_w_g_x0_1_0 w_s_w_g_x0_1_0 w_p_w_g_x0_1_0 w_b_w_g_x0_1_1 w_r_w_g_x0_1_1 w_s_w_g_x0_1_1 w_p_w_g_x0_1_1))])) rfl rfl (hb hby d11_72)
                  obtain ⟨T56, X56, e56, st56⟩ := getF X54 hx hZ hown (host := "") (Or.inl (hw _ (List.mem_of_getElem? (i := 61) rfl))) Via.refl e54 F_x0_channelCount (g := (mkF m 20 #[.val (.ref x0), .val (.int x1), .val (.long (f11_v55 x1 w_b_w_g_x0_0_0 w_r_w_g_x0_0_0 w_s_w_g_x0_0_0 w_p_w_g_x0_0_0 w_b_w_g_x0_0_1 w_r_w_g_x0_0_1 w_s_w_g_x0_0_1 w_p_w_g_x0_0_1 w_b_w_g_x0_1_0 w_r_w_g_x0_1_0 w_s_w_g_x0_1_0 w_p_w_g_x0_1_0 w_b_w_g_x0_1_1 w_r_w_g_x0_1_1 w_s_w_g_x0_1_1 w_p_w_g_x0_1_1)), .second, .val (.int (1 : Int32)), .val (.int (2 : Int32)), .val (.ref w_g_x0_1_1)] [(.ref x0), (.int (2 : Int32))])) rfl rfl (hb hby d11_20)
                  obtain ⟨T57, X57, e57, st57⟩ := getF X56 hx hZ hown (host := "") (Or.inl (hw _ (List.mem_of_getElem? (i := 60) rfl))) Via.refl e56 F_x0_granuleCount (g := (mkF m 8 #[.val (.ref x0), .val (.int x1), .val (.long (f11_v55 x1 w_b_w_g_x0_0_0 w_r_w_g_x0_0_0 w_s_w_g_x0_0_0 w_p_w_g_x0_0_0 w_b_w_g_x0_0_1 w_r_w_g_x0_0_1 w_s_w_g_x0_0_1 w_p_w_g_x0_0_1 w_b_w_g_x0_1_0 w_r_w_g_x0_1_0 w_s_w_g_x0_1_0 w_p_w_g_x0_1_0 w_b_w_g_x0_1_1 w_r_w_g_x0_1_1 w_s_w_g_x0_1_1 w_p_w_g_x0_1_1)), .second, .val (.int (2 : Int32)), .val (.int (2 : Int32)), .val (.ref w_g_x0_1_1)] [(.ref x0), (.int (2 : Int32))])) rfl rfl (hb hby d11_8)
                  have pre58 : ∀ t, Steps p.tables e below (T57.setTop (mkF m 98 #[.val (.ref x0), .val (.int x1), .val (.long (f11_v55 x1 w_b_w_g_x0_0_0 w_r_w_g_x0_0_0 w_s_w_g_x0_0_0 w_p_w_g_x0_0_0 w_b_w_g_x0_0_1 w_r_w_g_x0_0_1 w_s_w_g_x0_0_1 w_p_w_g_x0_0_1 w_b_w_g_x0_1_0 w_r_w_g_x0_1_0 w_s_w_g_x0_1_0 w_p_w_g_x0_1_0 w_b_w_g_x0_1_1 w_r_w_g_x0_1_1 w_s_w_g_x0_1_1 w_p_w_g_x0_1_1)), .second, .val (.int (2 : Int32)), .val (.int (2 : Int32)), .val (.ref w_g_x0_1_1)] [(.int (own_cmp (f11_v55 x1 w_b_w_g_x0_0_0 w_r_w_g_x0_0_0 w_s_w_g_x0_0_0 w_p_w_g_x0_0_0 w_b_w_g_x0_0_1 w_r_w_g_x0_0_1 w_s_w_g_x0_0_1 w_p_w_g_x0_0_1 w_b_w_g_x0_1_0 w_r_w_g_x0_1_0 w_s_w_g_x0_1_0 w_p_w_g_x0_1_0 w_b_w_g_x0_1_1 w_r_w_g_x0_1_1 w_s_w_g_x0_1_1 w_p_w_g_x0_1_1) ((8 : Int64) * (x1.toInt64))))])) t → Steps p.tables e below (s₁.setTop (entryFrame m #[(.ref x0), (.int x1)] 7)) t := by
                    intro t k
                    refine pre52 _ ?_
                    show Steps p.tables e below (T51.setTop (mkF m 64 #[.val (.ref x0), .val (.int x1), .val (.long (f11_v42 x1 w_b_w_g_x0_0_0 w_r_w_g_x0_0_0 w_s_w_g_x0_0_0 w_p_w_g_x0_0_0 w_b_w_g_x0_0_1 w_r_w_g_x0_0_1 w_s_w_g_x0_0_1 w_p_w_g_x0_0_1 w_b_w_g_x0_1_0 w_r_w_g_x0_1_0 w_s_w_g_x0_1_0 w_p_w_g_x0_1_0 w_b_w_g_x0_1_1 w_r_w_g_x0_1_1 w_s_w_g_x0_1_1 w_p_w_g_x0_1_1)), .second, .val (.int (1 : Int32)), .val (.int (1 : Int32)), .val (.ref w_g_x0_1_1)] [(.int (22 : Int32)), (.int ((w_r_w_g_x0_1_1 + w_s_w_g_x0_1_1) + (2 : Int32)))])) _
                    refine XS.icmpYes X51.here hx rfl (pc0 := 64) (pc' := 69) rfl (hb hby d11_64) rfl hc53 (by decide) (by decide) ?_
                    show Steps p.tables e below (T51.setTop (mkF m 69 #[.val (.ref x0), .val (.int x1), .val (.long (f11_v42 x1 w_b_w_g_x0_0_0 w_r_w_g_x0_0_0 w_s_w_g_x0_0_0 w_p_w_g_x0_0_0 w_b_w_g_x0_0_1 w_r_w_g_x0_0_1 w_s_w_g_x0_0_1 w_p_w_g_x0_0_1 w_b_w_g_x0_1_0 w_r_w_g_x0_1_0 w_s_w_g_x0_1_0 w_p_w_g_x0_1_0 w_b_w_g_x0_1_1 w_r_w_g_x0_1_1 w_s_w_g_x0_1_1 w_p_w_g_x0_1_1)), .second, .val (.int (1 : Int32)), .val (.int (1 : Int32)), .val (.ref w_g_x0_1_1)] [])) _
                    refine XS.lloadN X51.here hx rfl (hb hby d11_69) rfl ?_
                    show Steps p.tables e below (T51.setTop (mkF m 70 #[.val (.ref x0), .val (.int x1), .val (.long (f11_v42 x1 w_b_w_g_x0_0_0 w_r_w_g_x0_0_0 w_s_w_g_x0_0_0 w_p_w_g_x0_0_0 w_b_w_g_x0_0_1 w_r_w_g_x0_0_1 w_s_w_g_x0_0_1 w_p_w_g_x0_0_1 w_b_w_g_x0_1_0 w_r_w_g_x0_1_0 w_s_w_g_x0_1_0 w_p_w_g_x0_1_0 w_b_w_g_x0_1_1 w_r_w_g_x0_1_1 w_s_w_g_x0_1_1 w_p_w_g_x0_1_1)), .second, .val (.int (1 : Int32)), .val (.int (1 : Int32)), .val (.ref w_g_x0_1_1)] [(.long (f11_v42 x1 w_b_w_g_x0_0_0 w_r_w_g_x0_0_0 w_s_w_g_x0_0_0 w_p_w_g_x0_0_0 w_b_w_g_x0_0_1 w_r_w_g_x0_0_1 w_s_w_g_x0_0_1 w_p_w_g_x0_0_1 w_b_w_g_x0_1_0 w_r_w_g_x0_1_0 w_s_w_g_x0_1_0 w_p_w_g_x0_1_0 w_b_w_g_x0_1_1 w_r_w_g_x0_1_1 w_s_w_g_x0_1_1 w_p_w_g_x0_1_1))])) _
                    refine XS.aload X51.here hx rfl (hb hby d11_70) rfl rfl ?_
                    show Steps p.tables e below (T51.setTop (mkF m 72 #[.val (.ref x0), .val (.int x1), .val (.long (f11_v42 x1 w_b_w_g_x0_0_0 w_r_w_g_x0_0_0 w_s_w_g_x0_0_0 w_p_w_g_x0_0_0 w_b_w_g_x0_0_1 w_r_w_g_x0_0_1 w_s_w_g_x0_0_1 w_p_w_g_x0_0_1 w_b_w_g_x0_1_0 w_r_w_g_x0_1_0 w_s_w_g_x0_1_0 w_p_w_g_x0_1_0 w_b_w_g_x0_1_1 w_r_w_g_x0_1_1 w_s_w_g_x0_1_1 w_p_w_g_x0_1_1)), .second, .val (.int (1 : Int32)), .val (.int (1 : Int32)), .val (.ref w_g_x0_1_1)] [(.ref w_g_x0_1_1), (.long (f11_v42 x1 w_b_w_g_x0_0_0 w_r_w_g_x0_0_0 w_s_w_g_x0_0_0 w_p_w_g_x0_0_0 w_b_w_g_x0_0_1 w_r_w_g_x0_0_1 w_s_w_g_x0_0_1 w_p_w_g_x0_0_1 w_b_w_g_x0_1_0 w_r_w_g_x0_1_0 w_s_w_g_x0_1_0 w_p_w_g_x0_1_0 w_b_w_g_x0_1_1 w_r_w_g_x0_1_1 w_s_w_g_x0_1_1 w_p_w_g_x0_1_1))])) _
                    refine st54 _ ?_
                    show Steps p.tables e below (T54.setTop (mkF m 75 #[.val (.ref x0), .val (.int x1), .val (.long (f11_v42 x1 w_b_w_g_x0_0_0 w_r_w_g_x0_0_0 w_s_w_g_x0_0_0 w_p_w_g_x0_0_0 w_b_w_g_x0_0_1 w_r_w_g_x0_0_1 w_s_w_g_x0_0_1 w_p_w_g_x0_0_1 w_b_w_g_x0_1_0 w_r_w_g_x0_1_0 w_s_w_g_x0_1_0 w_p_w_g_x0_1_0 w_b_w_g_x0_1_1 w_r_w_g_x0_1_1 w_s_w_g_x0_1_1 w_p_w_g_x0_1_1)), .second, .val (.int (1 : Int32)), .val (.int (1 : Int32)), .val (.ref w_g_x0_1_1)] [(.int w_p_w_g_x0_1_1), (.long (f11_v42 x1 w_b_w_g_x0_0_0 w_r_w_g_x0_0_0 w_s_w_g_x0_0_0 w_p_w_g_x0_0_0 w_b_w_g_x0_0_1 w_r_w_g_x0_0_1 w_s_w_g_x0_0_1 w_p_w_g_x0_0_1 w_b_w_g_x0_1_0 w_r_w_g_x0_1_0 w_s_w_g_x0_1_0 w_p_w_g_x0_1_0 w_b_w_g_x0_1_1 w_r_w_g_x0_1_1 w_s_w_g_x0_1_1 w_p_w_g_x0_1_1))])) _
                    refine XS.i2l X54.here hx rfl (hb hby d11_75) rfl ?_
                    show Steps p.tables e below (T54.setTop (mkF m 76 #[.val (.ref x0), .val (.int x1), .val (.long (f11_v42 x1 w_b_w_g_x0_0_0 w_r_w_g_x0_0_0 w_s_w_g_x0_0_0 w_p_w_g_x0_0_0 w_b_w_g_x0_0_1 w_r_w_g_x0_0_1 w_s_w_g_x0_0_1 w_p_w_g_x0_0_1 w_b_w_g_x0_1_0 w_r_w_g_x0_1_0 w_s_w_g_x0_1_0 w_p_w_g_x0_1_0 w_b_w_g_x0_1_1 w_r_w_g_x0_1_1 w_s_w_g_x0_1_1 w_p_w_g_x0_1_1)), .second, .val (.int (1 : Int32)), .val (.int (1 : Int32)), .val (.ref w_g_x0_1_1)] [(.long (w_p_w_g_x0_1_1.toInt64)), (.long (f11_v42 x1 w_b_w_g_x0_0_0 w_r_w_g_x0_0_0 w_s_w_g_x0_0_0 w_p_w_g_x0_0_0 w_b_w_g_x0_0_1 w_r_w_g_x0_0_1 w_s_w_g_x0_0_1 w_p_w_g_x0_0_1 w_b_w_g_x0_1_0 w_r_w_g_x0_1_0 w_s_w_g_x0_1_0 w_p_w_g_x0_1_0 w_b_w_g_x0_1_1 w_r_w_g_x0_1_1 w_s_w_g_x0_1_1 w_p_w_g_x0_1_1))])) _
                    refine XS.ladd X54.here hx rfl (hb hby d11_76) rfl ?_
                    show Steps p.tables e below (T54.setTop (mkF m 77 #[.val (.ref x0), .val (.int x1), .val (.long (f11_v42 x1 w_b_w_g_x0_0_0 w_r_w_g_x0_0_0 w_s_w_g_x0_0_0 w_p_w_g_x0_0_0 w_b_w_g_x0_0_1 w_r_w_g_x0_0_1 w_s_w_g_x0_0_1 w_p_w_g_x0_0_1 w_b_w_g_x0_1_0 w_r_w_g_x0_1_0 w_s_w_g_x0_1_0 w_p_w_g_x0_1_0 w_b_w_g_x0_1_1 w_r_w_g_x0_1_1 w_s_w_g_x0_1_1 w_p_w_g_x0_1_1)), .second, .val (.int (1 : Int32)), .val (.int (1 : Int32)), .val (.ref w_g_x0_1_1)] [(.long ((f11_v42 x1 w_b_w_g_x0_0_0 w_r_w_g_x0_0_0 w_s_w_g_x0_0_0 w_p_w_g_x0_0_0 w_b_w_g_x0_0_1 w_r_w_g_x0_0_1 w_s_w_g_x0_0_1 w_p_w_g_x0_0_1 w_b_w_g_x0_1_0 w_r_w_g_x0_1_0 w_s_w_g_x0_1_0 w_p_w_g_x0_1_0 w_b_w_g_x0_1_1 w_r_w_g_x0_1_1 w_s_w_g_x0_1_1 w_p_w_g_x0_1_1) + (w_p_w_g_x0_1_1.toInt64)))])) _
                    refine XS.lstoreN X54.here hx rfl (hb hby d11_77) rfl (l' := #[.val (.ref x0), .val (.int x1), .val (.long (f11_v55 x1 w_b_w_g_x0_0_0 w_r_w_g_x0_0_0 w_s_w_g_x0_0_0 w_p_w_g_x0_0_0 w_b_w_g_x0_0_1 w_r_w_g_x0_0_1 w_s_w_g_x0_0_1 w_p_w_g_x0_0_1 w_b_w_g_x0_1_0 w_r_w_g_x0_1_0 w_s_w_g_x0_1_0 w_p_w_g_x0_1_0 w_b_w_g_x0_1_1 w_r_w_g_x0_1_1 w_s_w_g_x0_1_1 w_p_w_g_x0_1_1)), .second, .val (.int (1 : Int32)), .val (.int (1 : Int32)), .val (.ref w_g_x0_1_1)]) rfl ?_
                    show Steps p.tables e below (T54.setTop (mkF m 78 #[.val (.ref x0), .val (.int x1), .val (.long (f11_v55 x1 w_b_w_g_x0_0_0 w_r_w_g_x0_0_0 w_s_w_g_x0_0_0 w_p_w_g_x0_0_0 w_b_w_g_x0_0_1 w_r_w_g_x0_0_1 w_s_w_g_x0_0_1 w_p_w_g_x0_0_1 w_b_w_g_x0_1_0 w_r_w_g_x0_1_0 w_s_w_g_x0_1_0 w_p_w_g_x0_1_0 w_b_w_g_x0_1_1 w_r_w_g_x0_1_1 w_s_w_g_x0_1_1 w_p_w_g_x0_1_1)), .second, .val (.int (1 : Int32)), .val (.int (1 : Int32)), .val (.ref w_g_x0_1_1)] [])) _
                    refine XS.iinc X54.here hx rfl (hb hby d11_78) rfl (l' := #[.val (.ref x0), .val (.int x1), .val (.long (f11_v55 x1 w_b_w_g_x0_0_0 w_r_w_g_x0_0_0 w_s_w_g_x0_0_0 w_p_w_g_x0_0_0 w_b_w_g_x0_0_1 w_r_w_g_x0_0_1 w_s_w_g_x0_0_1 w_p_w_g_x0_0_1 w_b_w_g_x0_1_0 w_r_w_g_x0_1_0 w_s_w_g_x0_1_0 w_p_w_g_x0_1_0 w_b_w_g_x0_1_1 w_r_w_g_x0_1_1 w_s_w_g_x0_1_1 w_p_w_g_x0_1_1)), .second, .val (.int (1 : Int32)), .val (.int (2 : Int32)), .val (.ref w_g_x0_1_1)]) rfl ?_
                    show Steps p.tables e below (T54.setTop (mkF m 81 #[.val (.ref x0), .val (.int x1), .val (.long (f11_v55 x1 w_b_w_g_x0_0_0 w_r_w_g_x0_0_0 w_s_w_g_x0_0_0 w_p_w_g_x0_0_0 w_b_w_g_x0_0_1 w_r_w_g_x0_0_1 w_s_w_g_x0_0_1 w_p_w_g_x0_0_1 w_b_w_g_x0_1_0 w_r_w_g_x0_1_0 w_s_w_g_x0_1_0 w_p_w_g_x0_1_0 w_b_w_g_x0_1_1 w_r_w_g_x0_1_1 w_s_w_g_x0_1_1 w_p_w_g_x0_1_1)), .second, .val (.int (1 : Int32)), .val (.int (2 : Int32)), .val (.ref w_g_x0_1_1)] [])) _
                    refine XS.goto X54.here hx rfl (pc0 := 81) (pc' := 17) rfl (hb hby d11_81) (by decide) (by decide) ?_
                    show Steps p.tables e below (T54.setTop (mkF m 17 #[.val (.ref x0), .val (.int x1), .val (.long (f11_v55 x1 w_b_w_g_x0_0_0 w_r_w_g_x0_0_0 w_s_w_g_x0_0_0 w_p_w_g_x0_0_0 w_b_w_g_x0_0_1 w_r_w_g_x0_0_1 w_s_w_g_x0_0_1 w_p_w_g_x0_0_1 w_b_w_g_x0_1_0 w_r_w_g_x0_1_0 w_s_w_g_x0_1_0 w_p_w_g_x0_1_0 w_b_w_g_x0_1_1 w_r_w_g_x0_1_1 w_s_w_g_x0_1_1 w_p_w_g_x0_1_1)), .second, .val (.int (1 : Int32)), .val (.int (2 : Int32)), .val (.ref w_g_x0_1_1)] [])) _
                    refine XS.iload X54.here hx rfl (hb hby d11_17) rfl ?_
                    show Steps p.tables e below (T54.setTop (mkF m 19 #[.val (.ref x0), .val (.int x1), .val (.long (f11_v55 x1 w_b_w_g_x0_0_0 w_r_w_g_x0_0_0 w_s_w_g_x0_0_0 w_p_w_g_x0_0_0 w_b_w_g_x0_0_1 w_r_w_g_x0_0_1 w_s_w_g_x0_0_1 w_p_w_g_x0_0_1 w_b_w_g_x0_1_0 w_r_w_g_x0_1_0 w_s_w_g_x0_1_0 w_p_w_g_x0_1_0 w_b_w_g_x0_1_1 w_r_w_g_x0_1_1 w_s_w_g_x0_1_1 w_p_w_g_x0_1_1)), .second, .val (.int (1 : Int32)), .val (.int (2 : Int32)), .val (.ref w_g_x0_1_1)] [(.int (2 : Int32))])) _
                    refine XS.aloadN X54.here hx rfl (hb hby d11_19) rfl rfl ?_
                    show Steps p.tables e below (T54.setTop (mkF m 20 #[.val (.ref x0), .val (.int x1), .val (.long (f11_v55 x1 w_b_w_g_x0_0_0 w_r_w_g_x0_0_0 w_s_w_g_x0_0_0 w_p_w_g_x0_0_0 w_b_w_g_x0_0_1 w_r_w_g_x0_0_1 w_s_w_g_x0_0_1 w_p_w_g_x0_0_1 w_b_w_g_x0_1_0 w_r_w_g_x0_1_0 w_s_w_g_x0_1_0 w_p_w_g_x0_1_0 w_b_w_g_x0_1_1 w_r_w_g_x0_1_1 w_s_w_g_x0_1_1 w_p_w_g_x0_1_1)), .second, .val (.int (1 : Int32)), .val (.int (2 : Int32)), .val (.ref w_g_x0_1_1)] [(.ref x0), (.int (2 : Int32))])) _
                    refine st56 _ ?_
                    show Steps p.tables e below (T56.setTop (mkF m 23 #[.val (.ref x0), .val (.int x1), .val (.long (f11_v55 x1 w_b_w_g_x0_0_0 w_r_w_g_x0_0_0 w_s_w_g_x0_0_0 w_p_w_g_x0_0_0 w_b_w_g_x0_0_1 w_r_w_g_x0_0_1 w_s_w_g_x0_0_1 w_p_w_g_x0_0_1 w_b_w_g_x0_1_0 w_r_w_g_x0_1_0 w_s_w_g_x0_1_0 w_p_w_g_x0_1_0 w_b_w_g_x0_1_1 w_r_w_g_x0_1_1 w_s_w_g_x0_1_1 w_p_w_g_x0_1_1)), .second, .val (.int (1 : Int32)), .val (.int (2 : Int32)), .val (.ref w_g_x0_1_1)] [(.int (2 : Int32)), (.int (2 : Int32))])) _
                    refine XS.icmpYes X56.here hx rfl (pc0 := 23) (pc' := 84) rfl (hb hby d11_23) rfl (by decide) (by decide) (by decide) ?_
                    show Steps p.tables e below (T56.setTop (mkF m 84 #[.val (.ref x0), .val (.int x1), .val (.long (f11_v55 x1 w_b_w_g_x0_0_0 w_r_w_g_x0_0_0 w_s_w_g_x0_0_0 w_p_w_g_x0_0_0 w_b_w_g_x0_0_1 w_r_w_g_x0_0_1 w_s_w_g_x0_0_1 w_p_w_g_x0_0_1 w_b_w_g_x0_1_0 w_r_w_g_x0_1_0 w_s_w_g_x0_1_0 w_p_w_g_x0_1_0 w_b_w_g_x0_1_1 w_r_w_g_x0_1_1 w_s_w_g_x0_1_1 w_p_w_g_x0_1_1)), .second, .val (.int (1 : Int32)), .val (.int (2 : Int32)), .val (.ref w_g_x0_1_1)] [])) _
                    refine XS.iinc X56.here hx rfl (hb hby d11_84) rfl (l' := #[.val (.ref x0), .val (.int x1), .val (.long (f11_v55 x1 w_b_w_g_x0_0_0 w_r_w_g_x0_0_0 w_s_w_g_x0_0_0 w_p_w_g_x0_0_0 w_b_w_g_x0_0_1 w_r_w_g_x0_0_1 w_s_w_g_x0_0_1 w_p_w_g_x0_0_1 w_b_w_g_x0_1_0 w_r_w_g_x0_1_0 w_s_w_g_x0_1_0 w_p_w_g_x0_1_0 w_b_w_g_x0_1_1 w_r_w_g_x0_1_1 w_s_w_g_x0_1_1 w_p_w_g_x0_1_1)), .second, .val (.int (2 : Int32)), .val (.int (2 : Int32)), .val (.ref w_g_x0_1_1)]) rfl ?_
                    show Steps p.tables e below (T56.setTop (mkF m 87 #[.val (.ref x0), .val (.int x1), .val (.long (f11_v55 x1 w_b_w_g_x0_0_0 w_r_w_g_x0_0_0 w_s_w_g_x0_0_0 w_p_w_g_x0_0_0 w_b_w_g_x0_0_1 w_r_w_g_x0_0_1 w_s_w_g_x0_0_1 w_p_w_g_x0_0_1 w_b_w_g_x0_1_0 w_r_w_g_x0_1_0 w_s_w_g_x0_1_0 w_p_w_g_x0_1_0 w_b_w_g_x0_1_1 w_r_w_g_x0_1_1 w_s_w_g_x0_1_1 w_p_w_g_x0_1_1)), .second, .val (.int (2 : Int32)), .val (.int (2 : Int32)), .val (.ref w_g_x0_1_1)] [])) _
                    refine XS.goto X56.here hx rfl (pc0 := 87) (pc' := 5) rfl (hb hby d11_87) (by decide) (by decide) ?_
                    show Steps p.tables e below (T56.setTop (mkF m 5 #[.val (.ref x0), .val (.int x1), .val (.long (f11_v55 x1 w_b_w_g_x0_0_0 w_r_w_g_x0_0_0 w_s_w_g_x0_0_0 w_p_w_g_x0_0_0 w_b_w_g_x0_0_1 w_r_w_g_x0_0_1 w_s_w_g_x0_0_1 w_p_w_g_x0_0_1 w_b_w_g_x0_1_0 w_r_w_g_x0_1_0 w_s_w_g_x0_1_0 w_p_w_g_x0_1_0 w_b_w_g_x0_1_1 w_r_w_g_x0_1_1 w_s_w_g_x0_1_1 w_p_w_g_x0_1_1)), .second, .val (.int (2 : Int32)), .val (.int (2 : Int32)), .val (.ref w_g_x0_1_1)] [])) _
                    refine XS.iload X56.here hx rfl (hb hby d11_5) rfl ?_
                    show Steps p.tables e below (T56.setTop (mkF m 7 #[.val (.ref x0), .val (.int x1), .val (.long (f11_v55 x1 w_b_w_g_x0_0_0 w_r_w_g_x0_0_0 w_s_w_g_x0_0_0 w_p_w_g_x0_0_0 w_b_w_g_x0_0_1 w_r_w_g_x0_0_1 w_s_w_g_x0_0_1 w_p_w_g_x0_0_1 w_b_w_g_x0_1_0 w_r_w_g_x0_1_0 w_s_w_g_x0_1_0 w_p_w_g_x0_1_0 w_b_w_g_x0_1_1 w_r_w_g_x0_1_1 w_s_w_g_x0_1_1 w_p_w_g_x0_1_1)), .second, .val (.int (2 : Int32)), .val (.int (2 : Int32)), .val (.ref w_g_x0_1_1)] [(.int (2 : Int32))])) _
                    refine XS.aloadN X56.here hx rfl (hb hby d11_7) rfl rfl ?_
                    show Steps p.tables e below (T56.setTop (mkF m 8 #[.val (.ref x0), .val (.int x1), .val (.long (f11_v55 x1 w_b_w_g_x0_0_0 w_r_w_g_x0_0_0 w_s_w_g_x0_0_0 w_p_w_g_x0_0_0 w_b_w_g_x0_0_1 w_r_w_g_x0_0_1 w_s_w_g_x0_0_1 w_p_w_g_x0_0_1 w_b_w_g_x0_1_0 w_r_w_g_x0_1_0 w_s_w_g_x0_1_0 w_p_w_g_x0_1_0 w_b_w_g_x0_1_1 w_r_w_g_x0_1_1 w_s_w_g_x0_1_1 w_p_w_g_x0_1_1)), .second, .val (.int (2 : Int32)), .val (.int (2 : Int32)), .val (.ref w_g_x0_1_1)] [(.ref x0), (.int (2 : Int32))])) _
                    refine st57 _ ?_
                    show Steps p.tables e below (T57.setTop (mkF m 11 #[.val (.ref x0), .val (.int x1), .val (.long (f11_v55 x1 w_b_w_g_x0_0_0 w_r_w_g_x0_0_0 w_s_w_g_x0_0_0 w_p_w_g_x0_0_0 w_b_w_g_x0_0_1 w_r_w_g_x0_0_1 w_s_w_g_x0_0_1 w_p_w_g_x0_0_1 w_b_w_g_x0_1_0 w_r_w_g_x0_1_0 w_s_w_g_x0_1_0 w_p_w_g_x0_1_0 w_b_w_g_x0_1_1 w_r_w_g_x0_1_1 w_s_w_g_x0_1_1 w_p_w_g_x0_1_1)), .second, .val (.int (2 : Int32)), .val (.int (2 : Int32)), .val (.ref w_g_x0_1_1)] [(.int (2 : Int32)), (.int (2 : Int32))])) _
                    refine XS.icmpYes X57.here hx rfl (pc0 := 11) (pc' := 90) rfl (hb hby d11_11) rfl (by decide) (by decide) (by decide) ?_
                    show Steps p.tables e below (T57.setTop (mkF m 90 #[.val (.ref x0), .val (.int x1), .val (.long (f11_v55 x1 w_b_w_g_x0_0_0 w_r_w_g_x0_0_0 w_s_w_g_x0_0_0 w_p_w_g_x0_0_0 w_b_w_g_x0_0_1 w_r_w_g_x0_0_1 w_s_w_g_x0_0_1 w_p_w_g_x0_0_1 w_b_w_g_x0_1_0 w_r_w_g_x0_1_0 w_s_w_g_x0_1_0 w_p_w_g_x0_1_0 w_b_w_g_x0_1_1 w_r_w_g_x0_1_1 w_s_w_g_x0_1_1 w_p_w_g_x0_1_1)), .second, .val (.int (2 : Int32)), .val (.int (2 : Int32)), .val (.ref w_g_x0_1_1)] [])) _
                    refine XS.lloadN X57.here hx rfl (hb hby d11_90) rfl ?_
                    show Steps p.tables e below (T57.setTop (mkF m 91 #[.val (.ref x0), .val (.int x1), .val (.long (f11_v55 x1 w_b_w_g_x0_0_0 w_r_w_g_x0_0_0 w_s_w_g_x0_0_0 w_p_w_g_x0_0_0 w_b_w_g_x0_0_1 w_r_w_g_x0_0_1 w_s_w_g_x0_0_1 w_p_w_g_x0_0_1 w_b_w_g_x0_1_0 w_r_w_g_x0_1_0 w_s_w_g_x0_1_0 w_p_w_g_x0_1_0 w_b_w_g_x0_1_1 w_r_w_g_x0_1_1 w_s_w_g_x0_1_1 w_p_w_g_x0_1_1)), .second, .val (.int (2 : Int32)), .val (.int (2 : Int32)), .val (.ref w_g_x0_1_1)] [(.long (f11_v55 x1 w_b_w_g_x0_0_0 w_r_w_g_x0_0_0 w_s_w_g_x0_0_0 w_p_w_g_x0_0_0 w_b_w_g_x0_0_1 w_r_w_g_x0_0_1 w_s_w_g_x0_0_1 w_p_w_g_x0_0_1 w_b_w_g_x0_1_0 w_r_w_g_x0_1_0 w_s_w_g_x0_1_0 w_p_w_g_x0_1_0 w_b_w_g_x0_1_1 w_r_w_g_x0_1_1 w_s_w_g_x0_1_1 w_p_w_g_x0_1_1))])) _
                    refine X57.ldc2Long hx hown (mvT hZ (hw _ (List.mem_of_getElem? (i := 66) rfl))) (g := (mkF m 91 #[.val (.ref x0), .val (.int x1), .val (.long (f11_v55 x1 w_b_w_g_x0_0_0 w_r_w_g_x0_0_0 w_s_w_g_x0_0_0 w_p_w_g_x0_0_0 w_b_w_g_x0_0_1 w_r_w_g_x0_0_1 w_s_w_g_x0_0_1 w_p_w_g_x0_0_1 w_b_w_g_x0_1_0 w_r_w_g_x0_1_0 w_s_w_g_x0_1_0 w_p_w_g_x0_1_0 w_b_w_g_x0_1_1 w_r_w_g_x0_1_1 w_s_w_g_x0_1_1 w_p_w_g_x0_1_1)), .second, .val (.int (2 : Int32)), .val (.int (2 : Int32)), .val (.ref w_g_x0_1_1)] [(.long (f11_v55 x1 w_b_w_g_x0_0_0 w_r_w_g_x0_0_0 w_s_w_g_x0_0_0 w_p_w_g_x0_0_0 w_b_w_g_x0_0_1 w_r_w_g_x0_0_1 w_s_w_g_x0_0_1 w_p_w_g_x0_0_1 w_b_w_g_x0_1_0 w_r_w_g_x0_1_0 w_s_w_g_x0_1_0 w_p_w_g_x0_1_0 w_b_w_g_x0_1_1 w_r_w_g_x0_1_1 w_s_w_g_x0_1_1 w_p_w_g_x0_1_1))])) rfl (hb hby d11_91) _ ?_
                    show Steps p.tables e below (T57.setTop (mkF m 94 #[.val (.ref x0), .val (.int x1), .val (.long (f11_v55 x1 w_b_w_g_x0_0_0 w_r_w_g_x0_0_0 w_s_w_g_x0_0_0 w_p_w_g_x0_0_0 w_b_w_g_x0_0_1 w_r_w_g_x0_0_1 w_s_w_g_x0_0_1 w_p_w_g_x0_0_1 w_b_w_g_x0_1_0 w_r_w_g_x0_1_0 w_s_w_g_x0_1_0 w_p_w_g_x0_1_0 w_b_w_g_x0_1_1 w_r_w_g_x0_1_1 w_s_w_g_x0_1_1 w_p_w_g_x0_1_1)), .second, .val (.int (2 : Int32)), .val (.int (2 : Int32)), .val (.ref w_g_x0_1_1)] [(.long (8 : Int64)), (.long (f11_v55 x1 w_b_w_g_x0_0_0 w_r_w_g_x0_0_0 w_s_w_g_x0_0_0 w_p_w_g_x0_0_0 w_b_w_g_x0_0_1 w_r_w_g_x0_0_1 w_s_w_g_x0_0_1 w_p_w_g_x0_0_1 w_b_w_g_x0_1_0 w_r_w_g_x0_1_0 w_s_w_g_x0_1_0 w_p_w_g_x0_1_0 w_b_w_g_x0_1_1 w_r_w_g_x0_1_1 w_s_w_g_x0_1_1 w_p_w_g_x0_1_1))])) _
                    refine XS.iloadN X57.here hx rfl (hb hby d11_94) rfl ?_
                    show Steps p.tables e below (T57.setTop (mkF m 95 #[.val (.ref x0), .val (.int x1), .val (.long (f11_v55 x1 w_b_w_g_x0_0_0 w_r_w_g_x0_0_0 w_s_w_g_x0_0_0 w_p_w_g_x0_0_0 w_b_w_g_x0_0_1 w_r_w_g_x0_0_1 w_s_w_g_x0_0_1 w_p_w_g_x0_0_1 w_b_w_g_x0_1_0 w_r_w_g_x0_1_0 w_s_w_g_x0_1_0 w_p_w_g_x0_1_0 w_b_w_g_x0_1_1 w_r_w_g_x0_1_1 w_s_w_g_x0_1_1 w_p_w_g_x0_1_1)), .second, .val (.int (2 : Int32)), .val (.int (2 : Int32)), .val (.ref w_g_x0_1_1)] [(.int x1), (.long (8 : Int64)), (.long (f11_v55 x1 w_b_w_g_x0_0_0 w_r_w_g_x0_0_0 w_s_w_g_x0_0_0 w_p_w_g_x0_0_0 w_b_w_g_x0_0_1 w_r_w_g_x0_0_1 w_s_w_g_x0_0_1 w_p_w_g_x0_0_1 w_b_w_g_x0_1_0 w_r_w_g_x0_1_0 w_s_w_g_x0_1_0 w_p_w_g_x0_1_0 w_b_w_g_x0_1_1 w_r_w_g_x0_1_1 w_s_w_g_x0_1_1 w_p_w_g_x0_1_1))])) _
                    refine XS.i2l X57.here hx rfl (hb hby d11_95) rfl ?_
                    show Steps p.tables e below (T57.setTop (mkF m 96 #[.val (.ref x0), .val (.int x1), .val (.long (f11_v55 x1 w_b_w_g_x0_0_0 w_r_w_g_x0_0_0 w_s_w_g_x0_0_0 w_p_w_g_x0_0_0 w_b_w_g_x0_0_1 w_r_w_g_x0_0_1 w_s_w_g_x0_0_1 w_p_w_g_x0_0_1 w_b_w_g_x0_1_0 w_r_w_g_x0_1_0 w_s_w_g_x0_1_0 w_p_w_g_x0_1_0 w_b_w_g_x0_1_1 w_r_w_g_x0_1_1 w_s_w_g_x0_1_1 w_p_w_g_x0_1_1)), .second, .val (.int (2 : Int32)), .val (.int (2 : Int32)), .val (.ref w_g_x0_1_1)] [(.long (x1.toInt64)), (.long (8 : Int64)), (.long (f11_v55 x1 w_b_w_g_x0_0_0 w_r_w_g_x0_0_0 w_s_w_g_x0_0_0 w_p_w_g_x0_0_0 w_b_w_g_x0_0_1 w_r_w_g_x0_0_1 w_s_w_g_x0_0_1 w_p_w_g_x0_0_1 w_b_w_g_x0_1_0 w_r_w_g_x0_1_0 w_s_w_g_x0_1_0 w_p_w_g_x0_1_0 w_b_w_g_x0_1_1 w_r_w_g_x0_1_1 w_s_w_g_x0_1_1 w_p_w_g_x0_1_1))])) _
                    refine XS.lmul X57.here hx rfl (hb hby d11_96) rfl ?_
                    show Steps p.tables e below (T57.setTop (mkF m 97 #[.val (.ref x0), .val (.int x1), .val (.long (f11_v55 x1 w_b_w_g_x0_0_0 w_r_w_g_x0_0_0 w_s_w_g_x0_0_0 w_p_w_g_x0_0_0 w_b_w_g_x0_0_1 w_r_w_g_x0_0_1 w_s_w_g_x0_0_1 w_p_w_g_x0_0_1 w_b_w_g_x0_1_0 w_r_w_g_x0_1_0 w_s_w_g_x0_1_0 w_p_w_g_x0_1_0 w_b_w_g_x0_1_1 w_r_w_g_x0_1_1 w_s_w_g_x0_1_1 w_p_w_g_x0_1_1)), .second, .val (.int (2 : Int32)), .val (.int (2 : Int32)), .val (.ref w_g_x0_1_1)] [(.long ((8 : Int64) * (x1.toInt64))), (.long (f11_v55 x1 w_b_w_g_x0_0_0 w_r_w_g_x0_0_0 w_s_w_g_x0_0_0 w_p_w_g_x0_0_0 w_b_w_g_x0_0_1 w_r_w_g_x0_0_1 w_s_w_g_x0_0_1 w_p_w_g_x0_0_1 w_b_w_g_x0_1_0 w_r_w_g_x0_1_0 w_s_w_g_x0_1_0 w_p_w_g_x0_1_0 w_b_w_g_x0_1_1 w_r_w_g_x0_1_1 w_s_w_g_x0_1_1 w_p_w_g_x0_1_1))])) _
                    refine own_xlcmp X57.here hx rfl (hb hby d11_97) rfl ?_
                    exact k
                  obtain ⟨T61, L61, X61, N61, e61, pre61⟩ : ∃ (T' : State) (L' : List Loc), Stand p l e ({ frames := 0, cells := 0, slots := 0, locals := 0 } : Room) s m #[(.ref x0), (.int x1)] below meth c T' L' 0 0 ∧ Fr n0 L' ∧ T'.heap = h0 ∧ ∀ t, Steps p.tables e below (T'.setTop (mkF m 106 #[.val (.ref x0), .val (.int x1), .val (.long (f11_v55 x1 w_b_w_g_x0_0_0 w_r_w_g_x0_0_0 w_s_w_g_x0_0_0 w_p_w_g_x0_0_0 w_b_w_g_x0_0_1 w_r_w_g_x0_0_1 w_s_w_g_x0_0_1 w_p_w_g_x0_0_1 w_b_w_g_x0_1_0 w_r_w_g_x0_1_0 w_s_w_g_x0_1_0 w_p_w_g_x0_1_0 w_b_w_g_x0_1_1 w_r_w_g_x0_1_1 w_s_w_g_x0_1_1 w_p_w_g_x0_1_1)), .second, .val (.int (2 : Int32)), .val (.int (2 : Int32)), .val (.ref w_g_x0_1_1)] [(.int (f11_j60 x1 w_b_w_g_x0_0_0 w_r_w_g_x0_0_0 w_s_w_g_x0_0_0 w_p_w_g_x0_0_0 w_b_w_g_x0_0_1 w_r_w_g_x0_0_1 w_s_w_g_x0_0_1 w_p_w_g_x0_0_1 w_b_w_g_x0_1_0 w_r_w_g_x0_1_0 w_s_w_g_x0_1_0 w_p_w_g_x0_1_0 w_b_w_g_x0_1_1 w_r_w_g_x0_1_1 w_s_w_g_x0_1_1 w_p_w_g_x0_1_1))])) t → Steps p.tables e below (s₁.setTop (entryFrame m #[(.ref x0), (.int x1)] 7)) t := by
                    rcases Bool.eq_false_or_eq_true (ifCond.holds .gt (own_cmp (f11_v55 x1 w_b_w_g_x0_0_0 w_r_w_g_x0_0_0 w_s_w_g_x0_0_0 w_p_w_g_x0_0_0 w_b_w_g_x0_0_1 w_r_w_g_x0_0_1 w_s_w_g_x0_0_1 w_p_w_g_x0_0_1 w_b_w_g_x0_1_0 w_r_w_g_x0_1_0 w_s_w_g_x0_1_0 w_p_w_g_x0_1_0 w_b_w_g_x0_1_1 w_r_w_g_x0_1_1 w_s_w_g_x0_1_1 w_p_w_g_x0_1_1) ((8 : Int64) * (x1.toInt64)))) with hc59 | hc59
                    · have pre62 : ∀ t, Steps p.tables e below (T57.setTop (mkF m 106 #[.val (.ref x0), .val (.int x1), .val (.long (f11_v55 x1 w_b_w_g_x0_0_0 w_r_w_g_x0_0_0 w_s_w_g_x0_0_0 w_p_w_g_x0_0_0 w_b_w_g_x0_0_1 w_r_w_g_x0_0_1 w_s_w_g_x0_0_1 w_p_w_g_x0_0_1 w_b_w_g_x0_1_0 w_r_w_g_x0_1_0 w_s_w_g_x0_1_0 w_p_w_g_x0_1_0 w_b_w_g_x0_1_1 w_r_w_g_x0_1_1 w_s_w_g_x0_1_1 w_p_w_g_x0_1_1)), .second, .val (.int (2 : Int32)), .val (.int (2 : Int32)), .val (.ref w_g_x0_1_1)] [(.int (0 : Int32))])) t → Steps p.tables e below (s₁.setTop (entryFrame m #[(.ref x0), (.int x1)] 7)) t := by
                        intro t k
                        refine pre58 _ ?_
                        show Steps p.tables e below (T57.setTop (mkF m 98 #[.val (.ref x0), .val (.int x1), .val (.long (f11_v55 x1 w_b_w_g_x0_0_0 w_r_w_g_x0_0_0 w_s_w_g_x0_0_0 w_p_w_g_x0_0_0 w_b_w_g_x0_0_1 w_r_w_g_x0_0_1 w_s_w_g_x0_0_1 w_p_w_g_x0_0_1 w_b_w_g_x0_1_0 w_r_w_g_x0_1_0 w_s_w_g_x0_1_0 w_p_w_g_x0_1_0 w_b_w_g_x0_1_1 w_r_w_g_x0_1_1 w_s_w_g_x0_1_1 w_p_w_g_x0_1_1)), .second, .val (.int (2 : Int32)), .val (.int (2 : Int32)), .val (.ref w_g_x0_1_1)] [(.int (own_cmp (f11_v55 x1 w_b_w_g_x0_0_0 w_r_w_g_x0_0_0 w_s_w_g_x0_0_0 w_p_w_g_x0_0_0 w_b_w_g_x0_0_1 w_r_w_g_x0_0_1 w_s_w_g_x0_0_1 w_p_w_g_x0_0_1 w_b_w_g_x0_1_0 w_r_w_g_x0_1_0 w_s_w_g_x0_1_0 w_p_w_g_x0_1_0 w_b_w_g_x0_1_1 w_r_w_g_x0_1_1 w_s_w_g_x0_1_1 w_p_w_g_x0_1_1) ((8 : Int64) * (x1.toInt64))))])) _
                        refine XS.ifYes X57.here hx rfl (pc0 := 98) (pc' := 105) rfl (hb hby d11_98) rfl hc59 (by decide) (by decide) ?_
                        show Steps p.tables e below (T57.setTop (mkF m 105 #[.val (.ref x0), .val (.int x1), .val (.long (f11_v55 x1 w_b_w_g_x0_0_0 w_r_w_g_x0_0_0 w_s_w_g_x0_0_0 w_p_w_g_x0_0_0 w_b_w_g_x0_0_1 w_r_w_g_x0_0_1 w_s_w_g_x0_0_1 w_p_w_g_x0_0_1 w_b_w_g_x0_1_0 w_r_w_g_x0_1_0 w_s_w_g_x0_1_0 w_p_w_g_x0_1_0 w_b_w_g_x0_1_1 w_r_w_g_x0_1_1 w_s_w_g_x0_1_1 w_p_w_g_x0_1_1)), .second, .val (.int (2 : Int32)), .val (.int (2 : Int32)), .val (.ref w_g_x0_1_1)] [])) _
                        refine XS.iconst X57.here hx rfl (hb hby d11_105) ?_
                        exact k
                      have qj0 : (f11_j60 x1 w_b_w_g_x0_0_0 w_r_w_g_x0_0_0 w_s_w_g_x0_0_0 w_p_w_g_x0_0_0 w_b_w_g_x0_0_1 w_r_w_g_x0_0_1 w_s_w_g_x0_0_1 w_p_w_g_x0_0_1 w_b_w_g_x0_1_0 w_r_w_g_x0_1_0 w_s_w_g_x0_1_0 w_p_w_g_x0_1_0 w_b_w_g_x0_1_1 w_r_w_g_x0_1_1 w_s_w_g_x0_1_1 w_p_w_g_x0_1_1) = (0 : Int32) := if_pos hc59
                      refine ⟨T57, _, X57, N0, e57, fun t k => pre62 _ ?_⟩
                      rw [qj0] at k
                      exact k
                    · have pre63 : ∀ t, Steps p.tables e below (T57.setTop (mkF m 106 #[.val (.ref x0), .val (.int x1), .val (.long (f11_v55 x1 w_b_w_g_x0_0_0 w_r_w_g_x0_0_0 w_s_w_g_x0_0_0 w_p_w_g_x0_0_0 w_b_w_g_x0_0_1 w_r_w_g_x0_0_1 w_s_w_g_x0_0_1 w_p_w_g_x0_0_1 w_b_w_g_x0_1_0 w_r_w_g_x0_1_0 w_s_w_g_x0_1_0 w_p_w_g_x0_1_0 w_b_w_g_x0_1_1 w_r_w_g_x0_1_1 w_s_w_g_x0_1_1 w_p_w_g_x0_1_1)), .second, .val (.int (2 : Int32)), .val (.int (2 : Int32)), .val (.ref w_g_x0_1_1)] [(.int (1 : Int32))])) t → Steps p.tables e below (s₁.setTop (entryFrame m #[(.ref x0), (.int x1)] 7)) t := by
                        intro t k
                        refine pre58 _ ?_
                        show Steps p.tables e below (T57.setTop (mkF m 98 #[.val (.ref x0), .val (.int x1), .val (.long (f11_v55 x1 w_b_w_g_x0_0_0 w_r_w_g_x0_0_0 w_s_w_g_x0_0_0 w_p_w_g_x0_0_0 w_b_w_g_x0_0_1 w_r_w_g_x0_0_1 w_s_w_g_x0_0_1 w_p_w_g_x0_0_1 w_b_w_g_x0_1_0 w_r_w_g_x0_1_0 w_s_w_g_x0_1_0 w_p_w_g_x0_1_0 w_b_w_g_x0_1_1 w_r_w_g_x0_1_1 w_s_w_g_x0_1_1 w_p_w_g_x0_1_1)), .second, .val (.int (2 : Int32)), .val (.int (2 : Int32)), .val (.ref w_g_x0_1_1)] [(.int (own_cmp (f11_v55 x1 w_b_w_g_x0_0_0 w_r_w_g_x0_0_0 w_s_w_g_x0_0_0 w_p_w_g_x0_0_0 w_b_w_g_x0_0_1 w_r_w_g_x0_0_1 w_s_w_g_x0_0_1 w_p_w_g_x0_0_1 w_b_w_g_x0_1_0 w_r_w_g_x0_1_0 w_s_w_g_x0_1_0 w_p_w_g_x0_1_0 w_b_w_g_x0_1_1 w_r_w_g_x0_1_1 w_s_w_g_x0_1_1 w_p_w_g_x0_1_1) ((8 : Int64) * (x1.toInt64))))])) _
                        refine XS.ifNo X57.here hx rfl (hb hby d11_98) rfl hc59 ?_
                        show Steps p.tables e below (T57.setTop (mkF m 101 #[.val (.ref x0), .val (.int x1), .val (.long (f11_v55 x1 w_b_w_g_x0_0_0 w_r_w_g_x0_0_0 w_s_w_g_x0_0_0 w_p_w_g_x0_0_0 w_b_w_g_x0_0_1 w_r_w_g_x0_0_1 w_s_w_g_x0_0_1 w_p_w_g_x0_0_1 w_b_w_g_x0_1_0 w_r_w_g_x0_1_0 w_s_w_g_x0_1_0 w_p_w_g_x0_1_0 w_b_w_g_x0_1_1 w_r_w_g_x0_1_1 w_s_w_g_x0_1_1 w_p_w_g_x0_1_1)), .second, .val (.int (2 : Int32)), .val (.int (2 : Int32)), .val (.ref w_g_x0_1_1)] [])) _
                        refine XS.iconst X57.here hx rfl (hb hby d11_101) ?_
                        show Steps p.tables e below (T57.setTop (mkF m 102 #[.val (.ref x0), .val (.int x1), .val (.long (f11_v55 x1 w_b_w_g_x0_0_0 w_r_w_g_x0_0_0 w_s_w_g_x0_0_0 w_p_w_g_x0_0_0 w_b_w_g_x0_0_1 w_r_w_g_x0_0_1 w_s_w_g_x0_0_1 w_p_w_g_x0_0_1 w_b_w_g_x0_1_0 w_r_w_g_x0_1_0 w_s_w_g_x0_1_0 w_p_w_g_x0_1_0 w_b_w_g_x0_1_1 w_r_w_g_x0_1_1 w_s_w_g_x0_1_1 w_p_w_g_x0_1_1)), .second, .val (.int (2 : Int32)), .val (.int (2 : Int32)), .val (.ref w_g_x0_1_1)] [(.int (1 : Int32))])) _
                        refine XS.goto X57.here hx rfl (pc0 := 102) (pc' := 106) rfl (hb hby d11_102) (by decide) (by decide) ?_
                        exact k
                      have qj0 : (f11_j60 x1 w_b_w_g_x0_0_0 w_r_w_g_x0_0_0 w_s_w_g_x0_0_0 w_p_w_g_x0_0_0 w_b_w_g_x0_0_1 w_r_w_g_x0_0_1 w_s_w_g_x0_0_1 w_p_w_g_x0_0_1 w_b_w_g_x0_1_0 w_r_w_g_x0_1_0 w_s_w_g_x0_1_0 w_p_w_g_x0_1_0 w_b_w_g_x0_1_1 w_r_w_g_x0_1_1 w_s_w_g_x0_1_1 w_p_w_g_x0_1_1) = (1 : Int32) := if_neg (own_nt hc59)
                      refine ⟨T57, _, X57, N0, e57, fun t k => pre63 _ ?_⟩
                      rw [qj0] at k
                      exact k
                  obtain ⟨fs, hr, hrun, hended, hW, hsame⟩ := X61.leave (v := some (.int (nar .boolean (f11_j60 x1 w_b_w_g_x0_0_0 w_r_w_g_x0_0_0 w_s_w_g_x0_0_0 w_p_w_g_x0_0_0 w_b_w_g_x0_0_1 w_r_w_g_x0_0_1 w_s_w_g_x0_0_1 w_p_w_g_x0_0_1 w_b_w_g_x0_1_0 w_r_w_g_x0_1_0 w_s_w_g_x0_1_0 w_p_w_g_x0_1_0 w_b_w_g_x0_1_1 w_r_w_g_x0_1_1 w_s_w_g_x0_1_1 w_p_w_g_x0_1_1)))) (fun h => by rw [hret] at h; cases h)
                  refine ⟨_, _, pre61 _ ?_, hrun, hended, _, _, rfl, ?_, ⟨_, rfl⟩, hW, hsame.mono (by decide) (by decide)⟩
                  · show Steps p.tables e below (T61.setTop (mkF m 106 #[.val (.ref x0), .val (.int x1), .val (.long (f11_v55 x1 w_b_w_g_x0_0_0 w_r_w_g_x0_0_0 w_s_w_g_x0_0_0 w_p_w_g_x0_0_0 w_b_w_g_x0_0_1 w_r_w_g_x0_0_1 w_s_w_g_x0_0_1 w_p_w_g_x0_0_1 w_b_w_g_x0_1_0 w_r_w_g_x0_1_0 w_s_w_g_x0_1_0 w_p_w_g_x0_1_0 w_b_w_g_x0_1_1 w_r_w_g_x0_1_1 w_s_w_g_x0_1_1 w_p_w_g_x0_1_1)), .second, .val (.int (2 : Int32)), .val (.int (2 : Int32)), .val (.ref w_g_x0_1_1)] [(.int (f11_j60 x1 w_b_w_g_x0_0_0 w_r_w_g_x0_0_0 w_s_w_g_x0_0_0 w_p_w_g_x0_0_0 w_b_w_g_x0_0_1 w_r_w_g_x0_0_1 w_s_w_g_x0_0_1 w_p_w_g_x0_0_1 w_b_w_g_x0_1_0 w_r_w_g_x0_1_0 w_s_w_g_x0_1_0 w_p_w_g_x0_1_0 w_b_w_g_x0_1_1 w_r_w_g_x0_1_1 w_s_w_g_x0_1_1 w_p_w_g_x0_1_1))])) _
                    exact retN X61 hx (t := .boolean) hret (by simp) (hb hby d11_106) hr
                  · show Q11 Z x0 x1 w_g_x0 k_w_g_x0 w_g_x0_0 w_g_x0_1 k_w_g_x0_0 w_g_x0_0_0 w_g_x0_0_1 w_b_w_g_x0_0_0 w_r_w_g_x0_0_0 w_s_w_g_x0_0_0 w_p_w_g_x0_0_0 w_b_w_g_x0_0_1 w_r_w_g_x0_0_1 w_s_w_g_x0_0_1 w_p_w_g_x0_0_1 k_w_g_x0_1 w_g_x0_1_0 w_g_x0_1_1 w_b_w_g_x0_1_0 w_r_w_g_x0_1_0 w_s_w_g_x0_1_0 w_p_w_g_x0_1_0 w_b_w_g_x0_1_1 w_r_w_g_x0_1_1 w_s_w_g_x0_1_1 w_p_w_g_x0_1_1 h0 n0 _ T61.heap _
                    rw [e61]
                    have rr : f11 x1 w_b_w_g_x0_0_0 w_r_w_g_x0_0_0 w_s_w_g_x0_0_0 w_p_w_g_x0_0_0 w_b_w_g_x0_0_1 w_r_w_g_x0_0_1 w_s_w_g_x0_0_1 w_p_w_g_x0_0_1 w_b_w_g_x0_1_0 w_r_w_g_x0_1_0 w_s_w_g_x0_1_0 w_p_w_g_x0_1_0 w_b_w_g_x0_1_1 w_r_w_g_x0_1_1 w_s_w_g_x0_1_1 w_p_w_g_x0_1_1 = (nar .boolean (f11_j60 x1 w_b_w_g_x0_0_0 w_r_w_g_x0_0_0 w_s_w_g_x0_0_0 w_p_w_g_x0_0_0 w_b_w_g_x0_0_1 w_r_w_g_x0_0_1 w_s_w_g_x0_0_1 w_p_w_g_x0_0_1 w_b_w_g_x0_1_0 w_r_w_g_x0_1_0 w_s_w_g_x0_1_0 w_p_w_g_x0_1_0 w_b_w_g_x0_1_1 w_r_w_g_x0_1_1 w_s_w_g_x0_1_1 w_p_w_g_x0_1_1)) := Eq.trans (if_neg (own_nt hc8)) (Eq.trans (if_pos hc12) (Eq.trans (if_neg (own_nt hc21)) (Eq.trans (if_pos hc25) (Eq.trans (if_neg (own_nt hc36)) (Eq.trans (if_pos hc40) (Eq.trans (if_neg (own_nt hc49)) (if_pos hc53)))))))
                    exact ⟨congrArg (fun z => some (Value.int z)) rr.symm, N61, rfl⟩
                · obtain ⟨fs, hr, hrun, hended, hW, hsame⟩ := X51.leave (v := some (.int (0 : Int32))) (fun h => by rw [hret] at h; cases h)
                  refine ⟨_, _, pre52 _ ?_, hrun, hended, _, _, rfl, ?_, ⟨_, rfl⟩, hW, hsame.mono (by decide) (by decide)⟩
                  · show Steps p.tables e below (T51.setTop (mkF m 64 #[.val (.ref x0), .val (.int x1), .val (.long (f11_v42 x1 w_b_w_g_x0_0_0 w_r_w_g_x0_0_0 w_s_w_g_x0_0_0 w_p_w_g_x0_0_0 w_b_w_g_x0_0_1 w_r_w_g_x0_0_1 w_s_w_g_x0_0_1 w_p_w_g_x0_0_1 w_b_w_g_x0_1_0 w_r_w_g_x0_1_0 w_s_w_g_x0_1_0 w_p_w_g_x0_1_0 w_b_w_g_x0_1_1 w_r_w_g_x0_1_1 w_s_w_g_x0_1_1 w_p_w_g_x0_1_1)), .second, .val (.int (1 : Int32)), .val (.int (1 : Int32)), .val (.ref w_g_x0_1_1)] [(.int (22 : Int32)), (.int ((w_r_w_g_x0_1_1 + w_s_w_g_x0_1_1) + (2 : Int32)))])) _
                    refine XS.icmpNo X51.here hx rfl (hb hby d11_64) rfl hc53 ?_
                    show Steps p.tables e below (T51.setTop (mkF m 67 #[.val (.ref x0), .val (.int x1), .val (.long (f11_v42 x1 w_b_w_g_x0_0_0 w_r_w_g_x0_0_0 w_s_w_g_x0_0_0 w_p_w_g_x0_0_0 w_b_w_g_x0_0_1 w_r_w_g_x0_0_1 w_s_w_g_x0_0_1 w_p_w_g_x0_0_1 w_b_w_g_x0_1_0 w_r_w_g_x0_1_0 w_s_w_g_x0_1_0 w_p_w_g_x0_1_0 w_b_w_g_x0_1_1 w_r_w_g_x0_1_1 w_s_w_g_x0_1_1 w_p_w_g_x0_1_1)), .second, .val (.int (1 : Int32)), .val (.int (1 : Int32)), .val (.ref w_g_x0_1_1)] [])) _
                    refine XS.iconst X51.here hx rfl (hb hby d11_67) ?_
                    show Steps p.tables e below (T51.setTop (mkF m 68 #[.val (.ref x0), .val (.int x1), .val (.long (f11_v42 x1 w_b_w_g_x0_0_0 w_r_w_g_x0_0_0 w_s_w_g_x0_0_0 w_p_w_g_x0_0_0 w_b_w_g_x0_0_1 w_r_w_g_x0_0_1 w_s_w_g_x0_0_1 w_p_w_g_x0_0_1 w_b_w_g_x0_1_0 w_r_w_g_x0_1_0 w_s_w_g_x0_1_0 w_p_w_g_x0_1_0 w_b_w_g_x0_1_1 w_r_w_g_x0_1_1 w_s_w_g_x0_1_1 w_p_w_g_x0_1_1)), .second, .val (.int (1 : Int32)), .val (.int (1 : Int32)), .val (.ref w_g_x0_1_1)] [(.int (0 : Int32))])) _
                    exact retN X51 hx (t := .boolean) hret (by simp) (hb hby d11_68) hr
                  · show Q11 Z x0 x1 w_g_x0 k_w_g_x0 w_g_x0_0 w_g_x0_1 k_w_g_x0_0 w_g_x0_0_0 w_g_x0_0_1 w_b_w_g_x0_0_0 w_r_w_g_x0_0_0 w_s_w_g_x0_0_0 w_p_w_g_x0_0_0 w_b_w_g_x0_0_1 w_r_w_g_x0_0_1 w_s_w_g_x0_0_1 w_p_w_g_x0_0_1 k_w_g_x0_1 w_g_x0_1_0 w_g_x0_1_1 w_b_w_g_x0_1_0 w_r_w_g_x0_1_0 w_s_w_g_x0_1_0 w_p_w_g_x0_1_0 w_b_w_g_x0_1_1 w_r_w_g_x0_1_1 w_s_w_g_x0_1_1 w_p_w_g_x0_1_1 h0 n0 _ T51.heap _
                    rw [e51]
                    have rr : f11 x1 w_b_w_g_x0_0_0 w_r_w_g_x0_0_0 w_s_w_g_x0_0_0 w_p_w_g_x0_0_0 w_b_w_g_x0_0_1 w_r_w_g_x0_0_1 w_s_w_g_x0_0_1 w_p_w_g_x0_0_1 w_b_w_g_x0_1_0 w_r_w_g_x0_1_0 w_s_w_g_x0_1_0 w_p_w_g_x0_1_0 w_b_w_g_x0_1_1 w_r_w_g_x0_1_1 w_s_w_g_x0_1_1 w_p_w_g_x0_1_1 = (0 : Int32) := Eq.trans (if_neg (own_nt hc8)) (Eq.trans (if_pos hc12) (Eq.trans (if_neg (own_nt hc21)) (Eq.trans (if_pos hc25) (Eq.trans (if_neg (own_nt hc36)) (Eq.trans (if_pos hc40) (Eq.trans (if_neg (own_nt hc49)) (if_neg (own_nt hc53))))))))
                    exact ⟨congrArg (fun z => some (Value.int z)) rr.symm, N0, rfl⟩
            · obtain ⟨fs, hr, hrun, hended, hW, hsame⟩ := X38.leave (v := some (.int (0 : Int32))) (fun h => by rw [hret] at h; cases h)
              refine ⟨_, _, pre39 _ ?_, hrun, hended, _, _, rfl, ?_, ⟨_, rfl⟩, hW, hsame.mono (by decide) (by decide)⟩
              · show Steps p.tables e below (T38.setTop (mkF m 64 #[.val (.ref x0), .val (.int x1), .val (.long (f11_v27 x1 w_b_w_g_x0_0_0 w_r_w_g_x0_0_0 w_s_w_g_x0_0_0 w_p_w_g_x0_0_0 w_b_w_g_x0_0_1 w_r_w_g_x0_0_1 w_s_w_g_x0_0_1 w_p_w_g_x0_0_1 w_b_w_g_x0_1_0 w_r_w_g_x0_1_0 w_s_w_g_x0_1_0 w_p_w_g_x0_1_0 w_b_w_g_x0_1_1 w_r_w_g_x0_1_1 w_s_w_g_x0_1_1 w_p_w_g_x0_1_1)), .second, .val (.int (1 : Int32)), .val (.int (0 : Int32)), .val (.ref w_g_x0_1_0)] [(.int (22 : Int32)), (.int ((w_r_w_g_x0_1_0 + w_s_w_g_x0_1_0) + (2 : Int32)))])) _
                refine XS.icmpNo X38.here hx rfl (hb hby d11_64) rfl hc40 ?_
                show Steps p.tables e below (T38.setTop (mkF m 67 #[.val (.ref x0), .val (.int x1), .val (.long (f11_v27 x1 w_b_w_g_x0_0_0 w_r_w_g_x0_0_0 w_s_w_g_x0_0_0 w_p_w_g_x0_0_0 w_b_w_g_x0_0_1 w_r_w_g_x0_0_1 w_s_w_g_x0_0_1 w_p_w_g_x0_0_1 w_b_w_g_x0_1_0 w_r_w_g_x0_1_0 w_s_w_g_x0_1_0 w_p_w_g_x0_1_0 w_b_w_g_x0_1_1 w_r_w_g_x0_1_1 w_s_w_g_x0_1_1 w_p_w_g_x0_1_1)), .second, .val (.int (1 : Int32)), .val (.int (0 : Int32)), .val (.ref w_g_x0_1_0)] [])) _
                refine XS.iconst X38.here hx rfl (hb hby d11_67) ?_
                show Steps p.tables e below (T38.setTop (mkF m 68 #[.val (.ref x0), .val (.int x1), .val (.long (f11_v27 x1 w_b_w_g_x0_0_0 w_r_w_g_x0_0_0 w_s_w_g_x0_0_0 w_p_w_g_x0_0_0 w_b_w_g_x0_0_1 w_r_w_g_x0_0_1 w_s_w_g_x0_0_1 w_p_w_g_x0_0_1 w_b_w_g_x0_1_0 w_r_w_g_x0_1_0 w_s_w_g_x0_1_0 w_p_w_g_x0_1_0 w_b_w_g_x0_1_1 w_r_w_g_x0_1_1 w_s_w_g_x0_1_1 w_p_w_g_x0_1_1)), .second, .val (.int (1 : Int32)), .val (.int (0 : Int32)), .val (.ref w_g_x0_1_0)] [(.int (0 : Int32))])) _
                exact retN X38 hx (t := .boolean) hret (by simp) (hb hby d11_68) hr
              · show Q11 Z x0 x1 w_g_x0 k_w_g_x0 w_g_x0_0 w_g_x0_1 k_w_g_x0_0 w_g_x0_0_0 w_g_x0_0_1 w_b_w_g_x0_0_0 w_r_w_g_x0_0_0 w_s_w_g_x0_0_0 w_p_w_g_x0_0_0 w_b_w_g_x0_0_1 w_r_w_g_x0_0_1 w_s_w_g_x0_0_1 w_p_w_g_x0_0_1 k_w_g_x0_1 w_g_x0_1_0 w_g_x0_1_1 w_b_w_g_x0_1_0 w_r_w_g_x0_1_0 w_s_w_g_x0_1_0 w_p_w_g_x0_1_0 w_b_w_g_x0_1_1 w_r_w_g_x0_1_1 w_s_w_g_x0_1_1 w_p_w_g_x0_1_1 h0 n0 _ T38.heap _
                rw [e38]
                have rr : f11 x1 w_b_w_g_x0_0_0 w_r_w_g_x0_0_0 w_s_w_g_x0_0_0 w_p_w_g_x0_0_0 w_b_w_g_x0_0_1 w_r_w_g_x0_0_1 w_s_w_g_x0_0_1 w_p_w_g_x0_0_1 w_b_w_g_x0_1_0 w_r_w_g_x0_1_0 w_s_w_g_x0_1_0 w_p_w_g_x0_1_0 w_b_w_g_x0_1_1 w_r_w_g_x0_1_1 w_s_w_g_x0_1_1 w_p_w_g_x0_1_1 = (0 : Int32) := Eq.trans (if_neg (own_nt hc8)) (Eq.trans (if_pos hc12) (Eq.trans (if_neg (own_nt hc21)) (Eq.trans (if_pos hc25) (Eq.trans (if_neg (own_nt hc36)) (if_neg (own_nt hc40))))))
                exact ⟨congrArg (fun z => some (Value.int z)) rr.symm, N0, rfl⟩
        · obtain ⟨fs, hr, hrun, hended, hW, hsame⟩ := X23.leave (v := some (.int (0 : Int32))) (fun h => by rw [hret] at h; cases h)
          refine ⟨_, _, pre24 _ ?_, hrun, hended, _, _, rfl, ?_, ⟨_, rfl⟩, hW, hsame.mono (by decide) (by decide)⟩
          · show Steps p.tables e below (T23.setTop (mkF m 64 #[.val (.ref x0), .val (.int x1), .val (.long (f11_v14 x1 w_b_w_g_x0_0_0 w_r_w_g_x0_0_0 w_s_w_g_x0_0_0 w_p_w_g_x0_0_0 w_b_w_g_x0_0_1 w_r_w_g_x0_0_1 w_s_w_g_x0_0_1 w_p_w_g_x0_0_1 w_b_w_g_x0_1_0 w_r_w_g_x0_1_0 w_s_w_g_x0_1_0 w_p_w_g_x0_1_0 w_b_w_g_x0_1_1 w_r_w_g_x0_1_1 w_s_w_g_x0_1_1 w_p_w_g_x0_1_1)), .second, .val (.int (0 : Int32)), .val (.int (1 : Int32)), .val (.ref w_g_x0_0_1)] [(.int (22 : Int32)), (.int ((w_r_w_g_x0_0_1 + w_s_w_g_x0_0_1) + (2 : Int32)))])) _
            refine XS.icmpNo X23.here hx rfl (hb hby d11_64) rfl hc25 ?_
            show Steps p.tables e below (T23.setTop (mkF m 67 #[.val (.ref x0), .val (.int x1), .val (.long (f11_v14 x1 w_b_w_g_x0_0_0 w_r_w_g_x0_0_0 w_s_w_g_x0_0_0 w_p_w_g_x0_0_0 w_b_w_g_x0_0_1 w_r_w_g_x0_0_1 w_s_w_g_x0_0_1 w_p_w_g_x0_0_1 w_b_w_g_x0_1_0 w_r_w_g_x0_1_0 w_s_w_g_x0_1_0 w_p_w_g_x0_1_0 w_b_w_g_x0_1_1 w_r_w_g_x0_1_1 w_s_w_g_x0_1_1 w_p_w_g_x0_1_1)), .second, .val (.int (0 : Int32)), .val (.int (1 : Int32)), .val (.ref w_g_x0_0_1)] [])) _
            refine XS.iconst X23.here hx rfl (hb hby d11_67) ?_
            show Steps p.tables e below (T23.setTop (mkF m 68 #[.val (.ref x0), .val (.int x1), .val (.long (f11_v14 x1 w_b_w_g_x0_0_0 w_r_w_g_x0_0_0 w_s_w_g_x0_0_0 w_p_w_g_x0_0_0 w_b_w_g_x0_0_1 w_r_w_g_x0_0_1 w_s_w_g_x0_0_1 w_p_w_g_x0_0_1 w_b_w_g_x0_1_0 w_r_w_g_x0_1_0 w_s_w_g_x0_1_0 w_p_w_g_x0_1_0 w_b_w_g_x0_1_1 w_r_w_g_x0_1_1 w_s_w_g_x0_1_1 w_p_w_g_x0_1_1)), .second, .val (.int (0 : Int32)), .val (.int (1 : Int32)), .val (.ref w_g_x0_0_1)] [(.int (0 : Int32))])) _
            exact retN X23 hx (t := .boolean) hret (by simp) (hb hby d11_68) hr
          · show Q11 Z x0 x1 w_g_x0 k_w_g_x0 w_g_x0_0 w_g_x0_1 k_w_g_x0_0 w_g_x0_0_0 w_g_x0_0_1 w_b_w_g_x0_0_0 w_r_w_g_x0_0_0 w_s_w_g_x0_0_0 w_p_w_g_x0_0_0 w_b_w_g_x0_0_1 w_r_w_g_x0_0_1 w_s_w_g_x0_0_1 w_p_w_g_x0_0_1 k_w_g_x0_1 w_g_x0_1_0 w_g_x0_1_1 w_b_w_g_x0_1_0 w_r_w_g_x0_1_0 w_s_w_g_x0_1_0 w_p_w_g_x0_1_0 w_b_w_g_x0_1_1 w_r_w_g_x0_1_1 w_s_w_g_x0_1_1 w_p_w_g_x0_1_1 h0 n0 _ T23.heap _
            rw [e23]
            have rr : f11 x1 w_b_w_g_x0_0_0 w_r_w_g_x0_0_0 w_s_w_g_x0_0_0 w_p_w_g_x0_0_0 w_b_w_g_x0_0_1 w_r_w_g_x0_0_1 w_s_w_g_x0_0_1 w_p_w_g_x0_0_1 w_b_w_g_x0_1_0 w_r_w_g_x0_1_0 w_s_w_g_x0_1_0 w_p_w_g_x0_1_0 w_b_w_g_x0_1_1 w_r_w_g_x0_1_1 w_s_w_g_x0_1_1 w_p_w_g_x0_1_1 = (0 : Int32) := Eq.trans (if_neg (own_nt hc8)) (Eq.trans (if_pos hc12) (Eq.trans (if_neg (own_nt hc21)) (if_neg (own_nt hc25))))
            exact ⟨congrArg (fun z => some (Value.int z)) rr.symm, N0, rfl⟩
    · obtain ⟨fs, hr, hrun, hended, hW, hsame⟩ := X10.leave (v := some (.int (0 : Int32))) (fun h => by rw [hret] at h; cases h)
      refine ⟨_, _, pre11 _ ?_, hrun, hended, _, _, rfl, ?_, ⟨_, rfl⟩, hW, hsame.mono (by decide) (by decide)⟩
      · show Steps p.tables e below (T10.setTop (mkF m 64 #[.val (.ref x0), .val (.int x1), .val (.long (0 : Int64)), .second, .val (.int (0 : Int32)), .val (.int (0 : Int32)), .val (.ref w_g_x0_0_0)] [(.int (22 : Int32)), (.int ((w_r_w_g_x0_0_0 + w_s_w_g_x0_0_0) + (2 : Int32)))])) _
        refine XS.icmpNo X10.here hx rfl (hb hby d11_64) rfl hc12 ?_
        show Steps p.tables e below (T10.setTop (mkF m 67 #[.val (.ref x0), .val (.int x1), .val (.long (0 : Int64)), .second, .val (.int (0 : Int32)), .val (.int (0 : Int32)), .val (.ref w_g_x0_0_0)] [])) _
        refine XS.iconst X10.here hx rfl (hb hby d11_67) ?_
        show Steps p.tables e below (T10.setTop (mkF m 68 #[.val (.ref x0), .val (.int x1), .val (.long (0 : Int64)), .second, .val (.int (0 : Int32)), .val (.int (0 : Int32)), .val (.ref w_g_x0_0_0)] [(.int (0 : Int32))])) _
        exact retN X10 hx (t := .boolean) hret (by simp) (hb hby d11_68) hr
      · show Q11 Z x0 x1 w_g_x0 k_w_g_x0 w_g_x0_0 w_g_x0_1 k_w_g_x0_0 w_g_x0_0_0 w_g_x0_0_1 w_b_w_g_x0_0_0 w_r_w_g_x0_0_0 w_s_w_g_x0_0_0 w_p_w_g_x0_0_0 w_b_w_g_x0_0_1 w_r_w_g_x0_0_1 w_s_w_g_x0_0_1 w_p_w_g_x0_0_1 k_w_g_x0_1 w_g_x0_1_0 w_g_x0_1_1 w_b_w_g_x0_1_0 w_r_w_g_x0_1_0 w_s_w_g_x0_1_0 w_p_w_g_x0_1_0 w_b_w_g_x0_1_1 w_r_w_g_x0_1_1 w_s_w_g_x0_1_1 w_p_w_g_x0_1_1 h0 n0 _ T10.heap _
        rw [e10]
        have rr : f11 x1 w_b_w_g_x0_0_0 w_r_w_g_x0_0_0 w_s_w_g_x0_0_0 w_p_w_g_x0_0_0 w_b_w_g_x0_0_1 w_r_w_g_x0_0_1 w_s_w_g_x0_0_1 w_p_w_g_x0_0_1 w_b_w_g_x0_1_0 w_r_w_g_x0_1_0 w_s_w_g_x0_1_0 w_p_w_g_x0_1_0 w_b_w_g_x0_1_1 w_r_w_g_x0_1_1 w_s_w_g_x0_1_1 w_p_w_g_x0_1_1 = (0 : Int32) := Eq.trans (if_neg (own_nt hc8)) (if_neg (own_nt hc12))
        exact ⟨congrArg (fun z => some (Value.int z)) rr.symm, N0, rfl⟩
def f5 (x1 : Int32) (gc : Int32) (cc : Int32) (w_b_w_g_x0_0_0 : Int32) (w_r_w_g_x0_0_0 : Int32) (w_s_w_g_x0_0_0 : Int32) (w_p_w_g_x0_0_0 : Int32) (w_b_w_g_x0_0_1 : Int32) (w_r_w_g_x0_0_1 : Int32) (w_s_w_g_x0_0_1 : Int32) (w_p_w_g_x0_0_1 : Int32) (w_b_w_g_x0_1_0 : Int32) (w_r_w_g_x0_1_0 : Int32) (w_s_w_g_x0_1_0 : Int32) (w_p_w_g_x0_1_0 : Int32) (w_b_w_g_x0_1_1 : Int32) (w_r_w_g_x0_1_1 : Int32) (w_s_w_g_x0_1_1 : Int32) (w_p_w_g_x0_1_1 : Int32) : Int32 := if gc = (1 : Int32) then (if cc = (1 : Int32) then f8 x1 w_b_w_g_x0_0_0 w_r_w_g_x0_0_0 w_s_w_g_x0_0_0 w_p_w_g_x0_0_0 else f9 x1 w_b_w_g_x0_0_0 w_r_w_g_x0_0_0 w_s_w_g_x0_0_0 w_p_w_g_x0_0_0 w_b_w_g_x0_0_1 w_r_w_g_x0_0_1 w_s_w_g_x0_0_1 w_p_w_g_x0_0_1) else (if cc = (1 : Int32) then f10 x1 w_b_w_g_x0_0_0 w_r_w_g_x0_0_0 w_s_w_g_x0_0_0 w_p_w_g_x0_0_0 w_b_w_g_x0_1_0 w_r_w_g_x0_1_0 w_s_w_g_x0_1_0 w_p_w_g_x0_1_0 else f11 x1 w_b_w_g_x0_0_0 w_r_w_g_x0_0_0 w_s_w_g_x0_0_0 w_p_w_g_x0_0_0 w_b_w_g_x0_0_1 w_r_w_g_x0_0_1 w_s_w_g_x0_0_1 w_p_w_g_x0_0_1 w_b_w_g_x0_1_0 w_r_w_g_x0_1_0 w_s_w_g_x0_1_0 w_p_w_g_x0_1_0 w_b_w_g_x0_1_1 w_r_w_g_x0_1_1 w_s_w_g_x0_1_1 w_p_w_g_x0_1_1)
theorem own_f5_8 (x1 : Int32) (w_b_w_g_x0_0_0 : Int32) (w_r_w_g_x0_0_0 : Int32) (w_s_w_g_x0_0_0 : Int32) (w_p_w_g_x0_0_0 : Int32) (w_b_w_g_x0_0_1 : Int32) (w_r_w_g_x0_0_1 : Int32) (w_s_w_g_x0_0_1 : Int32) (w_p_w_g_x0_0_1 : Int32) (w_b_w_g_x0_1_0 : Int32) (w_r_w_g_x0_1_0 : Int32) (w_s_w_g_x0_1_0 : Int32) (w_p_w_g_x0_1_0 : Int32) (w_b_w_g_x0_1_1 : Int32) (w_r_w_g_x0_1_1 : Int32) (w_s_w_g_x0_1_1 : Int32) (w_p_w_g_x0_1_1 : Int32) : f5 x1 1 1 w_b_w_g_x0_0_0 w_r_w_g_x0_0_0 w_s_w_g_x0_0_0 w_p_w_g_x0_0_0 w_b_w_g_x0_0_1 w_r_w_g_x0_0_1 w_s_w_g_x0_0_1 w_p_w_g_x0_0_1 w_b_w_g_x0_1_0 w_r_w_g_x0_1_0 w_s_w_g_x0_1_0 w_p_w_g_x0_1_0 w_b_w_g_x0_1_1 w_r_w_g_x0_1_1 w_s_w_g_x0_1_1 w_p_w_g_x0_1_1 = f8 x1 w_b_w_g_x0_0_0 w_r_w_g_x0_0_0 w_s_w_g_x0_0_0 w_p_w_g_x0_0_0 := by
  unfold f5
  exact Eq.trans (if_pos rfl) (if_pos rfl)
theorem own_f5_9 (x1 : Int32) (w_b_w_g_x0_0_0 : Int32) (w_r_w_g_x0_0_0 : Int32) (w_s_w_g_x0_0_0 : Int32) (w_p_w_g_x0_0_0 : Int32) (w_b_w_g_x0_0_1 : Int32) (w_r_w_g_x0_0_1 : Int32) (w_s_w_g_x0_0_1 : Int32) (w_p_w_g_x0_0_1 : Int32) (w_b_w_g_x0_1_0 : Int32) (w_r_w_g_x0_1_0 : Int32) (w_s_w_g_x0_1_0 : Int32) (w_p_w_g_x0_1_0 : Int32) (w_b_w_g_x0_1_1 : Int32) (w_r_w_g_x0_1_1 : Int32) (w_s_w_g_x0_1_1 : Int32) (w_p_w_g_x0_1_1 : Int32) : f5 x1 1 2 w_b_w_g_x0_0_0 w_r_w_g_x0_0_0 w_s_w_g_x0_0_0 w_p_w_g_x0_0_0 w_b_w_g_x0_0_1 w_r_w_g_x0_0_1 w_s_w_g_x0_0_1 w_p_w_g_x0_0_1 w_b_w_g_x0_1_0 w_r_w_g_x0_1_0 w_s_w_g_x0_1_0 w_p_w_g_x0_1_0 w_b_w_g_x0_1_1 w_r_w_g_x0_1_1 w_s_w_g_x0_1_1 w_p_w_g_x0_1_1 = f9 x1 w_b_w_g_x0_0_0 w_r_w_g_x0_0_0 w_s_w_g_x0_0_0 w_p_w_g_x0_0_0 w_b_w_g_x0_0_1 w_r_w_g_x0_0_1 w_s_w_g_x0_0_1 w_p_w_g_x0_0_1 := by
  unfold f5
  exact Eq.trans (if_pos rfl) (if_neg (by decide))
theorem own_f5_10 (x1 : Int32) (w_b_w_g_x0_0_0 : Int32) (w_r_w_g_x0_0_0 : Int32) (w_s_w_g_x0_0_0 : Int32) (w_p_w_g_x0_0_0 : Int32) (w_b_w_g_x0_0_1 : Int32) (w_r_w_g_x0_0_1 : Int32) (w_s_w_g_x0_0_1 : Int32) (w_p_w_g_x0_0_1 : Int32) (w_b_w_g_x0_1_0 : Int32) (w_r_w_g_x0_1_0 : Int32) (w_s_w_g_x0_1_0 : Int32) (w_p_w_g_x0_1_0 : Int32) (w_b_w_g_x0_1_1 : Int32) (w_r_w_g_x0_1_1 : Int32) (w_s_w_g_x0_1_1 : Int32) (w_p_w_g_x0_1_1 : Int32) : f5 x1 2 1 w_b_w_g_x0_0_0 w_r_w_g_x0_0_0 w_s_w_g_x0_0_0 w_p_w_g_x0_0_0 w_b_w_g_x0_0_1 w_r_w_g_x0_0_1 w_s_w_g_x0_0_1 w_p_w_g_x0_0_1 w_b_w_g_x0_1_0 w_r_w_g_x0_1_0 w_s_w_g_x0_1_0 w_p_w_g_x0_1_0 w_b_w_g_x0_1_1 w_r_w_g_x0_1_1 w_s_w_g_x0_1_1 w_p_w_g_x0_1_1 = f10 x1 w_b_w_g_x0_0_0 w_r_w_g_x0_0_0 w_s_w_g_x0_0_0 w_p_w_g_x0_0_0 w_b_w_g_x0_1_0 w_r_w_g_x0_1_0 w_s_w_g_x0_1_0 w_p_w_g_x0_1_0 := by
  unfold f5
  exact Eq.trans (if_neg (by decide)) (if_pos rfl)
theorem own_f5_11 (x1 : Int32) (w_b_w_g_x0_0_0 : Int32) (w_r_w_g_x0_0_0 : Int32) (w_s_w_g_x0_0_0 : Int32) (w_p_w_g_x0_0_0 : Int32) (w_b_w_g_x0_0_1 : Int32) (w_r_w_g_x0_0_1 : Int32) (w_s_w_g_x0_0_1 : Int32) (w_p_w_g_x0_0_1 : Int32) (w_b_w_g_x0_1_0 : Int32) (w_r_w_g_x0_1_0 : Int32) (w_s_w_g_x0_1_0 : Int32) (w_p_w_g_x0_1_0 : Int32) (w_b_w_g_x0_1_1 : Int32) (w_r_w_g_x0_1_1 : Int32) (w_s_w_g_x0_1_1 : Int32) (w_p_w_g_x0_1_1 : Int32) : f5 x1 2 2 w_b_w_g_x0_0_0 w_r_w_g_x0_0_0 w_s_w_g_x0_0_0 w_p_w_g_x0_0_0 w_b_w_g_x0_0_1 w_r_w_g_x0_0_1 w_s_w_g_x0_0_1 w_p_w_g_x0_0_1 w_b_w_g_x0_1_0 w_r_w_g_x0_1_0 w_s_w_g_x0_1_0 w_p_w_g_x0_1_0 w_b_w_g_x0_1_1 w_r_w_g_x0_1_1 w_s_w_g_x0_1_1 w_p_w_g_x0_1_1 = f11 x1 w_b_w_g_x0_0_0 w_r_w_g_x0_0_0 w_s_w_g_x0_0_0 w_p_w_g_x0_0_0 w_b_w_g_x0_0_1 w_r_w_g_x0_0_1 w_s_w_g_x0_0_1 w_p_w_g_x0_0_1 w_b_w_g_x0_1_0 w_r_w_g_x0_1_0 w_s_w_g_x0_1_0 w_p_w_g_x0_1_0 w_b_w_g_x0_1_1 w_r_w_g_x0_1_1 w_s_w_g_x0_1_1 w_p_w_g_x0_1_1 := by
  unfold f5
  exact Eq.trans (if_neg (by decide)) (if_neg (by decide))
def Q5 (Z : State) (x0 : Addr) (x1 : Int32) (gc : Int32) (cc : Int32) (w_g_x0 : Addr) (k_w_g_x0 : ClassId) (w_g_x0_0 : Addr) (w_g_x0_1 : Addr) (k_w_g_x0_0 : ClassId) (w_g_x0_0_0 : Addr) (w_g_x0_0_1 : Addr) (w_b_w_g_x0_0_0 : Int32) (w_r_w_g_x0_0_0 : Int32) (w_s_w_g_x0_0_0 : Int32) (w_p_w_g_x0_0_0 : Int32) (w_b_w_g_x0_0_1 : Int32) (w_r_w_g_x0_0_1 : Int32) (w_s_w_g_x0_0_1 : Int32) (w_p_w_g_x0_0_1 : Int32) (k_w_g_x0_1 : ClassId) (w_g_x0_1_0 : Addr) (w_g_x0_1_1 : Addr) (w_b_w_g_x0_1_0 : Int32) (w_r_w_g_x0_1_0 : Int32) (w_s_w_g_x0_1_0 : Int32) (w_p_w_g_x0_1_0 : Int32) (w_b_w_g_x0_1_1 : Int32) (w_r_w_g_x0_1_1 : Int32) (w_s_w_g_x0_1_1 : Int32) (w_p_w_g_x0_1_1 : Int32) (h0 : Heap) (n0 : Nat) (v : Option Value) (h : Heap) (L : List Loc) : Prop := v = some (.int (f5 x1 gc cc w_b_w_g_x0_0_0 w_r_w_g_x0_0_0 w_s_w_g_x0_0_0 w_p_w_g_x0_0_0 w_b_w_g_x0_0_1 w_r_w_g_x0_0_1 w_s_w_g_x0_0_1 w_p_w_g_x0_0_1 w_b_w_g_x0_1_0 w_r_w_g_x0_1_0 w_s_w_g_x0_1_0 w_p_w_g_x0_1_0 w_b_w_g_x0_1_1 w_r_w_g_x0_1_1 w_s_w_g_x0_1_1 w_p_w_g_x0_1_1)) ∧ Fr n0 L ∧ h = h0
set_option maxRecDepth 65536 in
set_option maxHeartbeats 40000000 in
theorem rm5 (l : Launch) (Z : State) (a0 : Array Value) (hw : ∀ d ∈ tables_1, d.before a0 Z = true) (ws : List Jvm.Cond) (x0 : Addr) (x1 : Int32) (gc : Int32) (cc : Int32) (w_g_x0 : Addr) (k_w_g_x0 : ClassId) (w_g_x0_0 : Addr) (w_g_x0_1 : Addr) (k_w_g_x0_0 : ClassId) (w_g_x0_0_0 : Addr) (w_g_x0_0_1 : Addr) (w_b_w_g_x0_0_0 : Int32) (w_r_w_g_x0_0_0 : Int32) (w_s_w_g_x0_0_0 : Int32) (w_p_w_g_x0_0_0 : Int32) (w_b_w_g_x0_0_1 : Int32) (w_r_w_g_x0_0_1 : Int32) (w_s_w_g_x0_0_1 : Int32) (w_p_w_g_x0_0_1 : Int32) (k_w_g_x0_1 : ClassId) (w_g_x0_1_0 : Addr) (w_g_x0_1_1 : Addr) (w_b_w_g_x0_1_0 : Int32) (w_r_w_g_x0_1_0 : Int32) (w_s_w_g_x0_1_0 : Int32) (w_p_w_g_x0_1_0 : Int32) (w_b_w_g_x0_1_1 : Int32) (w_r_w_g_x0_1_1 : Int32) (w_s_w_g_x0_1_1 : Int32) (w_p_w_g_x0_1_1 : Int32) (h0 : Heap) (n0 : Nat) (Z0 : n0 ≤ h0.size) (F_x0_granuleCount : Fld Z h0 x0 "dev/stratumaudio/SideInformation" "granuleCount" "I" (.int gc)) (F_x0_channelCount : Fld Z h0 x0 "dev/stratumaudio/SideInformation" "channelCount" "I" (.int cc)) (F_x0_granules : Fld Z h0 x0 "dev/stratumaudio/SideInformation" "granules" "[[Ldev/stratumaudio/SideInformation$Granule;" (.ref w_g_x0)) (A_w_g_x0 : Arv Z h0 w_g_x0 k_w_g_x0 (.array (.object "dev/stratumaudio/SideInformation$Granule")) (2 : Int32) [(.ref w_g_x0_0), (.ref w_g_x0_1)] .null) (A_w_g_x0_0 : Arv Z h0 w_g_x0_0 k_w_g_x0_0 (.object "dev/stratumaudio/SideInformation$Granule") (2 : Int32) [(.ref w_g_x0_0_0), (.ref w_g_x0_0_1)] .null) (F_w_g_x0_0_0_bigValues : Fld Z h0 w_g_x0_0_0 "dev/stratumaudio/SideInformation$Granule" "bigValues" "I" (.int w_b_w_g_x0_0_0)) (F_w_g_x0_0_0_region0Count : Fld Z h0 w_g_x0_0_0 "dev/stratumaudio/SideInformation$Granule" "region0Count" "I" (.int w_r_w_g_x0_0_0)) (F_w_g_x0_0_0_region1Count : Fld Z h0 w_g_x0_0_0 "dev/stratumaudio/SideInformation$Granule" "region1Count" "I" (.int w_s_w_g_x0_0_0)) (F_w_g_x0_0_0_part23Length : Fld Z h0 w_g_x0_0_0 "dev/stratumaudio/SideInformation$Granule" "part23Length" "I" (.int w_p_w_g_x0_0_0)) (F_w_g_x0_0_1_bigValues : Fld Z h0 w_g_x0_0_1 "dev/stratumaudio/SideInformation$Granule" "bigValues" "I" (.int w_b_w_g_x0_0_1)) (F_w_g_x0_0_1_region0Count : Fld Z h0 w_g_x0_0_1 "dev/stratumaudio/SideInformation$Granule" "region0Count" "I" (.int w_r_w_g_x0_0_1)) (F_w_g_x0_0_1_region1Count : Fld Z h0 w_g_x0_0_1 "dev/stratumaudio/SideInformation$Granule" "region1Count" "I" (.int w_s_w_g_x0_0_1)) (F_w_g_x0_0_1_part23Length : Fld Z h0 w_g_x0_0_1 "dev/stratumaudio/SideInformation$Granule" "part23Length" "I" (.int w_p_w_g_x0_0_1)) (A_w_g_x0_1 : Arv Z h0 w_g_x0_1 k_w_g_x0_1 (.object "dev/stratumaudio/SideInformation$Granule") (2 : Int32) [(.ref w_g_x0_1_0), (.ref w_g_x0_1_1)] .null) (F_w_g_x0_1_0_bigValues : Fld Z h0 w_g_x0_1_0 "dev/stratumaudio/SideInformation$Granule" "bigValues" "I" (.int w_b_w_g_x0_1_0)) (F_w_g_x0_1_0_region0Count : Fld Z h0 w_g_x0_1_0 "dev/stratumaudio/SideInformation$Granule" "region0Count" "I" (.int w_r_w_g_x0_1_0)) (F_w_g_x0_1_0_region1Count : Fld Z h0 w_g_x0_1_0 "dev/stratumaudio/SideInformation$Granule" "region1Count" "I" (.int w_s_w_g_x0_1_0)) (F_w_g_x0_1_0_part23Length : Fld Z h0 w_g_x0_1_0 "dev/stratumaudio/SideInformation$Granule" "part23Length" "I" (.int w_p_w_g_x0_1_0)) (F_w_g_x0_1_1_bigValues : Fld Z h0 w_g_x0_1_1 "dev/stratumaudio/SideInformation$Granule" "bigValues" "I" (.int w_b_w_g_x0_1_1)) (F_w_g_x0_1_1_region0Count : Fld Z h0 w_g_x0_1_1 "dev/stratumaudio/SideInformation$Granule" "region0Count" "I" (.int w_r_w_g_x0_1_1)) (F_w_g_x0_1_1_region1Count : Fld Z h0 w_g_x0_1_1 "dev/stratumaudio/SideInformation$Granule" "region1Count" "I" (.int w_s_w_g_x0_1_1)) (F_w_g_x0_1_1_part23Length : Fld Z h0 w_g_x0_1_1 "dev/stratumaudio/SideInformation$Granule" "part23Length" "I" (.int w_p_w_g_x0_1_1)) (hg : gc = 1 ∨ gc = 2) (hc : cc = 1 ∨ cc = 2) :
    MetFree l (⟨"dev/stratumaudio/SideInformation", "isPossible", "(I)Z"⟩ : MethodName) (head1 (Jvm.Cond.code (⟨"dev/stratumaudio/SideInformation", "isPossible", "(I)Z"⟩ : MethodName) prog_81_method_6_code 7 (some .boolean) :: ws) ({ frames := 0, cells := 0, slots := 0, locals := 0 } : Room)) (fun a U => a = #[(.ref x0), (.int x1)] ∧ Z.Warmed39 U.vm ∧ U.heap = h0) (fun _ _ _ _ _ => True) (fun _ U o U' => ∃ v L, o = .returned v ∧ Q5 Z x0 x1 gc cc w_g_x0 k_w_g_x0 w_g_x0_0 w_g_x0_1 k_w_g_x0_0 w_g_x0_0_0 w_g_x0_0_1 w_b_w_g_x0_0_0 w_r_w_g_x0_0_0 w_s_w_g_x0_0_0 w_p_w_g_x0_0_0 w_b_w_g_x0_0_1 w_r_w_g_x0_0_1 w_s_w_g_x0_0_1 w_p_w_g_x0_0_1 k_w_g_x0_1 w_g_x0_1_0 w_g_x0_1_1 w_b_w_g_x0_1_0 w_r_w_g_x0_1_0 w_s_w_g_x0_1_0 w_p_w_g_x0_1_0 w_b_w_g_x0_1_1 w_r_w_g_x0_1_1 w_s_w_g_x0_1_1 w_p_w_g_x0_1_1 h0 n0 v U'.heap L ∧ FrameEnd U o U' L ({ frames := 0, cells := 0, slots := 0, locals := 0 } : Room).cells ({ frames := 0, cells := 0, slots := 0, locals := 0 } : Room).slots) := by
  rcases hg with rfl | rfl
  · rcases hc with rfl | rfl
    · have q := own_f5_8 x1 w_b_w_g_x0_0_0 w_r_w_g_x0_0_0 w_s_w_g_x0_0_0 w_p_w_g_x0_0_0 w_b_w_g_x0_0_1 w_r_w_g_x0_0_1 w_s_w_g_x0_0_1 w_p_w_g_x0_0_1 w_b_w_g_x0_1_0 w_r_w_g_x0_1_0 w_s_w_g_x0_1_0 w_p_w_g_x0_1_0 w_b_w_g_x0_1_1 w_r_w_g_x0_1_1 w_s_w_g_x0_1_1 w_p_w_g_x0_1_1
      have h := rm8 l Z a0 hw ws x0 x1 w_g_x0 k_w_g_x0 w_g_x0_0 w_g_x0_1 k_w_g_x0_0 w_g_x0_0_0 w_g_x0_0_1 w_b_w_g_x0_0_0 w_r_w_g_x0_0_0 w_s_w_g_x0_0_0 w_p_w_g_x0_0_0 h0 n0 Z0 F_x0_granuleCount F_x0_channelCount F_x0_granules A_w_g_x0 A_w_g_x0_0 F_w_g_x0_0_0_bigValues F_w_g_x0_0_0_region0Count F_w_g_x0_0_0_region1Count F_w_g_x0_0_0_part23Length
      unfold Q8 at h
      rw [← q] at h
      exact h
    · have q := own_f5_9 x1 w_b_w_g_x0_0_0 w_r_w_g_x0_0_0 w_s_w_g_x0_0_0 w_p_w_g_x0_0_0 w_b_w_g_x0_0_1 w_r_w_g_x0_0_1 w_s_w_g_x0_0_1 w_p_w_g_x0_0_1 w_b_w_g_x0_1_0 w_r_w_g_x0_1_0 w_s_w_g_x0_1_0 w_p_w_g_x0_1_0 w_b_w_g_x0_1_1 w_r_w_g_x0_1_1 w_s_w_g_x0_1_1 w_p_w_g_x0_1_1
      have h := rm9 l Z a0 hw ws x0 x1 w_g_x0 k_w_g_x0 w_g_x0_0 w_g_x0_1 k_w_g_x0_0 w_g_x0_0_0 w_g_x0_0_1 w_b_w_g_x0_0_0 w_r_w_g_x0_0_0 w_s_w_g_x0_0_0 w_p_w_g_x0_0_0 w_b_w_g_x0_0_1 w_r_w_g_x0_0_1 w_s_w_g_x0_0_1 w_p_w_g_x0_0_1 h0 n0 Z0 F_x0_granuleCount F_x0_channelCount F_x0_granules A_w_g_x0 A_w_g_x0_0 F_w_g_x0_0_0_bigValues F_w_g_x0_0_0_region0Count F_w_g_x0_0_0_region1Count F_w_g_x0_0_0_part23Length F_w_g_x0_0_1_bigValues F_w_g_x0_0_1_region0Count F_w_g_x0_0_1_region1Count F_w_g_x0_0_1_part23Length
      unfold Q9 at h
      rw [← q] at h
      exact h
  · rcases hc with rfl | rfl
    · have q := own_f5_10 x1 w_b_w_g_x0_0_0 w_r_w_g_x0_0_0 w_s_w_g_x0_0_0 w_p_w_g_x0_0_0 w_b_w_g_x0_0_1 w_r_w_g_x0_0_1 w_s_w_g_x0_0_1 w_p_w_g_x0_0_1 w_b_w_g_x0_1_0 w_r_w_g_x0_1_0 w_s_w_g_x0_1_0 w_p_w_g_x0_1_0 w_b_w_g_x0_1_1 w_r_w_g_x0_1_1 w_s_w_g_x0_1_1 w_p_w_g_x0_1_1
      have h := rm10 l Z a0 hw ws x0 x1 w_g_x0 k_w_g_x0 w_g_x0_0 w_g_x0_1 k_w_g_x0_0 w_g_x0_0_0 w_g_x0_0_1 w_b_w_g_x0_0_0 w_r_w_g_x0_0_0 w_s_w_g_x0_0_0 w_p_w_g_x0_0_0 k_w_g_x0_1 w_g_x0_1_0 w_g_x0_1_1 w_b_w_g_x0_1_0 w_r_w_g_x0_1_0 w_s_w_g_x0_1_0 w_p_w_g_x0_1_0 h0 n0 Z0 F_x0_granuleCount F_x0_channelCount F_x0_granules A_w_g_x0 A_w_g_x0_0 F_w_g_x0_0_0_bigValues F_w_g_x0_0_0_region0Count F_w_g_x0_0_0_region1Count F_w_g_x0_0_0_part23Length A_w_g_x0_1 F_w_g_x0_1_0_bigValues F_w_g_x0_1_0_region0Count F_w_g_x0_1_0_region1Count F_w_g_x0_1_0_part23Length
      unfold Q10 at h
      rw [← q] at h
      exact h
    · have q := own_f5_11 x1 w_b_w_g_x0_0_0 w_r_w_g_x0_0_0 w_s_w_g_x0_0_0 w_p_w_g_x0_0_0 w_b_w_g_x0_0_1 w_r_w_g_x0_0_1 w_s_w_g_x0_0_1 w_p_w_g_x0_0_1 w_b_w_g_x0_1_0 w_r_w_g_x0_1_0 w_s_w_g_x0_1_0 w_p_w_g_x0_1_0 w_b_w_g_x0_1_1 w_r_w_g_x0_1_1 w_s_w_g_x0_1_1 w_p_w_g_x0_1_1
      have h := rm11 l Z a0 hw ws x0 x1 w_g_x0 k_w_g_x0 w_g_x0_0 w_g_x0_1 k_w_g_x0_0 w_g_x0_0_0 w_g_x0_0_1 w_b_w_g_x0_0_0 w_r_w_g_x0_0_0 w_s_w_g_x0_0_0 w_p_w_g_x0_0_0 w_b_w_g_x0_0_1 w_r_w_g_x0_0_1 w_s_w_g_x0_0_1 w_p_w_g_x0_0_1 k_w_g_x0_1 w_g_x0_1_0 w_g_x0_1_1 w_b_w_g_x0_1_0 w_r_w_g_x0_1_0 w_s_w_g_x0_1_0 w_p_w_g_x0_1_0 w_b_w_g_x0_1_1 w_r_w_g_x0_1_1 w_s_w_g_x0_1_1 w_p_w_g_x0_1_1 h0 n0 Z0 F_x0_granuleCount F_x0_channelCount F_x0_granules A_w_g_x0 A_w_g_x0_0 F_w_g_x0_0_0_bigValues F_w_g_x0_0_0_region0Count F_w_g_x0_0_0_region1Count F_w_g_x0_0_0_part23Length F_w_g_x0_0_1_bigValues F_w_g_x0_0_1_region0Count F_w_g_x0_0_1_region1Count F_w_g_x0_0_1_part23Length A_w_g_x0_1 F_w_g_x0_1_0_bigValues F_w_g_x0_1_0_region0Count F_w_g_x0_1_0_region1Count F_w_g_x0_1_0_part23Length F_w_g_x0_1_1_bigValues F_w_g_x0_1_1_region0Count F_w_g_x0_1_1_region1Count F_w_g_x0_1_1_part23Length
      unfold Q11 at h
      rw [← q] at h
      exact h
-- body 6: dev/stratumaudio/SideInformationIsPossiblePinLaw.ok:(J)Z
theorem d6_0 : decode method_3_code 0 = .ok (.lload_n 0, 1) := by decide +kernel
theorem d6_1 : decode method_3_code 1 = .ok (.bipush 12, 2) := by decide +kernel
theorem d6_3 : decode method_3_code 3 = .ok (.lushr, 1) := by decide +kernel
theorem d6_4 : decode method_3_code 4 = .ok (.ldc2_w 15, 3) := by decide +kernel
theorem d6_7 : decode method_3_code 7 = .ok (.land, 1) := by decide +kernel
theorem d6_8 : decode method_3_code 8 = .ok (.lstore_n 2, 1) := by decide +kernel
theorem d6_9 : decode method_3_code 9 = .ok (.lload_n 0, 1) := by decide +kernel
theorem d6_10 : decode method_3_code 10 = .ok (.bipush 21, 2) := by decide +kernel
theorem d6_12 : decode method_3_code 12 = .ok (.lushr, 1) := by decide +kernel
theorem d6_13 : decode method_3_code 13 = .ok (.ldc2_w 20, 3) := by decide +kernel
theorem d6_16 : decode method_3_code 16 = .ok (.land, 1) := by decide +kernel
theorem d6_17 : decode method_3_code 17 = .ok (.lstore 4, 2) := by decide +kernel
theorem d6_19 : decode method_3_code 19 = .ok (.lload_n 0, 1) := by decide +kernel
theorem d6_20 : decode method_3_code 20 = .ok (.bipush 25, 2) := by decide +kernel
theorem d6_22 : decode method_3_code 22 = .ok (.lushr, 1) := by decide +kernel
theorem d6_23 : decode method_3_code 23 = .ok (.ldc2_w 25, 3) := by decide +kernel
theorem d6_26 : decode method_3_code 26 = .ok (.land, 1) := by decide +kernel
theorem d6_27 : decode method_3_code 27 = .ok (.lstore 6, 2) := by decide +kernel
theorem d6_29 : decode method_3_code 29 = .ok (.lload_n 2, 1) := by decide +kernel
theorem d6_30 : decode method_3_code 30 = .ok (.ldc2_w 30, 3) := by decide +kernel
theorem d6_33 : decode method_3_code 33 = .ok (.lcmp, 1) := by decide +kernel
theorem d6_34 : decode method_3_code 34 = .ok (.ifCond .gt 19, 3) := by decide +kernel
theorem d6_37 : decode method_3_code 37 = .ok (.lload 4, 2) := by decide +kernel
theorem d6_39 : decode method_3_code 39 = .ok (.lload 6, 2) := by decide +kernel
theorem d6_41 : decode method_3_code 41 = .ok (.ladd, 1) := by decide +kernel
theorem d6_42 : decode method_3_code 42 = .ok (.ldc2_w 32, 3) := by decide +kernel
theorem d6_45 : decode method_3_code 45 = .ok (.lcmp, 1) := by decide +kernel
theorem d6_46 : decode method_3_code 46 = .ok (.ifCond .gt 7, 3) := by decide +kernel
theorem d6_49 : decode method_3_code 49 = .ok (.iconst 1, 1) := by decide +kernel
theorem d6_50 : decode method_3_code 50 = .ok (.goto 4, 3) := by decide +kernel
theorem d6_53 : decode method_3_code 53 = .ok (.iconst 0, 1) := by decide +kernel
theorem d6_54 : decode method_3_code 54 = .ok (.ireturn, 1) := by decide +kernel
theorem ef_6 (m : MethodId) (x0 : Int64) : entryFrame m #[(.long x0)] 8 = mkF m 0 #[.val (.long x0), .second, .unset, .unset, .unset, .unset, .unset, .unset] [] := by first | (simp [entryFrame, mkF, argsToLocals, Value.category]; done) | rfl
def f6_v1 (x0 : Int64) : Int64 := ((own_lushr x0 (12 : Int32)) &&& (511 : Int64))
def f6_v2 (x0 : Int64) : Int64 := ((own_lushr x0 (21 : Int32)) &&& (15 : Int64))
def f6_v3 (x0 : Int64) : Int64 := ((own_lushr x0 (25 : Int32)) &&& (7 : Int64))
def f6_j8 (x0 : Int64) : Int32 := if ifCond.holds .gt (own_cmp ((f6_v2 x0) + (f6_v3 x0)) (20 : Int64)) = true then (0 : Int32) else (1 : Int32)
def f6_j12 (x0 : Int64) : Int32 := if ifCond.holds .gt (own_cmp (f6_v1 x0) (288 : Int64)) = true then (0 : Int32) else (f6_j8 x0)
def f6 (x0 : Int64) : Int32 := (nar .boolean (f6_j12 x0))
def Q6 (Z : State) (x0 : Int64) (h0 : Heap) (n0 : Nat) (v : Option Value) (h : Heap) (L : List Loc) : Prop := v = some (.int (f6 x0)) ∧ Fr n0 L ∧ h = h0
set_option maxRecDepth 65536 in
set_option maxHeartbeats 40000000 in
theorem rm6 (l : Launch) (Z : State) (a0 : Array Value) (hw : ∀ d ∈ tables_1, d.before a0 Z = true) (ws : List Jvm.Cond) (x0 : Int64) (h0 : Heap) (n0 : Nat) (Z0 : n0 ≤ h0.size) :
    MetFree l (⟨"dev/stratumaudio/SideInformationIsPossiblePinLaw", "ok", "(J)Z"⟩ : MethodName) (head1 (Jvm.Cond.code (⟨"dev/stratumaudio/SideInformationIsPossiblePinLaw", "ok", "(J)Z"⟩ : MethodName) method_3_code 8 (some .boolean) :: ws) ({ frames := 0, cells := 0, slots := 0, locals := 0 } : Room)) (fun a U => a = #[(.long x0)] ∧ Z.Warmed39 U.vm ∧ U.heap = h0) (fun _ _ _ _ _ => True) (fun _ U o U' => ∃ v L, o = .returned v ∧ Q6 Z x0 h0 n0 v U'.heap L ∧ FrameEnd U o U' L ({ frames := 0, cells := 0, slots := 0, locals := 0 } : Room).cells ({ frames := 0, cells := 0, slots := 0, locals := 0 } : Room).slots) := by
  refine MetFree.of_bodySF (plainFor_of_name pn_2) hisR ?_
  intro p e s m args below meth c s₁ Bd hml0 hP hK0
  obtain ⟨rfl, hZ, hh⟩ := hP
  have hx := Bd.exec
  have hby := Bd.bytes
  have hml : c.maxLocals = 8 := hml0
  have hown : s.vm.findClass "dev/stratumaudio/SideInformationIsPossiblePinLaw" = some m.cls := findClass_of_methodNamed Bd.named
  have hnm := (name_of_methodNamed Bd.named Bd.method).1
  have hret : meth.sig.returnType = some .boolean := Bd.returns
  have hlk : meth.locks = false := Bd.notSynchronized
  have X0 : Stand p l e ({ frames := 0, cells := 0, slots := 0, locals := 0 } : Room) s m #[(.long x0)] below meth c s₁ [] 0 0 := Stand.of_body Bd
  have e0 : s₁.heap = h0 := by rw [← hh, Bd.state]; rfl
  have N0 := Fr.nil n0
  have pre0 : ∀ t, Steps p.tables e below (s₁.setTop (mkF m 0 #[.val (.long x0), .second, .unset, .unset, .unset, .unset, .unset, .unset] [])) t → Steps p.tables e below (s₁.setTop (entryFrame m #[(.long x0)] 8)) t := fun t k => castTop (ef_6 m x0) k
  have pre4 : ∀ t, Steps p.tables e below (s₁.setTop (mkF m 34 #[.val (.long x0), .second, .val (.long (f6_v1 x0)), .second, .val (.long (f6_v2 x0)), .second, .val (.long (f6_v3 x0)), .second] [(.int (own_cmp (f6_v1 x0) (288 : Int64)))])) t → Steps p.tables e below (s₁.setTop (entryFrame m #[(.long x0)] 8)) t := by
    intro t k
    refine pre0 _ ?_
    show Steps p.tables e below (s₁.setTop (mkF m 0 #[.val (.long x0), .second, .unset, .unset, .unset, .unset, .unset, .unset] [])) _
    refine XS.lloadN X0.here hx rfl (hb hby d6_0) rfl ?_
    show Steps p.tables e below (s₁.setTop (mkF m 1 #[.val (.long x0), .second, .unset, .unset, .unset, .unset, .unset, .unset] [(.long x0)])) _
    refine XS.bipush X0.here hx rfl (hb hby d6_1) ?_
    show Steps p.tables e below (s₁.setTop (mkF m 3 #[.val (.long x0), .second, .unset, .unset, .unset, .unset, .unset, .unset] [(.int (12 : Int32)), (.long x0)])) _
    refine own_xlushr X0.here hx rfl (hb hby d6_3) rfl ?_
    show Steps p.tables e below (s₁.setTop (mkF m 4 #[.val (.long x0), .second, .unset, .unset, .unset, .unset, .unset, .unset] [(.long (own_lushr x0 (12 : Int32)))])) _
    refine X0.ldc2Long hx hown (mvT hZ (hw _ (List.mem_of_getElem? (i := 46) rfl))) (g := (mkF m 4 #[.val (.long x0), .second, .unset, .unset, .unset, .unset, .unset, .unset] [(.long (own_lushr x0 (12 : Int32)))])) rfl (hb hby d6_4) _ ?_
    show Steps p.tables e below (s₁.setTop (mkF m 7 #[.val (.long x0), .second, .unset, .unset, .unset, .unset, .unset, .unset] [(.long (511 : Int64)), (.long (own_lushr x0 (12 : Int32)))])) _
    refine XS.land X0.here hx rfl (hb hby d6_7) rfl ?_
    show Steps p.tables e below (s₁.setTop (mkF m 8 #[.val (.long x0), .second, .unset, .unset, .unset, .unset, .unset, .unset] [(.long ((own_lushr x0 (12 : Int32)) &&& (511 : Int64)))])) _
    refine XS.lstoreN X0.here hx rfl (hb hby d6_8) rfl (l' := #[.val (.long x0), .second, .val (.long (f6_v1 x0)), .second, .unset, .unset, .unset, .unset]) rfl ?_
    show Steps p.tables e below (s₁.setTop (mkF m 9 #[.val (.long x0), .second, .val (.long (f6_v1 x0)), .second, .unset, .unset, .unset, .unset] [])) _
    refine XS.lloadN X0.here hx rfl (hb hby d6_9) rfl ?_
    show Steps p.tables e below (s₁.setTop (mkF m 10 #[.val (.long x0), .second, .val (.long (f6_v1 x0)), .second, .unset, .unset, .unset, .unset] [(.long x0)])) _
    refine XS.bipush X0.here hx rfl (hb hby d6_10) ?_
    show Steps p.tables e below (s₁.setTop (mkF m 12 #[.val (.long x0), .second, .val (.long (f6_v1 x0)), .second, .unset, .unset, .unset, .unset] [(.int (21 : Int32)), (.long x0)])) _
    refine own_xlushr X0.here hx rfl (hb hby d6_12) rfl ?_
    show Steps p.tables e below (s₁.setTop (mkF m 13 #[.val (.long x0), .second, .val (.long (f6_v1 x0)), .second, .unset, .unset, .unset, .unset] [(.long (own_lushr x0 (21 : Int32)))])) _
    refine X0.ldc2Long hx hown (mvT hZ (hw _ (List.mem_of_getElem? (i := 49) rfl))) (g := (mkF m 13 #[.val (.long x0), .second, .val (.long (f6_v1 x0)), .second, .unset, .unset, .unset, .unset] [(.long (own_lushr x0 (21 : Int32)))])) rfl (hb hby d6_13) _ ?_
    show Steps p.tables e below (s₁.setTop (mkF m 16 #[.val (.long x0), .second, .val (.long (f6_v1 x0)), .second, .unset, .unset, .unset, .unset] [(.long (15 : Int64)), (.long (own_lushr x0 (21 : Int32)))])) _
    refine XS.land X0.here hx rfl (hb hby d6_16) rfl ?_
    show Steps p.tables e below (s₁.setTop (mkF m 17 #[.val (.long x0), .second, .val (.long (f6_v1 x0)), .second, .unset, .unset, .unset, .unset] [(.long ((own_lushr x0 (21 : Int32)) &&& (15 : Int64)))])) _
    refine XS.lstore X0.here hx rfl (hb hby d6_17) rfl (l' := #[.val (.long x0), .second, .val (.long (f6_v1 x0)), .second, .val (.long (f6_v2 x0)), .second, .unset, .unset]) rfl ?_
    show Steps p.tables e below (s₁.setTop (mkF m 19 #[.val (.long x0), .second, .val (.long (f6_v1 x0)), .second, .val (.long (f6_v2 x0)), .second, .unset, .unset] [])) _
    refine XS.lloadN X0.here hx rfl (hb hby d6_19) rfl ?_
    show Steps p.tables e below (s₁.setTop (mkF m 20 #[.val (.long x0), .second, .val (.long (f6_v1 x0)), .second, .val (.long (f6_v2 x0)), .second, .unset, .unset] [(.long x0)])) _
    refine XS.bipush X0.here hx rfl (hb hby d6_20) ?_
    show Steps p.tables e below (s₁.setTop (mkF m 22 #[.val (.long x0), .second, .val (.long (f6_v1 x0)), .second, .val (.long (f6_v2 x0)), .second, .unset, .unset] [(.int (25 : Int32)), (.long x0)])) _
    refine own_xlushr X0.here hx rfl (hb hby d6_22) rfl ?_
    show Steps p.tables e below (s₁.setTop (mkF m 23 #[.val (.long x0), .second, .val (.long (f6_v1 x0)), .second, .val (.long (f6_v2 x0)), .second, .unset, .unset] [(.long (own_lushr x0 (25 : Int32)))])) _
    refine X0.ldc2Long hx hown (mvT hZ (hw _ (List.mem_of_getElem? (i := 52) rfl))) (g := (mkF m 23 #[.val (.long x0), .second, .val (.long (f6_v1 x0)), .second, .val (.long (f6_v2 x0)), .second, .unset, .unset] [(.long (own_lushr x0 (25 : Int32)))])) rfl (hb hby d6_23) _ ?_
    show Steps p.tables e below (s₁.setTop (mkF m 26 #[.val (.long x0), .second, .val (.long (f6_v1 x0)), .second, .val (.long (f6_v2 x0)), .second, .unset, .unset] [(.long (7 : Int64)), (.long (own_lushr x0 (25 : Int32)))])) _
    refine XS.land X0.here hx rfl (hb hby d6_26) rfl ?_
    show Steps p.tables e below (s₁.setTop (mkF m 27 #[.val (.long x0), .second, .val (.long (f6_v1 x0)), .second, .val (.long (f6_v2 x0)), .second, .unset, .unset] [(.long ((own_lushr x0 (25 : Int32)) &&& (7 : Int64)))])) _
    refine XS.lstore X0.here hx rfl (hb hby d6_27) rfl (l' := #[.val (.long x0), .second, .val (.long (f6_v1 x0)), .second, .val (.long (f6_v2 x0)), .second, .val (.long (f6_v3 x0)), .second]) rfl ?_
    show Steps p.tables e below (s₁.setTop (mkF m 29 #[.val (.long x0), .second, .val (.long (f6_v1 x0)), .second, .val (.long (f6_v2 x0)), .second, .val (.long (f6_v3 x0)), .second] [])) _
    refine XS.lloadN X0.here hx rfl (hb hby d6_29) rfl ?_
    show Steps p.tables e below (s₁.setTop (mkF m 30 #[.val (.long x0), .second, .val (.long (f6_v1 x0)), .second, .val (.long (f6_v2 x0)), .second, .val (.long (f6_v3 x0)), .second] [(.long (f6_v1 x0))])) _
    refine X0.ldc2Long hx hown (mvT hZ (hw _ (List.mem_of_getElem? (i := 70) rfl))) (g := (mkF m 30 #[.val (.long x0), .second, .val (.long (f6_v1 x0)), .second, .val (.long (f6_v2 x0)), .second, .val (.long (f6_v3 x0)), .second] [(.long (f6_v1 x0))])) rfl (hb hby d6_30) _ ?_
    show Steps p.tables e below (s₁.setTop (mkF m 33 #[.val (.long x0), .second, .val (.long (f6_v1 x0)), .second, .val (.long (f6_v2 x0)), .second, .val (.long (f6_v3 x0)), .second] [(.long (288 : Int64)), (.long (f6_v1 x0))])) _
    refine own_xlcmp X0.here hx rfl (hb hby d6_33) rfl ?_
    exact k
  obtain ⟨T13, L13, X13, N13, e13, pre13⟩ : ∃ (T' : State) (L' : List Loc), Stand p l e ({ frames := 0, cells := 0, slots := 0, locals := 0 } : Room) s m #[(.long x0)] below meth c T' L' 0 0 ∧ Fr n0 L' ∧ T'.heap = h0 ∧ ∀ t, Steps p.tables e below (T'.setTop (mkF m 54 #[.val (.long x0), .second, .val (.long (f6_v1 x0)), .second, .val (.long (f6_v2 x0)), .second, .val (.long (f6_v3 x0)), .second] [(.int (f6_j12 x0))])) t → Steps p.tables e below (s₁.setTop (entryFrame m #[(.long x0)] 8)) t := by
    rcases Bool.eq_false_or_eq_true (ifCond.holds .gt (own_cmp (f6_v1 x0) (288 : Int64))) with hc5 | hc5
    · have pre14 : ∀ t, Steps p.tables e below (s₁.setTop (mkF m 54 #[.val (.long x0), .second, .val (.long (f6_v1 x0)), .second, .val (.long (f6_v2 x0)), .second, .val (.long (f6_v3 x0)), .second] [(.int (0 : Int32))])) t → Steps p.tables e below (s₁.setTop (entryFrame m #[(.long x0)] 8)) t := by
        intro t k
        refine pre4 _ ?_
        show Steps p.tables e below (s₁.setTop (mkF m 34 #[.val (.long x0), .second, .val (.long (f6_v1 x0)), .second, .val (.long (f6_v2 x0)), .second, .val (.long (f6_v3 x0)), .second] [(.int (own_cmp (f6_v1 x0) (288 : Int64)))])) _
        refine XS.ifYes X0.here hx rfl (pc0 := 34) (pc' := 53) rfl (hb hby d6_34) rfl hc5 (by decide) (by decide) ?_
        show Steps p.tables e below (s₁.setTop (mkF m 53 #[.val (.long x0), .second, .val (.long (f6_v1 x0)), .second, .val (.long (f6_v2 x0)), .second, .val (.long (f6_v3 x0)), .second] [])) _
        refine XS.iconst X0.here hx rfl (hb hby d6_53) ?_
        exact k
      have qj0 : (f6_j12 x0) = (0 : Int32) := if_pos hc5
      refine ⟨s₁, _, X0, N0, e0, fun t k => pre14 _ ?_⟩
      rw [qj0] at k
      exact k
    · have pre6 : ∀ t, Steps p.tables e below (s₁.setTop (mkF m 46 #[.val (.long x0), .second, .val (.long (f6_v1 x0)), .second, .val (.long (f6_v2 x0)), .second, .val (.long (f6_v3 x0)), .second] [(.int (own_cmp ((f6_v2 x0) + (f6_v3 x0)) (20 : Int64)))])) t → Steps p.tables e below (s₁.setTop (entryFrame m #[(.long x0)] 8)) t := by
        intro t k
        refine pre4 _ ?_
        show Steps p.tables e below (s₁.setTop (mkF m 34 #[.val (.long x0), .second, .val (.long (f6_v1 x0)), .second, .val (.long (f6_v2 x0)), .second, .val (.long (f6_v3 x0)), .second] [(.int (own_cmp (f6_v1 x0) (288 : Int64)))])) _
        refine XS.ifNo X0.here hx rfl (hb hby d6_34) rfl hc5 ?_
        show Steps p.tables e below (s₁.setTop (mkF m 37 #[.val (.long x0), .second, .val (.long (f6_v1 x0)), .second, .val (.long (f6_v2 x0)), .second, .val (.long (f6_v3 x0)), .second] [])) _
        refine XS.lload X0.here hx rfl (hb hby d6_37) rfl ?_
        show Steps p.tables e below (s₁.setTop (mkF m 39 #[.val (.long x0), .second, .val (.long (f6_v1 x0)), .second, .val (.long (f6_v2 x0)), .second, .val (.long (f6_v3 x0)), .second] [(.long (f6_v2 x0))])) _
        refine XS.lload X0.here hx rfl (hb hby d6_39) rfl ?_
        show Steps p.tables e below (s₁.setTop (mkF m 41 #[.val (.long x0), .second, .val (.long (f6_v1 x0)), .second, .val (.long (f6_v2 x0)), .second, .val (.long (f6_v3 x0)), .second] [(.long (f6_v3 x0)), (.long (f6_v2 x0))])) _
        refine XS.ladd X0.here hx rfl (hb hby d6_41) rfl ?_
        show Steps p.tables e below (s₁.setTop (mkF m 42 #[.val (.long x0), .second, .val (.long (f6_v1 x0)), .second, .val (.long (f6_v2 x0)), .second, .val (.long (f6_v3 x0)), .second] [(.long ((f6_v2 x0) + (f6_v3 x0)))])) _
        refine X0.ldc2Long hx hown (mvT hZ (hw _ (List.mem_of_getElem? (i := 71) rfl))) (g := (mkF m 42 #[.val (.long x0), .second, .val (.long (f6_v1 x0)), .second, .val (.long (f6_v2 x0)), .second, .val (.long (f6_v3 x0)), .second] [(.long ((f6_v2 x0) + (f6_v3 x0)))])) rfl (hb hby d6_42) _ ?_
        show Steps p.tables e below (s₁.setTop (mkF m 45 #[.val (.long x0), .second, .val (.long (f6_v1 x0)), .second, .val (.long (f6_v2 x0)), .second, .val (.long (f6_v3 x0)), .second] [(.long (20 : Int64)), (.long ((f6_v2 x0) + (f6_v3 x0)))])) _
        refine own_xlcmp X0.here hx rfl (hb hby d6_45) rfl ?_
        exact k
      obtain ⟨T9, L9, X9, N9, e9, pre9⟩ : ∃ (T' : State) (L' : List Loc), Stand p l e ({ frames := 0, cells := 0, slots := 0, locals := 0 } : Room) s m #[(.long x0)] below meth c T' L' 0 0 ∧ Fr n0 L' ∧ T'.heap = h0 ∧ ∀ t, Steps p.tables e below (T'.setTop (mkF m 54 #[.val (.long x0), .second, .val (.long (f6_v1 x0)), .second, .val (.long (f6_v2 x0)), .second, .val (.long (f6_v3 x0)), .second] [(.int (f6_j8 x0))])) t → Steps p.tables e below (s₁.setTop (entryFrame m #[(.long x0)] 8)) t := by
        rcases Bool.eq_false_or_eq_true (ifCond.holds .gt (own_cmp ((f6_v2 x0) + (f6_v3 x0)) (20 : Int64))) with hc7 | hc7
        · have pre10 : ∀ t, Steps p.tables e below (s₁.setTop (mkF m 54 #[.val (.long x0), .second, .val (.long (f6_v1 x0)), .second, .val (.long (f6_v2 x0)), .second, .val (.long (f6_v3 x0)), .second] [(.int (0 : Int32))])) t → Steps p.tables e below (s₁.setTop (entryFrame m #[(.long x0)] 8)) t := by
            intro t k
            refine pre6 _ ?_
            show Steps p.tables e below (s₁.setTop (mkF m 46 #[.val (.long x0), .second, .val (.long (f6_v1 x0)), .second, .val (.long (f6_v2 x0)), .second, .val (.long (f6_v3 x0)), .second] [(.int (own_cmp ((f6_v2 x0) + (f6_v3 x0)) (20 : Int64)))])) _
            refine XS.ifYes X0.here hx rfl (pc0 := 46) (pc' := 53) rfl (hb hby d6_46) rfl hc7 (by decide) (by decide) ?_
            show Steps p.tables e below (s₁.setTop (mkF m 53 #[.val (.long x0), .second, .val (.long (f6_v1 x0)), .second, .val (.long (f6_v2 x0)), .second, .val (.long (f6_v3 x0)), .second] [])) _
            refine XS.iconst X0.here hx rfl (hb hby d6_53) ?_
            exact k
          have qj0 : (f6_j8 x0) = (0 : Int32) := if_pos hc7
          refine ⟨s₁, _, X0, N0, e0, fun t k => pre10 _ ?_⟩
          rw [qj0] at k
          exact k
        · have pre11 : ∀ t, Steps p.tables e below (s₁.setTop (mkF m 54 #[.val (.long x0), .second, .val (.long (f6_v1 x0)), .second, .val (.long (f6_v2 x0)), .second, .val (.long (f6_v3 x0)), .second] [(.int (1 : Int32))])) t → Steps p.tables e below (s₁.setTop (entryFrame m #[(.long x0)] 8)) t := by
            intro t k
            refine pre6 _ ?_
            show Steps p.tables e below (s₁.setTop (mkF m 46 #[.val (.long x0), .second, .val (.long (f6_v1 x0)), .second, .val (.long (f6_v2 x0)), .second, .val (.long (f6_v3 x0)), .second] [(.int (own_cmp ((f6_v2 x0) + (f6_v3 x0)) (20 : Int64)))])) _
            refine XS.ifNo X0.here hx rfl (hb hby d6_46) rfl hc7 ?_
            show Steps p.tables e below (s₁.setTop (mkF m 49 #[.val (.long x0), .second, .val (.long (f6_v1 x0)), .second, .val (.long (f6_v2 x0)), .second, .val (.long (f6_v3 x0)), .second] [])) _
            refine XS.iconst X0.here hx rfl (hb hby d6_49) ?_
            show Steps p.tables e below (s₁.setTop (mkF m 50 #[.val (.long x0), .second, .val (.long (f6_v1 x0)), .second, .val (.long (f6_v2 x0)), .second, .val (.long (f6_v3 x0)), .second] [(.int (1 : Int32))])) _
            refine XS.goto X0.here hx rfl (pc0 := 50) (pc' := 54) rfl (hb hby d6_50) (by decide) (by decide) ?_
            exact k
          have qj0 : (f6_j8 x0) = (1 : Int32) := if_neg (own_nt hc7)
          refine ⟨s₁, _, X0, N0, e0, fun t k => pre11 _ ?_⟩
          rw [qj0] at k
          exact k
      have qj0 : (f6_j12 x0) = (f6_j8 x0) := if_neg (own_nt hc5)
      refine ⟨T9, _, X9, N9, e9, fun t k => pre9 _ ?_⟩
      rw [qj0] at k
      exact k
  obtain ⟨fs, hr, hrun, hended, hW, hsame⟩ := X13.leave (v := some (.int (nar .boolean (f6_j12 x0)))) (fun h => by rw [hret] at h; cases h)
  refine ⟨_, _, pre13 _ ?_, hrun, hended, _, _, rfl, ?_, ⟨_, rfl⟩, hW, hsame.mono (by decide) (by decide)⟩
  · show Steps p.tables e below (T13.setTop (mkF m 54 #[.val (.long x0), .second, .val (.long (f6_v1 x0)), .second, .val (.long (f6_v2 x0)), .second, .val (.long (f6_v3 x0)), .second] [(.int (f6_j12 x0))])) _
    exact retN X13 hx (t := .boolean) hret (by simp) (hb hby d6_54) hr
  · show Q6 Z x0 h0 n0 _ T13.heap _
    rw [e13]
    have rr : f6 x0 = (nar .boolean (f6_j12 x0)) := rfl
    exact ⟨congrArg (fun z => some (Value.int z)) rr.symm, N13, rfl⟩
-- body 7: dev/stratumaudio/SideInformationIsPossiblePinLaw.part:(J)J
theorem d7_0 : decode method_4_code 0 = .ok (.lload_n 0, 1) := by decide +kernel
theorem d7_1 : decode method_4_code 1 = .ok (.ldc2_w 7, 3) := by decide +kernel
theorem d7_4 : decode method_4_code 4 = .ok (.land, 1) := by decide +kernel
theorem d7_5 : decode method_4_code 5 = .ok (.lreturn, 1) := by decide +kernel
theorem ef_7 (m : MethodId) (x0 : Int64) : entryFrame m #[(.long x0)] 2 = mkF m 0 #[.val (.long x0), .second] [] := by first | (simp [entryFrame, mkF, argsToLocals, Value.category]; done) | rfl
def f7 (x0 : Int64) : Int64 := (x0 &&& (4095 : Int64))
def Q7 (Z : State) (x0 : Int64) (h0 : Heap) (n0 : Nat) (v : Option Value) (h : Heap) (L : List Loc) : Prop := v = some (.long (f7 x0)) ∧ Fr n0 L ∧ h = h0
set_option maxRecDepth 65536 in
set_option maxHeartbeats 40000000 in
theorem rm7 (l : Launch) (Z : State) (a0 : Array Value) (hw : ∀ d ∈ tables_1, d.before a0 Z = true) (ws : List Jvm.Cond) (x0 : Int64) (h0 : Heap) (n0 : Nat) (Z0 : n0 ≤ h0.size) :
    MetFree l (⟨"dev/stratumaudio/SideInformationIsPossiblePinLaw", "part", "(J)J"⟩ : MethodName) (head1 (Jvm.Cond.code (⟨"dev/stratumaudio/SideInformationIsPossiblePinLaw", "part", "(J)J"⟩ : MethodName) method_4_code 2 (some .long) :: ws) ({ frames := 0, cells := 0, slots := 0, locals := 0 } : Room)) (fun a U => a = #[(.long x0)] ∧ Z.Warmed39 U.vm ∧ U.heap = h0) (fun _ _ _ _ _ => True) (fun _ U o U' => ∃ v L, o = .returned v ∧ Q7 Z x0 h0 n0 v U'.heap L ∧ FrameEnd U o U' L ({ frames := 0, cells := 0, slots := 0, locals := 0 } : Room).cells ({ frames := 0, cells := 0, slots := 0, locals := 0 } : Room).slots) := by
  refine MetFree.of_bodySF (plainFor_of_name pn_2) hisR ?_
  intro p e s m args below meth c s₁ Bd hml0 hP hK0
  obtain ⟨rfl, hZ, hh⟩ := hP
  have hx := Bd.exec
  have hby := Bd.bytes
  have hml : c.maxLocals = 2 := hml0
  have hown : s.vm.findClass "dev/stratumaudio/SideInformationIsPossiblePinLaw" = some m.cls := findClass_of_methodNamed Bd.named
  have hnm := (name_of_methodNamed Bd.named Bd.method).1
  have hret : meth.sig.returnType = some .long := Bd.returns
  have hlk : meth.locks = false := Bd.notSynchronized
  have X0 : Stand p l e ({ frames := 0, cells := 0, slots := 0, locals := 0 } : Room) s m #[(.long x0)] below meth c s₁ [] 0 0 := Stand.of_body Bd
  have e0 : s₁.heap = h0 := by rw [← hh, Bd.state]; rfl
  have N0 := Fr.nil n0
  have pre0 : ∀ t, Steps p.tables e below (s₁.setTop (mkF m 0 #[.val (.long x0), .second] [])) t → Steps p.tables e below (s₁.setTop (entryFrame m #[(.long x0)] 2)) t := fun t k => castTop (ef_7 m x0) k
  obtain ⟨fs, hr, hrun, hended, hW, hsame⟩ := X0.leave (v := some (.long (x0 &&& (4095 : Int64)))) (fun h => by rw [hret] at h; cases h)
  refine ⟨_, _, pre0 _ ?_, hrun, hended, _, _, rfl, ?_, ⟨_, rfl⟩, hW, hsame.mono (by decide) (by decide)⟩
  · show Steps p.tables e below (s₁.setTop (mkF m 0 #[.val (.long x0), .second] [])) _
    refine XS.lloadN X0.here hx rfl (hb hby d7_0) rfl ?_
    show Steps p.tables e below (s₁.setTop (mkF m 1 #[.val (.long x0), .second] [(.long x0)])) _
    refine X0.ldc2Long hx hown (mvT hZ (hw _ (List.mem_of_getElem? (i := 43) rfl))) (g := (mkF m 1 #[.val (.long x0), .second] [(.long x0)])) rfl (hb hby d7_1) _ ?_
    show Steps p.tables e below (s₁.setTop (mkF m 4 #[.val (.long x0), .second] [(.long (4095 : Int64)), (.long x0)])) _
    refine XS.land X0.here hx rfl (hb hby d7_4) rfl ?_
    show Steps p.tables e below (s₁.setTop (mkF m 5 #[.val (.long x0), .second] [(.long (x0 &&& (4095 : Int64)))])) _
    exact X0.lreturnOut hx hret (hb hby d7_5) hr
  · show Q7 Z x0 h0 n0 _ s₁.heap _
    rw [e0]
    have rr : f7 x0 = (x0 &&& (4095 : Int64)) := rfl
    exact ⟨congrArg (fun z => some (Value.long z)) rr.symm, N0, rfl⟩
theorem pd_1 : parseMethodDescriptor "(Ldev/stratumaudio/SideInformation$Granule;J)V" = some ⟨[(.object "dev/stratumaudio/SideInformation$Granule"), .long], none⟩ := by decide +kernel
theorem pd_2 : parseMethodDescriptor "(I)Z" = some ⟨[.int], some .boolean⟩ := by decide +kernel
theorem pd_3 : parseMethodDescriptor "(J)Z" = some ⟨[.long], some .boolean⟩ := by decide +kernel
theorem pd_4 : parseMethodDescriptor "(J)J" = some ⟨[.long], some .long⟩ := by decide +kernel
-- body 0: dev/stratumaudio/SideInformationIsPossiblePinLaw.law:(IJJI)Z
theorem ef_0 (m : MethodId) (x0 : Int32) (x1 : Int64) (x2 : Int64) (x3 : Int32) : entryFrame m #[(.int x0), (.long x1), (.long x2), (.int x3)] maxLocals = mkF m 0 #[.val (.int x0), .val (.long x1), .second, .val (.long x2), .second, .val (.int x3), .unset, .unset, .unset, .unset, .unset, .unset, .unset, .unset, .unset, .unset, .unset, .unset, .unset, .unset, .unset, .unset, .unset] [] := by first | (simp [entryFrame, mkF, argsToLocals, Value.category, maxLocals]; done) | rfl
def f0_j3 (x0 : Int32) (x1 : Int64) (x2 : Int64) (x3 : Int32) : Int32 := if ifCond.holds .eq (x0 &&& (1 : Int32)) = true then (0 : Int32) else (1 : Int32)
def f0_j9 (x0 : Int32) (x1 : Int64) (x2 : Int64) (x3 : Int32) : Int32 := if ifCond.holds .eq (x0 &&& (2 : Int32)) = true then (0 : Int32) else (1 : Int32)
def f0_j15 (x0 : Int32) (x1 : Int64) (x2 : Int64) (x3 : Int32) : Int32 := if ifCond.holds .eq (x0 &&& (4 : Int32)) = true then (x3 % (2100 : Int32)) else x3
def f0_v19 (x0 : Int32) (x1 : Int64) (x2 : Int64) (x3 : Int32) : Int64 := (x1 &&& (268435455 : Int64))
def f0_v20 (x0 : Int32) (x1 : Int64) (x2 : Int64) (x3 : Int32) : Int64 := ((own_lushr x1 (28 : Int32)) &&& (268435455 : Int64))
def f0_v21 (x0 : Int32) (x1 : Int64) (x2 : Int64) (x3 : Int32) : Int64 := (x2 &&& (268435455 : Int64))
def f0_v22 (x0 : Int32) (x1 : Int64) (x2 : Int64) (x3 : Int32) : Int64 := ((own_lushr x2 (28 : Int32)) &&& (268435455 : Int64))
def f0_j32 (x0 : Int32) (x1 : Int64) (x2 : Int64) (x3 : Int32) : Int32 := if ifCond.holds .eq (f0_j3 x0 x1 x2 x3) = true then (1 : Int32) else (2 : Int32)
def f0_j69 (x0 : Int32) (x1 : Int64) (x2 : Int64) (x3 : Int32) : Int32 := if ifCond.holds .eq (f0_j9 x0 x1 x2 x3) = true then (1 : Int32) else (2 : Int32)
def f0_v225 (x0 : Int32) (x1 : Int64) (x2 : Int64) (x3 : Int32) : Int32 := (f5 (f0_j15 x0 x1 x2 x3) (f0_j32 x0 x1 x2 x3) (f0_j69 x0 x1 x2 x3) (((own_lushr (f0_v19 x0 x1 x2 x3) (12 : Int32)) &&& (511 : Int64)).toInt32) (((own_lushr (f0_v19 x0 x1 x2 x3) (21 : Int32)) &&& (15 : Int64)).toInt32) (((own_lushr (f0_v19 x0 x1 x2 x3) (25 : Int32)) &&& (7 : Int64)).toInt32) (((f0_v19 x0 x1 x2 x3) &&& (4095 : Int64)).toInt32) (((own_lushr (f0_v20 x0 x1 x2 x3) (12 : Int32)) &&& (511 : Int64)).toInt32) (((own_lushr (f0_v20 x0 x1 x2 x3) (21 : Int32)) &&& (15 : Int64)).toInt32) (((own_lushr (f0_v20 x0 x1 x2 x3) (25 : Int32)) &&& (7 : Int64)).toInt32) (((f0_v20 x0 x1 x2 x3) &&& (4095 : Int64)).toInt32) (((own_lushr (f0_v21 x0 x1 x2 x3) (12 : Int32)) &&& (511 : Int64)).toInt32) (((own_lushr (f0_v21 x0 x1 x2 x3) (21 : Int32)) &&& (15 : Int64)).toInt32) (((own_lushr (f0_v21 x0 x1 x2 x3) (25 : Int32)) &&& (7 : Int64)).toInt32) (((f0_v21 x0 x1 x2 x3) &&& (4095 : Int64)).toInt32) (((own_lushr (f0_v22 x0 x1 x2 x3) (12 : Int32)) &&& (511 : Int64)).toInt32) (((own_lushr (f0_v22 x0 x1 x2 x3) (21 : Int32)) &&& (15 : Int64)).toInt32) (((own_lushr (f0_v22 x0 x1 x2 x3) (25 : Int32)) &&& (7 : Int64)).toInt32) (((f0_v22 x0 x1 x2 x3) &&& (4095 : Int64)).toInt32))
def f0_j241 (x0 : Int32) (x1 : Int64) (x2 : Int64) (x3 : Int32) : Int32 := if ifCond.holds .eq (f6 (f0_v22 x0 x1 x2 x3)) = true then (0 : Int32) else (1 : Int32)
def f0_j245 (x0 : Int32) (x1 : Int64) (x2 : Int64) (x3 : Int32) : Int32 := if ifCond.holds .eq (f0_j9 x0 x1 x2 x3) = true then (1 : Int32) else (f0_j241 x0 x1 x2 x3)
def f0_j248 (x0 : Int32) (x1 : Int64) (x2 : Int64) (x3 : Int32) : Int32 := if ifCond.holds .eq (f6 (f0_v21 x0 x1 x2 x3)) = true then (0 : Int32) else (f0_j245 x0 x1 x2 x3)
def f0_j251 (x0 : Int32) (x1 : Int64) (x2 : Int64) (x3 : Int32) : Int32 := if ifCond.holds .eq (f0_j3 x0 x1 x2 x3) = true then (1 : Int32) else (f0_j248 x0 x1 x2 x3)
def f0_j267 (x0 : Int32) (x1 : Int64) (x2 : Int64) (x3 : Int32) : Int32 := if ifCond.holds .eq (f6 (f0_v22 x0 x1 x2 x3)) = true then (0 : Int32) else (1 : Int32)
def f0_j271 (x0 : Int32) (x1 : Int64) (x2 : Int64) (x3 : Int32) : Int32 := if ifCond.holds .eq (f0_j9 x0 x1 x2 x3) = true then (1 : Int32) else (f0_j267 x0 x1 x2 x3)
def f0_j274 (x0 : Int32) (x1 : Int64) (x2 : Int64) (x3 : Int32) : Int32 := if ifCond.holds .eq (f6 (f0_v21 x0 x1 x2 x3)) = true then (0 : Int32) else (f0_j271 x0 x1 x2 x3)
def f0_j277 (x0 : Int32) (x1 : Int64) (x2 : Int64) (x3 : Int32) : Int32 := if ifCond.holds .eq (f0_j3 x0 x1 x2 x3) = true then (1 : Int32) else (f0_j274 x0 x1 x2 x3)
def f0_j280 (x0 : Int32) (x1 : Int64) (x2 : Int64) (x3 : Int32) : Int32 := if ifCond.holds .eq (f6 (f0_v20 x0 x1 x2 x3)) = true then (0 : Int32) else (f0_j277 x0 x1 x2 x3)
def f0_j283 (x0 : Int32) (x1 : Int64) (x2 : Int64) (x3 : Int32) : Int32 := if ifCond.holds .eq (f0_j9 x0 x1 x2 x3) = true then (f0_j251 x0 x1 x2 x3) else (f0_j280 x0 x1 x2 x3)
def f0_j285 (x0 : Int32) (x1 : Int64) (x2 : Int64) (x3 : Int32) : Int32 := if ifCond.holds .eq (f6 (f0_v19 x0 x1 x2 x3)) = true then (0 : Int32) else (f0_j283 x0 x1 x2 x3)
def f0_j292 (x0 : Int32) (x1 : Int64) (x2 : Int64) (x3 : Int32) : Int64 := if ifCond.holds .eq (f0_j9 x0 x1 x2 x3) = true then (0 : Int64) else (f7 (f0_v20 x0 x1 x2 x3))
def f0_j302 (x0 : Int32) (x1 : Int64) (x2 : Int64) (x3 : Int32) : Int64 := if ifCond.holds .eq (f0_j9 x0 x1 x2 x3) = true then (0 : Int64) else (f7 (f0_v22 x0 x1 x2 x3))
def f0_j306 (x0 : Int32) (x1 : Int64) (x2 : Int64) (x3 : Int32) : Int64 := if ifCond.holds .eq (f0_j3 x0 x1 x2 x3) = true then (0 : Int64) else ((f7 (f0_v21 x0 x1 x2 x3)) + (f0_j302 x0 x1 x2 x3))
def f0_v310 (x0 : Int32) (x1 : Int64) (x2 : Int64) (x3 : Int32) : Int64 := (((f7 (f0_v19 x0 x1 x2 x3)) + (f0_j292 x0 x1 x2 x3)) + (f0_j306 x0 x1 x2 x3))
def f0_j315 (x0 : Int32) (x1 : Int64) (x2 : Int64) (x3 : Int32) : Int32 := if ifCond.holds .gt (own_cmp (f0_v310 x0 x1 x2 x3) ((8 : Int64) * ((f0_j15 x0 x1 x2 x3).toInt64))) = true then (0 : Int32) else (1 : Int32)
def f0_j319 (x0 : Int32) (x1 : Int64) (x2 : Int64) (x3 : Int32) : Int32 := if ifCond.holds .eq (f0_j285 x0 x1 x2 x3) = true then (0 : Int32) else (f0_j315 x0 x1 x2 x3)
def f0_j324 (x0 : Int32) (x1 : Int64) (x2 : Int64) (x3 : Int32) : Int32 := if if_icmp.holds .ne (f0_v225 x0 x1 x2 x3) (f0_j319 x0 x1 x2 x3) = true then (0 : Int32) else (1 : Int32)
def f0 (x0 : Int32) (x1 : Int64) (x2 : Int64) (x3 : Int32) : Int32 := (nar .boolean (f0_j324 x0 x1 x2 x3))
theorem own_gc (x0 : Int32) (x1 x2 : Int64) (x3 : Int32) : f0_j32 x0 x1 x2 x3 = 1 ∨ f0_j32 x0 x1 x2 x3 = 2 := by
  unfold f0_j32
  split
  · exact Or.inl rfl
  · exact Or.inr rfl
theorem own_cc (x0 : Int32) (x1 x2 : Int64) (x3 : Int32) : f0_j69 x0 x1 x2 x3 = 1 ∨ f0_j69 x0 x1 x2 x3 = 2 := by
  unfold f0_j69
  split
  · exact Or.inl rfl
  · exact Or.inr rfl
def Q0 (Z : State) (x0 : Int32) (x1 : Int64) (x2 : Int64) (x3 : Int32) (h0 : Heap) (n0 : Nat) (v : Option Value) (h : Heap) (L : List Loc) : Prop := v = some (.int (f0 x0 x1 x2 x3)) ∧ Fr n0 L
set_option maxRecDepth 65536 in
set_option maxHeartbeats 40000000 in
theorem rm0 (l : Launch) (Z : State) (a0 : Array Value) (hw : ∀ d ∈ tables_1, d.before a0 Z = true) (ws : List Jvm.Cond) (x0 : Int32) (x1 : Int64) (x2 : Int64) (x3 : Int32) (h0 : Heap) (n0 : Nat) (Z0 : n0 ≤ h0.size) :
    MetFree l x (head1 (Jvm.Cond.code x code maxLocals ret :: ws) room_1) (fun a U => a = #[(.int x0), (.long x1), (.long x2), (.int x3)] ∧ Z.Warmed39 U.vm ∧ U.heap = h0) (fun _ _ _ _ _ => True) (fun _ U o U' => ∃ v L, o = .returned v ∧ Q0 Z x0 x1 x2 x3 h0 n0 v U'.heap L ∧ FrameEnd U o U' L 19 104) := by
  refine MetFree.of_bodySF (plainFor_of_name pn_2) hisR ?_
  intro p e s m args below meth c s₁ Bd hml0 hP hK0
  obtain ⟨rfl, hZ, hh⟩ := hP
  have hx := Bd.exec
  have hby := Bd.bytes
  have hml : c.maxLocals = 23 := hml0
  have hown : s.vm.findClass "dev/stratumaudio/SideInformationIsPossiblePinLaw" = some m.cls := findClass_of_methodNamed Bd.named
  have hnm := (name_of_methodNamed Bd.named Bd.method).1
  have hret : meth.sig.returnType = ret := Bd.returns
  have hlk : meth.locks = false := Bd.notSynchronized
  have X0 : Stand p l e room_1 s m #[(.int x0), (.long x1), (.long x2), (.int x3)] below meth c s₁ [] 0 0 := Stand.of_body Bd
  have e0 : s₁.heap = h0 := by rw [← hh, Bd.state]; rfl
  have N0 := Fr.nil n0
  have pre0 : ∀ t, Steps p.tables e below (s₁.setTop (mkF m 0 #[.val (.int x0), .val (.long x1), .second, .val (.long x2), .second, .val (.int x3), .unset, .unset, .unset, .unset, .unset, .unset, .unset, .unset, .unset, .unset, .unset, .unset, .unset, .unset, .unset, .unset, .unset] [])) t → Steps p.tables e below (s₁.setTop (entryFrame m #[(.int x0), (.long x1), (.long x2), (.int x3)] maxLocals)) t := fun t k => castTop (ef_0 m x0 x1 x2 x3) k
  obtain ⟨oj3, h_oj3⟩ : ∃ z : Int32, z = (f0_j3 x0 x1 x2 x3) := ⟨_, rfl⟩
  have d_oj3 : oj3 = if ifCond.holds .eq (x0 &&& (1 : Int32)) = true then (0 : Int32) else (1 : Int32) := by
    rw [h_oj3]
    rfl
  obtain ⟨oj9, h_oj9⟩ : ∃ z : Int32, z = (f0_j9 x0 x1 x2 x3) := ⟨_, rfl⟩
  have d_oj9 : oj9 = if ifCond.holds .eq (x0 &&& (2 : Int32)) = true then (0 : Int32) else (1 : Int32) := by
    rw [h_oj9]
    rfl
  obtain ⟨oj15, h_oj15⟩ : ∃ z : Int32, z = (f0_j15 x0 x1 x2 x3) := ⟨_, rfl⟩
  have d_oj15 : oj15 = if ifCond.holds .eq (x0 &&& (4 : Int32)) = true then (x3 % (2100 : Int32)) else x3 := by
    rw [h_oj15]
    rfl
  obtain ⟨ov19, h_ov19⟩ : ∃ z : Int64, z = (f0_v19 x0 x1 x2 x3) := ⟨_, rfl⟩
  have d_ov19 : ov19 = (x1 &&& (268435455 : Int64)) := by
    rw [h_ov19]
    rfl
  obtain ⟨ov20, h_ov20⟩ : ∃ z : Int64, z = (f0_v20 x0 x1 x2 x3) := ⟨_, rfl⟩
  have d_ov20 : ov20 = ((own_lushr x1 (28 : Int32)) &&& (268435455 : Int64)) := by
    rw [h_ov20]
    rfl
  obtain ⟨ov21, h_ov21⟩ : ∃ z : Int64, z = (f0_v21 x0 x1 x2 x3) := ⟨_, rfl⟩
  have d_ov21 : ov21 = (x2 &&& (268435455 : Int64)) := by
    rw [h_ov21]
    rfl
  obtain ⟨ov22, h_ov22⟩ : ∃ z : Int64, z = (f0_v22 x0 x1 x2 x3) := ⟨_, rfl⟩
  have d_ov22 : ov22 = ((own_lushr x2 (28 : Int32)) &&& (268435455 : Int64)) := by
    rw [h_ov22]
    rfl
  obtain ⟨oj32, h_oj32⟩ : ∃ z : Int32, z = (f0_j32 x0 x1 x2 x3) := ⟨_, rfl⟩
  have d_oj32 : oj32 = if ifCond.holds .eq oj3 = true then (1 : Int32) else (2 : Int32) := by
    rw [h_oj32, h_oj3]
    rfl
  obtain ⟨oj69, h_oj69⟩ : ∃ z : Int32, z = (f0_j69 x0 x1 x2 x3) := ⟨_, rfl⟩
  have d_oj69 : oj69 = if ifCond.holds .eq oj9 = true then (1 : Int32) else (2 : Int32) := by
    rw [h_oj69, h_oj9]
    rfl
  obtain ⟨ov225, h_ov225⟩ : ∃ z : Int32, z = (f0_v225 x0 x1 x2 x3) := ⟨_, rfl⟩
  have d_ov225 : ov225 = (f5 oj15 oj32 oj69 (((own_lushr ov19 (12 : Int32)) &&& (511 : Int64)).toInt32) (((own_lushr ov19 (21 : Int32)) &&& (15 : Int64)).toInt32) (((own_lushr ov19 (25 : Int32)) &&& (7 : Int64)).toInt32) ((ov19 &&& (4095 : Int64)).toInt32) (((own_lushr ov20 (12 : Int32)) &&& (511 : Int64)).toInt32) (((own_lushr ov20 (21 : Int32)) &&& (15 : Int64)).toInt32) (((own_lushr ov20 (25 : Int32)) &&& (7 : Int64)).toInt32) ((ov20 &&& (4095 : Int64)).toInt32) (((own_lushr ov21 (12 : Int32)) &&& (511 : Int64)).toInt32) (((own_lushr ov21 (21 : Int32)) &&& (15 : Int64)).toInt32) (((own_lushr ov21 (25 : Int32)) &&& (7 : Int64)).toInt32) ((ov21 &&& (4095 : Int64)).toInt32) (((own_lushr ov22 (12 : Int32)) &&& (511 : Int64)).toInt32) (((own_lushr ov22 (21 : Int32)) &&& (15 : Int64)).toInt32) (((own_lushr ov22 (25 : Int32)) &&& (7 : Int64)).toInt32) ((ov22 &&& (4095 : Int64)).toInt32)) := by
    rw [h_ov225, h_oj15, h_oj32, h_oj69, h_ov19, h_ov20, h_ov21, h_ov22]
    rfl
  obtain ⟨oj241, h_oj241⟩ : ∃ z : Int32, z = (f0_j241 x0 x1 x2 x3) := ⟨_, rfl⟩
  have d_oj241 : oj241 = if ifCond.holds .eq (f6 ov22) = true then (0 : Int32) else (1 : Int32) := by
    rw [h_oj241, h_ov22]
    rfl
  obtain ⟨oj245, h_oj245⟩ : ∃ z : Int32, z = (f0_j245 x0 x1 x2 x3) := ⟨_, rfl⟩
  have d_oj245 : oj245 = if ifCond.holds .eq oj9 = true then (1 : Int32) else oj241 := by
    rw [h_oj245, h_oj241, h_oj9]
    rfl
  obtain ⟨oj248, h_oj248⟩ : ∃ z : Int32, z = (f0_j248 x0 x1 x2 x3) := ⟨_, rfl⟩
  have d_oj248 : oj248 = if ifCond.holds .eq (f6 ov21) = true then (0 : Int32) else oj245 := by
    rw [h_oj248, h_oj245, h_ov21]
    rfl
  obtain ⟨oj251, h_oj251⟩ : ∃ z : Int32, z = (f0_j251 x0 x1 x2 x3) := ⟨_, rfl⟩
  have d_oj251 : oj251 = if ifCond.holds .eq oj3 = true then (1 : Int32) else oj248 := by
    rw [h_oj251, h_oj248, h_oj3]
    rfl
  obtain ⟨oj267, h_oj267⟩ : ∃ z : Int32, z = (f0_j267 x0 x1 x2 x3) := ⟨_, rfl⟩
  have d_oj267 : oj267 = if ifCond.holds .eq (f6 ov22) = true then (0 : Int32) else (1 : Int32) := by
    rw [h_oj267, h_ov22]
    rfl
  obtain ⟨oj271, h_oj271⟩ : ∃ z : Int32, z = (f0_j271 x0 x1 x2 x3) := ⟨_, rfl⟩
  have d_oj271 : oj271 = if ifCond.holds .eq oj9 = true then (1 : Int32) else oj267 := by
    rw [h_oj271, h_oj267, h_oj9]
    rfl
  obtain ⟨oj274, h_oj274⟩ : ∃ z : Int32, z = (f0_j274 x0 x1 x2 x3) := ⟨_, rfl⟩
  have d_oj274 : oj274 = if ifCond.holds .eq (f6 ov21) = true then (0 : Int32) else oj271 := by
    rw [h_oj274, h_oj271, h_ov21]
    rfl
  obtain ⟨oj277, h_oj277⟩ : ∃ z : Int32, z = (f0_j277 x0 x1 x2 x3) := ⟨_, rfl⟩
  have d_oj277 : oj277 = if ifCond.holds .eq oj3 = true then (1 : Int32) else oj274 := by
    rw [h_oj277, h_oj274, h_oj3]
    rfl
  obtain ⟨oj280, h_oj280⟩ : ∃ z : Int32, z = (f0_j280 x0 x1 x2 x3) := ⟨_, rfl⟩
  have d_oj280 : oj280 = if ifCond.holds .eq (f6 ov20) = true then (0 : Int32) else oj277 := by
    rw [h_oj280, h_oj277, h_ov20]
    rfl
  obtain ⟨oj283, h_oj283⟩ : ∃ z : Int32, z = (f0_j283 x0 x1 x2 x3) := ⟨_, rfl⟩
  have d_oj283 : oj283 = if ifCond.holds .eq oj9 = true then oj251 else oj280 := by
    rw [h_oj283, h_oj251, h_oj280, h_oj9]
    rfl
  obtain ⟨oj285, h_oj285⟩ : ∃ z : Int32, z = (f0_j285 x0 x1 x2 x3) := ⟨_, rfl⟩
  have d_oj285 : oj285 = if ifCond.holds .eq (f6 ov19) = true then (0 : Int32) else oj283 := by
    rw [h_oj285, h_oj283, h_ov19]
    rfl
  obtain ⟨oj292, h_oj292⟩ : ∃ z : Int64, z = (f0_j292 x0 x1 x2 x3) := ⟨_, rfl⟩
  have d_oj292 : oj292 = if ifCond.holds .eq oj9 = true then (0 : Int64) else (f7 ov20) := by
    rw [h_oj292, h_oj9, h_ov20]
    rfl
  obtain ⟨oj302, h_oj302⟩ : ∃ z : Int64, z = (f0_j302 x0 x1 x2 x3) := ⟨_, rfl⟩
  have d_oj302 : oj302 = if ifCond.holds .eq oj9 = true then (0 : Int64) else (f7 ov22) := by
    rw [h_oj302, h_oj9, h_ov22]
    rfl
  obtain ⟨oj306, h_oj306⟩ : ∃ z : Int64, z = (f0_j306 x0 x1 x2 x3) := ⟨_, rfl⟩
  have d_oj306 : oj306 = if ifCond.holds .eq oj3 = true then (0 : Int64) else ((f7 ov21) + oj302) := by
    rw [h_oj306, h_oj3, h_oj302, h_ov21]
    rfl
  obtain ⟨ov310, h_ov310⟩ : ∃ z : Int64, z = (f0_v310 x0 x1 x2 x3) := ⟨_, rfl⟩
  have d_ov310 : ov310 = (((f7 ov19) + oj292) + oj306) := by
    rw [h_ov310, h_oj292, h_oj306, h_ov19]
    rfl
  obtain ⟨oj315, h_oj315⟩ : ∃ z : Int32, z = (f0_j315 x0 x1 x2 x3) := ⟨_, rfl⟩
  have d_oj315 : oj315 = if ifCond.holds .gt (own_cmp ov310 ((8 : Int64) * (oj15.toInt64))) = true then (0 : Int32) else (1 : Int32) := by
    rw [h_oj315, h_oj15, h_ov310]
    rfl
  obtain ⟨oj319, h_oj319⟩ : ∃ z : Int32, z = (f0_j319 x0 x1 x2 x3) := ⟨_, rfl⟩
  have d_oj319 : oj319 = if ifCond.holds .eq oj285 = true then (0 : Int32) else oj315 := by
    rw [h_oj319, h_oj285, h_oj315]
    rfl
  obtain ⟨oj324, h_oj324⟩ : ∃ z : Int32, z = (f0_j324 x0 x1 x2 x3) := ⟨_, rfl⟩
  have d_oj324 : oj324 = if if_icmp.holds .ne ov225 oj319 = true then (0 : Int32) else (1 : Int32) := by
    rw [h_oj324, h_oj319, h_ov225]
    rfl
  have hroot : f0 x0 x1 x2 x3 = (nar .boolean oj324) := by
    rw [h_oj324]
    rfl
  have pre1 : ∀ t, Steps p.tables e below (s₁.setTop (mkF m 3 #[.val (.int x0), .val (.long x1), .second, .val (.long x2), .second, .val (.int x3), .unset, .unset, .unset, .unset, .unset, .unset, .unset, .unset, .unset, .unset, .unset, .unset, .unset, .unset, .unset, .unset, .unset] [(.int (x0 &&& (1 : Int32)))])) t → Steps p.tables e below (s₁.setTop (entryFrame m #[(.int x0), (.long x1), (.long x2), (.int x3)] maxLocals)) t := by
    intro t k
    refine pre0 _ ?_
    show Steps p.tables e below (s₁.setTop (mkF m 0 #[.val (.int x0), .val (.long x1), .second, .val (.long x2), .second, .val (.int x3), .unset, .unset, .unset, .unset, .unset, .unset, .unset, .unset, .unset, .unset, .unset, .unset, .unset, .unset, .unset, .unset, .unset] [])) _
    refine XS.iloadN X0.here hx rfl (hb hby at_0) rfl ?_
    show Steps p.tables e below (s₁.setTop (mkF m 1 #[.val (.int x0), .val (.long x1), .second, .val (.long x2), .second, .val (.int x3), .unset, .unset, .unset, .unset, .unset, .unset, .unset, .unset, .unset, .unset, .unset, .unset, .unset, .unset, .unset, .unset, .unset] [(.int x0)])) _
    refine XS.iconst X0.here hx rfl (hb hby at_1) ?_
    show Steps p.tables e below (s₁.setTop (mkF m 2 #[.val (.int x0), .val (.long x1), .second, .val (.long x2), .second, .val (.int x3), .unset, .unset, .unset, .unset, .unset, .unset, .unset, .unset, .unset, .unset, .unset, .unset, .unset, .unset, .unset, .unset, .unset] [(.int (1 : Int32)), (.int x0)])) _
    refine XS.iand X0.here hx rfl (hb hby at_2) rfl ?_
    exact k
  obtain ⟨T4, L4, X4, N4, e4, pre4⟩ : ∃ (T' : State) (L' : List Loc), Stand p l e room_1 s m #[(.int x0), (.long x1), (.long x2), (.int x3)] below meth c T' L' 0 0 ∧ Fr n0 L' ∧ T'.heap = h0 ∧ ∀ t, Steps p.tables e below (T'.setTop (mkF m 11 #[.val (.int x0), .val (.long x1), .second, .val (.long x2), .second, .val (.int x3), .unset, .unset, .unset, .unset, .unset, .unset, .unset, .unset, .unset, .unset, .unset, .unset, .unset, .unset, .unset, .unset, .unset] [(.int oj3)])) t → Steps p.tables e below (s₁.setTop (entryFrame m #[(.int x0), (.long x1), (.long x2), (.int x3)] maxLocals)) t := by
    rcases Bool.eq_false_or_eq_true (ifCond.holds .eq (x0 &&& (1 : Int32))) with hc2 | hc2
    · have pre5 : ∀ t, Steps p.tables e below (s₁.setTop (mkF m 11 #[.val (.int x0), .val (.long x1), .second, .val (.long x2), .second, .val (.int x3), .unset, .unset, .unset, .unset, .unset, .unset, .unset, .unset, .unset, .unset, .unset, .unset, .unset, .unset, .unset, .unset, .unset] [(.int (0 : Int32))])) t → Steps p.tables e below (s₁.setTop (entryFrame m #[(.int x0), (.long x1), (.long x2), (.int x3)] maxLocals)) t := by
        intro t k
        refine pre1 _ ?_
        show Steps p.tables e below (s₁.setTop (mkF m 3 #[.val (.int x0), .val (.long x1), .second, .val (.long x2), .second, .val (.int x3), .unset, .unset, .unset, .unset, .unset, .unset, .unset, .unset, .unset, .unset, .unset, .unset, .unset, .unset, .unset, .unset, .unset] [(.int (x0 &&& (1 : Int32)))])) _
        refine XS.ifYes X0.here hx rfl (pc0 := 3) (pc' := 10) rfl (hb hby at_3) rfl hc2 (by decide) (by decide) ?_
        show Steps p.tables e below (s₁.setTop (mkF m 10 #[.val (.int x0), .val (.long x1), .second, .val (.long x2), .second, .val (.int x3), .unset, .unset, .unset, .unset, .unset, .unset, .unset, .unset, .unset, .unset, .unset, .unset, .unset, .unset, .unset, .unset, .unset] [])) _
        refine XS.iconst X0.here hx rfl (hb hby at_10) ?_
        exact k
      have qj0 : oj3 = (0 : Int32) := Eq.trans d_oj3 (if_pos hc2)
      refine ⟨s₁, _, X0, N0, e0, fun t k => pre5 _ ?_⟩
      rw [qj0] at k
      exact k
    · have pre6 : ∀ t, Steps p.tables e below (s₁.setTop (mkF m 11 #[.val (.int x0), .val (.long x1), .second, .val (.long x2), .second, .val (.int x3), .unset, .unset, .unset, .unset, .unset, .unset, .unset, .unset, .unset, .unset, .unset, .unset, .unset, .unset, .unset, .unset, .unset] [(.int (1 : Int32))])) t → Steps p.tables e below (s₁.setTop (entryFrame m #[(.int x0), (.long x1), (.long x2), (.int x3)] maxLocals)) t := by
        intro t k
        refine pre1 _ ?_
        show Steps p.tables e below (s₁.setTop (mkF m 3 #[.val (.int x0), .val (.long x1), .second, .val (.long x2), .second, .val (.int x3), .unset, .unset, .unset, .unset, .unset, .unset, .unset, .unset, .unset, .unset, .unset, .unset, .unset, .unset, .unset, .unset, .unset] [(.int (x0 &&& (1 : Int32)))])) _
        refine XS.ifNo X0.here hx rfl (hb hby at_3) rfl hc2 ?_
        show Steps p.tables e below (s₁.setTop (mkF m 6 #[.val (.int x0), .val (.long x1), .second, .val (.long x2), .second, .val (.int x3), .unset, .unset, .unset, .unset, .unset, .unset, .unset, .unset, .unset, .unset, .unset, .unset, .unset, .unset, .unset, .unset, .unset] [])) _
        refine XS.iconst X0.here hx rfl (hb hby at_6) ?_
        show Steps p.tables e below (s₁.setTop (mkF m 7 #[.val (.int x0), .val (.long x1), .second, .val (.long x2), .second, .val (.int x3), .unset, .unset, .unset, .unset, .unset, .unset, .unset, .unset, .unset, .unset, .unset, .unset, .unset, .unset, .unset, .unset, .unset] [(.int (1 : Int32))])) _
        refine XS.goto X0.here hx rfl (pc0 := 7) (pc' := 11) rfl (hb hby at_7) (by decide) (by decide) ?_
        exact k
      have qj0 : oj3 = (1 : Int32) := Eq.trans d_oj3 (if_neg (own_nt hc2))
      refine ⟨s₁, _, X0, N0, e0, fun t k => pre6 _ ?_⟩
      rw [qj0] at k
      exact k
  have pre7 : ∀ t, Steps p.tables e below (T4.setTop (mkF m 16 #[.val (.int x0), .val (.long x1), .second, .val (.long x2), .second, .val (.int x3), .val (.int oj3), .unset, .unset, .unset, .unset, .unset, .unset, .unset, .unset, .unset, .unset, .unset, .unset, .unset, .unset, .unset, .unset] [(.int (x0 &&& (2 : Int32)))])) t → Steps p.tables e below (s₁.setTop (entryFrame m #[(.int x0), (.long x1), (.long x2), (.int x3)] maxLocals)) t := by
    intro t k
    refine pre4 _ ?_
    show Steps p.tables e below (T4.setTop (mkF m 11 #[.val (.int x0), .val (.long x1), .second, .val (.long x2), .second, .val (.int x3), .unset, .unset, .unset, .unset, .unset, .unset, .unset, .unset, .unset, .unset, .unset, .unset, .unset, .unset, .unset, .unset, .unset] [(.int oj3)])) _
    refine XS.istore X4.here hx rfl (hb hby at_11) rfl (l' := #[.val (.int x0), .val (.long x1), .second, .val (.long x2), .second, .val (.int x3), .val (.int oj3), .unset, .unset, .unset, .unset, .unset, .unset, .unset, .unset, .unset, .unset, .unset, .unset, .unset, .unset, .unset, .unset]) rfl ?_
    show Steps p.tables e below (T4.setTop (mkF m 13 #[.val (.int x0), .val (.long x1), .second, .val (.long x2), .second, .val (.int x3), .val (.int oj3), .unset, .unset, .unset, .unset, .unset, .unset, .unset, .unset, .unset, .unset, .unset, .unset, .unset, .unset, .unset, .unset] [])) _
    refine XS.iloadN X4.here hx rfl (hb hby at_13) rfl ?_
    show Steps p.tables e below (T4.setTop (mkF m 14 #[.val (.int x0), .val (.long x1), .second, .val (.long x2), .second, .val (.int x3), .val (.int oj3), .unset, .unset, .unset, .unset, .unset, .unset, .unset, .unset, .unset, .unset, .unset, .unset, .unset, .unset, .unset, .unset] [(.int x0)])) _
    refine XS.iconst X4.here hx rfl (hb hby at_14) ?_
    show Steps p.tables e below (T4.setTop (mkF m 15 #[.val (.int x0), .val (.long x1), .second, .val (.long x2), .second, .val (.int x3), .val (.int oj3), .unset, .unset, .unset, .unset, .unset, .unset, .unset, .unset, .unset, .unset, .unset, .unset, .unset, .unset, .unset, .unset] [(.int (2 : Int32)), (.int x0)])) _
    refine XS.iand X4.here hx rfl (hb hby at_15) rfl ?_
    exact k
  obtain ⟨T10, L10, X10, N10, e10, pre10⟩ : ∃ (T' : State) (L' : List Loc), Stand p l e room_1 s m #[(.int x0), (.long x1), (.long x2), (.int x3)] below meth c T' L' 0 0 ∧ Fr n0 L' ∧ T'.heap = h0 ∧ ∀ t, Steps p.tables e below (T'.setTop (mkF m 24 #[.val (.int x0), .val (.long x1), .second, .val (.long x2), .second, .val (.int x3), .val (.int oj3), .unset, .unset, .unset, .unset, .unset, .unset, .unset, .unset, .unset, .unset, .unset, .unset, .unset, .unset, .unset, .unset] [(.int oj9)])) t → Steps p.tables e below (s₁.setTop (entryFrame m #[(.int x0), (.long x1), (.long x2), (.int x3)] maxLocals)) t := by
    rcases Bool.eq_false_or_eq_true (ifCond.holds .eq (x0 &&& (2 : Int32))) with hc8 | hc8
    · have pre11 : ∀ t, Steps p.tables e below (T4.setTop (mkF m 24 #[.val (.int x0), .val (.long x1), .second, .val (.long x2), .second, .val (.int x3), .val (.int oj3), .unset, .unset, .unset, .unset, .unset, .unset, .unset, .unset, .unset, .unset, .unset, .unset, .unset, .unset, .unset, .unset] [(.int (0 : Int32))])) t → Steps p.tables e below (s₁.setTop (entryFrame m #[(.int x0), (.long x1), (.long x2), (.int x3)] maxLocals)) t := by
        intro t k
        refine pre7 _ ?_
        show Steps p.tables e below (T4.setTop (mkF m 16 #[.val (.int x0), .val (.long x1), .second, .val (.long x2), .second, .val (.int x3), .val (.int oj3), .unset, .unset, .unset, .unset, .unset, .unset, .unset, .unset, .unset, .unset, .unset, .unset, .unset, .unset, .unset, .unset] [(.int (x0 &&& (2 : Int32)))])) _
        refine XS.ifYes X4.here hx rfl (pc0 := 16) (pc' := 23) rfl (hb hby at_16) rfl hc8 (by decide) (by decide) ?_
        show Steps p.tables e below (T4.setTop (mkF m 23 #[.val (.int x0), .val (.long x1), .second, .val (.long x2), .second, .val (.int x3), .val (.int oj3), .unset, .unset, .unset, .unset, .unset, .unset, .unset, .unset, .unset, .unset, .unset, .unset, .unset, .unset, .unset, .unset] [])) _
        refine XS.iconst X4.here hx rfl (hb hby at_23) ?_
        exact k
      have qj0 : oj9 = (0 : Int32) := Eq.trans d_oj9 (if_pos hc8)
      refine ⟨T4, _, X4, N4, e4, fun t k => pre11 _ ?_⟩
      rw [qj0] at k
      exact k
    · have pre12 : ∀ t, Steps p.tables e below (T4.setTop (mkF m 24 #[.val (.int x0), .val (.long x1), .second, .val (.long x2), .second, .val (.int x3), .val (.int oj3), .unset, .unset, .unset, .unset, .unset, .unset, .unset, .unset, .unset, .unset, .unset, .unset, .unset, .unset, .unset, .unset] [(.int (1 : Int32))])) t → Steps p.tables e below (s₁.setTop (entryFrame m #[(.int x0), (.long x1), (.long x2), (.int x3)] maxLocals)) t := by
        intro t k
        refine pre7 _ ?_
        show Steps p.tables e below (T4.setTop (mkF m 16 #[.val (.int x0), .val (.long x1), .second, .val (.long x2), .second, .val (.int x3), .val (.int oj3), .unset, .unset, .unset, .unset, .unset, .unset, .unset, .unset, .unset, .unset, .unset, .unset, .unset, .unset, .unset, .unset] [(.int (x0 &&& (2 : Int32)))])) _
        refine XS.ifNo X4.here hx rfl (hb hby at_16) rfl hc8 ?_
        show Steps p.tables e below (T4.setTop (mkF m 19 #[.val (.int x0), .val (.long x1), .second, .val (.long x2), .second, .val (.int x3), .val (.int oj3), .unset, .unset, .unset, .unset, .unset, .unset, .unset, .unset, .unset, .unset, .unset, .unset, .unset, .unset, .unset, .unset] [])) _
        refine XS.iconst X4.here hx rfl (hb hby at_19) ?_
        show Steps p.tables e below (T4.setTop (mkF m 20 #[.val (.int x0), .val (.long x1), .second, .val (.long x2), .second, .val (.int x3), .val (.int oj3), .unset, .unset, .unset, .unset, .unset, .unset, .unset, .unset, .unset, .unset, .unset, .unset, .unset, .unset, .unset, .unset] [(.int (1 : Int32))])) _
        refine XS.goto X4.here hx rfl (pc0 := 20) (pc' := 24) rfl (hb hby at_20) (by decide) (by decide) ?_
        exact k
      have qj0 : oj9 = (1 : Int32) := Eq.trans d_oj9 (if_neg (own_nt hc8))
      refine ⟨T4, _, X4, N4, e4, fun t k => pre12 _ ?_⟩
      rw [qj0] at k
      exact k
  have pre13 : ∀ t, Steps p.tables e below (T10.setTop (mkF m 29 #[.val (.int x0), .val (.long x1), .second, .val (.long x2), .second, .val (.int x3), .val (.int oj3), .val (.int oj9), .unset, .unset, .unset, .unset, .unset, .unset, .unset, .unset, .unset, .unset, .unset, .unset, .unset, .unset, .unset] [(.int (x0 &&& (4 : Int32)))])) t → Steps p.tables e below (s₁.setTop (entryFrame m #[(.int x0), (.long x1), (.long x2), (.int x3)] maxLocals)) t := by
    intro t k
    refine pre10 _ ?_
    show Steps p.tables e below (T10.setTop (mkF m 24 #[.val (.int x0), .val (.long x1), .second, .val (.long x2), .second, .val (.int x3), .val (.int oj3), .unset, .unset, .unset, .unset, .unset, .unset, .unset, .unset, .unset, .unset, .unset, .unset, .unset, .unset, .unset, .unset] [(.int oj9)])) _
    refine XS.istore X10.here hx rfl (hb hby at_24) rfl (l' := #[.val (.int x0), .val (.long x1), .second, .val (.long x2), .second, .val (.int x3), .val (.int oj3), .val (.int oj9), .unset, .unset, .unset, .unset, .unset, .unset, .unset, .unset, .unset, .unset, .unset, .unset, .unset, .unset, .unset]) rfl ?_
    show Steps p.tables e below (T10.setTop (mkF m 26 #[.val (.int x0), .val (.long x1), .second, .val (.long x2), .second, .val (.int x3), .val (.int oj3), .val (.int oj9), .unset, .unset, .unset, .unset, .unset, .unset, .unset, .unset, .unset, .unset, .unset, .unset, .unset, .unset, .unset] [])) _
    refine XS.iloadN X10.here hx rfl (hb hby at_26) rfl ?_
    show Steps p.tables e below (T10.setTop (mkF m 27 #[.val (.int x0), .val (.long x1), .second, .val (.long x2), .second, .val (.int x3), .val (.int oj3), .val (.int oj9), .unset, .unset, .unset, .unset, .unset, .unset, .unset, .unset, .unset, .unset, .unset, .unset, .unset, .unset, .unset] [(.int x0)])) _
    refine XS.iconst X10.here hx rfl (hb hby at_27) ?_
    show Steps p.tables e below (T10.setTop (mkF m 28 #[.val (.int x0), .val (.long x1), .second, .val (.long x2), .second, .val (.int x3), .val (.int oj3), .val (.int oj9), .unset, .unset, .unset, .unset, .unset, .unset, .unset, .unset, .unset, .unset, .unset, .unset, .unset, .unset, .unset] [(.int (4 : Int32)), (.int x0)])) _
    refine XS.iand X10.here hx rfl (hb hby at_28) rfl ?_
    exact k
  obtain ⟨T16, L16, X16, N16, e16, pre16⟩ : ∃ (T' : State) (L' : List Loc), Stand p l e room_1 s m #[(.int x0), (.long x1), (.long x2), (.int x3)] below meth c T' L' 0 0 ∧ Fr n0 L' ∧ T'.heap = h0 ∧ ∀ t, Steps p.tables e below (T'.setTop (mkF m 43 #[.val (.int x0), .val (.long x1), .second, .val (.long x2), .second, .val (.int x3), .val (.int oj3), .val (.int oj9), .unset, .unset, .unset, .unset, .unset, .unset, .unset, .unset, .unset, .unset, .unset, .unset, .unset, .unset, .unset] [(.int oj15)])) t → Steps p.tables e below (s₁.setTop (entryFrame m #[(.int x0), (.long x1), (.long x2), (.int x3)] maxLocals)) t := by
    rcases Bool.eq_false_or_eq_true (ifCond.holds .eq (x0 &&& (4 : Int32))) with hc14 | hc14
    · have pre17 : ∀ t, Steps p.tables e below (T10.setTop (mkF m 43 #[.val (.int x0), .val (.long x1), .second, .val (.long x2), .second, .val (.int x3), .val (.int oj3), .val (.int oj9), .unset, .unset, .unset, .unset, .unset, .unset, .unset, .unset, .unset, .unset, .unset, .unset, .unset, .unset, .unset] [(.int (x3 % (2100 : Int32)))])) t → Steps p.tables e below (s₁.setTop (entryFrame m #[(.int x0), (.long x1), (.long x2), (.int x3)] maxLocals)) t := by
        intro t k
        refine pre13 _ ?_
        show Steps p.tables e below (T10.setTop (mkF m 29 #[.val (.int x0), .val (.long x1), .second, .val (.long x2), .second, .val (.int x3), .val (.int oj3), .val (.int oj9), .unset, .unset, .unset, .unset, .unset, .unset, .unset, .unset, .unset, .unset, .unset, .unset, .unset, .unset, .unset] [(.int (x0 &&& (4 : Int32)))])) _
        refine XS.ifYes X10.here hx rfl (pc0 := 29) (pc' := 37) rfl (hb hby at_29) rfl hc14 (by decide) (by decide) ?_
        show Steps p.tables e below (T10.setTop (mkF m 37 #[.val (.int x0), .val (.long x1), .second, .val (.long x2), .second, .val (.int x3), .val (.int oj3), .val (.int oj9), .unset, .unset, .unset, .unset, .unset, .unset, .unset, .unset, .unset, .unset, .unset, .unset, .unset, .unset, .unset] [])) _
        refine XS.iload X10.here hx rfl (hb hby at_37) rfl ?_
        show Steps p.tables e below (T10.setTop (mkF m 39 #[.val (.int x0), .val (.long x1), .second, .val (.long x2), .second, .val (.int x3), .val (.int oj3), .val (.int oj9), .unset, .unset, .unset, .unset, .unset, .unset, .unset, .unset, .unset, .unset, .unset, .unset, .unset, .unset, .unset] [(.int x3)])) _
        refine XS.sipush X10.here hx rfl (hb hby at_39) ?_
        show Steps p.tables e below (T10.setTop (mkF m 42 #[.val (.int x0), .val (.long x1), .second, .val (.long x2), .second, .val (.int x3), .val (.int oj3), .val (.int oj9), .unset, .unset, .unset, .unset, .unset, .unset, .unset, .unset, .unset, .unset, .unset, .unset, .unset, .unset, .unset] [(.int (2100 : Int32)), (.int x3)])) _
        refine iremM X10 hx rfl (hb hby at_42) rfl (by decide) ?_
        exact k
      have qj0 : oj15 = (x3 % (2100 : Int32)) := Eq.trans d_oj15 (if_pos hc14)
      refine ⟨T10, _, X10, N10, e10, fun t k => pre17 _ ?_⟩
      rw [qj0] at k
      exact k
    · have pre18 : ∀ t, Steps p.tables e below (T10.setTop (mkF m 43 #[.val (.int x0), .val (.long x1), .second, .val (.long x2), .second, .val (.int x3), .val (.int oj3), .val (.int oj9), .unset, .unset, .unset, .unset, .unset, .unset, .unset, .unset, .unset, .unset, .unset, .unset, .unset, .unset, .unset] [(.int x3)])) t → Steps p.tables e below (s₁.setTop (entryFrame m #[(.int x0), (.long x1), (.long x2), (.int x3)] maxLocals)) t := by
        intro t k
        refine pre13 _ ?_
        show Steps p.tables e below (T10.setTop (mkF m 29 #[.val (.int x0), .val (.long x1), .second, .val (.long x2), .second, .val (.int x3), .val (.int oj3), .val (.int oj9), .unset, .unset, .unset, .unset, .unset, .unset, .unset, .unset, .unset, .unset, .unset, .unset, .unset, .unset, .unset] [(.int (x0 &&& (4 : Int32)))])) _
        refine XS.ifNo X10.here hx rfl (hb hby at_29) rfl hc14 ?_
        show Steps p.tables e below (T10.setTop (mkF m 32 #[.val (.int x0), .val (.long x1), .second, .val (.long x2), .second, .val (.int x3), .val (.int oj3), .val (.int oj9), .unset, .unset, .unset, .unset, .unset, .unset, .unset, .unset, .unset, .unset, .unset, .unset, .unset, .unset, .unset] [])) _
        refine XS.iload X10.here hx rfl (hb hby at_32) rfl ?_
        show Steps p.tables e below (T10.setTop (mkF m 34 #[.val (.int x0), .val (.long x1), .second, .val (.long x2), .second, .val (.int x3), .val (.int oj3), .val (.int oj9), .unset, .unset, .unset, .unset, .unset, .unset, .unset, .unset, .unset, .unset, .unset, .unset, .unset, .unset, .unset] [(.int x3)])) _
        refine XS.goto X10.here hx rfl (pc0 := 34) (pc' := 43) rfl (hb hby at_34) (by decide) (by decide) ?_
        exact k
      have qj0 : oj15 = x3 := Eq.trans d_oj15 (if_neg (own_nt hc14))
      refine ⟨T10, _, X10, N10, e10, fun t k => pre18 _ ?_⟩
      rw [qj0] at k
      exact k
  obtain ⟨T23, h23, X23, e23, E23, A23, D23, -, st23⟩ := newO X16 hx hZ hown (hw _ (List.mem_of_getElem? (i := 1) rfl)) (hw _ (List.mem_of_getElem? (i := 2) rfl)) (hw _ (List.mem_of_getElem? (i := 3) rfl)) e16 (g := (mkF m 79 #[.val (.int x0), .val (.long x1), .second, .val (.long x2), .second, .val (.int x3), .val (.int oj3), .val (.int oj9), .val (.int oj15), .val (.long ov19), .second, .val (.long ov20), .second, .val (.long ov21), .second, .val (.long ov22), .second, .unset, .unset, .unset, .unset, .unset, .unset] [])) rfl (hb hby at_79) (by decide) (by decide)
  obtain ⟨b23, gg23⟩ : ∃ z, z = h0.size := ⟨_, rfl⟩
  rw [← gg23] at A23 D23 st23
  have g_b23 : n0 ≤ b23 := Nat.le_trans Z0 (Nat.le_of_eq gg23.symm)
  have Z23 : n0 ≤ h23.size := Nat.le_trans Z0 E23.1
  have P24 : Fld Z h23 b23 "dev/stratumaudio/SideInformation" "scfsi" "[[Z" .null := D23 (Or.inr (hw _ (List.mem_of_getElem? (i := 14) rfl))) (ty := (.array (.array .boolean))) (by decide)
  have P25 : Fld Z h23 b23 "dev/stratumaudio/SideInformation" "granules" "[[Ldev/stratumaudio/SideInformation$Granule;" .null := D23 (Or.inr (hw _ (List.mem_of_getElem? (i := 33) rfl))) (ty := (.array (.array (.object "dev/stratumaudio/SideInformation$Granule")))) (by decide)
  have P26 : Fld Z h23 b23 "dev/stratumaudio/SideInformation" "granuleCount" "I" (.int (0 : Int32)) := D23 (Or.inl (hw _ (List.mem_of_getElem? (i := 35) rfl))) (ty := .int) (by decide)
  have P27 : Fld Z h23 b23 "dev/stratumaudio/SideInformation" "channelCount" "I" (.int (0 : Int32)) := D23 (Or.inl (hw _ (List.mem_of_getElem? (i := 37) rfl))) (ty := .int) (by decide)
  obtain ⟨_, _, ⟨T28, L28, k28, n28⟩, -, X28, ⟨Lc28, hQ28, l28, y28, z28⟩, st28⟩ := X23.specialBack hx (y := (⟨"dev/stratumaudio/SideInformation", "<init>", "()V"⟩ : MethodName)) rfl hown (mvT hZ (hw _ (List.mem_of_getElem? (i := 4) rfl))) (mvT hZ (hw _ (List.mem_of_getElem? (i := 5) rfl))) (mvT hZ (hw _ (List.mem_of_getElem? (i := 6) rfl))) (by decide) (backOf (W := 1) (rm1 l Z a0 hw [] b23 (.int (0 : Int32)) (.int (0 : Int32)) .null .null h23 n0 Z23 P26 P27 A23 g_b23 P24 P25) hZ (hw _ (List.mem_of_getElem? (i := 6) rfl)) (hw _ (List.mem_of_getElem? (i := 3) rfl)) (by decide) (by decide)) (g := (mkF m 83 #[.val (.int x0), .val (.long x1), .second, .val (.long x2), .second, .val (.int x3), .val (.int oj3), .val (.int oj9), .val (.int oj15), .val (.long ov19), .second, .val (.long ov20), .second, .val (.long ov21), .second, .val (.long ov22), .second, .unset, .unset, .unset, .unset, .unset, .unset] [(.ref b23), (.ref b23)])) rfl (by rw [hml]; rfl) (Steps.refl _) (a := b23) (argsL := []) (rest := [(.ref b23)]) (lenOf pd_0 rfl) rfl (by show 2 * 0 + _ ≤ _; exact Nat.le_of_eq rfl) (hb hby at_83) (fun _ _ => ⟨rfl, e23, (by decide : 1 + 18 ≤ _), (by decide : 8 + 96 ≤ _)⟩)
  dsimp only [Pt.U, Pt.locs, Pt.cells, Pt.slots] at X28 l28 y28 z28 st28 hQ28
  subst l28 y28 z28
  obtain ⟨b28_0, b28_1, b28_2, b28_3, b28_4, b28_5, b28_6, k28_0, k28_1, k28_2, rfl, Nq28, Kq28, sq_b28_0, sq_b28_1, sq_b28_2, sq_b28_3, sq_b28_4, sq_b28_5, sq_b28_6, ne_b23_b28_0, ne_b23_b28_1, ne_b23_b28_2, ne_b23_b28_3, ne_b23_b28_4, ne_b23_b28_5, ne_b23_b28_6, ne_b28_0_b28_1, ne_b28_0_b28_2, ne_b28_0_b28_3, ne_b28_0_b28_4, ne_b28_0_b28_5, ne_b28_0_b28_6, ne_b28_1_b28_2, ne_b28_1_b28_3, ne_b28_1_b28_4, ne_b28_1_b28_5, ne_b28_1_b28_6, ne_b28_2_b28_3, ne_b28_2_b28_4, ne_b28_2_b28_5, ne_b28_2_b28_6, ne_b28_3_b28_4, ne_b28_3_b28_5, ne_b28_3_b28_6, ne_b28_4_b28_5, ne_b28_4_b28_6, ne_b28_5_b28_6, G28_0, G28_1, G28_2, G28_3, G28_4, G28_5, G28_6, G28_7, G28_8, G28_9, G28_10, G28_11, G28_12, G28_13, G28_14, G28_15, G28_16, G28_17, G28_18, G28_19, G28_20, G28_21, G28_22, G28_23, G28_24, G28_25, G28_26, G28_27, G28_28, G28_29⟩ := hQ28
  obtain ⟨h28, e28⟩ : ∃ z, T28.heap = z := ⟨_, rfl⟩
  rw [e28] at Kq28 G28_0 G28_1 G28_2 G28_3 G28_4 G28_5 G28_6 G28_7 G28_8 G28_9 G28_10 G28_11 G28_12 G28_13 G28_14 G28_15 G28_16 G28_17 G28_18 G28_19 G28_20 G28_21 G28_22 G28_23 G28_24 G28_25 G28_26 G28_27 G28_28 G28_29
  have N28 := Fr.app N16 Nq28
  have ne_b23_b28_0 : b23 ≠ b28_0 := Nat.ne_of_lt (Nat.lt_of_lt_of_le A23.lt sq_b28_0)
  have g_b28_0 : n0 ≤ b28_0 := Nat.le_trans Z23 sq_b28_0
  have ne_b23_b28_1 : b23 ≠ b28_1 := Nat.ne_of_lt (Nat.lt_of_lt_of_le A23.lt sq_b28_1)
  have g_b28_1 : n0 ≤ b28_1 := Nat.le_trans Z23 sq_b28_1
  have ne_b23_b28_2 : b23 ≠ b28_2 := Nat.ne_of_lt (Nat.lt_of_lt_of_le A23.lt sq_b28_2)
  have g_b28_2 : n0 ≤ b28_2 := Nat.le_trans Z23 sq_b28_2
  have ne_b23_b28_3 : b23 ≠ b28_3 := Nat.ne_of_lt (Nat.lt_of_lt_of_le A23.lt sq_b28_3)
  have g_b28_3 : n0 ≤ b28_3 := Nat.le_trans Z23 sq_b28_3
  have ne_b23_b28_4 : b23 ≠ b28_4 := Nat.ne_of_lt (Nat.lt_of_lt_of_le A23.lt sq_b28_4)
  have g_b28_4 : n0 ≤ b28_4 := Nat.le_trans Z23 sq_b28_4
  have ne_b23_b28_5 : b23 ≠ b28_5 := Nat.ne_of_lt (Nat.lt_of_lt_of_le A23.lt sq_b28_5)
  have g_b28_5 : n0 ≤ b28_5 := Nat.le_trans Z23 sq_b28_5
  have ne_b23_b28_6 : b23 ≠ b28_6 := Nat.ne_of_lt (Nat.lt_of_lt_of_le A23.lt sq_b28_6)
  have g_b28_6 : n0 ≤ b28_6 := Nat.le_trans Z23 sq_b28_6
  have Z28 : n0 ≤ h28.size := Nat.le_trans Z23 Kq28.1
  have P29 := A23.keep Kq28
  have pre30 : ∀ t, Steps p.tables e below (T28.setTop (mkF m 92 #[.val (.int x0), .val (.long x1), .second, .val (.long x2), .second, .val (.int x3), .val (.int oj3), .val (.int oj9), .val (.int oj15), .val (.long ov19), .second, .val (.long ov20), .second, .val (.long ov21), .second, .val (.long ov22), .second, .val (.ref b23), .unset, .unset, .unset, .unset, .unset] [(.int oj3), (.ref b23)])) t → Steps p.tables e below (s₁.setTop (entryFrame m #[(.int x0), (.long x1), (.long x2), (.int x3)] maxLocals)) t := by
    intro t k
    refine pre16 _ ?_
    show Steps p.tables e below (T16.setTop (mkF m 43 #[.val (.int x0), .val (.long x1), .second, .val (.long x2), .second, .val (.int x3), .val (.int oj3), .val (.int oj9), .unset, .unset, .unset, .unset, .unset, .unset, .unset, .unset, .unset, .unset, .unset, .unset, .unset, .unset, .unset] [(.int oj15)])) _
    refine XS.istore X16.here hx rfl (hb hby at_43) rfl (l' := #[.val (.int x0), .val (.long x1), .second, .val (.long x2), .second, .val (.int x3), .val (.int oj3), .val (.int oj9), .val (.int oj15), .unset, .unset, .unset, .unset, .unset, .unset, .unset, .unset, .unset, .unset, .unset, .unset, .unset, .unset]) rfl ?_
    show Steps p.tables e below (T16.setTop (mkF m 45 #[.val (.int x0), .val (.long x1), .second, .val (.long x2), .second, .val (.int x3), .val (.int oj3), .val (.int oj9), .val (.int oj15), .unset, .unset, .unset, .unset, .unset, .unset, .unset, .unset, .unset, .unset, .unset, .unset, .unset, .unset] [])) _
    refine XS.lloadN X16.here hx rfl (hb hby at_45) rfl ?_
    show Steps p.tables e below (T16.setTop (mkF m 46 #[.val (.int x0), .val (.long x1), .second, .val (.long x2), .second, .val (.int x3), .val (.int oj3), .val (.int oj9), .val (.int oj15), .unset, .unset, .unset, .unset, .unset, .unset, .unset, .unset, .unset, .unset, .unset, .unset, .unset, .unset] [(.long x1)])) _
    refine X16.ldc2Long hx hown (mvT hZ (hw _ (List.mem_of_getElem? (i := 0) rfl))) (g := (mkF m 46 #[.val (.int x0), .val (.long x1), .second, .val (.long x2), .second, .val (.int x3), .val (.int oj3), .val (.int oj9), .val (.int oj15), .unset, .unset, .unset, .unset, .unset, .unset, .unset, .unset, .unset, .unset, .unset, .unset, .unset, .unset] [(.long x1)])) rfl (hb hby at_46) _ ?_
    show Steps p.tables e below (T16.setTop (mkF m 49 #[.val (.int x0), .val (.long x1), .second, .val (.long x2), .second, .val (.int x3), .val (.int oj3), .val (.int oj9), .val (.int oj15), .unset, .unset, .unset, .unset, .unset, .unset, .unset, .unset, .unset, .unset, .unset, .unset, .unset, .unset] [(.long (268435455 : Int64)), (.long x1)])) _
    refine XS.land X16.here hx rfl (hb hby at_49) rfl ?_
    show Steps p.tables e below (T16.setTop (mkF m 50 #[.val (.int x0), .val (.long x1), .second, .val (.long x2), .second, .val (.int x3), .val (.int oj3), .val (.int oj9), .val (.int oj15), .unset, .unset, .unset, .unset, .unset, .unset, .unset, .unset, .unset, .unset, .unset, .unset, .unset, .unset] [(.long (x1 &&& (268435455 : Int64)))])) _
    rw [← d_ov19]
    refine XS.lstore X16.here hx rfl (hb hby at_50) rfl (l' := #[.val (.int x0), .val (.long x1), .second, .val (.long x2), .second, .val (.int x3), .val (.int oj3), .val (.int oj9), .val (.int oj15), .val (.long ov19), .second, .unset, .unset, .unset, .unset, .unset, .unset, .unset, .unset, .unset, .unset, .unset, .unset]) rfl ?_
    show Steps p.tables e below (T16.setTop (mkF m 52 #[.val (.int x0), .val (.long x1), .second, .val (.long x2), .second, .val (.int x3), .val (.int oj3), .val (.int oj9), .val (.int oj15), .val (.long ov19), .second, .unset, .unset, .unset, .unset, .unset, .unset, .unset, .unset, .unset, .unset, .unset, .unset] [])) _
    refine XS.lloadN X16.here hx rfl (hb hby at_52) rfl ?_
    show Steps p.tables e below (T16.setTop (mkF m 53 #[.val (.int x0), .val (.long x1), .second, .val (.long x2), .second, .val (.int x3), .val (.int oj3), .val (.int oj9), .val (.int oj15), .val (.long ov19), .second, .unset, .unset, .unset, .unset, .unset, .unset, .unset, .unset, .unset, .unset, .unset, .unset] [(.long x1)])) _
    refine XS.bipush X16.here hx rfl (hb hby at_53) ?_
    show Steps p.tables e below (T16.setTop (mkF m 55 #[.val (.int x0), .val (.long x1), .second, .val (.long x2), .second, .val (.int x3), .val (.int oj3), .val (.int oj9), .val (.int oj15), .val (.long ov19), .second, .unset, .unset, .unset, .unset, .unset, .unset, .unset, .unset, .unset, .unset, .unset, .unset] [(.int (28 : Int32)), (.long x1)])) _
    refine own_xlushr X16.here hx rfl (hb hby at_55) rfl ?_
    show Steps p.tables e below (T16.setTop (mkF m 56 #[.val (.int x0), .val (.long x1), .second, .val (.long x2), .second, .val (.int x3), .val (.int oj3), .val (.int oj9), .val (.int oj15), .val (.long ov19), .second, .unset, .unset, .unset, .unset, .unset, .unset, .unset, .unset, .unset, .unset, .unset, .unset] [(.long (own_lushr x1 (28 : Int32)))])) _
    refine X16.ldc2Long hx hown (mvT hZ (hw _ (List.mem_of_getElem? (i := 0) rfl))) (g := (mkF m 56 #[.val (.int x0), .val (.long x1), .second, .val (.long x2), .second, .val (.int x3), .val (.int oj3), .val (.int oj9), .val (.int oj15), .val (.long ov19), .second, .unset, .unset, .unset, .unset, .unset, .unset, .unset, .unset, .unset, .unset, .unset, .unset] [(.long (own_lushr x1 (28 : Int32)))])) rfl (hb hby at_56) _ ?_
    show Steps p.tables e below (T16.setTop (mkF m 59 #[.val (.int x0), .val (.long x1), .second, .val (.long x2), .second, .val (.int x3), .val (.int oj3), .val (.int oj9), .val (.int oj15), .val (.long ov19), .second, .unset, .unset, .unset, .unset, .unset, .unset, .unset, .unset, .unset, .unset, .unset, .unset] [(.long (268435455 : Int64)), (.long (own_lushr x1 (28 : Int32)))])) _
    refine XS.land X16.here hx rfl (hb hby at_59) rfl ?_
    show Steps p.tables e below (T16.setTop (mkF m 60 #[.val (.int x0), .val (.long x1), .second, .val (.long x2), .second, .val (.int x3), .val (.int oj3), .val (.int oj9), .val (.int oj15), .val (.long ov19), .second, .unset, .unset, .unset, .unset, .unset, .unset, .unset, .unset, .unset, .unset, .unset, .unset] [(.long ((own_lushr x1 (28 : Int32)) &&& (268435455 : Int64)))])) _
    rw [← d_ov20]
    refine XS.lstore X16.here hx rfl (hb hby at_60) rfl (l' := #[.val (.int x0), .val (.long x1), .second, .val (.long x2), .second, .val (.int x3), .val (.int oj3), .val (.int oj9), .val (.int oj15), .val (.long ov19), .second, .val (.long ov20), .second, .unset, .unset, .unset, .unset, .unset, .unset, .unset, .unset, .unset, .unset]) rfl ?_
    show Steps p.tables e below (T16.setTop (mkF m 62 #[.val (.int x0), .val (.long x1), .second, .val (.long x2), .second, .val (.int x3), .val (.int oj3), .val (.int oj9), .val (.int oj15), .val (.long ov19), .second, .val (.long ov20), .second, .unset, .unset, .unset, .unset, .unset, .unset, .unset, .unset, .unset, .unset] [])) _
    refine XS.lloadN X16.here hx rfl (hb hby at_62) rfl ?_
    show Steps p.tables e below (T16.setTop (mkF m 63 #[.val (.int x0), .val (.long x1), .second, .val (.long x2), .second, .val (.int x3), .val (.int oj3), .val (.int oj9), .val (.int oj15), .val (.long ov19), .second, .val (.long ov20), .second, .unset, .unset, .unset, .unset, .unset, .unset, .unset, .unset, .unset, .unset] [(.long x2)])) _
    refine X16.ldc2Long hx hown (mvT hZ (hw _ (List.mem_of_getElem? (i := 0) rfl))) (g := (mkF m 63 #[.val (.int x0), .val (.long x1), .second, .val (.long x2), .second, .val (.int x3), .val (.int oj3), .val (.int oj9), .val (.int oj15), .val (.long ov19), .second, .val (.long ov20), .second, .unset, .unset, .unset, .unset, .unset, .unset, .unset, .unset, .unset, .unset] [(.long x2)])) rfl (hb hby at_63) _ ?_
    show Steps p.tables e below (T16.setTop (mkF m 66 #[.val (.int x0), .val (.long x1), .second, .val (.long x2), .second, .val (.int x3), .val (.int oj3), .val (.int oj9), .val (.int oj15), .val (.long ov19), .second, .val (.long ov20), .second, .unset, .unset, .unset, .unset, .unset, .unset, .unset, .unset, .unset, .unset] [(.long (268435455 : Int64)), (.long x2)])) _
    refine XS.land X16.here hx rfl (hb hby at_66) rfl ?_
    show Steps p.tables e below (T16.setTop (mkF m 67 #[.val (.int x0), .val (.long x1), .second, .val (.long x2), .second, .val (.int x3), .val (.int oj3), .val (.int oj9), .val (.int oj15), .val (.long ov19), .second, .val (.long ov20), .second, .unset, .unset, .unset, .unset, .unset, .unset, .unset, .unset, .unset, .unset] [(.long (x2 &&& (268435455 : Int64)))])) _
    rw [← d_ov21]
    refine XS.lstore X16.here hx rfl (hb hby at_67) rfl (l' := #[.val (.int x0), .val (.long x1), .second, .val (.long x2), .second, .val (.int x3), .val (.int oj3), .val (.int oj9), .val (.int oj15), .val (.long ov19), .second, .val (.long ov20), .second, .val (.long ov21), .second, .unset, .unset, .unset, .unset, .unset, .unset, .unset, .unset]) rfl ?_
    show Steps p.tables e below (T16.setTop (mkF m 69 #[.val (.int x0), .val (.long x1), .second, .val (.long x2), .second, .val (.int x3), .val (.int oj3), .val (.int oj9), .val (.int oj15), .val (.long ov19), .second, .val (.long ov20), .second, .val (.long ov21), .second, .unset, .unset, .unset, .unset, .unset, .unset, .unset, .unset] [])) _
    refine XS.lloadN X16.here hx rfl (hb hby at_69) rfl ?_
    show Steps p.tables e below (T16.setTop (mkF m 70 #[.val (.int x0), .val (.long x1), .second, .val (.long x2), .second, .val (.int x3), .val (.int oj3), .val (.int oj9), .val (.int oj15), .val (.long ov19), .second, .val (.long ov20), .second, .val (.long ov21), .second, .unset, .unset, .unset, .unset, .unset, .unset, .unset, .unset] [(.long x2)])) _
    refine XS.bipush X16.here hx rfl (hb hby at_70) ?_
    show Steps p.tables e below (T16.setTop (mkF m 72 #[.val (.int x0), .val (.long x1), .second, .val (.long x2), .second, .val (.int x3), .val (.int oj3), .val (.int oj9), .val (.int oj15), .val (.long ov19), .second, .val (.long ov20), .second, .val (.long ov21), .second, .unset, .unset, .unset, .unset, .unset, .unset, .unset, .unset] [(.int (28 : Int32)), (.long x2)])) _
    refine own_xlushr X16.here hx rfl (hb hby at_72) rfl ?_
    show Steps p.tables e below (T16.setTop (mkF m 73 #[.val (.int x0), .val (.long x1), .second, .val (.long x2), .second, .val (.int x3), .val (.int oj3), .val (.int oj9), .val (.int oj15), .val (.long ov19), .second, .val (.long ov20), .second, .val (.long ov21), .second, .unset, .unset, .unset, .unset, .unset, .unset, .unset, .unset] [(.long (own_lushr x2 (28 : Int32)))])) _
    refine X16.ldc2Long hx hown (mvT hZ (hw _ (List.mem_of_getElem? (i := 0) rfl))) (g := (mkF m 73 #[.val (.int x0), .val (.long x1), .second, .val (.long x2), .second, .val (.int x3), .val (.int oj3), .val (.int oj9), .val (.int oj15), .val (.long ov19), .second, .val (.long ov20), .second, .val (.long ov21), .second, .unset, .unset, .unset, .unset, .unset, .unset, .unset, .unset] [(.long (own_lushr x2 (28 : Int32)))])) rfl (hb hby at_73) _ ?_
    show Steps p.tables e below (T16.setTop (mkF m 76 #[.val (.int x0), .val (.long x1), .second, .val (.long x2), .second, .val (.int x3), .val (.int oj3), .val (.int oj9), .val (.int oj15), .val (.long ov19), .second, .val (.long ov20), .second, .val (.long ov21), .second, .unset, .unset, .unset, .unset, .unset, .unset, .unset, .unset] [(.long (268435455 : Int64)), (.long (own_lushr x2 (28 : Int32)))])) _
    refine XS.land X16.here hx rfl (hb hby at_76) rfl ?_
    show Steps p.tables e below (T16.setTop (mkF m 77 #[.val (.int x0), .val (.long x1), .second, .val (.long x2), .second, .val (.int x3), .val (.int oj3), .val (.int oj9), .val (.int oj15), .val (.long ov19), .second, .val (.long ov20), .second, .val (.long ov21), .second, .unset, .unset, .unset, .unset, .unset, .unset, .unset, .unset] [(.long ((own_lushr x2 (28 : Int32)) &&& (268435455 : Int64)))])) _
    rw [← d_ov22]
    refine XS.lstore X16.here hx rfl (hb hby at_77) rfl (l' := #[.val (.int x0), .val (.long x1), .second, .val (.long x2), .second, .val (.int x3), .val (.int oj3), .val (.int oj9), .val (.int oj15), .val (.long ov19), .second, .val (.long ov20), .second, .val (.long ov21), .second, .val (.long ov22), .second, .unset, .unset, .unset, .unset, .unset, .unset]) rfl ?_
    show Steps p.tables e below (T16.setTop (mkF m 79 #[.val (.int x0), .val (.long x1), .second, .val (.long x2), .second, .val (.int x3), .val (.int oj3), .val (.int oj9), .val (.int oj15), .val (.long ov19), .second, .val (.long ov20), .second, .val (.long ov21), .second, .val (.long ov22), .second, .unset, .unset, .unset, .unset, .unset, .unset] [])) _
    refine st23 _ ?_
    show Steps p.tables e below (T23.setTop (mkF m 82 #[.val (.int x0), .val (.long x1), .second, .val (.long x2), .second, .val (.int x3), .val (.int oj3), .val (.int oj9), .val (.int oj15), .val (.long ov19), .second, .val (.long ov20), .second, .val (.long ov21), .second, .val (.long ov22), .second, .unset, .unset, .unset, .unset, .unset, .unset] [(.ref b23)])) _
    refine XS.dup X23.here hx rfl (hb hby at_82) rfl rfl ?_
    show Steps p.tables e below (T23.setTop (mkF m 83 #[.val (.int x0), .val (.long x1), .second, .val (.long x2), .second, .val (.int x3), .val (.int oj3), .val (.int oj9), .val (.int oj15), .val (.long ov19), .second, .val (.long ov20), .second, .val (.long ov21), .second, .val (.long ov22), .second, .unset, .unset, .unset, .unset, .unset, .unset] [(.ref b23), (.ref b23)])) _
    refine st28.trans ?_
    show Steps p.tables e below (T28.setTop (mkF m 86 #[.val (.int x0), .val (.long x1), .second, .val (.long x2), .second, .val (.int x3), .val (.int oj3), .val (.int oj9), .val (.int oj15), .val (.long ov19), .second, .val (.long ov20), .second, .val (.long ov21), .second, .val (.long ov22), .second, .unset, .unset, .unset, .unset, .unset, .unset] [(.ref b23)])) _
    refine XS.astore X28.here hx rfl (hb hby at_86) rfl rfl (l' := #[.val (.int x0), .val (.long x1), .second, .val (.long x2), .second, .val (.int x3), .val (.int oj3), .val (.int oj9), .val (.int oj15), .val (.long ov19), .second, .val (.long ov20), .second, .val (.long ov21), .second, .val (.long ov22), .second, .val (.ref b23), .unset, .unset, .unset, .unset, .unset]) rfl ?_
    show Steps p.tables e below (T28.setTop (mkF m 88 #[.val (.int x0), .val (.long x1), .second, .val (.long x2), .second, .val (.int x3), .val (.int oj3), .val (.int oj9), .val (.int oj15), .val (.long ov19), .second, .val (.long ov20), .second, .val (.long ov21), .second, .val (.long ov22), .second, .val (.ref b23), .unset, .unset, .unset, .unset, .unset] [])) _
    refine XS.aload X28.here hx rfl (hb hby at_88) rfl rfl ?_
    show Steps p.tables e below (T28.setTop (mkF m 90 #[.val (.int x0), .val (.long x1), .second, .val (.long x2), .second, .val (.int x3), .val (.int oj3), .val (.int oj9), .val (.int oj15), .val (.long ov19), .second, .val (.long ov20), .second, .val (.long ov21), .second, .val (.long ov22), .second, .val (.ref b23), .unset, .unset, .unset, .unset, .unset] [(.ref b23)])) _
    refine XS.iload X28.here hx rfl (hb hby at_90) rfl ?_
    exact k
  obtain ⟨T33, L33, X33, N33, e33, pre33⟩ : ∃ (T' : State) (L' : List Loc), Stand p l e room_1 s m #[(.int x0), (.long x1), (.long x2), (.int x3)] below meth c T' L' 19 104 ∧ Fr n0 L' ∧ T'.heap = h28 ∧ ∀ t, Steps p.tables e below (T'.setTop (mkF m 100 #[.val (.int x0), .val (.long x1), .second, .val (.long x2), .second, .val (.int x3), .val (.int oj3), .val (.int oj9), .val (.int oj15), .val (.long ov19), .second, .val (.long ov20), .second, .val (.long ov21), .second, .val (.long ov22), .second, .val (.ref b23), .unset, .unset, .unset, .unset, .unset] [(.int oj32), (.ref b23)])) t → Steps p.tables e below (s₁.setTop (entryFrame m #[(.int x0), (.long x1), (.long x2), (.int x3)] maxLocals)) t := by
    rcases Bool.eq_false_or_eq_true (ifCond.holds .eq oj3) with hc31 | hc31
    · have pre34 : ∀ t, Steps p.tables e below (T28.setTop (mkF m 100 #[.val (.int x0), .val (.long x1), .second, .val (.long x2), .second, .val (.int x3), .val (.int oj3), .val (.int oj9), .val (.int oj15), .val (.long ov19), .second, .val (.long ov20), .second, .val (.long ov21), .second, .val (.long ov22), .second, .val (.ref b23), .unset, .unset, .unset, .unset, .unset] [(.int (1 : Int32)), (.ref b23)])) t → Steps p.tables e below (s₁.setTop (entryFrame m #[(.int x0), (.long x1), (.long x2), (.int x3)] maxLocals)) t := by
        intro t k
        refine pre30 _ ?_
        show Steps p.tables e below (T28.setTop (mkF m 92 #[.val (.int x0), .val (.long x1), .second, .val (.long x2), .second, .val (.int x3), .val (.int oj3), .val (.int oj9), .val (.int oj15), .val (.long ov19), .second, .val (.long ov20), .second, .val (.long ov21), .second, .val (.long ov22), .second, .val (.ref b23), .unset, .unset, .unset, .unset, .unset] [(.int oj3), (.ref b23)])) _
        refine XS.ifYes X28.here hx rfl (pc0 := 92) (pc' := 99) rfl (hb hby at_92) rfl hc31 (by decide) (by decide) ?_
        show Steps p.tables e below (T28.setTop (mkF m 99 #[.val (.int x0), .val (.long x1), .second, .val (.long x2), .second, .val (.int x3), .val (.int oj3), .val (.int oj9), .val (.int oj15), .val (.long ov19), .second, .val (.long ov20), .second, .val (.long ov21), .second, .val (.long ov22), .second, .val (.ref b23), .unset, .unset, .unset, .unset, .unset] [(.ref b23)])) _
        refine XS.iconst X28.here hx rfl (hb hby at_99) ?_
        exact k
      have qj0 : oj32 = (1 : Int32) := Eq.trans d_oj32 (if_pos hc31)
      refine ⟨T28, _, X28, N28, e28, fun t k => pre34 _ ?_⟩
      rw [qj0] at k
      exact k
    · have pre35 : ∀ t, Steps p.tables e below (T28.setTop (mkF m 100 #[.val (.int x0), .val (.long x1), .second, .val (.long x2), .second, .val (.int x3), .val (.int oj3), .val (.int oj9), .val (.int oj15), .val (.long ov19), .second, .val (.long ov20), .second, .val (.long ov21), .second, .val (.long ov22), .second, .val (.ref b23), .unset, .unset, .unset, .unset, .unset] [(.int (2 : Int32)), (.ref b23)])) t → Steps p.tables e below (s₁.setTop (entryFrame m #[(.int x0), (.long x1), (.long x2), (.int x3)] maxLocals)) t := by
        intro t k
        refine pre30 _ ?_
        show Steps p.tables e below (T28.setTop (mkF m 92 #[.val (.int x0), .val (.long x1), .second, .val (.long x2), .second, .val (.int x3), .val (.int oj3), .val (.int oj9), .val (.int oj15), .val (.long ov19), .second, .val (.long ov20), .second, .val (.long ov21), .second, .val (.long ov22), .second, .val (.ref b23), .unset, .unset, .unset, .unset, .unset] [(.int oj3), (.ref b23)])) _
        refine XS.ifNo X28.here hx rfl (hb hby at_92) rfl hc31 ?_
        show Steps p.tables e below (T28.setTop (mkF m 95 #[.val (.int x0), .val (.long x1), .second, .val (.long x2), .second, .val (.int x3), .val (.int oj3), .val (.int oj9), .val (.int oj15), .val (.long ov19), .second, .val (.long ov20), .second, .val (.long ov21), .second, .val (.long ov22), .second, .val (.ref b23), .unset, .unset, .unset, .unset, .unset] [(.ref b23)])) _
        refine XS.iconst X28.here hx rfl (hb hby at_95) ?_
        show Steps p.tables e below (T28.setTop (mkF m 96 #[.val (.int x0), .val (.long x1), .second, .val (.long x2), .second, .val (.int x3), .val (.int oj3), .val (.int oj9), .val (.int oj15), .val (.long ov19), .second, .val (.long ov20), .second, .val (.long ov21), .second, .val (.long ov22), .second, .val (.ref b23), .unset, .unset, .unset, .unset, .unset] [(.int (2 : Int32)), (.ref b23)])) _
        refine XS.goto X28.here hx rfl (pc0 := 96) (pc' := 100) rfl (hb hby at_96) (by decide) (by decide) ?_
        exact k
      have qj0 : oj32 = (2 : Int32) := Eq.trans d_oj32 (if_neg (own_nt hc31))
      refine ⟨T28, _, X28, N28, e28, fun t k => pre35 _ ?_⟩
      rw [qj0] at k
      exact k
  obtain ⟨T36, h36, X36, e36, W36, st36⟩ := putF X33 hx hZ hown (host := "") (Or.inl (hw _ (List.mem_of_getElem? (i := 34) rfl))) Via.refl e33 G28_0 G28_2 (Or.inl (hw _ (List.mem_of_getElem? (i := 35) rfl))) (hw _ (List.mem_of_getElem? (i := 2) rfl)) (ty := .int) (by decide) rfl rfl (g := (mkF m 100 #[.val (.int x0), .val (.long x1), .second, .val (.long x2), .second, .val (.int x3), .val (.int oj3), .val (.int oj9), .val (.int oj15), .val (.long ov19), .second, .val (.long ov20), .second, .val (.long ov21), .second, .val (.long ov22), .second, .val (.ref b23), .unset, .unset, .unset, .unset, .unset] [(.int oj32), (.ref b23)])) rfl rfl (hb hby at_100)
  have N36 := Fr.snoc X36 N33 g_b23
  have Z36 : n0 ≤ h36.size := Nat.le_trans Z28 (Keep.of_wr W36).1
  have P37 := G28_2.wr W36
  have P38 := G28_0.same W36
  have P39 := G28_1.other W36 (Or.inr (slot_ne (Or.inl (hw _ (List.mem_of_getElem? (i := 37) rfl))) (Or.inl (hw _ (List.mem_of_getElem? (i := 35) rfl))) (by decide) (t := .int) (t' := .int) (by decide) (by decide)))
  have P40 := G28_3.other W36 (Or.inr (slot_ne (Or.inr (hw _ (List.mem_of_getElem? (i := 33) rfl))) (Or.inl (hw _ (List.mem_of_getElem? (i := 35) rfl))) (by decide) (t := (.array (.array (.object "dev/stratumaudio/SideInformation$Granule")))) (t' := .int) (by decide) (by decide)))
  have P41 := G28_4.other W36 (Ne.symm ne_b23_b28_0)
  have P42 := G28_5.wr W36
  have P43 := G28_6.other W36 (Ne.symm ne_b23_b28_1)
  have P44 := G28_7.wr W36
  have P45 := G28_8.wr W36
  have P46 := G28_9.other W36 (Or.inl (Ne.symm ne_b23_b28_3))
  have P47 := G28_10.other W36 (Or.inl (Ne.symm ne_b23_b28_3))
  have P48 := G28_11.other W36 (Or.inl (Ne.symm ne_b23_b28_3))
  have P49 := G28_12.other W36 (Or.inl (Ne.symm ne_b23_b28_3))
  have P50 := G28_13.wr W36
  have P51 := G28_14.other W36 (Or.inl (Ne.symm ne_b23_b28_4))
  have P52 := G28_15.other W36 (Or.inl (Ne.symm ne_b23_b28_4))
  have P53 := G28_16.other W36 (Or.inl (Ne.symm ne_b23_b28_4))
  have P54 := G28_17.other W36 (Or.inl (Ne.symm ne_b23_b28_4))
  have P55 := G28_18.other W36 (Ne.symm ne_b23_b28_2)
  have P56 := G28_19.wr W36
  have P57 := G28_20.wr W36
  have P58 := G28_21.other W36 (Or.inl (Ne.symm ne_b23_b28_5))
  have P59 := G28_22.other W36 (Or.inl (Ne.symm ne_b23_b28_5))
  have P60 := G28_23.other W36 (Or.inl (Ne.symm ne_b23_b28_5))
  have P61 := G28_24.other W36 (Or.inl (Ne.symm ne_b23_b28_5))
  have P62 := G28_25.wr W36
  have P63 := G28_26.other W36 (Or.inl (Ne.symm ne_b23_b28_6))
  have P64 := G28_27.other W36 (Or.inl (Ne.symm ne_b23_b28_6))
  have P65 := G28_28.other W36 (Or.inl (Ne.symm ne_b23_b28_6))
  have P66 := G28_29.other W36 (Or.inl (Ne.symm ne_b23_b28_6))
  have pre67 : ∀ t, Steps p.tables e below (T36.setTop (mkF m 107 #[.val (.int x0), .val (.long x1), .second, .val (.long x2), .second, .val (.int x3), .val (.int oj3), .val (.int oj9), .val (.int oj15), .val (.long ov19), .second, .val (.long ov20), .second, .val (.long ov21), .second, .val (.long ov22), .second, .val (.ref b23), .unset, .unset, .unset, .unset, .unset] [(.int oj9), (.ref b23)])) t → Steps p.tables e below (s₁.setTop (entryFrame m #[(.int x0), (.long x1), (.long x2), (.int x3)] maxLocals)) t := by
    intro t k
    refine pre33 _ ?_
    show Steps p.tables e below (T33.setTop (mkF m 100 #[.val (.int x0), .val (.long x1), .second, .val (.long x2), .second, .val (.int x3), .val (.int oj3), .val (.int oj9), .val (.int oj15), .val (.long ov19), .second, .val (.long ov20), .second, .val (.long ov21), .second, .val (.long ov22), .second, .val (.ref b23), .unset, .unset, .unset, .unset, .unset] [(.int oj32), (.ref b23)])) _
    refine st36 _ ?_
    show Steps p.tables e below (T36.setTop (mkF m 103 #[.val (.int x0), .val (.long x1), .second, .val (.long x2), .second, .val (.int x3), .val (.int oj3), .val (.int oj9), .val (.int oj15), .val (.long ov19), .second, .val (.long ov20), .second, .val (.long ov21), .second, .val (.long ov22), .second, .val (.ref b23), .unset, .unset, .unset, .unset, .unset] [])) _
    refine XS.aload X36.here hx rfl (hb hby at_103) rfl rfl ?_
    show Steps p.tables e below (T36.setTop (mkF m 105 #[.val (.int x0), .val (.long x1), .second, .val (.long x2), .second, .val (.int x3), .val (.int oj3), .val (.int oj9), .val (.int oj15), .val (.long ov19), .second, .val (.long ov20), .second, .val (.long ov21), .second, .val (.long ov22), .second, .val (.ref b23), .unset, .unset, .unset, .unset, .unset] [(.ref b23)])) _
    refine XS.iload X36.here hx rfl (hb hby at_105) rfl ?_
    exact k
  obtain ⟨T70, L70, X70, N70, e70, pre70⟩ : ∃ (T' : State) (L' : List Loc), Stand p l e room_1 s m #[(.int x0), (.long x1), (.long x2), (.int x3)] below meth c T' L' 19 104 ∧ Fr n0 L' ∧ T'.heap = h36 ∧ ∀ t, Steps p.tables e below (T'.setTop (mkF m 115 #[.val (.int x0), .val (.long x1), .second, .val (.long x2), .second, .val (.int x3), .val (.int oj3), .val (.int oj9), .val (.int oj15), .val (.long ov19), .second, .val (.long ov20), .second, .val (.long ov21), .second, .val (.long ov22), .second, .val (.ref b23), .unset, .unset, .unset, .unset, .unset] [(.int oj69), (.ref b23)])) t → Steps p.tables e below (s₁.setTop (entryFrame m #[(.int x0), (.long x1), (.long x2), (.int x3)] maxLocals)) t := by
    rcases Bool.eq_false_or_eq_true (ifCond.holds .eq oj9) with hc68 | hc68
    · have pre71 : ∀ t, Steps p.tables e below (T36.setTop (mkF m 115 #[.val (.int x0), .val (.long x1), .second, .val (.long x2), .second, .val (.int x3), .val (.int oj3), .val (.int oj9), .val (.int oj15), .val (.long ov19), .second, .val (.long ov20), .second, .val (.long ov21), .second, .val (.long ov22), .second, .val (.ref b23), .unset, .unset, .unset, .unset, .unset] [(.int (1 : Int32)), (.ref b23)])) t → Steps p.tables e below (s₁.setTop (entryFrame m #[(.int x0), (.long x1), (.long x2), (.int x3)] maxLocals)) t := by
        intro t k
        refine pre67 _ ?_
        show Steps p.tables e below (T36.setTop (mkF m 107 #[.val (.int x0), .val (.long x1), .second, .val (.long x2), .second, .val (.int x3), .val (.int oj3), .val (.int oj9), .val (.int oj15), .val (.long ov19), .second, .val (.long ov20), .second, .val (.long ov21), .second, .val (.long ov22), .second, .val (.ref b23), .unset, .unset, .unset, .unset, .unset] [(.int oj9), (.ref b23)])) _
        refine XS.ifYes X36.here hx rfl (pc0 := 107) (pc' := 114) rfl (hb hby at_107) rfl hc68 (by decide) (by decide) ?_
        show Steps p.tables e below (T36.setTop (mkF m 114 #[.val (.int x0), .val (.long x1), .second, .val (.long x2), .second, .val (.int x3), .val (.int oj3), .val (.int oj9), .val (.int oj15), .val (.long ov19), .second, .val (.long ov20), .second, .val (.long ov21), .second, .val (.long ov22), .second, .val (.ref b23), .unset, .unset, .unset, .unset, .unset] [(.ref b23)])) _
        refine XS.iconst X36.here hx rfl (hb hby at_114) ?_
        exact k
      have qj0 : oj69 = (1 : Int32) := Eq.trans d_oj69 (if_pos hc68)
      refine ⟨T36, _, X36, N36, e36, fun t k => pre71 _ ?_⟩
      rw [qj0] at k
      exact k
    · have pre72 : ∀ t, Steps p.tables e below (T36.setTop (mkF m 115 #[.val (.int x0), .val (.long x1), .second, .val (.long x2), .second, .val (.int x3), .val (.int oj3), .val (.int oj9), .val (.int oj15), .val (.long ov19), .second, .val (.long ov20), .second, .val (.long ov21), .second, .val (.long ov22), .second, .val (.ref b23), .unset, .unset, .unset, .unset, .unset] [(.int (2 : Int32)), (.ref b23)])) t → Steps p.tables e below (s₁.setTop (entryFrame m #[(.int x0), (.long x1), (.long x2), (.int x3)] maxLocals)) t := by
        intro t k
        refine pre67 _ ?_
        show Steps p.tables e below (T36.setTop (mkF m 107 #[.val (.int x0), .val (.long x1), .second, .val (.long x2), .second, .val (.int x3), .val (.int oj3), .val (.int oj9), .val (.int oj15), .val (.long ov19), .second, .val (.long ov20), .second, .val (.long ov21), .second, .val (.long ov22), .second, .val (.ref b23), .unset, .unset, .unset, .unset, .unset] [(.int oj9), (.ref b23)])) _
        refine XS.ifNo X36.here hx rfl (hb hby at_107) rfl hc68 ?_
        show Steps p.tables e below (T36.setTop (mkF m 110 #[.val (.int x0), .val (.long x1), .second, .val (.long x2), .second, .val (.int x3), .val (.int oj3), .val (.int oj9), .val (.int oj15), .val (.long ov19), .second, .val (.long ov20), .second, .val (.long ov21), .second, .val (.long ov22), .second, .val (.ref b23), .unset, .unset, .unset, .unset, .unset] [(.ref b23)])) _
        refine XS.iconst X36.here hx rfl (hb hby at_110) ?_
        show Steps p.tables e below (T36.setTop (mkF m 111 #[.val (.int x0), .val (.long x1), .second, .val (.long x2), .second, .val (.int x3), .val (.int oj3), .val (.int oj9), .val (.int oj15), .val (.long ov19), .second, .val (.long ov20), .second, .val (.long ov21), .second, .val (.long ov22), .second, .val (.ref b23), .unset, .unset, .unset, .unset, .unset] [(.int (2 : Int32)), (.ref b23)])) _
        refine XS.goto X36.here hx rfl (pc0 := 111) (pc' := 115) rfl (hb hby at_111) (by decide) (by decide) ?_
        exact k
      have qj0 : oj69 = (2 : Int32) := Eq.trans d_oj69 (if_neg (own_nt hc68))
      refine ⟨T36, _, X36, N36, e36, fun t k => pre72 _ ?_⟩
      rw [qj0] at k
      exact k
  obtain ⟨T73, h73, X73, e73, W73, st73⟩ := putF X70 hx hZ hown (host := "") (Or.inl (hw _ (List.mem_of_getElem? (i := 36) rfl))) Via.refl e70 P39 P37 (Or.inl (hw _ (List.mem_of_getElem? (i := 37) rfl))) (hw _ (List.mem_of_getElem? (i := 2) rfl)) (ty := .int) (by decide) rfl rfl (g := (mkF m 115 #[.val (.int x0), .val (.long x1), .second, .val (.long x2), .second, .val (.int x3), .val (.int oj3), .val (.int oj9), .val (.int oj15), .val (.long ov19), .second, .val (.long ov20), .second, .val (.long ov21), .second, .val (.long ov22), .second, .val (.ref b23), .unset, .unset, .unset, .unset, .unset] [(.int oj69), (.ref b23)])) rfl rfl (hb hby at_115)
  have N73 := Fr.snoc X73 N70 g_b23
  have Z73 : n0 ≤ h73.size := Nat.le_trans Z36 (Keep.of_wr W73).1
  have P74 := P37.wr W73
  have P75 := P38.other W73 (Or.inr (slot_ne (Or.inl (hw _ (List.mem_of_getElem? (i := 35) rfl))) (Or.inl (hw _ (List.mem_of_getElem? (i := 37) rfl))) (by decide) (t := .int) (t' := .int) (by decide) (by decide)))
  have P76 := P39.same W73
  have P77 := P40.other W73 (Or.inr (slot_ne (Or.inr (hw _ (List.mem_of_getElem? (i := 33) rfl))) (Or.inl (hw _ (List.mem_of_getElem? (i := 37) rfl))) (by decide) (t := (.array (.array (.object "dev/stratumaudio/SideInformation$Granule")))) (t' := .int) (by decide) (by decide)))
  have P78 := P41.other W73 (Ne.symm ne_b23_b28_0)
  have P79 := P42.wr W73
  have P80 := P43.other W73 (Ne.symm ne_b23_b28_1)
  have P81 := P44.wr W73
  have P82 := P45.wr W73
  have P83 := P46.other W73 (Or.inl (Ne.symm ne_b23_b28_3))
  have P84 := P47.other W73 (Or.inl (Ne.symm ne_b23_b28_3))
  have P85 := P48.other W73 (Or.inl (Ne.symm ne_b23_b28_3))
  have P86 := P49.other W73 (Or.inl (Ne.symm ne_b23_b28_3))
  have P87 := P50.wr W73
  have P88 := P51.other W73 (Or.inl (Ne.symm ne_b23_b28_4))
  have P89 := P52.other W73 (Or.inl (Ne.symm ne_b23_b28_4))
  have P90 := P53.other W73 (Or.inl (Ne.symm ne_b23_b28_4))
  have P91 := P54.other W73 (Or.inl (Ne.symm ne_b23_b28_4))
  have P92 := P55.other W73 (Ne.symm ne_b23_b28_2)
  have P93 := P56.wr W73
  have P94 := P57.wr W73
  have P95 := P58.other W73 (Or.inl (Ne.symm ne_b23_b28_5))
  have P96 := P59.other W73 (Or.inl (Ne.symm ne_b23_b28_5))
  have P97 := P60.other W73 (Or.inl (Ne.symm ne_b23_b28_5))
  have P98 := P61.other W73 (Or.inl (Ne.symm ne_b23_b28_5))
  have P99 := P62.wr W73
  have P100 := P63.other W73 (Or.inl (Ne.symm ne_b23_b28_6))
  have P101 := P64.other W73 (Or.inl (Ne.symm ne_b23_b28_6))
  have P102 := P65.other W73 (Or.inl (Ne.symm ne_b23_b28_6))
  have P103 := P66.other W73 (Or.inl (Ne.symm ne_b23_b28_6))
  obtain ⟨T104, X104, e104, st104⟩ := getF X73 hx hZ hown (host := "") (Or.inl (hw _ (List.mem_of_getElem? (i := 38) rfl))) Via.refl e73 P77 (g := (mkF m 120 #[.val (.int x0), .val (.long x1), .second, .val (.long x2), .second, .val (.int x3), .val (.int oj3), .val (.int oj9), .val (.int oj15), .val (.long ov19), .second, .val (.long ov20), .second, .val (.long ov21), .second, .val (.long ov22), .second, .val (.ref b23), .unset, .unset, .unset, .unset, .unset] [(.ref b23)])) rfl rfl (hb hby at_120)
  have Vc105 := P78
  obtain ⟨cl105, Ar105, q105, S105, NN105, H105, G105⟩ := Vc105
  have hin105 := inb_of (j := (0 : Int32)) S105 ⟨by decide, by decide⟩
  have Vc106 := P80
  obtain ⟨cl106, Ar106, q106, S106, NN106, H106, G106⟩ := Vc106
  have hin106 := inb_of (j := (0 : Int32)) S106 ⟨by decide, by decide⟩
  obtain ⟨_, _, ⟨T107, L107, k107, n107⟩, -, X107, ⟨Lc107, hQ107, l107, y107, z107⟩, st107⟩ := Jvm.LawKit.callS X104 hx (y := (⟨"dev/stratumaudio/SideInformationIsPossiblePinLaw", "put", "(Ldev/stratumaudio/SideInformation$Granule;J)V"⟩ : MethodName)) hown (mvT hZ (hw _ (List.mem_of_getElem? (i := 39) rfl))) (mvT hZ (hw _ (List.mem_of_getElem? (i := 40) rfl))) (mvT hZ (hw _ (List.mem_of_getElem? (i := 41) rfl))) (mvT hZ (hw _ (List.mem_of_getElem? (i := 42) rfl))) (by decide) (backOf (W := 0) (rm4 l Z a0 hw [] b28_3 ov19 (.int (0 : Int32)) (.int (0 : Int32)) (.int (0 : Int32)) (.int (0 : Int32)) h73 n0 Z73 P82 g_b28_3 P83 P84 P85 P86) hZ (hw _ (List.mem_of_getElem? (i := 42) rfl)) (hw _ (List.mem_of_getElem? (i := 41) rfl)) (by decide) (by decide)) (g := (mkF m 129 #[.val (.int x0), .val (.long x1), .second, .val (.long x2), .second, .val (.int x3), .val (.int oj3), .val (.int oj9), .val (.int oj15), .val (.long ov19), .second, .val (.long ov20), .second, .val (.long ov21), .second, .val (.long ov22), .second, .val (.ref b23), .unset, .unset, .unset, .unset, .unset] [(.long ov19), (.ref b28_3)])) rfl (by rw [hml]; rfl) (argsL := [(.ref b28_3), (.long ov19)]) (rest := []) (lenOf pd_1 rfl) rfl (by show 2 * 0 + _ ≤ _; exact Nat.le_of_eq rfl) (hb hby at_129) (fun _ _ => ⟨rfl, e104, (by decide : 19 + 0 ≤ _), (by decide : 104 + 0 ≤ _)⟩)
  dsimp only [Pt.U, Pt.locs, Pt.cells, Pt.slots] at X107 l107 y107 z107 st107 hQ107
  subst l107 y107 z107
  obtain ⟨rfl, Nq107, Kq107, G107_0, G107_1, G107_2, G107_3, G107_4⟩ := hQ107
  obtain ⟨h107, e107⟩ : ∃ z, T107.heap = z := ⟨_, rfl⟩
  rw [e107] at Kq107 G107_0 G107_1 G107_2 G107_3 G107_4
  have N107 := Fr.app N73 Nq107
  have Z107 : n0 ≤ h107.size := Nat.le_trans Z73 Kq107.1
  have P108 := P74.keep Kq107
  have P109 := P75.keep Kq107 (ninS ne_b23_b28_3 nin0)
  have P110 := P76.keep Kq107 (ninS ne_b23_b28_3 nin0)
  have P111 := P77.keep Kq107 (ninS ne_b23_b28_3 nin0)
  have P112 := P78.keep Kq107 (ninS ne_b28_0_b28_3 nin0)
  have P113 := P79.keep Kq107
  have P114 := P80.keep Kq107 (ninS ne_b28_1_b28_3 nin0)
  have P115 := P81.keep Kq107
  have P116 := P82.keep Kq107
  have P117 := P87.keep Kq107
  have P118 := P88.keep Kq107 (ninS (Ne.symm ne_b28_3_b28_4) nin0)
  have P119 := P89.keep Kq107 (ninS (Ne.symm ne_b28_3_b28_4) nin0)
  have P120 := P90.keep Kq107 (ninS (Ne.symm ne_b28_3_b28_4) nin0)
  have P121 := P91.keep Kq107 (ninS (Ne.symm ne_b28_3_b28_4) nin0)
  have P122 := P92.keep Kq107 (ninS ne_b28_2_b28_3 nin0)
  have P123 := P93.keep Kq107
  have P124 := P94.keep Kq107
  have P125 := P95.keep Kq107 (ninS (Ne.symm ne_b28_3_b28_5) nin0)
  have P126 := P96.keep Kq107 (ninS (Ne.symm ne_b28_3_b28_5) nin0)
  have P127 := P97.keep Kq107 (ninS (Ne.symm ne_b28_3_b28_5) nin0)
  have P128 := P98.keep Kq107 (ninS (Ne.symm ne_b28_3_b28_5) nin0)
  have P129 := P99.keep Kq107
  have P130 := P100.keep Kq107 (ninS (Ne.symm ne_b28_3_b28_6) nin0)
  have P131 := P101.keep Kq107 (ninS (Ne.symm ne_b28_3_b28_6) nin0)
  have P132 := P102.keep Kq107 (ninS (Ne.symm ne_b28_3_b28_6) nin0)
  have P133 := P103.keep Kq107 (ninS (Ne.symm ne_b28_3_b28_6) nin0)
  obtain ⟨T134, X134, e134, st134⟩ := getF X107 hx hZ hown (host := "") (Or.inl (hw _ (List.mem_of_getElem? (i := 38) rfl))) Via.refl e107 P111 (g := (mkF m 134 #[.val (.int x0), .val (.long x1), .second, .val (.long x2), .second, .val (.int x3), .val (.int oj3), .val (.int oj9), .val (.int oj15), .val (.long ov19), .second, .val (.long ov20), .second, .val (.long ov21), .second, .val (.long ov22), .second, .val (.ref b23), .unset, .unset, .unset, .unset, .unset] [(.ref b23)])) rfl rfl (hb hby at_134)
  have Vc135 := P112
  obtain ⟨cl135, Ar135, q135, S135, NN135, H135, G135⟩ := Vc135
  have hin135 := inb_of (j := (0 : Int32)) S135 ⟨by decide, by decide⟩
  have Vc136 := P114
  obtain ⟨cl136, Ar136, q136, S136, NN136, H136, G136⟩ := Vc136
  have hin136 := inb_of (j := (1 : Int32)) S136 ⟨by decide, by decide⟩
  obtain ⟨_, _, ⟨T137, L137, k137, n137⟩, -, X137, ⟨Lc137, hQ137, l137, y137, z137⟩, st137⟩ := Jvm.LawKit.callS X134 hx (y := (⟨"dev/stratumaudio/SideInformationIsPossiblePinLaw", "put", "(Ldev/stratumaudio/SideInformation$Granule;J)V"⟩ : MethodName)) hown (mvT hZ (hw _ (List.mem_of_getElem? (i := 39) rfl))) (mvT hZ (hw _ (List.mem_of_getElem? (i := 40) rfl))) (mvT hZ (hw _ (List.mem_of_getElem? (i := 41) rfl))) (mvT hZ (hw _ (List.mem_of_getElem? (i := 42) rfl))) (by decide) (backOf (W := 0) (rm4 l Z a0 hw [] b28_4 ov20 (.int (0 : Int32)) (.int (0 : Int32)) (.int (0 : Int32)) (.int (0 : Int32)) h107 n0 Z107 P117 g_b28_4 P118 P119 P120 P121) hZ (hw _ (List.mem_of_getElem? (i := 42) rfl)) (hw _ (List.mem_of_getElem? (i := 41) rfl)) (by decide) (by decide)) (g := (mkF m 143 #[.val (.int x0), .val (.long x1), .second, .val (.long x2), .second, .val (.int x3), .val (.int oj3), .val (.int oj9), .val (.int oj15), .val (.long ov19), .second, .val (.long ov20), .second, .val (.long ov21), .second, .val (.long ov22), .second, .val (.ref b23), .unset, .unset, .unset, .unset, .unset] [(.long ov20), (.ref b28_4)])) rfl (by rw [hml]; rfl) (argsL := [(.ref b28_4), (.long ov20)]) (rest := []) (lenOf pd_1 rfl) rfl (by show 2 * 0 + _ ≤ _; exact Nat.le_of_eq rfl) (hb hby at_143) (fun _ _ => ⟨rfl, e134, (by decide : 19 + 0 ≤ _), (by decide : 104 + 0 ≤ _)⟩)
  dsimp only [Pt.U, Pt.locs, Pt.cells, Pt.slots] at X137 l137 y137 z137 st137 hQ137
  subst l137 y137 z137
  obtain ⟨rfl, Nq137, Kq137, G137_0, G137_1, G137_2, G137_3, G137_4⟩ := hQ137
  obtain ⟨h137, e137⟩ : ∃ z, T137.heap = z := ⟨_, rfl⟩
  rw [e137] at Kq137 G137_0 G137_1 G137_2 G137_3 G137_4
  have N137 := Fr.app N107 Nq137
  have Z137 : n0 ≤ h137.size := Nat.le_trans Z107 Kq137.1
  have P138 := P108.keep Kq137
  have P139 := P109.keep Kq137 (ninS ne_b23_b28_4 nin0)
  have P140 := P110.keep Kq137 (ninS ne_b23_b28_4 nin0)
  have P141 := P111.keep Kq137 (ninS ne_b23_b28_4 nin0)
  have P142 := P112.keep Kq137 (ninS ne_b28_0_b28_4 nin0)
  have P143 := P113.keep Kq137
  have P144 := P114.keep Kq137 (ninS ne_b28_1_b28_4 nin0)
  have P145 := P115.keep Kq137
  have P146 := G107_0.keep Kq137
  have P147 := P117.keep Kq137
  have P148 := P122.keep Kq137 (ninS ne_b28_2_b28_4 nin0)
  have P149 := P123.keep Kq137
  have P150 := P124.keep Kq137
  have P151 := P125.keep Kq137 (ninS (Ne.symm ne_b28_4_b28_5) nin0)
  have P152 := P126.keep Kq137 (ninS (Ne.symm ne_b28_4_b28_5) nin0)
  have P153 := P127.keep Kq137 (ninS (Ne.symm ne_b28_4_b28_5) nin0)
  have P154 := P128.keep Kq137 (ninS (Ne.symm ne_b28_4_b28_5) nin0)
  have P155 := P129.keep Kq137
  have P156 := P130.keep Kq137 (ninS (Ne.symm ne_b28_4_b28_6) nin0)
  have P157 := P131.keep Kq137 (ninS (Ne.symm ne_b28_4_b28_6) nin0)
  have P158 := P132.keep Kq137 (ninS (Ne.symm ne_b28_4_b28_6) nin0)
  have P159 := P133.keep Kq137 (ninS (Ne.symm ne_b28_4_b28_6) nin0)
  have P160 := G107_1.keep Kq137 (ninS ne_b28_3_b28_4 nin0)
  have P161 := G107_2.keep Kq137 (ninS ne_b28_3_b28_4 nin0)
  have P162 := G107_3.keep Kq137 (ninS ne_b28_3_b28_4 nin0)
  have P163 := G107_4.keep Kq137 (ninS ne_b28_3_b28_4 nin0)
  obtain ⟨T164, X164, e164, st164⟩ := getF X137 hx hZ hown (host := "") (Or.inl (hw _ (List.mem_of_getElem? (i := 38) rfl))) Via.refl e137 P141 (g := (mkF m 148 #[.val (.int x0), .val (.long x1), .second, .val (.long x2), .second, .val (.int x3), .val (.int oj3), .val (.int oj9), .val (.int oj15), .val (.long ov19), .second, .val (.long ov20), .second, .val (.long ov21), .second, .val (.long ov22), .second, .val (.ref b23), .unset, .unset, .unset, .unset, .unset] [(.ref b23)])) rfl rfl (hb hby at_148)
  have Vc165 := P142
  obtain ⟨cl165, Ar165, q165, S165, NN165, H165, G165⟩ := Vc165
  have hin165 := inb_of (j := (1 : Int32)) S165 ⟨by decide, by decide⟩
  have Vc166 := P148
  obtain ⟨cl166, Ar166, q166, S166, NN166, H166, G166⟩ := Vc166
  have hin166 := inb_of (j := (0 : Int32)) S166 ⟨by decide, by decide⟩
  obtain ⟨_, _, ⟨T167, L167, k167, n167⟩, -, X167, ⟨Lc167, hQ167, l167, y167, z167⟩, st167⟩ := Jvm.LawKit.callS X164 hx (y := (⟨"dev/stratumaudio/SideInformationIsPossiblePinLaw", "put", "(Ldev/stratumaudio/SideInformation$Granule;J)V"⟩ : MethodName)) hown (mvT hZ (hw _ (List.mem_of_getElem? (i := 39) rfl))) (mvT hZ (hw _ (List.mem_of_getElem? (i := 40) rfl))) (mvT hZ (hw _ (List.mem_of_getElem? (i := 41) rfl))) (mvT hZ (hw _ (List.mem_of_getElem? (i := 42) rfl))) (by decide) (backOf (W := 0) (rm4 l Z a0 hw [] b28_5 ov21 (.int (0 : Int32)) (.int (0 : Int32)) (.int (0 : Int32)) (.int (0 : Int32)) h137 n0 Z137 P150 g_b28_5 P151 P152 P153 P154) hZ (hw _ (List.mem_of_getElem? (i := 42) rfl)) (hw _ (List.mem_of_getElem? (i := 41) rfl)) (by decide) (by decide)) (g := (mkF m 157 #[.val (.int x0), .val (.long x1), .second, .val (.long x2), .second, .val (.int x3), .val (.int oj3), .val (.int oj9), .val (.int oj15), .val (.long ov19), .second, .val (.long ov20), .second, .val (.long ov21), .second, .val (.long ov22), .second, .val (.ref b23), .unset, .unset, .unset, .unset, .unset] [(.long ov21), (.ref b28_5)])) rfl (by rw [hml]; rfl) (argsL := [(.ref b28_5), (.long ov21)]) (rest := []) (lenOf pd_1 rfl) rfl (by show 2 * 0 + _ ≤ _; exact Nat.le_of_eq rfl) (hb hby at_157) (fun _ _ => ⟨rfl, e164, (by decide : 19 + 0 ≤ _), (by decide : 104 + 0 ≤ _)⟩)
  dsimp only [Pt.U, Pt.locs, Pt.cells, Pt.slots] at X167 l167 y167 z167 st167 hQ167
  subst l167 y167 z167
  obtain ⟨rfl, Nq167, Kq167, G167_0, G167_1, G167_2, G167_3, G167_4⟩ := hQ167
  obtain ⟨h167, e167⟩ : ∃ z, T167.heap = z := ⟨_, rfl⟩
  rw [e167] at Kq167 G167_0 G167_1 G167_2 G167_3 G167_4
  have N167 := Fr.app N137 Nq167
  have Z167 : n0 ≤ h167.size := Nat.le_trans Z137 Kq167.1
  have P168 := P138.keep Kq167
  have P169 := P139.keep Kq167 (ninS ne_b23_b28_5 nin0)
  have P170 := P140.keep Kq167 (ninS ne_b23_b28_5 nin0)
  have P171 := P141.keep Kq167 (ninS ne_b23_b28_5 nin0)
  have P172 := P142.keep Kq167 (ninS ne_b28_0_b28_5 nin0)
  have P173 := P143.keep Kq167
  have P174 := P144.keep Kq167 (ninS ne_b28_1_b28_5 nin0)
  have P175 := P145.keep Kq167
  have P176 := P146.keep Kq167
  have P177 := G137_0.keep Kq167
  have P178 := P148.keep Kq167 (ninS ne_b28_2_b28_5 nin0)
  have P179 := P149.keep Kq167
  have P180 := P150.keep Kq167
  have P181 := P155.keep Kq167
  have P182 := P156.keep Kq167 (ninS (Ne.symm ne_b28_5_b28_6) nin0)
  have P183 := P157.keep Kq167 (ninS (Ne.symm ne_b28_5_b28_6) nin0)
  have P184 := P158.keep Kq167 (ninS (Ne.symm ne_b28_5_b28_6) nin0)
  have P185 := P159.keep Kq167 (ninS (Ne.symm ne_b28_5_b28_6) nin0)
  have P186 := P160.keep Kq167 (ninS ne_b28_3_b28_5 nin0)
  have P187 := P161.keep Kq167 (ninS ne_b28_3_b28_5 nin0)
  have P188 := P162.keep Kq167 (ninS ne_b28_3_b28_5 nin0)
  have P189 := P163.keep Kq167 (ninS ne_b28_3_b28_5 nin0)
  have P190 := G137_1.keep Kq167 (ninS ne_b28_4_b28_5 nin0)
  have P191 := G137_2.keep Kq167 (ninS ne_b28_4_b28_5 nin0)
  have P192 := G137_3.keep Kq167 (ninS ne_b28_4_b28_5 nin0)
  have P193 := G137_4.keep Kq167 (ninS ne_b28_4_b28_5 nin0)
  obtain ⟨T194, X194, e194, st194⟩ := getF X167 hx hZ hown (host := "") (Or.inl (hw _ (List.mem_of_getElem? (i := 38) rfl))) Via.refl e167 P171 (g := (mkF m 162 #[.val (.int x0), .val (.long x1), .second, .val (.long x2), .second, .val (.int x3), .val (.int oj3), .val (.int oj9), .val (.int oj15), .val (.long ov19), .second, .val (.long ov20), .second, .val (.long ov21), .second, .val (.long ov22), .second, .val (.ref b23), .unset, .unset, .unset, .unset, .unset] [(.ref b23)])) rfl rfl (hb hby at_162)
  have Vc195 := P172
  obtain ⟨cl195, Ar195, q195, S195, NN195, H195, G195⟩ := Vc195
  have hin195 := inb_of (j := (1 : Int32)) S195 ⟨by decide, by decide⟩
  have Vc196 := P178
  obtain ⟨cl196, Ar196, q196, S196, NN196, H196, G196⟩ := Vc196
  have hin196 := inb_of (j := (1 : Int32)) S196 ⟨by decide, by decide⟩
  obtain ⟨_, _, ⟨T197, L197, k197, n197⟩, -, X197, ⟨Lc197, hQ197, l197, y197, z197⟩, st197⟩ := Jvm.LawKit.callS X194 hx (y := (⟨"dev/stratumaudio/SideInformationIsPossiblePinLaw", "put", "(Ldev/stratumaudio/SideInformation$Granule;J)V"⟩ : MethodName)) hown (mvT hZ (hw _ (List.mem_of_getElem? (i := 39) rfl))) (mvT hZ (hw _ (List.mem_of_getElem? (i := 40) rfl))) (mvT hZ (hw _ (List.mem_of_getElem? (i := 41) rfl))) (mvT hZ (hw _ (List.mem_of_getElem? (i := 42) rfl))) (by decide) (backOf (W := 0) (rm4 l Z a0 hw [] b28_6 ov22 (.int (0 : Int32)) (.int (0 : Int32)) (.int (0 : Int32)) (.int (0 : Int32)) h167 n0 Z167 P181 g_b28_6 P182 P183 P184 P185) hZ (hw _ (List.mem_of_getElem? (i := 42) rfl)) (hw _ (List.mem_of_getElem? (i := 41) rfl)) (by decide) (by decide)) (g := (mkF m 171 #[.val (.int x0), .val (.long x1), .second, .val (.long x2), .second, .val (.int x3), .val (.int oj3), .val (.int oj9), .val (.int oj15), .val (.long ov19), .second, .val (.long ov20), .second, .val (.long ov21), .second, .val (.long ov22), .second, .val (.ref b23), .unset, .unset, .unset, .unset, .unset] [(.long ov22), (.ref b28_6)])) rfl (by rw [hml]; rfl) (argsL := [(.ref b28_6), (.long ov22)]) (rest := []) (lenOf pd_1 rfl) rfl (by show 2 * 0 + _ ≤ _; exact Nat.le_of_eq rfl) (hb hby at_171) (fun _ _ => ⟨rfl, e194, (by decide : 19 + 0 ≤ _), (by decide : 104 + 0 ≤ _)⟩)
  dsimp only [Pt.U, Pt.locs, Pt.cells, Pt.slots] at X197 l197 y197 z197 st197 hQ197
  subst l197 y197 z197
  obtain ⟨rfl, Nq197, Kq197, G197_0, G197_1, G197_2, G197_3, G197_4⟩ := hQ197
  obtain ⟨h197, e197⟩ : ∃ z, T197.heap = z := ⟨_, rfl⟩
  rw [e197] at Kq197 G197_0 G197_1 G197_2 G197_3 G197_4
  have N197 := Fr.app N167 Nq197
  have Z197 : n0 ≤ h197.size := Nat.le_trans Z167 Kq197.1
  have P198 := P168.keep Kq197
  have P199 := P169.keep Kq197 (ninS ne_b23_b28_6 nin0)
  have P200 := P170.keep Kq197 (ninS ne_b23_b28_6 nin0)
  have P201 := P171.keep Kq197 (ninS ne_b23_b28_6 nin0)
  have P202 := P172.keep Kq197 (ninS ne_b28_0_b28_6 nin0)
  have P203 := P173.keep Kq197
  have P204 := P174.keep Kq197 (ninS ne_b28_1_b28_6 nin0)
  have P205 := P175.keep Kq197
  have P206 := P176.keep Kq197
  have P207 := P177.keep Kq197
  have P208 := P178.keep Kq197 (ninS ne_b28_2_b28_6 nin0)
  have P209 := P179.keep Kq197
  have P210 := G167_0.keep Kq197
  have P211 := P181.keep Kq197
  have P212 := P186.keep Kq197 (ninS ne_b28_3_b28_6 nin0)
  have P213 := P187.keep Kq197 (ninS ne_b28_3_b28_6 nin0)
  have P214 := P188.keep Kq197 (ninS ne_b28_3_b28_6 nin0)
  have P215 := P189.keep Kq197 (ninS ne_b28_3_b28_6 nin0)
  have P216 := P190.keep Kq197 (ninS ne_b28_4_b28_6 nin0)
  have P217 := P191.keep Kq197 (ninS ne_b28_4_b28_6 nin0)
  have P218 := P192.keep Kq197 (ninS ne_b28_4_b28_6 nin0)
  have P219 := P193.keep Kq197 (ninS ne_b28_4_b28_6 nin0)
  have P220 := G167_1.keep Kq197 (ninS ne_b28_5_b28_6 nin0)
  have P221 := G167_2.keep Kq197 (ninS ne_b28_5_b28_6 nin0)
  have P222 := G167_3.keep Kq197 (ninS ne_b28_5_b28_6 nin0)
  have P223 := G167_4.keep Kq197 (ninS ne_b28_5_b28_6 nin0)
  obtain ⟨cq224, kq224, q224a, q224b, q224c⟩ := isOf hZ e197 P198
  obtain ⟨_, _, ⟨T224, L224, k224, n224⟩, -, X224, ⟨Lc224, hQ224, l224, y224, z224⟩, st224⟩ := X197.virtualBack hx (y := (⟨"dev/stratumaudio/SideInformation", "isPossible", "(I)Z"⟩ : MethodName)) (z := (⟨"dev/stratumaudio/SideInformation", "isPossible", "(I)Z"⟩ : MethodName)) hown (mvT hZ (hw _ (List.mem_of_getElem? (i := 55) rfl))) (mvT hZ (hw _ (List.mem_of_getElem? (i := 56) rfl))) (notFace_of_selects (args := #[]) (mvT hZ (hw _ (List.mem_of_getElem? (i := 58) rfl)))) (mvT hZ (hw _ (List.mem_of_getElem? (i := 58) rfl))) (mvT hZ (hw _ (List.mem_of_getElem? (i := 57) rfl))) (by decide) (backOf (W := 0) (rm5 l Z a0 hw [] b23 oj15 oj32 oj69 b28_0 k28_0 b28_1 b28_2 k28_1 b28_3 b28_4 (((own_lushr ov19 (12 : Int32)) &&& (511 : Int64)).toInt32) (((own_lushr ov19 (21 : Int32)) &&& (15 : Int64)).toInt32) (((own_lushr ov19 (25 : Int32)) &&& (7 : Int64)).toInt32) ((ov19 &&& (4095 : Int64)).toInt32) (((own_lushr ov20 (12 : Int32)) &&& (511 : Int64)).toInt32) (((own_lushr ov20 (21 : Int32)) &&& (15 : Int64)).toInt32) (((own_lushr ov20 (25 : Int32)) &&& (7 : Int64)).toInt32) ((ov20 &&& (4095 : Int64)).toInt32) k28_2 b28_5 b28_6 (((own_lushr ov21 (12 : Int32)) &&& (511 : Int64)).toInt32) (((own_lushr ov21 (21 : Int32)) &&& (15 : Int64)).toInt32) (((own_lushr ov21 (25 : Int32)) &&& (7 : Int64)).toInt32) ((ov21 &&& (4095 : Int64)).toInt32) (((own_lushr ov22 (12 : Int32)) &&& (511 : Int64)).toInt32) (((own_lushr ov22 (21 : Int32)) &&& (15 : Int64)).toInt32) (((own_lushr ov22 (25 : Int32)) &&& (7 : Int64)).toInt32) ((ov22 &&& (4095 : Int64)).toInt32) h197 n0 Z197 P199 P200 P201 P202 P204 P213 P214 P215 P212 P217 P218 P219 P216 P208 P221 P222 P223 P220 G197_2 G197_3 G197_4 G197_1 (by rw [h_oj32]; exact own_gc x0 x1 x2 x3) (by rw [h_oj69]; exact own_cc x0 x1 x2 x3)) hZ (hw _ (List.mem_of_getElem? (i := 59) rfl)) (hw _ (List.mem_of_getElem? (i := 3) rfl)) (by decide) (by decide)) q224a q224c (g := (mkF m 178 #[.val (.int x0), .val (.long x1), .second, .val (.long x2), .second, .val (.int x3), .val (.int oj3), .val (.int oj9), .val (.int oj15), .val (.long ov19), .second, .val (.long ov20), .second, .val (.long ov21), .second, .val (.long ov22), .second, .val (.ref b23), .unset, .unset, .unset, .unset, .unset] [(.int oj15), (.ref b23)])) rfl (by rw [hml]; rfl) (Steps.refl _) (argsL := [(.int oj15)]) (rest := []) (lenOf pd_2 rfl) rfl (by show 2 * 0 + _ ≤ _; exact Nat.le_of_eq rfl) (hb hby at_178) (fun _ _ => ⟨rfl, e197, (by decide : 19 + 0 ≤ _), (by decide : 104 + 0 ≤ _)⟩)
  dsimp only [Pt.U, Pt.locs, Pt.cells, Pt.slots] at X224 l224 y224 z224 st224 hQ224
  subst l224 y224 z224
  obtain ⟨rfl, Nq224, e224⟩ := hQ224
  have N224 := Fr.app N197 Nq224
  obtain ⟨_, _, ⟨T226, L226, k226, n226⟩, -, X226, ⟨Lc226, hQ226, l226, y226, z226⟩, st226⟩ := Jvm.LawKit.callS X224 hx (y := (⟨"dev/stratumaudio/SideInformationIsPossiblePinLaw", "ok", "(J)Z"⟩ : MethodName)) hown (mvT hZ (hw _ (List.mem_of_getElem? (i := 67) rfl))) (mvT hZ (hw _ (List.mem_of_getElem? (i := 68) rfl))) (mvT hZ (hw _ (List.mem_of_getElem? (i := 41) rfl))) (mvT hZ (hw _ (List.mem_of_getElem? (i := 69) rfl))) (by decide) (backOf (W := 0) (rm6 l Z a0 hw [] ov19 h197 n0 Z197) hZ (hw _ (List.mem_of_getElem? (i := 69) rfl)) (hw _ (List.mem_of_getElem? (i := 41) rfl)) (by decide) (by decide)) (g := (mkF m 185 #[.val (.int x0), .val (.long x1), .second, .val (.long x2), .second, .val (.int x3), .val (.int oj3), .val (.int oj9), .val (.int oj15), .val (.long ov19), .second, .val (.long ov20), .second, .val (.long ov21), .second, .val (.long ov22), .second, .val (.ref b23), .val (.int ov225), .unset, .unset, .unset, .unset] [(.long ov19)])) rfl (by rw [hml]; rfl) (argsL := [(.long ov19)]) (rest := []) (lenOf pd_3 rfl) rfl (by show 2 * 0 + _ ≤ _; exact Nat.le_of_eq rfl) (hb hby at_185) (fun _ _ => ⟨rfl, e224, (by decide : 19 + 0 ≤ _), (by decide : 104 + 0 ≤ _)⟩)
  dsimp only [Pt.U, Pt.locs, Pt.cells, Pt.slots] at X226 l226 y226 z226 st226 hQ226
  subst l226 y226 z226
  obtain ⟨rfl, Nq226, e226⟩ := hQ226
  have N226 := Fr.app N224 Nq226
  have pre227 : ∀ t, Steps p.tables e below (T226.setTop (mkF m 188 #[.val (.int x0), .val (.long x1), .second, .val (.long x2), .second, .val (.int x3), .val (.int oj3), .val (.int oj9), .val (.int oj15), .val (.long ov19), .second, .val (.long ov20), .second, .val (.long ov21), .second, .val (.long ov22), .second, .val (.ref b23), .val (.int ov225), .unset, .unset, .unset, .unset] [(.int (f6 ov19))])) t → Steps p.tables e below (s₁.setTop (entryFrame m #[(.int x0), (.long x1), (.long x2), (.int x3)] maxLocals)) t := by
    intro t k
    refine pre70 _ ?_
    show Steps p.tables e below (T70.setTop (mkF m 115 #[.val (.int x0), .val (.long x1), .second, .val (.long x2), .second, .val (.int x3), .val (.int oj3), .val (.int oj9), .val (.int oj15), .val (.long ov19), .second, .val (.long ov20), .second, .val (.long ov21), .second, .val (.long ov22), .second, .val (.ref b23), .unset, .unset, .unset, .unset, .unset] [(.int oj69), (.ref b23)])) _
    refine st73 _ ?_
    show Steps p.tables e below (T73.setTop (mkF m 118 #[.val (.int x0), .val (.long x1), .second, .val (.long x2), .second, .val (.int x3), .val (.int oj3), .val (.int oj9), .val (.int oj15), .val (.long ov19), .second, .val (.long ov20), .second, .val (.long ov21), .second, .val (.long ov22), .second, .val (.ref b23), .unset, .unset, .unset, .unset, .unset] [])) _
    refine XS.aload X73.here hx rfl (hb hby at_118) rfl rfl ?_
    show Steps p.tables e below (T73.setTop (mkF m 120 #[.val (.int x0), .val (.long x1), .second, .val (.long x2), .second, .val (.int x3), .val (.int oj3), .val (.int oj9), .val (.int oj15), .val (.long ov19), .second, .val (.long ov20), .second, .val (.long ov21), .second, .val (.long ov22), .second, .val (.ref b23), .unset, .unset, .unset, .unset, .unset] [(.ref b23)])) _
    refine st104 _ ?_
    show Steps p.tables e below (T104.setTop (mkF m 123 #[.val (.int x0), .val (.long x1), .second, .val (.long x2), .second, .val (.int x3), .val (.int oj3), .val (.int oj9), .val (.int oj15), .val (.long ov19), .second, .val (.long ov20), .second, .val (.long ov21), .second, .val (.long ov22), .second, .val (.ref b23), .unset, .unset, .unset, .unset, .unset] [(.ref b28_0)])) _
    refine XS.iconst X104.here hx rfl (hb hby at_123) ?_
    show Steps p.tables e below (T104.setTop (mkF m 124 #[.val (.int x0), .val (.long x1), .second, .val (.long x2), .second, .val (.int x3), .val (.int oj3), .val (.int oj9), .val (.int oj15), .val (.long ov19), .second, .val (.long ov20), .second, .val (.long ov21), .second, .val (.long ov22), .second, .val (.ref b23), .unset, .unset, .unset, .unset, .unset] [(.int (0 : Int32)), (.ref b28_0)])) _
    refine X104.aaload hx (j := (0 : Int32)) (v := (.ref b28_1)) (by rw [e104]; exact Ar105.1) (State.isArrayOf_alike hZ.alike Ar105.2.1) rfl Ar105.2.2 hin105 (Has.at H105 hin105 rfl) (g := (mkF m 124 #[.val (.int x0), .val (.long x1), .second, .val (.long x2), .second, .val (.int x3), .val (.int oj3), .val (.int oj9), .val (.int oj15), .val (.long ov19), .second, .val (.long ov20), .second, .val (.long ov21), .second, .val (.long ov22), .second, .val (.ref b23), .unset, .unset, .unset, .unset, .unset] [(.int (0 : Int32)), (.ref b28_0)])) rfl rfl (hb hby at_124) _ ?_
    show Steps p.tables e below (T104.setTop (mkF m 125 #[.val (.int x0), .val (.long x1), .second, .val (.long x2), .second, .val (.int x3), .val (.int oj3), .val (.int oj9), .val (.int oj15), .val (.long ov19), .second, .val (.long ov20), .second, .val (.long ov21), .second, .val (.long ov22), .second, .val (.ref b23), .unset, .unset, .unset, .unset, .unset] [(.ref b28_1)])) _
    refine XS.iconst X104.here hx rfl (hb hby at_125) ?_
    show Steps p.tables e below (T104.setTop (mkF m 126 #[.val (.int x0), .val (.long x1), .second, .val (.long x2), .second, .val (.int x3), .val (.int oj3), .val (.int oj9), .val (.int oj15), .val (.long ov19), .second, .val (.long ov20), .second, .val (.long ov21), .second, .val (.long ov22), .second, .val (.ref b23), .unset, .unset, .unset, .unset, .unset] [(.int (0 : Int32)), (.ref b28_1)])) _
    refine X104.aaload hx (j := (0 : Int32)) (v := (.ref b28_3)) (by rw [e104]; exact Ar106.1) (State.isArrayOf_alike hZ.alike Ar106.2.1) rfl Ar106.2.2 hin106 (Has.at H106 hin106 rfl) (g := (mkF m 126 #[.val (.int x0), .val (.long x1), .second, .val (.long x2), .second, .val (.int x3), .val (.int oj3), .val (.int oj9), .val (.int oj15), .val (.long ov19), .second, .val (.long ov20), .second, .val (.long ov21), .second, .val (.long ov22), .second, .val (.ref b23), .unset, .unset, .unset, .unset, .unset] [(.int (0 : Int32)), (.ref b28_1)])) rfl rfl (hb hby at_126) _ ?_
    show Steps p.tables e below (T104.setTop (mkF m 127 #[.val (.int x0), .val (.long x1), .second, .val (.long x2), .second, .val (.int x3), .val (.int oj3), .val (.int oj9), .val (.int oj15), .val (.long ov19), .second, .val (.long ov20), .second, .val (.long ov21), .second, .val (.long ov22), .second, .val (.ref b23), .unset, .unset, .unset, .unset, .unset] [(.ref b28_3)])) _
    refine XS.lload X104.here hx rfl (hb hby at_127) rfl ?_
    show Steps p.tables e below (T104.setTop (mkF m 129 #[.val (.int x0), .val (.long x1), .second, .val (.long x2), .second, .val (.int x3), .val (.int oj3), .val (.int oj9), .val (.int oj15), .val (.long ov19), .second, .val (.long ov20), .second, .val (.long ov21), .second, .val (.long ov22), .second, .val (.ref b23), .unset, .unset, .unset, .unset, .unset] [(.long ov19), (.ref b28_3)])) _
    refine st107 _ ?_
    show Steps p.tables e below (T107.setTop (mkF m 132 #[.val (.int x0), .val (.long x1), .second, .val (.long x2), .second, .val (.int x3), .val (.int oj3), .val (.int oj9), .val (.int oj15), .val (.long ov19), .second, .val (.long ov20), .second, .val (.long ov21), .second, .val (.long ov22), .second, .val (.ref b23), .unset, .unset, .unset, .unset, .unset] [])) _
    refine XS.aload X107.here hx rfl (hb hby at_132) rfl rfl ?_
    show Steps p.tables e below (T107.setTop (mkF m 134 #[.val (.int x0), .val (.long x1), .second, .val (.long x2), .second, .val (.int x3), .val (.int oj3), .val (.int oj9), .val (.int oj15), .val (.long ov19), .second, .val (.long ov20), .second, .val (.long ov21), .second, .val (.long ov22), .second, .val (.ref b23), .unset, .unset, .unset, .unset, .unset] [(.ref b23)])) _
    refine st134 _ ?_
    show Steps p.tables e below (T134.setTop (mkF m 137 #[.val (.int x0), .val (.long x1), .second, .val (.long x2), .second, .val (.int x3), .val (.int oj3), .val (.int oj9), .val (.int oj15), .val (.long ov19), .second, .val (.long ov20), .second, .val (.long ov21), .second, .val (.long ov22), .second, .val (.ref b23), .unset, .unset, .unset, .unset, .unset] [(.ref b28_0)])) _
    refine XS.iconst X134.here hx rfl (hb hby at_137) ?_
    show Steps p.tables e below (T134.setTop (mkF m 138 #[.val (.int x0), .val (.long x1), .second, .val (.long x2), .second, .val (.int x3), .val (.int oj3), .val (.int oj9), .val (.int oj15), .val (.long ov19), .second, .val (.long ov20), .second, .val (.long ov21), .second, .val (.long ov22), .second, .val (.ref b23), .unset, .unset, .unset, .unset, .unset] [(.int (0 : Int32)), (.ref b28_0)])) _
    refine X134.aaload hx (j := (0 : Int32)) (v := (.ref b28_1)) (by rw [e134]; exact Ar135.1) (State.isArrayOf_alike hZ.alike Ar135.2.1) rfl Ar135.2.2 hin135 (Has.at H135 hin135 rfl) (g := (mkF m 138 #[.val (.int x0), .val (.long x1), .second, .val (.long x2), .second, .val (.int x3), .val (.int oj3), .val (.int oj9), .val (.int oj15), .val (.long ov19), .second, .val (.long ov20), .second, .val (.long ov21), .second, .val (.long ov22), .second, .val (.ref b23), .unset, .unset, .unset, .unset, .unset] [(.int (0 : Int32)), (.ref b28_0)])) rfl rfl (hb hby at_138) _ ?_
    show Steps p.tables e below (T134.setTop (mkF m 139 #[.val (.int x0), .val (.long x1), .second, .val (.long x2), .second, .val (.int x3), .val (.int oj3), .val (.int oj9), .val (.int oj15), .val (.long ov19), .second, .val (.long ov20), .second, .val (.long ov21), .second, .val (.long ov22), .second, .val (.ref b23), .unset, .unset, .unset, .unset, .unset] [(.ref b28_1)])) _
    refine XS.iconst X134.here hx rfl (hb hby at_139) ?_
    show Steps p.tables e below (T134.setTop (mkF m 140 #[.val (.int x0), .val (.long x1), .second, .val (.long x2), .second, .val (.int x3), .val (.int oj3), .val (.int oj9), .val (.int oj15), .val (.long ov19), .second, .val (.long ov20), .second, .val (.long ov21), .second, .val (.long ov22), .second, .val (.ref b23), .unset, .unset, .unset, .unset, .unset] [(.int (1 : Int32)), (.ref b28_1)])) _
    refine X134.aaload hx (j := (1 : Int32)) (v := (.ref b28_4)) (by rw [e134]; exact Ar136.1) (State.isArrayOf_alike hZ.alike Ar136.2.1) rfl Ar136.2.2 hin136 (Has.at H136 hin136 rfl) (g := (mkF m 140 #[.val (.int x0), .val (.long x1), .second, .val (.long x2), .second, .val (.int x3), .val (.int oj3), .val (.int oj9), .val (.int oj15), .val (.long ov19), .second, .val (.long ov20), .second, .val (.long ov21), .second, .val (.long ov22), .second, .val (.ref b23), .unset, .unset, .unset, .unset, .unset] [(.int (1 : Int32)), (.ref b28_1)])) rfl rfl (hb hby at_140) _ ?_
    show Steps p.tables e below (T134.setTop (mkF m 141 #[.val (.int x0), .val (.long x1), .second, .val (.long x2), .second, .val (.int x3), .val (.int oj3), .val (.int oj9), .val (.int oj15), .val (.long ov19), .second, .val (.long ov20), .second, .val (.long ov21), .second, .val (.long ov22), .second, .val (.ref b23), .unset, .unset, .unset, .unset, .unset] [(.ref b28_4)])) _
    refine XS.lload X134.here hx rfl (hb hby at_141) rfl ?_
    show Steps p.tables e below (T134.setTop (mkF m 143 #[.val (.int x0), .val (.long x1), .second, .val (.long x2), .second, .val (.int x3), .val (.int oj3), .val (.int oj9), .val (.int oj15), .val (.long ov19), .second, .val (.long ov20), .second, .val (.long ov21), .second, .val (.long ov22), .second, .val (.ref b23), .unset, .unset, .unset, .unset, .unset] [(.long ov20), (.ref b28_4)])) _
    refine st137 _ ?_
    show Steps p.tables e below (T137.setTop (mkF m 146 #[.val (.int x0), .val (.long x1), .second, .val (.long x2), .second, .val (.int x3), .val (.int oj3), .val (.int oj9), .val (.int oj15), .val (.long ov19), .second, .val (.long ov20), .second, .val (.long ov21), .second, .val (.long ov22), .second, .val (.ref b23), .unset, .unset, .unset, .unset, .unset] [])) _
    refine XS.aload X137.here hx rfl (hb hby at_146) rfl rfl ?_
    show Steps p.tables e below (T137.setTop (mkF m 148 #[.val (.int x0), .val (.long x1), .second, .val (.long x2), .second, .val (.int x3), .val (.int oj3), .val (.int oj9), .val (.int oj15), .val (.long ov19), .second, .val (.long ov20), .second, .val (.long ov21), .second, .val (.long ov22), .second, .val (.ref b23), .unset, .unset, .unset, .unset, .unset] [(.ref b23)])) _
    refine st164 _ ?_
    show Steps p.tables e below (T164.setTop (mkF m 151 #[.val (.int x0), .val (.long x1), .second, .val (.long x2), .second, .val (.int x3), .val (.int oj3), .val (.int oj9), .val (.int oj15), .val (.long ov19), .second, .val (.long ov20), .second, .val (.long ov21), .second, .val (.long ov22), .second, .val (.ref b23), .unset, .unset, .unset, .unset, .unset] [(.ref b28_0)])) _
    refine XS.iconst X164.here hx rfl (hb hby at_151) ?_
    show Steps p.tables e below (T164.setTop (mkF m 152 #[.val (.int x0), .val (.long x1), .second, .val (.long x2), .second, .val (.int x3), .val (.int oj3), .val (.int oj9), .val (.int oj15), .val (.long ov19), .second, .val (.long ov20), .second, .val (.long ov21), .second, .val (.long ov22), .second, .val (.ref b23), .unset, .unset, .unset, .unset, .unset] [(.int (1 : Int32)), (.ref b28_0)])) _
    refine X164.aaload hx (j := (1 : Int32)) (v := (.ref b28_2)) (by rw [e164]; exact Ar165.1) (State.isArrayOf_alike hZ.alike Ar165.2.1) rfl Ar165.2.2 hin165 (Has.at H165 hin165 rfl) (g := (mkF m 152 #[.val (.int x0), .val (.long x1), .second, .val (.long x2), .second, .val (.int x3), .val (.int oj3), .val (.int oj9), .val (.int oj15), .val (.long ov19), .second, .val (.long ov20), .second, .val (.long ov21), .second, .val (.long ov22), .second, .val (.ref b23), .unset, .unset, .unset, .unset, .unset] [(.int (1 : Int32)), (.ref b28_0)])) rfl rfl (hb hby at_152) _ ?_
    show Steps p.tables e below (T164.setTop (mkF m 153 #[.val (.int x0), .val (.long x1), .second, .val (.long x2), .second, .val (.int x3), .val (.int oj3), .val (.int oj9), .val (.int oj15), .val (.long ov19), .second, .val (.long ov20), .second, .val (.long ov21), .second, .val (.long ov22), .second, .val (.ref b23), .unset, .unset, .unset, .unset, .unset] [(.ref b28_2)])) _
    refine XS.iconst X164.here hx rfl (hb hby at_153) ?_
    show Steps p.tables e below (T164.setTop (mkF m 154 #[.val (.int x0), .val (.long x1), .second, .val (.long x2), .second, .val (.int x3), .val (.int oj3), .val (.int oj9), .val (.int oj15), .val (.long ov19), .second, .val (.long ov20), .second, .val (.long ov21), .second, .val (.long ov22), .second, .val (.ref b23), .unset, .unset, .unset, .unset, .unset] [(.int (0 : Int32)), (.ref b28_2)])) _
    refine X164.aaload hx (j := (0 : Int32)) (v := (.ref b28_5)) (by rw [e164]; exact Ar166.1) (State.isArrayOf_alike hZ.alike Ar166.2.1) rfl Ar166.2.2 hin166 (Has.at H166 hin166 rfl) (g := (mkF m 154 #[.val (.int x0), .val (.long x1), .second, .val (.long x2), .second, .val (.int x3), .val (.int oj3), .val (.int oj9), .val (.int oj15), .val (.long ov19), .second, .val (.long ov20), .second, .val (.long ov21), .second, .val (.long ov22), .second, .val (.ref b23), .unset, .unset, .unset, .unset, .unset] [(.int (0 : Int32)), (.ref b28_2)])) rfl rfl (hb hby at_154) _ ?_
    show Steps p.tables e below (T164.setTop (mkF m 155 #[.val (.int x0), .val (.long x1), .second, .val (.long x2), .second, .val (.int x3), .val (.int oj3), .val (.int oj9), .val (.int oj15), .val (.long ov19), .second, .val (.long ov20), .second, .val (.long ov21), .second, .val (.long ov22), .second, .val (.ref b23), .unset, .unset, .unset, .unset, .unset] [(.ref b28_5)])) _
    refine XS.lload X164.here hx rfl (hb hby at_155) rfl ?_
    show Steps p.tables e below (T164.setTop (mkF m 157 #[.val (.int x0), .val (.long x1), .second, .val (.long x2), .second, .val (.int x3), .val (.int oj3), .val (.int oj9), .val (.int oj15), .val (.long ov19), .second, .val (.long ov20), .second, .val (.long ov21), .second, .val (.long ov22), .second, .val (.ref b23), .unset, .unset, .unset, .unset, .unset] [(.long ov21), (.ref b28_5)])) _
    refine st167 _ ?_
    show Steps p.tables e below (T167.setTop (mkF m 160 #[.val (.int x0), .val (.long x1), .second, .val (.long x2), .second, .val (.int x3), .val (.int oj3), .val (.int oj9), .val (.int oj15), .val (.long ov19), .second, .val (.long ov20), .second, .val (.long ov21), .second, .val (.long ov22), .second, .val (.ref b23), .unset, .unset, .unset, .unset, .unset] [])) _
    refine XS.aload X167.here hx rfl (hb hby at_160) rfl rfl ?_
    show Steps p.tables e below (T167.setTop (mkF m 162 #[.val (.int x0), .val (.long x1), .second, .val (.long x2), .second, .val (.int x3), .val (.int oj3), .val (.int oj9), .val (.int oj15), .val (.long ov19), .second, .val (.long ov20), .second, .val (.long ov21), .second, .val (.long ov22), .second, .val (.ref b23), .unset, .unset, .unset, .unset, .unset] [(.ref b23)])) _
    refine st194 _ ?_
    show Steps p.tables e below (T194.setTop (mkF m 165 #[.val (.int x0), .val (.long x1), .second, .val (.long x2), .second, .val (.int x3), .val (.int oj3), .val (.int oj9), .val (.int oj15), .val (.long ov19), .second, .val (.long ov20), .second, .val (.long ov21), .second, .val (.long ov22), .second, .val (.ref b23), .unset, .unset, .unset, .unset, .unset] [(.ref b28_0)])) _
    refine XS.iconst X194.here hx rfl (hb hby at_165) ?_
    show Steps p.tables e below (T194.setTop (mkF m 166 #[.val (.int x0), .val (.long x1), .second, .val (.long x2), .second, .val (.int x3), .val (.int oj3), .val (.int oj9), .val (.int oj15), .val (.long ov19), .second, .val (.long ov20), .second, .val (.long ov21), .second, .val (.long ov22), .second, .val (.ref b23), .unset, .unset, .unset, .unset, .unset] [(.int (1 : Int32)), (.ref b28_0)])) _
    refine X194.aaload hx (j := (1 : Int32)) (v := (.ref b28_2)) (by rw [e194]; exact Ar195.1) (State.isArrayOf_alike hZ.alike Ar195.2.1) rfl Ar195.2.2 hin195 (Has.at H195 hin195 rfl) (g := (mkF m 166 #[.val (.int x0), .val (.long x1), .second, .val (.long x2), .second, .val (.int x3), .val (.int oj3), .val (.int oj9), .val (.int oj15), .val (.long ov19), .second, .val (.long ov20), .second, .val (.long ov21), .second, .val (.long ov22), .second, .val (.ref b23), .unset, .unset, .unset, .unset, .unset] [(.int (1 : Int32)), (.ref b28_0)])) rfl rfl (hb hby at_166) _ ?_
    show Steps p.tables e below (T194.setTop (mkF m 167 #[.val (.int x0), .val (.long x1), .second, .val (.long x2), .second, .val (.int x3), .val (.int oj3), .val (.int oj9), .val (.int oj15), .val (.long ov19), .second, .val (.long ov20), .second, .val (.long ov21), .second, .val (.long ov22), .second, .val (.ref b23), .unset, .unset, .unset, .unset, .unset] [(.ref b28_2)])) _
    refine XS.iconst X194.here hx rfl (hb hby at_167) ?_
    show Steps p.tables e below (T194.setTop (mkF m 168 #[.val (.int x0), .val (.long x1), .second, .val (.long x2), .second, .val (.int x3), .val (.int oj3), .val (.int oj9), .val (.int oj15), .val (.long ov19), .second, .val (.long ov20), .second, .val (.long ov21), .second, .val (.long ov22), .second, .val (.ref b23), .unset, .unset, .unset, .unset, .unset] [(.int (1 : Int32)), (.ref b28_2)])) _
    refine X194.aaload hx (j := (1 : Int32)) (v := (.ref b28_6)) (by rw [e194]; exact Ar196.1) (State.isArrayOf_alike hZ.alike Ar196.2.1) rfl Ar196.2.2 hin196 (Has.at H196 hin196 rfl) (g := (mkF m 168 #[.val (.int x0), .val (.long x1), .second, .val (.long x2), .second, .val (.int x3), .val (.int oj3), .val (.int oj9), .val (.int oj15), .val (.long ov19), .second, .val (.long ov20), .second, .val (.long ov21), .second, .val (.long ov22), .second, .val (.ref b23), .unset, .unset, .unset, .unset, .unset] [(.int (1 : Int32)), (.ref b28_2)])) rfl rfl (hb hby at_168) _ ?_
    show Steps p.tables e below (T194.setTop (mkF m 169 #[.val (.int x0), .val (.long x1), .second, .val (.long x2), .second, .val (.int x3), .val (.int oj3), .val (.int oj9), .val (.int oj15), .val (.long ov19), .second, .val (.long ov20), .second, .val (.long ov21), .second, .val (.long ov22), .second, .val (.ref b23), .unset, .unset, .unset, .unset, .unset] [(.ref b28_6)])) _
    refine XS.lload X194.here hx rfl (hb hby at_169) rfl ?_
    show Steps p.tables e below (T194.setTop (mkF m 171 #[.val (.int x0), .val (.long x1), .second, .val (.long x2), .second, .val (.int x3), .val (.int oj3), .val (.int oj9), .val (.int oj15), .val (.long ov19), .second, .val (.long ov20), .second, .val (.long ov21), .second, .val (.long ov22), .second, .val (.ref b23), .unset, .unset, .unset, .unset, .unset] [(.long ov22), (.ref b28_6)])) _
    refine st197 _ ?_
    show Steps p.tables e below (T197.setTop (mkF m 174 #[.val (.int x0), .val (.long x1), .second, .val (.long x2), .second, .val (.int x3), .val (.int oj3), .val (.int oj9), .val (.int oj15), .val (.long ov19), .second, .val (.long ov20), .second, .val (.long ov21), .second, .val (.long ov22), .second, .val (.ref b23), .unset, .unset, .unset, .unset, .unset] [])) _
    refine XS.aload X197.here hx rfl (hb hby at_174) rfl rfl ?_
    show Steps p.tables e below (T197.setTop (mkF m 176 #[.val (.int x0), .val (.long x1), .second, .val (.long x2), .second, .val (.int x3), .val (.int oj3), .val (.int oj9), .val (.int oj15), .val (.long ov19), .second, .val (.long ov20), .second, .val (.long ov21), .second, .val (.long ov22), .second, .val (.ref b23), .unset, .unset, .unset, .unset, .unset] [(.ref b23)])) _
    refine XS.iload X197.here hx rfl (hb hby at_176) rfl ?_
    show Steps p.tables e below (T197.setTop (mkF m 178 #[.val (.int x0), .val (.long x1), .second, .val (.long x2), .second, .val (.int x3), .val (.int oj3), .val (.int oj9), .val (.int oj15), .val (.long ov19), .second, .val (.long ov20), .second, .val (.long ov21), .second, .val (.long ov22), .second, .val (.ref b23), .unset, .unset, .unset, .unset, .unset] [(.int oj15), (.ref b23)])) _
    refine st224.trans ?_
    show Steps p.tables e below (T224.setTop (mkF m 181 #[.val (.int x0), .val (.long x1), .second, .val (.long x2), .second, .val (.int x3), .val (.int oj3), .val (.int oj9), .val (.int oj15), .val (.long ov19), .second, .val (.long ov20), .second, .val (.long ov21), .second, .val (.long ov22), .second, .val (.ref b23), .unset, .unset, .unset, .unset, .unset] [(.int (f5 oj15 oj32 oj69 (((own_lushr ov19 (12 : Int32)) &&& (511 : Int64)).toInt32) (((own_lushr ov19 (21 : Int32)) &&& (15 : Int64)).toInt32) (((own_lushr ov19 (25 : Int32)) &&& (7 : Int64)).toInt32) ((ov19 &&& (4095 : Int64)).toInt32) (((own_lushr ov20 (12 : Int32)) &&& (511 : Int64)).toInt32) (((own_lushr ov20 (21 : Int32)) &&& (15 : Int64)).toInt32) (((own_lushr ov20 (25 : Int32)) &&& (7 : Int64)).toInt32) ((ov20 &&& (4095 : Int64)).toInt32) (((own_lushr ov21 (12 : Int32)) &&& (511 : Int64)).toInt32) (((own_lushr ov21 (21 : Int32)) &&& (15 : Int64)).toInt32) (((own_lushr ov21 (25 : Int32)) &&& (7 : Int64)).toInt32) ((ov21 &&& (4095 : Int64)).toInt32) (((own_lushr ov22 (12 : Int32)) &&& (511 : Int64)).toInt32) (((own_lushr ov22 (21 : Int32)) &&& (15 : Int64)).toInt32) (((own_lushr ov22 (25 : Int32)) &&& (7 : Int64)).toInt32) ((ov22 &&& (4095 : Int64)).toInt32)))])) _
    rw [← d_ov225]
    refine XS.istore X224.here hx rfl (hb hby at_181) rfl (l' := #[.val (.int x0), .val (.long x1), .second, .val (.long x2), .second, .val (.int x3), .val (.int oj3), .val (.int oj9), .val (.int oj15), .val (.long ov19), .second, .val (.long ov20), .second, .val (.long ov21), .second, .val (.long ov22), .second, .val (.ref b23), .val (.int ov225), .unset, .unset, .unset, .unset]) rfl ?_
    show Steps p.tables e below (T224.setTop (mkF m 183 #[.val (.int x0), .val (.long x1), .second, .val (.long x2), .second, .val (.int x3), .val (.int oj3), .val (.int oj9), .val (.int oj15), .val (.long ov19), .second, .val (.long ov20), .second, .val (.long ov21), .second, .val (.long ov22), .second, .val (.ref b23), .val (.int ov225), .unset, .unset, .unset, .unset] [])) _
    refine XS.lload X224.here hx rfl (hb hby at_183) rfl ?_
    show Steps p.tables e below (T224.setTop (mkF m 185 #[.val (.int x0), .val (.long x1), .second, .val (.long x2), .second, .val (.int x3), .val (.int oj3), .val (.int oj9), .val (.int oj15), .val (.long ov19), .second, .val (.long ov20), .second, .val (.long ov21), .second, .val (.long ov22), .second, .val (.ref b23), .val (.int ov225), .unset, .unset, .unset, .unset] [(.long ov19)])) _
    refine st226 _ ?_
    exact k
  obtain ⟨T286, L286, X286, N286, e286, pre286⟩ : ∃ (T' : State) (L' : List Loc), Stand p l e room_1 s m #[(.int x0), (.long x1), (.long x2), (.int x3)] below meth c T' L' 19 104 ∧ Fr n0 L' ∧ T'.heap = h197 ∧ ∀ t, Steps p.tables e below (T'.setTop (mkF m 235 #[.val (.int x0), .val (.long x1), .second, .val (.long x2), .second, .val (.int x3), .val (.int oj3), .val (.int oj9), .val (.int oj15), .val (.long ov19), .second, .val (.long ov20), .second, .val (.long ov21), .second, .val (.long ov22), .second, .val (.ref b23), .val (.int ov225), .unset, .unset, .unset, .unset] [(.int oj285)])) t → Steps p.tables e below (s₁.setTop (entryFrame m #[(.int x0), (.long x1), (.long x2), (.int x3)] maxLocals)) t := by
    rcases Bool.eq_false_or_eq_true (ifCond.holds .eq (f6 ov19)) with hc228 | hc228
    · have pre287 : ∀ t, Steps p.tables e below (T226.setTop (mkF m 235 #[.val (.int x0), .val (.long x1), .second, .val (.long x2), .second, .val (.int x3), .val (.int oj3), .val (.int oj9), .val (.int oj15), .val (.long ov19), .second, .val (.long ov20), .second, .val (.long ov21), .second, .val (.long ov22), .second, .val (.ref b23), .val (.int ov225), .unset, .unset, .unset, .unset] [(.int (0 : Int32))])) t → Steps p.tables e below (s₁.setTop (entryFrame m #[(.int x0), (.long x1), (.long x2), (.int x3)] maxLocals)) t := by
        intro t k
        refine pre227 _ ?_
        show Steps p.tables e below (T226.setTop (mkF m 188 #[.val (.int x0), .val (.long x1), .second, .val (.long x2), .second, .val (.int x3), .val (.int oj3), .val (.int oj9), .val (.int oj15), .val (.long ov19), .second, .val (.long ov20), .second, .val (.long ov21), .second, .val (.long ov22), .second, .val (.ref b23), .val (.int ov225), .unset, .unset, .unset, .unset] [(.int (f6 ov19))])) _
        refine XS.ifYes X226.here hx rfl (pc0 := 188) (pc' := 234) rfl (hb hby at_188) rfl hc228 (by decide) (by decide) ?_
        show Steps p.tables e below (T226.setTop (mkF m 234 #[.val (.int x0), .val (.long x1), .second, .val (.long x2), .second, .val (.int x3), .val (.int oj3), .val (.int oj9), .val (.int oj15), .val (.long ov19), .second, .val (.long ov20), .second, .val (.long ov21), .second, .val (.long ov22), .second, .val (.ref b23), .val (.int ov225), .unset, .unset, .unset, .unset] [])) _
        refine XS.iconst X226.here hx rfl (hb hby at_234) ?_
        exact k
      have qj0 : oj285 = (0 : Int32) := Eq.trans d_oj285 (if_pos hc228)
      refine ⟨T226, _, X226, N226, e226, fun t k => pre287 _ ?_⟩
      rw [qj0] at k
      exact k
    · have pre229 : ∀ t, Steps p.tables e below (T226.setTop (mkF m 193 #[.val (.int x0), .val (.long x1), .second, .val (.long x2), .second, .val (.int x3), .val (.int oj3), .val (.int oj9), .val (.int oj15), .val (.long ov19), .second, .val (.long ov20), .second, .val (.long ov21), .second, .val (.long ov22), .second, .val (.ref b23), .val (.int ov225), .unset, .unset, .unset, .unset] [(.int oj9)])) t → Steps p.tables e below (s₁.setTop (entryFrame m #[(.int x0), (.long x1), (.long x2), (.int x3)] maxLocals)) t := by
        intro t k
        refine pre227 _ ?_
        show Steps p.tables e below (T226.setTop (mkF m 188 #[.val (.int x0), .val (.long x1), .second, .val (.long x2), .second, .val (.int x3), .val (.int oj3), .val (.int oj9), .val (.int oj15), .val (.long ov19), .second, .val (.long ov20), .second, .val (.long ov21), .second, .val (.long ov22), .second, .val (.ref b23), .val (.int ov225), .unset, .unset, .unset, .unset] [(.int (f6 ov19))])) _
        refine XS.ifNo X226.here hx rfl (hb hby at_188) rfl hc228 ?_
        show Steps p.tables e below (T226.setTop (mkF m 191 #[.val (.int x0), .val (.long x1), .second, .val (.long x2), .second, .val (.int x3), .val (.int oj3), .val (.int oj9), .val (.int oj15), .val (.long ov19), .second, .val (.long ov20), .second, .val (.long ov21), .second, .val (.long ov22), .second, .val (.ref b23), .val (.int ov225), .unset, .unset, .unset, .unset] [])) _
        refine XS.iload X226.here hx rfl (hb hby at_191) rfl ?_
        exact k
      obtain ⟨T284, L284, X284, N284, e284, pre284⟩ : ∃ (T' : State) (L' : List Loc), Stand p l e room_1 s m #[(.int x0), (.long x1), (.long x2), (.int x3)] below meth c T' L' 19 104 ∧ Fr n0 L' ∧ T'.heap = h197 ∧ ∀ t, Steps p.tables e below (T'.setTop (mkF m 235 #[.val (.int x0), .val (.long x1), .second, .val (.long x2), .second, .val (.int x3), .val (.int oj3), .val (.int oj9), .val (.int oj15), .val (.long ov19), .second, .val (.long ov20), .second, .val (.long ov21), .second, .val (.long ov22), .second, .val (.ref b23), .val (.int ov225), .unset, .unset, .unset, .unset] [(.int oj283)])) t → Steps p.tables e below (s₁.setTop (entryFrame m #[(.int x0), (.long x1), (.long x2), (.int x3)] maxLocals)) t := by
        rcases Bool.eq_false_or_eq_true (ifCond.holds .eq oj9) with hc230 | hc230
        · have pre231 : ∀ t, Steps p.tables e below (T226.setTop (mkF m 206 #[.val (.int x0), .val (.long x1), .second, .val (.long x2), .second, .val (.int x3), .val (.int oj3), .val (.int oj9), .val (.int oj15), .val (.long ov19), .second, .val (.long ov20), .second, .val (.long ov21), .second, .val (.long ov22), .second, .val (.ref b23), .val (.int ov225), .unset, .unset, .unset, .unset] [(.int oj3)])) t → Steps p.tables e below (s₁.setTop (entryFrame m #[(.int x0), (.long x1), (.long x2), (.int x3)] maxLocals)) t := by
            intro t k
            refine pre229 _ ?_
            show Steps p.tables e below (T226.setTop (mkF m 193 #[.val (.int x0), .val (.long x1), .second, .val (.long x2), .second, .val (.int x3), .val (.int oj3), .val (.int oj9), .val (.int oj15), .val (.long ov19), .second, .val (.long ov20), .second, .val (.long ov21), .second, .val (.long ov22), .second, .val (.ref b23), .val (.int ov225), .unset, .unset, .unset, .unset] [(.int oj9)])) _
            refine XS.ifYes X226.here hx rfl (pc0 := 193) (pc' := 204) rfl (hb hby at_193) rfl hc230 (by decide) (by decide) ?_
            show Steps p.tables e below (T226.setTop (mkF m 204 #[.val (.int x0), .val (.long x1), .second, .val (.long x2), .second, .val (.int x3), .val (.int oj3), .val (.int oj9), .val (.int oj15), .val (.long ov19), .second, .val (.long ov20), .second, .val (.long ov21), .second, .val (.long ov22), .second, .val (.ref b23), .val (.int ov225), .unset, .unset, .unset, .unset] [])) _
            refine XS.iload X226.here hx rfl (hb hby at_204) rfl ?_
            exact k
          obtain ⟨T252, L252, X252, N252, e252, pre252⟩ : ∃ (T' : State) (L' : List Loc), Stand p l e room_1 s m #[(.int x0), (.long x1), (.long x2), (.int x3)] below meth c T' L' 19 104 ∧ Fr n0 L' ∧ T'.heap = h197 ∧ ∀ t, Steps p.tables e below (T'.setTop (mkF m 235 #[.val (.int x0), .val (.long x1), .second, .val (.long x2), .second, .val (.int x3), .val (.int oj3), .val (.int oj9), .val (.int oj15), .val (.long ov19), .second, .val (.long ov20), .second, .val (.long ov21), .second, .val (.long ov22), .second, .val (.ref b23), .val (.int ov225), .unset, .unset, .unset, .unset] [(.int oj251)])) t → Steps p.tables e below (s₁.setTop (entryFrame m #[(.int x0), (.long x1), (.long x2), (.int x3)] maxLocals)) t := by
            rcases Bool.eq_false_or_eq_true (ifCond.holds .eq oj3) with hc232 | hc232
            · have pre253 : ∀ t, Steps p.tables e below (T226.setTop (mkF m 235 #[.val (.int x0), .val (.long x1), .second, .val (.long x2), .second, .val (.int x3), .val (.int oj3), .val (.int oj9), .val (.int oj15), .val (.long ov19), .second, .val (.long ov20), .second, .val (.long ov21), .second, .val (.long ov22), .second, .val (.ref b23), .val (.int ov225), .unset, .unset, .unset, .unset] [(.int (1 : Int32))])) t → Steps p.tables e below (s₁.setTop (entryFrame m #[(.int x0), (.long x1), (.long x2), (.int x3)] maxLocals)) t := by
                intro t k
                refine pre231 _ ?_
                show Steps p.tables e below (T226.setTop (mkF m 206 #[.val (.int x0), .val (.long x1), .second, .val (.long x2), .second, .val (.int x3), .val (.int oj3), .val (.int oj9), .val (.int oj15), .val (.long ov19), .second, .val (.long ov20), .second, .val (.long ov21), .second, .val (.long ov22), .second, .val (.ref b23), .val (.int ov225), .unset, .unset, .unset, .unset] [(.int oj3)])) _
                refine XS.ifYes X226.here hx rfl (pc0 := 206) (pc' := 230) rfl (hb hby at_206) rfl hc232 (by decide) (by decide) ?_
                show Steps p.tables e below (T226.setTop (mkF m 230 #[.val (.int x0), .val (.long x1), .second, .val (.long x2), .second, .val (.int x3), .val (.int oj3), .val (.int oj9), .val (.int oj15), .val (.long ov19), .second, .val (.long ov20), .second, .val (.long ov21), .second, .val (.long ov22), .second, .val (.ref b23), .val (.int ov225), .unset, .unset, .unset, .unset] [])) _
                refine XS.iconst X226.here hx rfl (hb hby at_230) ?_
                show Steps p.tables e below (T226.setTop (mkF m 231 #[.val (.int x0), .val (.long x1), .second, .val (.long x2), .second, .val (.int x3), .val (.int oj3), .val (.int oj9), .val (.int oj15), .val (.long ov19), .second, .val (.long ov20), .second, .val (.long ov21), .second, .val (.long ov22), .second, .val (.ref b23), .val (.int ov225), .unset, .unset, .unset, .unset] [(.int (1 : Int32))])) _
                refine XS.goto X226.here hx rfl (pc0 := 231) (pc' := 235) rfl (hb hby at_231) (by decide) (by decide) ?_
                exact k
              have qj0 : oj251 = (1 : Int32) := Eq.trans d_oj251 (if_pos hc232)
              refine ⟨T226, _, X226, N226, e226, fun t k => pre253 _ ?_⟩
              rw [qj0] at k
              exact k
            · obtain ⟨_, _, ⟨T233, L233, k233, n233⟩, -, X233, ⟨Lc233, hQ233, l233, y233, z233⟩, st233⟩ := Jvm.LawKit.callS X226 hx (y := (⟨"dev/stratumaudio/SideInformationIsPossiblePinLaw", "ok", "(J)Z"⟩ : MethodName)) hown (mvT hZ (hw _ (List.mem_of_getElem? (i := 67) rfl))) (mvT hZ (hw _ (List.mem_of_getElem? (i := 68) rfl))) (mvT hZ (hw _ (List.mem_of_getElem? (i := 41) rfl))) (mvT hZ (hw _ (List.mem_of_getElem? (i := 69) rfl))) (by decide) (backOf (W := 0) (rm6 l Z a0 hw [] ov21 h197 n0 Z197) hZ (hw _ (List.mem_of_getElem? (i := 69) rfl)) (hw _ (List.mem_of_getElem? (i := 41) rfl)) (by decide) (by decide)) (g := (mkF m 211 #[.val (.int x0), .val (.long x1), .second, .val (.long x2), .second, .val (.int x3), .val (.int oj3), .val (.int oj9), .val (.int oj15), .val (.long ov19), .second, .val (.long ov20), .second, .val (.long ov21), .second, .val (.long ov22), .second, .val (.ref b23), .val (.int ov225), .unset, .unset, .unset, .unset] [(.long ov21)])) rfl (by rw [hml]; rfl) (argsL := [(.long ov21)]) (rest := []) (lenOf pd_3 rfl) rfl (by show 2 * 0 + _ ≤ _; exact Nat.le_of_eq rfl) (hb hby at_211) (fun _ _ => ⟨rfl, e226, (by decide : 19 + 0 ≤ _), (by decide : 104 + 0 ≤ _)⟩)
              dsimp only [Pt.U, Pt.locs, Pt.cells, Pt.slots] at X233 l233 y233 z233 st233 hQ233
              subst l233 y233 z233
              obtain ⟨rfl, Nq233, e233⟩ := hQ233
              have N233 := Fr.app N226 Nq233
              have pre234 : ∀ t, Steps p.tables e below (T233.setTop (mkF m 214 #[.val (.int x0), .val (.long x1), .second, .val (.long x2), .second, .val (.int x3), .val (.int oj3), .val (.int oj9), .val (.int oj15), .val (.long ov19), .second, .val (.long ov20), .second, .val (.long ov21), .second, .val (.long ov22), .second, .val (.ref b23), .val (.int ov225), .unset, .unset, .unset, .unset] [(.int (f6 ov21))])) t → Steps p.tables e below (s₁.setTop (entryFrame m #[(.int x0), (.long x1), (.long x2), (.int x3)] maxLocals)) t := by
                intro t k
                refine pre231 _ ?_
                show Steps p.tables e below (T226.setTop (mkF m 206 #[.val (.int x0), .val (.long x1), .second, .val (.long x2), .second, .val (.int x3), .val (.int oj3), .val (.int oj9), .val (.int oj15), .val (.long ov19), .second, .val (.long ov20), .second, .val (.long ov21), .second, .val (.long ov22), .second, .val (.ref b23), .val (.int ov225), .unset, .unset, .unset, .unset] [(.int oj3)])) _
                refine XS.ifNo X226.here hx rfl (hb hby at_206) rfl hc232 ?_
                show Steps p.tables e below (T226.setTop (mkF m 209 #[.val (.int x0), .val (.long x1), .second, .val (.long x2), .second, .val (.int x3), .val (.int oj3), .val (.int oj9), .val (.int oj15), .val (.long ov19), .second, .val (.long ov20), .second, .val (.long ov21), .second, .val (.long ov22), .second, .val (.ref b23), .val (.int ov225), .unset, .unset, .unset, .unset] [])) _
                refine XS.lload X226.here hx rfl (hb hby at_209) rfl ?_
                show Steps p.tables e below (T226.setTop (mkF m 211 #[.val (.int x0), .val (.long x1), .second, .val (.long x2), .second, .val (.int x3), .val (.int oj3), .val (.int oj9), .val (.int oj15), .val (.long ov19), .second, .val (.long ov20), .second, .val (.long ov21), .second, .val (.long ov22), .second, .val (.ref b23), .val (.int ov225), .unset, .unset, .unset, .unset] [(.long ov21)])) _
                refine st233 _ ?_
                exact k
              obtain ⟨T249, L249, X249, N249, e249, pre249⟩ : ∃ (T' : State) (L' : List Loc), Stand p l e room_1 s m #[(.int x0), (.long x1), (.long x2), (.int x3)] below meth c T' L' 19 104 ∧ Fr n0 L' ∧ T'.heap = h197 ∧ ∀ t, Steps p.tables e below (T'.setTop (mkF m 235 #[.val (.int x0), .val (.long x1), .second, .val (.long x2), .second, .val (.int x3), .val (.int oj3), .val (.int oj9), .val (.int oj15), .val (.long ov19), .second, .val (.long ov20), .second, .val (.long ov21), .second, .val (.long ov22), .second, .val (.ref b23), .val (.int ov225), .unset, .unset, .unset, .unset] [(.int oj248)])) t → Steps p.tables e below (s₁.setTop (entryFrame m #[(.int x0), (.long x1), (.long x2), (.int x3)] maxLocals)) t := by
                rcases Bool.eq_false_or_eq_true (ifCond.holds .eq (f6 ov21)) with hc235 | hc235
                · have pre250 : ∀ t, Steps p.tables e below (T233.setTop (mkF m 235 #[.val (.int x0), .val (.long x1), .second, .val (.long x2), .second, .val (.int x3), .val (.int oj3), .val (.int oj9), .val (.int oj15), .val (.long ov19), .second, .val (.long ov20), .second, .val (.long ov21), .second, .val (.long ov22), .second, .val (.ref b23), .val (.int ov225), .unset, .unset, .unset, .unset] [(.int (0 : Int32))])) t → Steps p.tables e below (s₁.setTop (entryFrame m #[(.int x0), (.long x1), (.long x2), (.int x3)] maxLocals)) t := by
                    intro t k
                    refine pre234 _ ?_
                    show Steps p.tables e below (T233.setTop (mkF m 214 #[.val (.int x0), .val (.long x1), .second, .val (.long x2), .second, .val (.int x3), .val (.int oj3), .val (.int oj9), .val (.int oj15), .val (.long ov19), .second, .val (.long ov20), .second, .val (.long ov21), .second, .val (.long ov22), .second, .val (.ref b23), .val (.int ov225), .unset, .unset, .unset, .unset] [(.int (f6 ov21))])) _
                    refine XS.ifYes X233.here hx rfl (pc0 := 214) (pc' := 234) rfl (hb hby at_214) rfl hc235 (by decide) (by decide) ?_
                    show Steps p.tables e below (T233.setTop (mkF m 234 #[.val (.int x0), .val (.long x1), .second, .val (.long x2), .second, .val (.int x3), .val (.int oj3), .val (.int oj9), .val (.int oj15), .val (.long ov19), .second, .val (.long ov20), .second, .val (.long ov21), .second, .val (.long ov22), .second, .val (.ref b23), .val (.int ov225), .unset, .unset, .unset, .unset] [])) _
                    refine XS.iconst X233.here hx rfl (hb hby at_234) ?_
                    exact k
                  have qj0 : oj248 = (0 : Int32) := Eq.trans d_oj248 (if_pos hc235)
                  refine ⟨T233, _, X233, N233, e233, fun t k => pre250 _ ?_⟩
                  rw [qj0] at k
                  exact k
                · have pre236 : ∀ t, Steps p.tables e below (T233.setTop (mkF m 219 #[.val (.int x0), .val (.long x1), .second, .val (.long x2), .second, .val (.int x3), .val (.int oj3), .val (.int oj9), .val (.int oj15), .val (.long ov19), .second, .val (.long ov20), .second, .val (.long ov21), .second, .val (.long ov22), .second, .val (.ref b23), .val (.int ov225), .unset, .unset, .unset, .unset] [(.int oj9)])) t → Steps p.tables e below (s₁.setTop (entryFrame m #[(.int x0), (.long x1), (.long x2), (.int x3)] maxLocals)) t := by
                    intro t k
                    refine pre234 _ ?_
                    show Steps p.tables e below (T233.setTop (mkF m 214 #[.val (.int x0), .val (.long x1), .second, .val (.long x2), .second, .val (.int x3), .val (.int oj3), .val (.int oj9), .val (.int oj15), .val (.long ov19), .second, .val (.long ov20), .second, .val (.long ov21), .second, .val (.long ov22), .second, .val (.ref b23), .val (.int ov225), .unset, .unset, .unset, .unset] [(.int (f6 ov21))])) _
                    refine XS.ifNo X233.here hx rfl (hb hby at_214) rfl hc235 ?_
                    show Steps p.tables e below (T233.setTop (mkF m 217 #[.val (.int x0), .val (.long x1), .second, .val (.long x2), .second, .val (.int x3), .val (.int oj3), .val (.int oj9), .val (.int oj15), .val (.long ov19), .second, .val (.long ov20), .second, .val (.long ov21), .second, .val (.long ov22), .second, .val (.ref b23), .val (.int ov225), .unset, .unset, .unset, .unset] [])) _
                    refine XS.iload X233.here hx rfl (hb hby at_217) rfl ?_
                    exact k
                  obtain ⟨T246, L246, X246, N246, e246, pre246⟩ : ∃ (T' : State) (L' : List Loc), Stand p l e room_1 s m #[(.int x0), (.long x1), (.long x2), (.int x3)] below meth c T' L' 19 104 ∧ Fr n0 L' ∧ T'.heap = h197 ∧ ∀ t, Steps p.tables e below (T'.setTop (mkF m 235 #[.val (.int x0), .val (.long x1), .second, .val (.long x2), .second, .val (.int x3), .val (.int oj3), .val (.int oj9), .val (.int oj15), .val (.long ov19), .second, .val (.long ov20), .second, .val (.long ov21), .second, .val (.long ov22), .second, .val (.ref b23), .val (.int ov225), .unset, .unset, .unset, .unset] [(.int oj245)])) t → Steps p.tables e below (s₁.setTop (entryFrame m #[(.int x0), (.long x1), (.long x2), (.int x3)] maxLocals)) t := by
                    rcases Bool.eq_false_or_eq_true (ifCond.holds .eq oj9) with hc237 | hc237
                    · have pre247 : ∀ t, Steps p.tables e below (T233.setTop (mkF m 235 #[.val (.int x0), .val (.long x1), .second, .val (.long x2), .second, .val (.int x3), .val (.int oj3), .val (.int oj9), .val (.int oj15), .val (.long ov19), .second, .val (.long ov20), .second, .val (.long ov21), .second, .val (.long ov22), .second, .val (.ref b23), .val (.int ov225), .unset, .unset, .unset, .unset] [(.int (1 : Int32))])) t → Steps p.tables e below (s₁.setTop (entryFrame m #[(.int x0), (.long x1), (.long x2), (.int x3)] maxLocals)) t := by
                        intro t k
                        refine pre236 _ ?_
                        show Steps p.tables e below (T233.setTop (mkF m 219 #[.val (.int x0), .val (.long x1), .second, .val (.long x2), .second, .val (.int x3), .val (.int oj3), .val (.int oj9), .val (.int oj15), .val (.long ov19), .second, .val (.long ov20), .second, .val (.long ov21), .second, .val (.long ov22), .second, .val (.ref b23), .val (.int ov225), .unset, .unset, .unset, .unset] [(.int oj9)])) _
                        refine XS.ifYes X233.here hx rfl (pc0 := 219) (pc' := 230) rfl (hb hby at_219) rfl hc237 (by decide) (by decide) ?_
                        show Steps p.tables e below (T233.setTop (mkF m 230 #[.val (.int x0), .val (.long x1), .second, .val (.long x2), .second, .val (.int x3), .val (.int oj3), .val (.int oj9), .val (.int oj15), .val (.long ov19), .second, .val (.long ov20), .second, .val (.long ov21), .second, .val (.long ov22), .second, .val (.ref b23), .val (.int ov225), .unset, .unset, .unset, .unset] [])) _
                        refine XS.iconst X233.here hx rfl (hb hby at_230) ?_
                        show Steps p.tables e below (T233.setTop (mkF m 231 #[.val (.int x0), .val (.long x1), .second, .val (.long x2), .second, .val (.int x3), .val (.int oj3), .val (.int oj9), .val (.int oj15), .val (.long ov19), .second, .val (.long ov20), .second, .val (.long ov21), .second, .val (.long ov22), .second, .val (.ref b23), .val (.int ov225), .unset, .unset, .unset, .unset] [(.int (1 : Int32))])) _
                        refine XS.goto X233.here hx rfl (pc0 := 231) (pc' := 235) rfl (hb hby at_231) (by decide) (by decide) ?_
                        exact k
                      have qj0 : oj245 = (1 : Int32) := Eq.trans d_oj245 (if_pos hc237)
                      refine ⟨T233, _, X233, N233, e233, fun t k => pre247 _ ?_⟩
                      rw [qj0] at k
                      exact k
                    · obtain ⟨_, _, ⟨T238, L238, k238, n238⟩, -, X238, ⟨Lc238, hQ238, l238, y238, z238⟩, st238⟩ := Jvm.LawKit.callS X233 hx (y := (⟨"dev/stratumaudio/SideInformationIsPossiblePinLaw", "ok", "(J)Z"⟩ : MethodName)) hown (mvT hZ (hw _ (List.mem_of_getElem? (i := 67) rfl))) (mvT hZ (hw _ (List.mem_of_getElem? (i := 68) rfl))) (mvT hZ (hw _ (List.mem_of_getElem? (i := 41) rfl))) (mvT hZ (hw _ (List.mem_of_getElem? (i := 69) rfl))) (by decide) (backOf (W := 0) (rm6 l Z a0 hw [] ov22 h197 n0 Z197) hZ (hw _ (List.mem_of_getElem? (i := 69) rfl)) (hw _ (List.mem_of_getElem? (i := 41) rfl)) (by decide) (by decide)) (g := (mkF m 224 #[.val (.int x0), .val (.long x1), .second, .val (.long x2), .second, .val (.int x3), .val (.int oj3), .val (.int oj9), .val (.int oj15), .val (.long ov19), .second, .val (.long ov20), .second, .val (.long ov21), .second, .val (.long ov22), .second, .val (.ref b23), .val (.int ov225), .unset, .unset, .unset, .unset] [(.long ov22)])) rfl (by rw [hml]; rfl) (argsL := [(.long ov22)]) (rest := []) (lenOf pd_3 rfl) rfl (by show 2 * 0 + _ ≤ _; exact Nat.le_of_eq rfl) (hb hby at_224) (fun _ _ => ⟨rfl, e233, (by decide : 19 + 0 ≤ _), (by decide : 104 + 0 ≤ _)⟩)
                      dsimp only [Pt.U, Pt.locs, Pt.cells, Pt.slots] at X238 l238 y238 z238 st238 hQ238
                      subst l238 y238 z238
                      obtain ⟨rfl, Nq238, e238⟩ := hQ238
                      have N238 := Fr.app N233 Nq238
                      have pre239 : ∀ t, Steps p.tables e below (T238.setTop (mkF m 227 #[.val (.int x0), .val (.long x1), .second, .val (.long x2), .second, .val (.int x3), .val (.int oj3), .val (.int oj9), .val (.int oj15), .val (.long ov19), .second, .val (.long ov20), .second, .val (.long ov21), .second, .val (.long ov22), .second, .val (.ref b23), .val (.int ov225), .unset, .unset, .unset, .unset] [(.int (f6 ov22))])) t → Steps p.tables e below (s₁.setTop (entryFrame m #[(.int x0), (.long x1), (.long x2), (.int x3)] maxLocals)) t := by
                        intro t k
                        refine pre236 _ ?_
                        show Steps p.tables e below (T233.setTop (mkF m 219 #[.val (.int x0), .val (.long x1), .second, .val (.long x2), .second, .val (.int x3), .val (.int oj3), .val (.int oj9), .val (.int oj15), .val (.long ov19), .second, .val (.long ov20), .second, .val (.long ov21), .second, .val (.long ov22), .second, .val (.ref b23), .val (.int ov225), .unset, .unset, .unset, .unset] [(.int oj9)])) _
                        refine XS.ifNo X233.here hx rfl (hb hby at_219) rfl hc237 ?_
                        show Steps p.tables e below (T233.setTop (mkF m 222 #[.val (.int x0), .val (.long x1), .second, .val (.long x2), .second, .val (.int x3), .val (.int oj3), .val (.int oj9), .val (.int oj15), .val (.long ov19), .second, .val (.long ov20), .second, .val (.long ov21), .second, .val (.long ov22), .second, .val (.ref b23), .val (.int ov225), .unset, .unset, .unset, .unset] [])) _
                        refine XS.lload X233.here hx rfl (hb hby at_222) rfl ?_
                        show Steps p.tables e below (T233.setTop (mkF m 224 #[.val (.int x0), .val (.long x1), .second, .val (.long x2), .second, .val (.int x3), .val (.int oj3), .val (.int oj9), .val (.int oj15), .val (.long ov19), .second, .val (.long ov20), .second, .val (.long ov21), .second, .val (.long ov22), .second, .val (.ref b23), .val (.int ov225), .unset, .unset, .unset, .unset] [(.long ov22)])) _
                        refine st238 _ ?_
                        exact k
                      obtain ⟨T242, L242, X242, N242, e242, pre242⟩ : ∃ (T' : State) (L' : List Loc), Stand p l e room_1 s m #[(.int x0), (.long x1), (.long x2), (.int x3)] below meth c T' L' 19 104 ∧ Fr n0 L' ∧ T'.heap = h197 ∧ ∀ t, Steps p.tables e below (T'.setTop (mkF m 235 #[.val (.int x0), .val (.long x1), .second, .val (.long x2), .second, .val (.int x3), .val (.int oj3), .val (.int oj9), .val (.int oj15), .val (.long ov19), .second, .val (.long ov20), .second, .val (.long ov21), .second, .val (.long ov22), .second, .val (.ref b23), .val (.int ov225), .unset, .unset, .unset, .unset] [(.int oj241)])) t → Steps p.tables e below (s₁.setTop (entryFrame m #[(.int x0), (.long x1), (.long x2), (.int x3)] maxLocals)) t := by
                        rcases Bool.eq_false_or_eq_true (ifCond.holds .eq (f6 ov22)) with hc240 | hc240
                        · have pre243 : ∀ t, Steps p.tables e below (T238.setTop (mkF m 235 #[.val (.int x0), .val (.long x1), .second, .val (.long x2), .second, .val (.int x3), .val (.int oj3), .val (.int oj9), .val (.int oj15), .val (.long ov19), .second, .val (.long ov20), .second, .val (.long ov21), .second, .val (.long ov22), .second, .val (.ref b23), .val (.int ov225), .unset, .unset, .unset, .unset] [(.int (0 : Int32))])) t → Steps p.tables e below (s₁.setTop (entryFrame m #[(.int x0), (.long x1), (.long x2), (.int x3)] maxLocals)) t := by
                            intro t k
                            refine pre239 _ ?_
                            show Steps p.tables e below (T238.setTop (mkF m 227 #[.val (.int x0), .val (.long x1), .second, .val (.long x2), .second, .val (.int x3), .val (.int oj3), .val (.int oj9), .val (.int oj15), .val (.long ov19), .second, .val (.long ov20), .second, .val (.long ov21), .second, .val (.long ov22), .second, .val (.ref b23), .val (.int ov225), .unset, .unset, .unset, .unset] [(.int (f6 ov22))])) _
                            refine XS.ifYes X238.here hx rfl (pc0 := 227) (pc' := 234) rfl (hb hby at_227) rfl hc240 (by decide) (by decide) ?_
                            show Steps p.tables e below (T238.setTop (mkF m 234 #[.val (.int x0), .val (.long x1), .second, .val (.long x2), .second, .val (.int x3), .val (.int oj3), .val (.int oj9), .val (.int oj15), .val (.long ov19), .second, .val (.long ov20), .second, .val (.long ov21), .second, .val (.long ov22), .second, .val (.ref b23), .val (.int ov225), .unset, .unset, .unset, .unset] [])) _
                            refine XS.iconst X238.here hx rfl (hb hby at_234) ?_
                            exact k
                          have qj0 : oj241 = (0 : Int32) := Eq.trans d_oj241 (if_pos hc240)
                          refine ⟨T238, _, X238, N238, e238, fun t k => pre243 _ ?_⟩
                          rw [qj0] at k
                          exact k
                        · have pre244 : ∀ t, Steps p.tables e below (T238.setTop (mkF m 235 #[.val (.int x0), .val (.long x1), .second, .val (.long x2), .second, .val (.int x3), .val (.int oj3), .val (.int oj9), .val (.int oj15), .val (.long ov19), .second, .val (.long ov20), .second, .val (.long ov21), .second, .val (.long ov22), .second, .val (.ref b23), .val (.int ov225), .unset, .unset, .unset, .unset] [(.int (1 : Int32))])) t → Steps p.tables e below (s₁.setTop (entryFrame m #[(.int x0), (.long x1), (.long x2), (.int x3)] maxLocals)) t := by
                            intro t k
                            refine pre239 _ ?_
                            show Steps p.tables e below (T238.setTop (mkF m 227 #[.val (.int x0), .val (.long x1), .second, .val (.long x2), .second, .val (.int x3), .val (.int oj3), .val (.int oj9), .val (.int oj15), .val (.long ov19), .second, .val (.long ov20), .second, .val (.long ov21), .second, .val (.long ov22), .second, .val (.ref b23), .val (.int ov225), .unset, .unset, .unset, .unset] [(.int (f6 ov22))])) _
                            refine XS.ifNo X238.here hx rfl (hb hby at_227) rfl hc240 ?_
                            show Steps p.tables e below (T238.setTop (mkF m 230 #[.val (.int x0), .val (.long x1), .second, .val (.long x2), .second, .val (.int x3), .val (.int oj3), .val (.int oj9), .val (.int oj15), .val (.long ov19), .second, .val (.long ov20), .second, .val (.long ov21), .second, .val (.long ov22), .second, .val (.ref b23), .val (.int ov225), .unset, .unset, .unset, .unset] [])) _
                            refine XS.iconst X238.here hx rfl (hb hby at_230) ?_
                            show Steps p.tables e below (T238.setTop (mkF m 231 #[.val (.int x0), .val (.long x1), .second, .val (.long x2), .second, .val (.int x3), .val (.int oj3), .val (.int oj9), .val (.int oj15), .val (.long ov19), .second, .val (.long ov20), .second, .val (.long ov21), .second, .val (.long ov22), .second, .val (.ref b23), .val (.int ov225), .unset, .unset, .unset, .unset] [(.int (1 : Int32))])) _
                            refine XS.goto X238.here hx rfl (pc0 := 231) (pc' := 235) rfl (hb hby at_231) (by decide) (by decide) ?_
                            exact k
                          have qj0 : oj241 = (1 : Int32) := Eq.trans d_oj241 (if_neg (own_nt hc240))
                          refine ⟨T238, _, X238, N238, e238, fun t k => pre244 _ ?_⟩
                          rw [qj0] at k
                          exact k
                      have qj0 : oj245 = oj241 := Eq.trans d_oj245 (if_neg (own_nt hc237))
                      refine ⟨T242, _, X242, N242, e242, fun t k => pre242 _ ?_⟩
                      rw [qj0] at k
                      exact k
                  have qj0 : oj248 = oj245 := Eq.trans d_oj248 (if_neg (own_nt hc235))
                  refine ⟨T246, _, X246, N246, e246, fun t k => pre246 _ ?_⟩
                  rw [qj0] at k
                  exact k
              have qj0 : oj251 = oj248 := Eq.trans d_oj251 (if_neg (own_nt hc232))
              refine ⟨T249, _, X249, N249, e249, fun t k => pre249 _ ?_⟩
              rw [qj0] at k
              exact k
          have qj0 : oj283 = oj251 := Eq.trans d_oj283 (if_pos hc230)
          refine ⟨T252, _, X252, N252, e252, fun t k => pre252 _ ?_⟩
          rw [qj0] at k
          exact k
        · obtain ⟨_, _, ⟨T254, L254, k254, n254⟩, -, X254, ⟨Lc254, hQ254, l254, y254, z254⟩, st254⟩ := Jvm.LawKit.callS X226 hx (y := (⟨"dev/stratumaudio/SideInformationIsPossiblePinLaw", "ok", "(J)Z"⟩ : MethodName)) hown (mvT hZ (hw _ (List.mem_of_getElem? (i := 67) rfl))) (mvT hZ (hw _ (List.mem_of_getElem? (i := 68) rfl))) (mvT hZ (hw _ (List.mem_of_getElem? (i := 41) rfl))) (mvT hZ (hw _ (List.mem_of_getElem? (i := 69) rfl))) (by decide) (backOf (W := 0) (rm6 l Z a0 hw [] ov20 h197 n0 Z197) hZ (hw _ (List.mem_of_getElem? (i := 69) rfl)) (hw _ (List.mem_of_getElem? (i := 41) rfl)) (by decide) (by decide)) (g := (mkF m 198 #[.val (.int x0), .val (.long x1), .second, .val (.long x2), .second, .val (.int x3), .val (.int oj3), .val (.int oj9), .val (.int oj15), .val (.long ov19), .second, .val (.long ov20), .second, .val (.long ov21), .second, .val (.long ov22), .second, .val (.ref b23), .val (.int ov225), .unset, .unset, .unset, .unset] [(.long ov20)])) rfl (by rw [hml]; rfl) (argsL := [(.long ov20)]) (rest := []) (lenOf pd_3 rfl) rfl (by show 2 * 0 + _ ≤ _; exact Nat.le_of_eq rfl) (hb hby at_198) (fun _ _ => ⟨rfl, e226, (by decide : 19 + 0 ≤ _), (by decide : 104 + 0 ≤ _)⟩)
          dsimp only [Pt.U, Pt.locs, Pt.cells, Pt.slots] at X254 l254 y254 z254 st254 hQ254
          subst l254 y254 z254
          obtain ⟨rfl, Nq254, e254⟩ := hQ254
          have N254 := Fr.app N226 Nq254
          have pre255 : ∀ t, Steps p.tables e below (T254.setTop (mkF m 201 #[.val (.int x0), .val (.long x1), .second, .val (.long x2), .second, .val (.int x3), .val (.int oj3), .val (.int oj9), .val (.int oj15), .val (.long ov19), .second, .val (.long ov20), .second, .val (.long ov21), .second, .val (.long ov22), .second, .val (.ref b23), .val (.int ov225), .unset, .unset, .unset, .unset] [(.int (f6 ov20))])) t → Steps p.tables e below (s₁.setTop (entryFrame m #[(.int x0), (.long x1), (.long x2), (.int x3)] maxLocals)) t := by
            intro t k
            refine pre229 _ ?_
            show Steps p.tables e below (T226.setTop (mkF m 193 #[.val (.int x0), .val (.long x1), .second, .val (.long x2), .second, .val (.int x3), .val (.int oj3), .val (.int oj9), .val (.int oj15), .val (.long ov19), .second, .val (.long ov20), .second, .val (.long ov21), .second, .val (.long ov22), .second, .val (.ref b23), .val (.int ov225), .unset, .unset, .unset, .unset] [(.int oj9)])) _
            refine XS.ifNo X226.here hx rfl (hb hby at_193) rfl hc230 ?_
            show Steps p.tables e below (T226.setTop (mkF m 196 #[.val (.int x0), .val (.long x1), .second, .val (.long x2), .second, .val (.int x3), .val (.int oj3), .val (.int oj9), .val (.int oj15), .val (.long ov19), .second, .val (.long ov20), .second, .val (.long ov21), .second, .val (.long ov22), .second, .val (.ref b23), .val (.int ov225), .unset, .unset, .unset, .unset] [])) _
            refine XS.lload X226.here hx rfl (hb hby at_196) rfl ?_
            show Steps p.tables e below (T226.setTop (mkF m 198 #[.val (.int x0), .val (.long x1), .second, .val (.long x2), .second, .val (.int x3), .val (.int oj3), .val (.int oj9), .val (.int oj15), .val (.long ov19), .second, .val (.long ov20), .second, .val (.long ov21), .second, .val (.long ov22), .second, .val (.ref b23), .val (.int ov225), .unset, .unset, .unset, .unset] [(.long ov20)])) _
            refine st254 _ ?_
            exact k
          obtain ⟨T281, L281, X281, N281, e281, pre281⟩ : ∃ (T' : State) (L' : List Loc), Stand p l e room_1 s m #[(.int x0), (.long x1), (.long x2), (.int x3)] below meth c T' L' 19 104 ∧ Fr n0 L' ∧ T'.heap = h197 ∧ ∀ t, Steps p.tables e below (T'.setTop (mkF m 235 #[.val (.int x0), .val (.long x1), .second, .val (.long x2), .second, .val (.int x3), .val (.int oj3), .val (.int oj9), .val (.int oj15), .val (.long ov19), .second, .val (.long ov20), .second, .val (.long ov21), .second, .val (.long ov22), .second, .val (.ref b23), .val (.int ov225), .unset, .unset, .unset, .unset] [(.int oj280)])) t → Steps p.tables e below (s₁.setTop (entryFrame m #[(.int x0), (.long x1), (.long x2), (.int x3)] maxLocals)) t := by
            rcases Bool.eq_false_or_eq_true (ifCond.holds .eq (f6 ov20)) with hc256 | hc256
            · have pre282 : ∀ t, Steps p.tables e below (T254.setTop (mkF m 235 #[.val (.int x0), .val (.long x1), .second, .val (.long x2), .second, .val (.int x3), .val (.int oj3), .val (.int oj9), .val (.int oj15), .val (.long ov19), .second, .val (.long ov20), .second, .val (.long ov21), .second, .val (.long ov22), .second, .val (.ref b23), .val (.int ov225), .unset, .unset, .unset, .unset] [(.int (0 : Int32))])) t → Steps p.tables e below (s₁.setTop (entryFrame m #[(.int x0), (.long x1), (.long x2), (.int x3)] maxLocals)) t := by
                intro t k
                refine pre255 _ ?_
                show Steps p.tables e below (T254.setTop (mkF m 201 #[.val (.int x0), .val (.long x1), .second, .val (.long x2), .second, .val (.int x3), .val (.int oj3), .val (.int oj9), .val (.int oj15), .val (.long ov19), .second, .val (.long ov20), .second, .val (.long ov21), .second, .val (.long ov22), .second, .val (.ref b23), .val (.int ov225), .unset, .unset, .unset, .unset] [(.int (f6 ov20))])) _
                refine XS.ifYes X254.here hx rfl (pc0 := 201) (pc' := 234) rfl (hb hby at_201) rfl hc256 (by decide) (by decide) ?_
                show Steps p.tables e below (T254.setTop (mkF m 234 #[.val (.int x0), .val (.long x1), .second, .val (.long x2), .second, .val (.int x3), .val (.int oj3), .val (.int oj9), .val (.int oj15), .val (.long ov19), .second, .val (.long ov20), .second, .val (.long ov21), .second, .val (.long ov22), .second, .val (.ref b23), .val (.int ov225), .unset, .unset, .unset, .unset] [])) _
                refine XS.iconst X254.here hx rfl (hb hby at_234) ?_
                exact k
              have qj0 : oj280 = (0 : Int32) := Eq.trans d_oj280 (if_pos hc256)
              refine ⟨T254, _, X254, N254, e254, fun t k => pre282 _ ?_⟩
              rw [qj0] at k
              exact k
            · have pre257 : ∀ t, Steps p.tables e below (T254.setTop (mkF m 206 #[.val (.int x0), .val (.long x1), .second, .val (.long x2), .second, .val (.int x3), .val (.int oj3), .val (.int oj9), .val (.int oj15), .val (.long ov19), .second, .val (.long ov20), .second, .val (.long ov21), .second, .val (.long ov22), .second, .val (.ref b23), .val (.int ov225), .unset, .unset, .unset, .unset] [(.int oj3)])) t → Steps p.tables e below (s₁.setTop (entryFrame m #[(.int x0), (.long x1), (.long x2), (.int x3)] maxLocals)) t := by
                intro t k
                refine pre255 _ ?_
                show Steps p.tables e below (T254.setTop (mkF m 201 #[.val (.int x0), .val (.long x1), .second, .val (.long x2), .second, .val (.int x3), .val (.int oj3), .val (.int oj9), .val (.int oj15), .val (.long ov19), .second, .val (.long ov20), .second, .val (.long ov21), .second, .val (.long ov22), .second, .val (.ref b23), .val (.int ov225), .unset, .unset, .unset, .unset] [(.int (f6 ov20))])) _
                refine XS.ifNo X254.here hx rfl (hb hby at_201) rfl hc256 ?_
                show Steps p.tables e below (T254.setTop (mkF m 204 #[.val (.int x0), .val (.long x1), .second, .val (.long x2), .second, .val (.int x3), .val (.int oj3), .val (.int oj9), .val (.int oj15), .val (.long ov19), .second, .val (.long ov20), .second, .val (.long ov21), .second, .val (.long ov22), .second, .val (.ref b23), .val (.int ov225), .unset, .unset, .unset, .unset] [])) _
                refine XS.iload X254.here hx rfl (hb hby at_204) rfl ?_
                exact k
              obtain ⟨T278, L278, X278, N278, e278, pre278⟩ : ∃ (T' : State) (L' : List Loc), Stand p l e room_1 s m #[(.int x0), (.long x1), (.long x2), (.int x3)] below meth c T' L' 19 104 ∧ Fr n0 L' ∧ T'.heap = h197 ∧ ∀ t, Steps p.tables e below (T'.setTop (mkF m 235 #[.val (.int x0), .val (.long x1), .second, .val (.long x2), .second, .val (.int x3), .val (.int oj3), .val (.int oj9), .val (.int oj15), .val (.long ov19), .second, .val (.long ov20), .second, .val (.long ov21), .second, .val (.long ov22), .second, .val (.ref b23), .val (.int ov225), .unset, .unset, .unset, .unset] [(.int oj277)])) t → Steps p.tables e below (s₁.setTop (entryFrame m #[(.int x0), (.long x1), (.long x2), (.int x3)] maxLocals)) t := by
                rcases Bool.eq_false_or_eq_true (ifCond.holds .eq oj3) with hc258 | hc258
                · have pre279 : ∀ t, Steps p.tables e below (T254.setTop (mkF m 235 #[.val (.int x0), .val (.long x1), .second, .val (.long x2), .second, .val (.int x3), .val (.int oj3), .val (.int oj9), .val (.int oj15), .val (.long ov19), .second, .val (.long ov20), .second, .val (.long ov21), .second, .val (.long ov22), .second, .val (.ref b23), .val (.int ov225), .unset, .unset, .unset, .unset] [(.int (1 : Int32))])) t → Steps p.tables e below (s₁.setTop (entryFrame m #[(.int x0), (.long x1), (.long x2), (.int x3)] maxLocals)) t := by
                    intro t k
                    refine pre257 _ ?_
                    show Steps p.tables e below (T254.setTop (mkF m 206 #[.val (.int x0), .val (.long x1), .second, .val (.long x2), .second, .val (.int x3), .val (.int oj3), .val (.int oj9), .val (.int oj15), .val (.long ov19), .second, .val (.long ov20), .second, .val (.long ov21), .second, .val (.long ov22), .second, .val (.ref b23), .val (.int ov225), .unset, .unset, .unset, .unset] [(.int oj3)])) _
                    refine XS.ifYes X254.here hx rfl (pc0 := 206) (pc' := 230) rfl (hb hby at_206) rfl hc258 (by decide) (by decide) ?_
                    show Steps p.tables e below (T254.setTop (mkF m 230 #[.val (.int x0), .val (.long x1), .second, .val (.long x2), .second, .val (.int x3), .val (.int oj3), .val (.int oj9), .val (.int oj15), .val (.long ov19), .second, .val (.long ov20), .second, .val (.long ov21), .second, .val (.long ov22), .second, .val (.ref b23), .val (.int ov225), .unset, .unset, .unset, .unset] [])) _
                    refine XS.iconst X254.here hx rfl (hb hby at_230) ?_
                    show Steps p.tables e below (T254.setTop (mkF m 231 #[.val (.int x0), .val (.long x1), .second, .val (.long x2), .second, .val (.int x3), .val (.int oj3), .val (.int oj9), .val (.int oj15), .val (.long ov19), .second, .val (.long ov20), .second, .val (.long ov21), .second, .val (.long ov22), .second, .val (.ref b23), .val (.int ov225), .unset, .unset, .unset, .unset] [(.int (1 : Int32))])) _
                    refine XS.goto X254.here hx rfl (pc0 := 231) (pc' := 235) rfl (hb hby at_231) (by decide) (by decide) ?_
                    exact k
                  have qj0 : oj277 = (1 : Int32) := Eq.trans d_oj277 (if_pos hc258)
                  refine ⟨T254, _, X254, N254, e254, fun t k => pre279 _ ?_⟩
                  rw [qj0] at k
                  exact k
                · obtain ⟨_, _, ⟨T259, L259, k259, n259⟩, -, X259, ⟨Lc259, hQ259, l259, y259, z259⟩, st259⟩ := Jvm.LawKit.callS X254 hx (y := (⟨"dev/stratumaudio/SideInformationIsPossiblePinLaw", "ok", "(J)Z"⟩ : MethodName)) hown (mvT hZ (hw _ (List.mem_of_getElem? (i := 67) rfl))) (mvT hZ (hw _ (List.mem_of_getElem? (i := 68) rfl))) (mvT hZ (hw _ (List.mem_of_getElem? (i := 41) rfl))) (mvT hZ (hw _ (List.mem_of_getElem? (i := 69) rfl))) (by decide) (backOf (W := 0) (rm6 l Z a0 hw [] ov21 h197 n0 Z197) hZ (hw _ (List.mem_of_getElem? (i := 69) rfl)) (hw _ (List.mem_of_getElem? (i := 41) rfl)) (by decide) (by decide)) (g := (mkF m 211 #[.val (.int x0), .val (.long x1), .second, .val (.long x2), .second, .val (.int x3), .val (.int oj3), .val (.int oj9), .val (.int oj15), .val (.long ov19), .second, .val (.long ov20), .second, .val (.long ov21), .second, .val (.long ov22), .second, .val (.ref b23), .val (.int ov225), .unset, .unset, .unset, .unset] [(.long ov21)])) rfl (by rw [hml]; rfl) (argsL := [(.long ov21)]) (rest := []) (lenOf pd_3 rfl) rfl (by show 2 * 0 + _ ≤ _; exact Nat.le_of_eq rfl) (hb hby at_211) (fun _ _ => ⟨rfl, e254, (by decide : 19 + 0 ≤ _), (by decide : 104 + 0 ≤ _)⟩)
                  dsimp only [Pt.U, Pt.locs, Pt.cells, Pt.slots] at X259 l259 y259 z259 st259 hQ259
                  subst l259 y259 z259
                  obtain ⟨rfl, Nq259, e259⟩ := hQ259
                  have N259 := Fr.app N254 Nq259
                  have pre260 : ∀ t, Steps p.tables e below (T259.setTop (mkF m 214 #[.val (.int x0), .val (.long x1), .second, .val (.long x2), .second, .val (.int x3), .val (.int oj3), .val (.int oj9), .val (.int oj15), .val (.long ov19), .second, .val (.long ov20), .second, .val (.long ov21), .second, .val (.long ov22), .second, .val (.ref b23), .val (.int ov225), .unset, .unset, .unset, .unset] [(.int (f6 ov21))])) t → Steps p.tables e below (s₁.setTop (entryFrame m #[(.int x0), (.long x1), (.long x2), (.int x3)] maxLocals)) t := by
                    intro t k
                    refine pre257 _ ?_
                    show Steps p.tables e below (T254.setTop (mkF m 206 #[.val (.int x0), .val (.long x1), .second, .val (.long x2), .second, .val (.int x3), .val (.int oj3), .val (.int oj9), .val (.int oj15), .val (.long ov19), .second, .val (.long ov20), .second, .val (.long ov21), .second, .val (.long ov22), .second, .val (.ref b23), .val (.int ov225), .unset, .unset, .unset, .unset] [(.int oj3)])) _
                    refine XS.ifNo X254.here hx rfl (hb hby at_206) rfl hc258 ?_
                    show Steps p.tables e below (T254.setTop (mkF m 209 #[.val (.int x0), .val (.long x1), .second, .val (.long x2), .second, .val (.int x3), .val (.int oj3), .val (.int oj9), .val (.int oj15), .val (.long ov19), .second, .val (.long ov20), .second, .val (.long ov21), .second, .val (.long ov22), .second, .val (.ref b23), .val (.int ov225), .unset, .unset, .unset, .unset] [])) _
                    refine XS.lload X254.here hx rfl (hb hby at_209) rfl ?_
                    show Steps p.tables e below (T254.setTop (mkF m 211 #[.val (.int x0), .val (.long x1), .second, .val (.long x2), .second, .val (.int x3), .val (.int oj3), .val (.int oj9), .val (.int oj15), .val (.long ov19), .second, .val (.long ov20), .second, .val (.long ov21), .second, .val (.long ov22), .second, .val (.ref b23), .val (.int ov225), .unset, .unset, .unset, .unset] [(.long ov21)])) _
                    refine st259 _ ?_
                    exact k
                  obtain ⟨T275, L275, X275, N275, e275, pre275⟩ : ∃ (T' : State) (L' : List Loc), Stand p l e room_1 s m #[(.int x0), (.long x1), (.long x2), (.int x3)] below meth c T' L' 19 104 ∧ Fr n0 L' ∧ T'.heap = h197 ∧ ∀ t, Steps p.tables e below (T'.setTop (mkF m 235 #[.val (.int x0), .val (.long x1), .second, .val (.long x2), .second, .val (.int x3), .val (.int oj3), .val (.int oj9), .val (.int oj15), .val (.long ov19), .second, .val (.long ov20), .second, .val (.long ov21), .second, .val (.long ov22), .second, .val (.ref b23), .val (.int ov225), .unset, .unset, .unset, .unset] [(.int oj274)])) t → Steps p.tables e below (s₁.setTop (entryFrame m #[(.int x0), (.long x1), (.long x2), (.int x3)] maxLocals)) t := by
                    rcases Bool.eq_false_or_eq_true (ifCond.holds .eq (f6 ov21)) with hc261 | hc261
                    · have pre276 : ∀ t, Steps p.tables e below (T259.setTop (mkF m 235 #[.val (.int x0), .val (.long x1), .second, .val (.long x2), .second, .val (.int x3), .val (.int oj3), .val (.int oj9), .val (.int oj15), .val (.long ov19), .second, .val (.long ov20), .second, .val (.long ov21), .second, .val (.long ov22), .second, .val (.ref b23), .val (.int ov225), .unset, .unset, .unset, .unset] [(.int (0 : Int32))])) t → Steps p.tables e below (s₁.setTop (entryFrame m #[(.int x0), (.long x1), (.long x2), (.int x3)] maxLocals)) t := by
                        intro t k
                        refine pre260 _ ?_
                        show Steps p.tables e below (T259.setTop (mkF m 214 #[.val (.int x0), .val (.long x1), .second, .val (.long x2), .second, .val (.int x3), .val (.int oj3), .val (.int oj9), .val (.int oj15), .val (.long ov19), .second, .val (.long ov20), .second, .val (.long ov21), .second, .val (.long ov22), .second, .val (.ref b23), .val (.int ov225), .unset, .unset, .unset, .unset] [(.int (f6 ov21))])) _
                        refine XS.ifYes X259.here hx rfl (pc0 := 214) (pc' := 234) rfl (hb hby at_214) rfl hc261 (by decide) (by decide) ?_
                        show Steps p.tables e below (T259.setTop (mkF m 234 #[.val (.int x0), .val (.long x1), .second, .val (.long x2), .second, .val (.int x3), .val (.int oj3), .val (.int oj9), .val (.int oj15), .val (.long ov19), .second, .val (.long ov20), .second, .val (.long ov21), .second, .val (.long ov22), .second, .val (.ref b23), .val (.int ov225), .unset, .unset, .unset, .unset] [])) _
                        refine XS.iconst X259.here hx rfl (hb hby at_234) ?_
                        exact k
                      have qj0 : oj274 = (0 : Int32) := Eq.trans d_oj274 (if_pos hc261)
                      refine ⟨T259, _, X259, N259, e259, fun t k => pre276 _ ?_⟩
                      rw [qj0] at k
                      exact k
                    · have pre262 : ∀ t, Steps p.tables e below (T259.setTop (mkF m 219 #[.val (.int x0), .val (.long x1), .second, .val (.long x2), .second, .val (.int x3), .val (.int oj3), .val (.int oj9), .val (.int oj15), .val (.long ov19), .second, .val (.long ov20), .second, .val (.long ov21), .second, .val (.long ov22), .second, .val (.ref b23), .val (.int ov225), .unset, .unset, .unset, .unset] [(.int oj9)])) t → Steps p.tables e below (s₁.setTop (entryFrame m #[(.int x0), (.long x1), (.long x2), (.int x3)] maxLocals)) t := by
                        intro t k
                        refine pre260 _ ?_
                        show Steps p.tables e below (T259.setTop (mkF m 214 #[.val (.int x0), .val (.long x1), .second, .val (.long x2), .second, .val (.int x3), .val (.int oj3), .val (.int oj9), .val (.int oj15), .val (.long ov19), .second, .val (.long ov20), .second, .val (.long ov21), .second, .val (.long ov22), .second, .val (.ref b23), .val (.int ov225), .unset, .unset, .unset, .unset] [(.int (f6 ov21))])) _
                        refine XS.ifNo X259.here hx rfl (hb hby at_214) rfl hc261 ?_
                        show Steps p.tables e below (T259.setTop (mkF m 217 #[.val (.int x0), .val (.long x1), .second, .val (.long x2), .second, .val (.int x3), .val (.int oj3), .val (.int oj9), .val (.int oj15), .val (.long ov19), .second, .val (.long ov20), .second, .val (.long ov21), .second, .val (.long ov22), .second, .val (.ref b23), .val (.int ov225), .unset, .unset, .unset, .unset] [])) _
                        refine XS.iload X259.here hx rfl (hb hby at_217) rfl ?_
                        exact k
                      obtain ⟨T272, L272, X272, N272, e272, pre272⟩ : ∃ (T' : State) (L' : List Loc), Stand p l e room_1 s m #[(.int x0), (.long x1), (.long x2), (.int x3)] below meth c T' L' 19 104 ∧ Fr n0 L' ∧ T'.heap = h197 ∧ ∀ t, Steps p.tables e below (T'.setTop (mkF m 235 #[.val (.int x0), .val (.long x1), .second, .val (.long x2), .second, .val (.int x3), .val (.int oj3), .val (.int oj9), .val (.int oj15), .val (.long ov19), .second, .val (.long ov20), .second, .val (.long ov21), .second, .val (.long ov22), .second, .val (.ref b23), .val (.int ov225), .unset, .unset, .unset, .unset] [(.int oj271)])) t → Steps p.tables e below (s₁.setTop (entryFrame m #[(.int x0), (.long x1), (.long x2), (.int x3)] maxLocals)) t := by
                        rcases Bool.eq_false_or_eq_true (ifCond.holds .eq oj9) with hc263 | hc263
                        · have pre273 : ∀ t, Steps p.tables e below (T259.setTop (mkF m 235 #[.val (.int x0), .val (.long x1), .second, .val (.long x2), .second, .val (.int x3), .val (.int oj3), .val (.int oj9), .val (.int oj15), .val (.long ov19), .second, .val (.long ov20), .second, .val (.long ov21), .second, .val (.long ov22), .second, .val (.ref b23), .val (.int ov225), .unset, .unset, .unset, .unset] [(.int (1 : Int32))])) t → Steps p.tables e below (s₁.setTop (entryFrame m #[(.int x0), (.long x1), (.long x2), (.int x3)] maxLocals)) t := by
                            intro t k
                            refine pre262 _ ?_
                            show Steps p.tables e below (T259.setTop (mkF m 219 #[.val (.int x0), .val (.long x1), .second, .val (.long x2), .second, .val (.int x3), .val (.int oj3), .val (.int oj9), .val (.int oj15), .val (.long ov19), .second, .val (.long ov20), .second, .val (.long ov21), .second, .val (.long ov22), .second, .val (.ref b23), .val (.int ov225), .unset, .unset, .unset, .unset] [(.int oj9)])) _
                            refine XS.ifYes X259.here hx rfl (pc0 := 219) (pc' := 230) rfl (hb hby at_219) rfl hc263 (by decide) (by decide) ?_
                            show Steps p.tables e below (T259.setTop (mkF m 230 #[.val (.int x0), .val (.long x1), .second, .val (.long x2), .second, .val (.int x3), .val (.int oj3), .val (.int oj9), .val (.int oj15), .val (.long ov19), .second, .val (.long ov20), .second, .val (.long ov21), .second, .val (.long ov22), .second, .val (.ref b23), .val (.int ov225), .unset, .unset, .unset, .unset] [])) _
                            refine XS.iconst X259.here hx rfl (hb hby at_230) ?_
                            show Steps p.tables e below (T259.setTop (mkF m 231 #[.val (.int x0), .val (.long x1), .second, .val (.long x2), .second, .val (.int x3), .val (.int oj3), .val (.int oj9), .val (.int oj15), .val (.long ov19), .second, .val (.long ov20), .second, .val (.long ov21), .second, .val (.long ov22), .second, .val (.ref b23), .val (.int ov225), .unset, .unset, .unset, .unset] [(.int (1 : Int32))])) _
                            refine XS.goto X259.here hx rfl (pc0 := 231) (pc' := 235) rfl (hb hby at_231) (by decide) (by decide) ?_
                            exact k
                          have qj0 : oj271 = (1 : Int32) := Eq.trans d_oj271 (if_pos hc263)
                          refine ⟨T259, _, X259, N259, e259, fun t k => pre273 _ ?_⟩
                          rw [qj0] at k
                          exact k
                        · obtain ⟨_, _, ⟨T264, L264, k264, n264⟩, -, X264, ⟨Lc264, hQ264, l264, y264, z264⟩, st264⟩ := Jvm.LawKit.callS X259 hx (y := (⟨"dev/stratumaudio/SideInformationIsPossiblePinLaw", "ok", "(J)Z"⟩ : MethodName)) hown (mvT hZ (hw _ (List.mem_of_getElem? (i := 67) rfl))) (mvT hZ (hw _ (List.mem_of_getElem? (i := 68) rfl))) (mvT hZ (hw _ (List.mem_of_getElem? (i := 41) rfl))) (mvT hZ (hw _ (List.mem_of_getElem? (i := 69) rfl))) (by decide) (backOf (W := 0) (rm6 l Z a0 hw [] ov22 h197 n0 Z197) hZ (hw _ (List.mem_of_getElem? (i := 69) rfl)) (hw _ (List.mem_of_getElem? (i := 41) rfl)) (by decide) (by decide)) (g := (mkF m 224 #[.val (.int x0), .val (.long x1), .second, .val (.long x2), .second, .val (.int x3), .val (.int oj3), .val (.int oj9), .val (.int oj15), .val (.long ov19), .second, .val (.long ov20), .second, .val (.long ov21), .second, .val (.long ov22), .second, .val (.ref b23), .val (.int ov225), .unset, .unset, .unset, .unset] [(.long ov22)])) rfl (by rw [hml]; rfl) (argsL := [(.long ov22)]) (rest := []) (lenOf pd_3 rfl) rfl (by show 2 * 0 + _ ≤ _; exact Nat.le_of_eq rfl) (hb hby at_224) (fun _ _ => ⟨rfl, e259, (by decide : 19 + 0 ≤ _), (by decide : 104 + 0 ≤ _)⟩)
                          dsimp only [Pt.U, Pt.locs, Pt.cells, Pt.slots] at X264 l264 y264 z264 st264 hQ264
                          subst l264 y264 z264
                          obtain ⟨rfl, Nq264, e264⟩ := hQ264
                          have N264 := Fr.app N259 Nq264
                          have pre265 : ∀ t, Steps p.tables e below (T264.setTop (mkF m 227 #[.val (.int x0), .val (.long x1), .second, .val (.long x2), .second, .val (.int x3), .val (.int oj3), .val (.int oj9), .val (.int oj15), .val (.long ov19), .second, .val (.long ov20), .second, .val (.long ov21), .second, .val (.long ov22), .second, .val (.ref b23), .val (.int ov225), .unset, .unset, .unset, .unset] [(.int (f6 ov22))])) t → Steps p.tables e below (s₁.setTop (entryFrame m #[(.int x0), (.long x1), (.long x2), (.int x3)] maxLocals)) t := by
                            intro t k
                            refine pre262 _ ?_
                            show Steps p.tables e below (T259.setTop (mkF m 219 #[.val (.int x0), .val (.long x1), .second, .val (.long x2), .second, .val (.int x3), .val (.int oj3), .val (.int oj9), .val (.int oj15), .val (.long ov19), .second, .val (.long ov20), .second, .val (.long ov21), .second, .val (.long ov22), .second, .val (.ref b23), .val (.int ov225), .unset, .unset, .unset, .unset] [(.int oj9)])) _
                            refine XS.ifNo X259.here hx rfl (hb hby at_219) rfl hc263 ?_
                            show Steps p.tables e below (T259.setTop (mkF m 222 #[.val (.int x0), .val (.long x1), .second, .val (.long x2), .second, .val (.int x3), .val (.int oj3), .val (.int oj9), .val (.int oj15), .val (.long ov19), .second, .val (.long ov20), .second, .val (.long ov21), .second, .val (.long ov22), .second, .val (.ref b23), .val (.int ov225), .unset, .unset, .unset, .unset] [])) _
                            refine XS.lload X259.here hx rfl (hb hby at_222) rfl ?_
                            show Steps p.tables e below (T259.setTop (mkF m 224 #[.val (.int x0), .val (.long x1), .second, .val (.long x2), .second, .val (.int x3), .val (.int oj3), .val (.int oj9), .val (.int oj15), .val (.long ov19), .second, .val (.long ov20), .second, .val (.long ov21), .second, .val (.long ov22), .second, .val (.ref b23), .val (.int ov225), .unset, .unset, .unset, .unset] [(.long ov22)])) _
                            refine st264 _ ?_
                            exact k
                          obtain ⟨T268, L268, X268, N268, e268, pre268⟩ : ∃ (T' : State) (L' : List Loc), Stand p l e room_1 s m #[(.int x0), (.long x1), (.long x2), (.int x3)] below meth c T' L' 19 104 ∧ Fr n0 L' ∧ T'.heap = h197 ∧ ∀ t, Steps p.tables e below (T'.setTop (mkF m 235 #[.val (.int x0), .val (.long x1), .second, .val (.long x2), .second, .val (.int x3), .val (.int oj3), .val (.int oj9), .val (.int oj15), .val (.long ov19), .second, .val (.long ov20), .second, .val (.long ov21), .second, .val (.long ov22), .second, .val (.ref b23), .val (.int ov225), .unset, .unset, .unset, .unset] [(.int oj267)])) t → Steps p.tables e below (s₁.setTop (entryFrame m #[(.int x0), (.long x1), (.long x2), (.int x3)] maxLocals)) t := by
                            rcases Bool.eq_false_or_eq_true (ifCond.holds .eq (f6 ov22)) with hc266 | hc266
                            · have pre269 : ∀ t, Steps p.tables e below (T264.setTop (mkF m 235 #[.val (.int x0), .val (.long x1), .second, .val (.long x2), .second, .val (.int x3), .val (.int oj3), .val (.int oj9), .val (.int oj15), .val (.long ov19), .second, .val (.long ov20), .second, .val (.long ov21), .second, .val (.long ov22), .second, .val (.ref b23), .val (.int ov225), .unset, .unset, .unset, .unset] [(.int (0 : Int32))])) t → Steps p.tables e below (s₁.setTop (entryFrame m #[(.int x0), (.long x1), (.long x2), (.int x3)] maxLocals)) t := by
                                intro t k
                                refine pre265 _ ?_
                                show Steps p.tables e below (T264.setTop (mkF m 227 #[.val (.int x0), .val (.long x1), .second, .val (.long x2), .second, .val (.int x3), .val (.int oj3), .val (.int oj9), .val (.int oj15), .val (.long ov19), .second, .val (.long ov20), .second, .val (.long ov21), .second, .val (.long ov22), .second, .val (.ref b23), .val (.int ov225), .unset, .unset, .unset, .unset] [(.int (f6 ov22))])) _
                                refine XS.ifYes X264.here hx rfl (pc0 := 227) (pc' := 234) rfl (hb hby at_227) rfl hc266 (by decide) (by decide) ?_
                                show Steps p.tables e below (T264.setTop (mkF m 234 #[.val (.int x0), .val (.long x1), .second, .val (.long x2), .second, .val (.int x3), .val (.int oj3), .val (.int oj9), .val (.int oj15), .val (.long ov19), .second, .val (.long ov20), .second, .val (.long ov21), .second, .val (.long ov22), .second, .val (.ref b23), .val (.int ov225), .unset, .unset, .unset, .unset] [])) _
                                refine XS.iconst X264.here hx rfl (hb hby at_234) ?_
                                exact k
                              have qj0 : oj267 = (0 : Int32) := Eq.trans d_oj267 (if_pos hc266)
                              refine ⟨T264, _, X264, N264, e264, fun t k => pre269 _ ?_⟩
                              rw [qj0] at k
                              exact k
                            · have pre270 : ∀ t, Steps p.tables e below (T264.setTop (mkF m 235 #[.val (.int x0), .val (.long x1), .second, .val (.long x2), .second, .val (.int x3), .val (.int oj3), .val (.int oj9), .val (.int oj15), .val (.long ov19), .second, .val (.long ov20), .second, .val (.long ov21), .second, .val (.long ov22), .second, .val (.ref b23), .val (.int ov225), .unset, .unset, .unset, .unset] [(.int (1 : Int32))])) t → Steps p.tables e below (s₁.setTop (entryFrame m #[(.int x0), (.long x1), (.long x2), (.int x3)] maxLocals)) t := by
                                intro t k
                                refine pre265 _ ?_
                                show Steps p.tables e below (T264.setTop (mkF m 227 #[.val (.int x0), .val (.long x1), .second, .val (.long x2), .second, .val (.int x3), .val (.int oj3), .val (.int oj9), .val (.int oj15), .val (.long ov19), .second, .val (.long ov20), .second, .val (.long ov21), .second, .val (.long ov22), .second, .val (.ref b23), .val (.int ov225), .unset, .unset, .unset, .unset] [(.int (f6 ov22))])) _
                                refine XS.ifNo X264.here hx rfl (hb hby at_227) rfl hc266 ?_
                                show Steps p.tables e below (T264.setTop (mkF m 230 #[.val (.int x0), .val (.long x1), .second, .val (.long x2), .second, .val (.int x3), .val (.int oj3), .val (.int oj9), .val (.int oj15), .val (.long ov19), .second, .val (.long ov20), .second, .val (.long ov21), .second, .val (.long ov22), .second, .val (.ref b23), .val (.int ov225), .unset, .unset, .unset, .unset] [])) _
                                refine XS.iconst X264.here hx rfl (hb hby at_230) ?_
                                show Steps p.tables e below (T264.setTop (mkF m 231 #[.val (.int x0), .val (.long x1), .second, .val (.long x2), .second, .val (.int x3), .val (.int oj3), .val (.int oj9), .val (.int oj15), .val (.long ov19), .second, .val (.long ov20), .second, .val (.long ov21), .second, .val (.long ov22), .second, .val (.ref b23), .val (.int ov225), .unset, .unset, .unset, .unset] [(.int (1 : Int32))])) _
                                refine XS.goto X264.here hx rfl (pc0 := 231) (pc' := 235) rfl (hb hby at_231) (by decide) (by decide) ?_
                                exact k
                              have qj0 : oj267 = (1 : Int32) := Eq.trans d_oj267 (if_neg (own_nt hc266))
                              refine ⟨T264, _, X264, N264, e264, fun t k => pre270 _ ?_⟩
                              rw [qj0] at k
                              exact k
                          have qj0 : oj271 = oj267 := Eq.trans d_oj271 (if_neg (own_nt hc263))
                          refine ⟨T268, _, X268, N268, e268, fun t k => pre268 _ ?_⟩
                          rw [qj0] at k
                          exact k
                      have qj0 : oj274 = oj271 := Eq.trans d_oj274 (if_neg (own_nt hc261))
                      refine ⟨T272, _, X272, N272, e272, fun t k => pre272 _ ?_⟩
                      rw [qj0] at k
                      exact k
                  have qj0 : oj277 = oj274 := Eq.trans d_oj277 (if_neg (own_nt hc258))
                  refine ⟨T275, _, X275, N275, e275, fun t k => pre275 _ ?_⟩
                  rw [qj0] at k
                  exact k
              have qj0 : oj280 = oj277 := Eq.trans d_oj280 (if_neg (own_nt hc256))
              refine ⟨T278, _, X278, N278, e278, fun t k => pre278 _ ?_⟩
              rw [qj0] at k
              exact k
          have qj0 : oj283 = oj280 := Eq.trans d_oj283 (if_neg (own_nt hc230))
          refine ⟨T281, _, X281, N281, e281, fun t k => pre281 _ ?_⟩
          rw [qj0] at k
          exact k
      have qj0 : oj285 = oj283 := Eq.trans d_oj285 (if_neg (own_nt hc228))
      refine ⟨T284, _, X284, N284, e284, fun t k => pre284 _ ?_⟩
      rw [qj0] at k
      exact k
  obtain ⟨_, _, ⟨T288, L288, k288, n288⟩, -, X288, ⟨Lc288, hQ288, l288, y288, z288⟩, st288⟩ := Jvm.LawKit.callS X286 hx (y := (⟨"dev/stratumaudio/SideInformationIsPossiblePinLaw", "part", "(J)J"⟩ : MethodName)) hown (mvT hZ (hw _ (List.mem_of_getElem? (i := 72) rfl))) (mvT hZ (hw _ (List.mem_of_getElem? (i := 73) rfl))) (mvT hZ (hw _ (List.mem_of_getElem? (i := 41) rfl))) (mvT hZ (hw _ (List.mem_of_getElem? (i := 74) rfl))) (by decide) (backOf (W := 0) (rm7 l Z a0 hw [] ov19 h197 n0 Z197) hZ (hw _ (List.mem_of_getElem? (i := 74) rfl)) (hw _ (List.mem_of_getElem? (i := 41) rfl)) (by decide) (by decide)) (g := (mkF m 239 #[.val (.int x0), .val (.long x1), .second, .val (.long x2), .second, .val (.int x3), .val (.int oj3), .val (.int oj9), .val (.int oj15), .val (.long ov19), .second, .val (.long ov20), .second, .val (.long ov21), .second, .val (.long ov22), .second, .val (.ref b23), .val (.int ov225), .val (.int oj285), .unset, .unset, .unset] [(.long ov19)])) rfl (by rw [hml]; rfl) (argsL := [(.long ov19)]) (rest := []) (lenOf pd_4 rfl) rfl (by show 2 * 0 + _ ≤ _; exact Nat.le_of_eq rfl) (hb hby at_239) (fun _ _ => ⟨rfl, e286, (by decide : 19 + 0 ≤ _), (by decide : 104 + 0 ≤ _)⟩)
  dsimp only [Pt.U, Pt.locs, Pt.cells, Pt.slots] at X288 l288 y288 z288 st288 hQ288
  subst l288 y288 z288
  obtain ⟨rfl, Nq288, e288⟩ := hQ288
  have N288 := Fr.app N286 Nq288
  have pre289 : ∀ t, Steps p.tables e below (T288.setTop (mkF m 244 #[.val (.int x0), .val (.long x1), .second, .val (.long x2), .second, .val (.int x3), .val (.int oj3), .val (.int oj9), .val (.int oj15), .val (.long ov19), .second, .val (.long ov20), .second, .val (.long ov21), .second, .val (.long ov22), .second, .val (.ref b23), .val (.int ov225), .val (.int oj285), .unset, .unset, .unset] [(.int oj9), (.long (f7 ov19))])) t → Steps p.tables e below (s₁.setTop (entryFrame m #[(.int x0), (.long x1), (.long x2), (.int x3)] maxLocals)) t := by
    intro t k
    refine pre286 _ ?_
    show Steps p.tables e below (T286.setTop (mkF m 235 #[.val (.int x0), .val (.long x1), .second, .val (.long x2), .second, .val (.int x3), .val (.int oj3), .val (.int oj9), .val (.int oj15), .val (.long ov19), .second, .val (.long ov20), .second, .val (.long ov21), .second, .val (.long ov22), .second, .val (.ref b23), .val (.int ov225), .unset, .unset, .unset, .unset] [(.int oj285)])) _
    refine XS.istore X286.here hx rfl (hb hby at_235) rfl (l' := #[.val (.int x0), .val (.long x1), .second, .val (.long x2), .second, .val (.int x3), .val (.int oj3), .val (.int oj9), .val (.int oj15), .val (.long ov19), .second, .val (.long ov20), .second, .val (.long ov21), .second, .val (.long ov22), .second, .val (.ref b23), .val (.int ov225), .val (.int oj285), .unset, .unset, .unset]) rfl ?_
    show Steps p.tables e below (T286.setTop (mkF m 237 #[.val (.int x0), .val (.long x1), .second, .val (.long x2), .second, .val (.int x3), .val (.int oj3), .val (.int oj9), .val (.int oj15), .val (.long ov19), .second, .val (.long ov20), .second, .val (.long ov21), .second, .val (.long ov22), .second, .val (.ref b23), .val (.int ov225), .val (.int oj285), .unset, .unset, .unset] [])) _
    refine XS.lload X286.here hx rfl (hb hby at_237) rfl ?_
    show Steps p.tables e below (T286.setTop (mkF m 239 #[.val (.int x0), .val (.long x1), .second, .val (.long x2), .second, .val (.int x3), .val (.int oj3), .val (.int oj9), .val (.int oj15), .val (.long ov19), .second, .val (.long ov20), .second, .val (.long ov21), .second, .val (.long ov22), .second, .val (.ref b23), .val (.int ov225), .val (.int oj285), .unset, .unset, .unset] [(.long ov19)])) _
    refine st288 _ ?_
    show Steps p.tables e below (T288.setTop (mkF m 242 #[.val (.int x0), .val (.long x1), .second, .val (.long x2), .second, .val (.int x3), .val (.int oj3), .val (.int oj9), .val (.int oj15), .val (.long ov19), .second, .val (.long ov20), .second, .val (.long ov21), .second, .val (.long ov22), .second, .val (.ref b23), .val (.int ov225), .val (.int oj285), .unset, .unset, .unset] [(.long (f7 ov19))])) _
    refine XS.iload X288.here hx rfl (hb hby at_242) rfl ?_
    exact k
  obtain ⟨T293, L293, X293, N293, e293, pre293⟩ : ∃ (T' : State) (L' : List Loc), Stand p l e room_1 s m #[(.int x0), (.long x1), (.long x2), (.int x3)] below meth c T' L' 19 104 ∧ Fr n0 L' ∧ T'.heap = h197 ∧ ∀ t, Steps p.tables e below (T'.setTop (mkF m 256 #[.val (.int x0), .val (.long x1), .second, .val (.long x2), .second, .val (.int x3), .val (.int oj3), .val (.int oj9), .val (.int oj15), .val (.long ov19), .second, .val (.long ov20), .second, .val (.long ov21), .second, .val (.long ov22), .second, .val (.ref b23), .val (.int ov225), .val (.int oj285), .unset, .unset, .unset] [(.long oj292), (.long (f7 ov19))])) t → Steps p.tables e below (s₁.setTop (entryFrame m #[(.int x0), (.long x1), (.long x2), (.int x3)] maxLocals)) t := by
    rcases Bool.eq_false_or_eq_true (ifCond.holds .eq oj9) with hc290 | hc290
    · have pre294 : ∀ t, Steps p.tables e below (T288.setTop (mkF m 256 #[.val (.int x0), .val (.long x1), .second, .val (.long x2), .second, .val (.int x3), .val (.int oj3), .val (.int oj9), .val (.int oj15), .val (.long ov19), .second, .val (.long ov20), .second, .val (.long ov21), .second, .val (.long ov22), .second, .val (.ref b23), .val (.int ov225), .val (.int oj285), .unset, .unset, .unset] [(.long (0 : Int64)), (.long (f7 ov19))])) t → Steps p.tables e below (s₁.setTop (entryFrame m #[(.int x0), (.long x1), (.long x2), (.int x3)] maxLocals)) t := by
        intro t k
        refine pre289 _ ?_
        show Steps p.tables e below (T288.setTop (mkF m 244 #[.val (.int x0), .val (.long x1), .second, .val (.long x2), .second, .val (.int x3), .val (.int oj3), .val (.int oj9), .val (.int oj15), .val (.long ov19), .second, .val (.long ov20), .second, .val (.long ov21), .second, .val (.long ov22), .second, .val (.ref b23), .val (.int ov225), .val (.int oj285), .unset, .unset, .unset] [(.int oj9), (.long (f7 ov19))])) _
        refine XS.ifYes X288.here hx rfl (pc0 := 244) (pc' := 255) rfl (hb hby at_244) rfl hc290 (by decide) (by decide) ?_
        show Steps p.tables e below (T288.setTop (mkF m 255 #[.val (.int x0), .val (.long x1), .second, .val (.long x2), .second, .val (.int x3), .val (.int oj3), .val (.int oj9), .val (.int oj15), .val (.long ov19), .second, .val (.long ov20), .second, .val (.long ov21), .second, .val (.long ov22), .second, .val (.ref b23), .val (.int ov225), .val (.int oj285), .unset, .unset, .unset] [(.long (f7 ov19))])) _
        refine XS.lconst X288.here hx rfl (hb hby at_255) ?_
        exact k
      have qj0 : oj292 = (0 : Int64) := Eq.trans d_oj292 (if_pos hc290)
      refine ⟨T288, _, X288, N288, e288, fun t k => pre294 _ ?_⟩
      rw [qj0] at k
      exact k
    · obtain ⟨_, _, ⟨T291, L291, k291, n291⟩, -, X291, ⟨Lc291, hQ291, l291, y291, z291⟩, st291⟩ := Jvm.LawKit.callS X288 hx (y := (⟨"dev/stratumaudio/SideInformationIsPossiblePinLaw", "part", "(J)J"⟩ : MethodName)) hown (mvT hZ (hw _ (List.mem_of_getElem? (i := 72) rfl))) (mvT hZ (hw _ (List.mem_of_getElem? (i := 73) rfl))) (mvT hZ (hw _ (List.mem_of_getElem? (i := 41) rfl))) (mvT hZ (hw _ (List.mem_of_getElem? (i := 74) rfl))) (by decide) (backOf (W := 2) (rm7 l Z a0 hw [] ov20 h197 n0 Z197) hZ (hw _ (List.mem_of_getElem? (i := 74) rfl)) (hw _ (List.mem_of_getElem? (i := 41) rfl)) (by decide) (by decide)) (g := (mkF m 249 #[.val (.int x0), .val (.long x1), .second, .val (.long x2), .second, .val (.int x3), .val (.int oj3), .val (.int oj9), .val (.int oj15), .val (.long ov19), .second, .val (.long ov20), .second, .val (.long ov21), .second, .val (.long ov22), .second, .val (.ref b23), .val (.int ov225), .val (.int oj285), .unset, .unset, .unset] [(.long ov20), (.long (f7 ov19))])) rfl (by rw [hml]; rfl) (argsL := [(.long ov20)]) (rest := [(.long (f7 ov19))]) (lenOf pd_4 rfl) rfl (by show 2 * 0 + _ ≤ _; exact Nat.le_of_eq rfl) (hb hby at_249) (fun _ _ => ⟨rfl, e288, (by decide : 19 + 0 ≤ _), (by decide : 104 + 0 ≤ _)⟩)
      dsimp only [Pt.U, Pt.locs, Pt.cells, Pt.slots] at X291 l291 y291 z291 st291 hQ291
      subst l291 y291 z291
      obtain ⟨rfl, Nq291, e291⟩ := hQ291
      have N291 := Fr.app N288 Nq291
      have pre295 : ∀ t, Steps p.tables e below (T291.setTop (mkF m 256 #[.val (.int x0), .val (.long x1), .second, .val (.long x2), .second, .val (.int x3), .val (.int oj3), .val (.int oj9), .val (.int oj15), .val (.long ov19), .second, .val (.long ov20), .second, .val (.long ov21), .second, .val (.long ov22), .second, .val (.ref b23), .val (.int ov225), .val (.int oj285), .unset, .unset, .unset] [(.long (f7 ov20)), (.long (f7 ov19))])) t → Steps p.tables e below (s₁.setTop (entryFrame m #[(.int x0), (.long x1), (.long x2), (.int x3)] maxLocals)) t := by
        intro t k
        refine pre289 _ ?_
        show Steps p.tables e below (T288.setTop (mkF m 244 #[.val (.int x0), .val (.long x1), .second, .val (.long x2), .second, .val (.int x3), .val (.int oj3), .val (.int oj9), .val (.int oj15), .val (.long ov19), .second, .val (.long ov20), .second, .val (.long ov21), .second, .val (.long ov22), .second, .val (.ref b23), .val (.int ov225), .val (.int oj285), .unset, .unset, .unset] [(.int oj9), (.long (f7 ov19))])) _
        refine XS.ifNo X288.here hx rfl (hb hby at_244) rfl hc290 ?_
        show Steps p.tables e below (T288.setTop (mkF m 247 #[.val (.int x0), .val (.long x1), .second, .val (.long x2), .second, .val (.int x3), .val (.int oj3), .val (.int oj9), .val (.int oj15), .val (.long ov19), .second, .val (.long ov20), .second, .val (.long ov21), .second, .val (.long ov22), .second, .val (.ref b23), .val (.int ov225), .val (.int oj285), .unset, .unset, .unset] [(.long (f7 ov19))])) _
        refine XS.lload X288.here hx rfl (hb hby at_247) rfl ?_
        show Steps p.tables e below (T288.setTop (mkF m 249 #[.val (.int x0), .val (.long x1), .second, .val (.long x2), .second, .val (.int x3), .val (.int oj3), .val (.int oj9), .val (.int oj15), .val (.long ov19), .second, .val (.long ov20), .second, .val (.long ov21), .second, .val (.long ov22), .second, .val (.ref b23), .val (.int ov225), .val (.int oj285), .unset, .unset, .unset] [(.long ov20), (.long (f7 ov19))])) _
        refine st291 _ ?_
        show Steps p.tables e below (T291.setTop (mkF m 252 #[.val (.int x0), .val (.long x1), .second, .val (.long x2), .second, .val (.int x3), .val (.int oj3), .val (.int oj9), .val (.int oj15), .val (.long ov19), .second, .val (.long ov20), .second, .val (.long ov21), .second, .val (.long ov22), .second, .val (.ref b23), .val (.int ov225), .val (.int oj285), .unset, .unset, .unset] [(.long (f7 ov20)), (.long (f7 ov19))])) _
        refine XS.goto X291.here hx rfl (pc0 := 252) (pc' := 256) rfl (hb hby at_252) (by decide) (by decide) ?_
        exact k
      have qj0 : oj292 = (f7 ov20) := Eq.trans d_oj292 (if_neg (own_nt hc290))
      refine ⟨T291, _, X291, N291, e291, fun t k => pre295 _ ?_⟩
      rw [qj0] at k
      exact k
  have pre296 : ∀ t, Steps p.tables e below (T293.setTop (mkF m 259 #[.val (.int x0), .val (.long x1), .second, .val (.long x2), .second, .val (.int x3), .val (.int oj3), .val (.int oj9), .val (.int oj15), .val (.long ov19), .second, .val (.long ov20), .second, .val (.long ov21), .second, .val (.long ov22), .second, .val (.ref b23), .val (.int ov225), .val (.int oj285), .unset, .unset, .unset] [(.int oj3), (.long ((f7 ov19) + oj292))])) t → Steps p.tables e below (s₁.setTop (entryFrame m #[(.int x0), (.long x1), (.long x2), (.int x3)] maxLocals)) t := by
    intro t k
    refine pre293 _ ?_
    show Steps p.tables e below (T293.setTop (mkF m 256 #[.val (.int x0), .val (.long x1), .second, .val (.long x2), .second, .val (.int x3), .val (.int oj3), .val (.int oj9), .val (.int oj15), .val (.long ov19), .second, .val (.long ov20), .second, .val (.long ov21), .second, .val (.long ov22), .second, .val (.ref b23), .val (.int ov225), .val (.int oj285), .unset, .unset, .unset] [(.long oj292), (.long (f7 ov19))])) _
    refine XS.ladd X293.here hx rfl (hb hby at_256) rfl ?_
    show Steps p.tables e below (T293.setTop (mkF m 257 #[.val (.int x0), .val (.long x1), .second, .val (.long x2), .second, .val (.int x3), .val (.int oj3), .val (.int oj9), .val (.int oj15), .val (.long ov19), .second, .val (.long ov20), .second, .val (.long ov21), .second, .val (.long ov22), .second, .val (.ref b23), .val (.int ov225), .val (.int oj285), .unset, .unset, .unset] [(.long ((f7 ov19) + oj292))])) _
    refine XS.iload X293.here hx rfl (hb hby at_257) rfl ?_
    exact k
  obtain ⟨T307, L307, X307, N307, e307, pre307⟩ : ∃ (T' : State) (L' : List Loc), Stand p l e room_1 s m #[(.int x0), (.long x1), (.long x2), (.int x3)] below meth c T' L' 19 104 ∧ Fr n0 L' ∧ T'.heap = h197 ∧ ∀ t, Steps p.tables e below (T'.setTop (mkF m 286 #[.val (.int x0), .val (.long x1), .second, .val (.long x2), .second, .val (.int x3), .val (.int oj3), .val (.int oj9), .val (.int oj15), .val (.long ov19), .second, .val (.long ov20), .second, .val (.long ov21), .second, .val (.long ov22), .second, .val (.ref b23), .val (.int ov225), .val (.int oj285), .unset, .unset, .unset] [(.long oj306), (.long ((f7 ov19) + oj292))])) t → Steps p.tables e below (s₁.setTop (entryFrame m #[(.int x0), (.long x1), (.long x2), (.int x3)] maxLocals)) t := by
    rcases Bool.eq_false_or_eq_true (ifCond.holds .eq oj3) with hc297 | hc297
    · have pre308 : ∀ t, Steps p.tables e below (T293.setTop (mkF m 286 #[.val (.int x0), .val (.long x1), .second, .val (.long x2), .second, .val (.int x3), .val (.int oj3), .val (.int oj9), .val (.int oj15), .val (.long ov19), .second, .val (.long ov20), .second, .val (.long ov21), .second, .val (.long ov22), .second, .val (.ref b23), .val (.int ov225), .val (.int oj285), .unset, .unset, .unset] [(.long (0 : Int64)), (.long ((f7 ov19) + oj292))])) t → Steps p.tables e below (s₁.setTop (entryFrame m #[(.int x0), (.long x1), (.long x2), (.int x3)] maxLocals)) t := by
        intro t k
        refine pre296 _ ?_
        show Steps p.tables e below (T293.setTop (mkF m 259 #[.val (.int x0), .val (.long x1), .second, .val (.long x2), .second, .val (.int x3), .val (.int oj3), .val (.int oj9), .val (.int oj15), .val (.long ov19), .second, .val (.long ov20), .second, .val (.long ov21), .second, .val (.long ov22), .second, .val (.ref b23), .val (.int ov225), .val (.int oj285), .unset, .unset, .unset] [(.int oj3), (.long ((f7 ov19) + oj292))])) _
        refine XS.ifYes X293.here hx rfl (pc0 := 259) (pc' := 285) rfl (hb hby at_259) rfl hc297 (by decide) (by decide) ?_
        show Steps p.tables e below (T293.setTop (mkF m 285 #[.val (.int x0), .val (.long x1), .second, .val (.long x2), .second, .val (.int x3), .val (.int oj3), .val (.int oj9), .val (.int oj15), .val (.long ov19), .second, .val (.long ov20), .second, .val (.long ov21), .second, .val (.long ov22), .second, .val (.ref b23), .val (.int ov225), .val (.int oj285), .unset, .unset, .unset] [(.long ((f7 ov19) + oj292))])) _
        refine XS.lconst X293.here hx rfl (hb hby at_285) ?_
        exact k
      have qj0 : oj306 = (0 : Int64) := Eq.trans d_oj306 (if_pos hc297)
      refine ⟨T293, _, X293, N293, e293, fun t k => pre308 _ ?_⟩
      rw [qj0] at k
      exact k
    · obtain ⟨_, _, ⟨T298, L298, k298, n298⟩, -, X298, ⟨Lc298, hQ298, l298, y298, z298⟩, st298⟩ := Jvm.LawKit.callS X293 hx (y := (⟨"dev/stratumaudio/SideInformationIsPossiblePinLaw", "part", "(J)J"⟩ : MethodName)) hown (mvT hZ (hw _ (List.mem_of_getElem? (i := 72) rfl))) (mvT hZ (hw _ (List.mem_of_getElem? (i := 73) rfl))) (mvT hZ (hw _ (List.mem_of_getElem? (i := 41) rfl))) (mvT hZ (hw _ (List.mem_of_getElem? (i := 74) rfl))) (by decide) (backOf (W := 2) (rm7 l Z a0 hw [] ov21 h197 n0 Z197) hZ (hw _ (List.mem_of_getElem? (i := 74) rfl)) (hw _ (List.mem_of_getElem? (i := 41) rfl)) (by decide) (by decide)) (g := (mkF m 264 #[.val (.int x0), .val (.long x1), .second, .val (.long x2), .second, .val (.int x3), .val (.int oj3), .val (.int oj9), .val (.int oj15), .val (.long ov19), .second, .val (.long ov20), .second, .val (.long ov21), .second, .val (.long ov22), .second, .val (.ref b23), .val (.int ov225), .val (.int oj285), .unset, .unset, .unset] [(.long ov21), (.long ((f7 ov19) + oj292))])) rfl (by rw [hml]; rfl) (argsL := [(.long ov21)]) (rest := [(.long ((f7 ov19) + oj292))]) (lenOf pd_4 rfl) rfl (by show 2 * 0 + _ ≤ _; exact Nat.le_of_eq rfl) (hb hby at_264) (fun _ _ => ⟨rfl, e293, (by decide : 19 + 0 ≤ _), (by decide : 104 + 0 ≤ _)⟩)
      dsimp only [Pt.U, Pt.locs, Pt.cells, Pt.slots] at X298 l298 y298 z298 st298 hQ298
      subst l298 y298 z298
      obtain ⟨rfl, Nq298, e298⟩ := hQ298
      have N298 := Fr.app N293 Nq298
      have pre299 : ∀ t, Steps p.tables e below (T298.setTop (mkF m 269 #[.val (.int x0), .val (.long x1), .second, .val (.long x2), .second, .val (.int x3), .val (.int oj3), .val (.int oj9), .val (.int oj15), .val (.long ov19), .second, .val (.long ov20), .second, .val (.long ov21), .second, .val (.long ov22), .second, .val (.ref b23), .val (.int ov225), .val (.int oj285), .unset, .unset, .unset] [(.int oj9), (.long (f7 ov21)), (.long ((f7 ov19) + oj292))])) t → Steps p.tables e below (s₁.setTop (entryFrame m #[(.int x0), (.long x1), (.long x2), (.int x3)] maxLocals)) t := by
        intro t k
        refine pre296 _ ?_
        show Steps p.tables e below (T293.setTop (mkF m 259 #[.val (.int x0), .val (.long x1), .second, .val (.long x2), .second, .val (.int x3), .val (.int oj3), .val (.int oj9), .val (.int oj15), .val (.long ov19), .second, .val (.long ov20), .second, .val (.long ov21), .second, .val (.long ov22), .second, .val (.ref b23), .val (.int ov225), .val (.int oj285), .unset, .unset, .unset] [(.int oj3), (.long ((f7 ov19) + oj292))])) _
        refine XS.ifNo X293.here hx rfl (hb hby at_259) rfl hc297 ?_
        show Steps p.tables e below (T293.setTop (mkF m 262 #[.val (.int x0), .val (.long x1), .second, .val (.long x2), .second, .val (.int x3), .val (.int oj3), .val (.int oj9), .val (.int oj15), .val (.long ov19), .second, .val (.long ov20), .second, .val (.long ov21), .second, .val (.long ov22), .second, .val (.ref b23), .val (.int ov225), .val (.int oj285), .unset, .unset, .unset] [(.long ((f7 ov19) + oj292))])) _
        refine XS.lload X293.here hx rfl (hb hby at_262) rfl ?_
        show Steps p.tables e below (T293.setTop (mkF m 264 #[.val (.int x0), .val (.long x1), .second, .val (.long x2), .second, .val (.int x3), .val (.int oj3), .val (.int oj9), .val (.int oj15), .val (.long ov19), .second, .val (.long ov20), .second, .val (.long ov21), .second, .val (.long ov22), .second, .val (.ref b23), .val (.int ov225), .val (.int oj285), .unset, .unset, .unset] [(.long ov21), (.long ((f7 ov19) + oj292))])) _
        refine st298 _ ?_
        show Steps p.tables e below (T298.setTop (mkF m 267 #[.val (.int x0), .val (.long x1), .second, .val (.long x2), .second, .val (.int x3), .val (.int oj3), .val (.int oj9), .val (.int oj15), .val (.long ov19), .second, .val (.long ov20), .second, .val (.long ov21), .second, .val (.long ov22), .second, .val (.ref b23), .val (.int ov225), .val (.int oj285), .unset, .unset, .unset] [(.long (f7 ov21)), (.long ((f7 ov19) + oj292))])) _
        refine XS.iload X298.here hx rfl (hb hby at_267) rfl ?_
        exact k
      obtain ⟨T303, L303, X303, N303, e303, pre303⟩ : ∃ (T' : State) (L' : List Loc), Stand p l e room_1 s m #[(.int x0), (.long x1), (.long x2), (.int x3)] below meth c T' L' 19 104 ∧ Fr n0 L' ∧ T'.heap = h197 ∧ ∀ t, Steps p.tables e below (T'.setTop (mkF m 281 #[.val (.int x0), .val (.long x1), .second, .val (.long x2), .second, .val (.int x3), .val (.int oj3), .val (.int oj9), .val (.int oj15), .val (.long ov19), .second, .val (.long ov20), .second, .val (.long ov21), .second, .val (.long ov22), .second, .val (.ref b23), .val (.int ov225), .val (.int oj285), .unset, .unset, .unset] [(.long oj302), (.long (f7 ov21)), (.long ((f7 ov19) + oj292))])) t → Steps p.tables e below (s₁.setTop (entryFrame m #[(.int x0), (.long x1), (.long x2), (.int x3)] maxLocals)) t := by
        rcases Bool.eq_false_or_eq_true (ifCond.holds .eq oj9) with hc300 | hc300
        · have pre304 : ∀ t, Steps p.tables e below (T298.setTop (mkF m 281 #[.val (.int x0), .val (.long x1), .second, .val (.long x2), .second, .val (.int x3), .val (.int oj3), .val (.int oj9), .val (.int oj15), .val (.long ov19), .second, .val (.long ov20), .second, .val (.long ov21), .second, .val (.long ov22), .second, .val (.ref b23), .val (.int ov225), .val (.int oj285), .unset, .unset, .unset] [(.long (0 : Int64)), (.long (f7 ov21)), (.long ((f7 ov19) + oj292))])) t → Steps p.tables e below (s₁.setTop (entryFrame m #[(.int x0), (.long x1), (.long x2), (.int x3)] maxLocals)) t := by
            intro t k
            refine pre299 _ ?_
            show Steps p.tables e below (T298.setTop (mkF m 269 #[.val (.int x0), .val (.long x1), .second, .val (.long x2), .second, .val (.int x3), .val (.int oj3), .val (.int oj9), .val (.int oj15), .val (.long ov19), .second, .val (.long ov20), .second, .val (.long ov21), .second, .val (.long ov22), .second, .val (.ref b23), .val (.int ov225), .val (.int oj285), .unset, .unset, .unset] [(.int oj9), (.long (f7 ov21)), (.long ((f7 ov19) + oj292))])) _
            refine XS.ifYes X298.here hx rfl (pc0 := 269) (pc' := 280) rfl (hb hby at_269) rfl hc300 (by decide) (by decide) ?_
            show Steps p.tables e below (T298.setTop (mkF m 280 #[.val (.int x0), .val (.long x1), .second, .val (.long x2), .second, .val (.int x3), .val (.int oj3), .val (.int oj9), .val (.int oj15), .val (.long ov19), .second, .val (.long ov20), .second, .val (.long ov21), .second, .val (.long ov22), .second, .val (.ref b23), .val (.int ov225), .val (.int oj285), .unset, .unset, .unset] [(.long (f7 ov21)), (.long ((f7 ov19) + oj292))])) _
            refine XS.lconst X298.here hx rfl (hb hby at_280) ?_
            exact k
          have qj0 : oj302 = (0 : Int64) := Eq.trans d_oj302 (if_pos hc300)
          refine ⟨T298, _, X298, N298, e298, fun t k => pre304 _ ?_⟩
          rw [qj0] at k
          exact k
        · obtain ⟨_, _, ⟨T301, L301, k301, n301⟩, -, X301, ⟨Lc301, hQ301, l301, y301, z301⟩, st301⟩ := Jvm.LawKit.callS X298 hx (y := (⟨"dev/stratumaudio/SideInformationIsPossiblePinLaw", "part", "(J)J"⟩ : MethodName)) hown (mvT hZ (hw _ (List.mem_of_getElem? (i := 72) rfl))) (mvT hZ (hw _ (List.mem_of_getElem? (i := 73) rfl))) (mvT hZ (hw _ (List.mem_of_getElem? (i := 41) rfl))) (mvT hZ (hw _ (List.mem_of_getElem? (i := 74) rfl))) (by decide) (backOf (W := 4) (rm7 l Z a0 hw [] ov22 h197 n0 Z197) hZ (hw _ (List.mem_of_getElem? (i := 74) rfl)) (hw _ (List.mem_of_getElem? (i := 41) rfl)) (by decide) (by decide)) (g := (mkF m 274 #[.val (.int x0), .val (.long x1), .second, .val (.long x2), .second, .val (.int x3), .val (.int oj3), .val (.int oj9), .val (.int oj15), .val (.long ov19), .second, .val (.long ov20), .second, .val (.long ov21), .second, .val (.long ov22), .second, .val (.ref b23), .val (.int ov225), .val (.int oj285), .unset, .unset, .unset] [(.long ov22), (.long (f7 ov21)), (.long ((f7 ov19) + oj292))])) rfl (by rw [hml]; rfl) (argsL := [(.long ov22)]) (rest := [(.long (f7 ov21)), (.long ((f7 ov19) + oj292))]) (lenOf pd_4 rfl) rfl (by show 2 * 0 + _ ≤ _; exact Nat.le_of_eq rfl) (hb hby at_274) (fun _ _ => ⟨rfl, e298, (by decide : 19 + 0 ≤ _), (by decide : 104 + 0 ≤ _)⟩)
          dsimp only [Pt.U, Pt.locs, Pt.cells, Pt.slots] at X301 l301 y301 z301 st301 hQ301
          subst l301 y301 z301
          obtain ⟨rfl, Nq301, e301⟩ := hQ301
          have N301 := Fr.app N298 Nq301
          have pre305 : ∀ t, Steps p.tables e below (T301.setTop (mkF m 281 #[.val (.int x0), .val (.long x1), .second, .val (.long x2), .second, .val (.int x3), .val (.int oj3), .val (.int oj9), .val (.int oj15), .val (.long ov19), .second, .val (.long ov20), .second, .val (.long ov21), .second, .val (.long ov22), .second, .val (.ref b23), .val (.int ov225), .val (.int oj285), .unset, .unset, .unset] [(.long (f7 ov22)), (.long (f7 ov21)), (.long ((f7 ov19) + oj292))])) t → Steps p.tables e below (s₁.setTop (entryFrame m #[(.int x0), (.long x1), (.long x2), (.int x3)] maxLocals)) t := by
            intro t k
            refine pre299 _ ?_
            show Steps p.tables e below (T298.setTop (mkF m 269 #[.val (.int x0), .val (.long x1), .second, .val (.long x2), .second, .val (.int x3), .val (.int oj3), .val (.int oj9), .val (.int oj15), .val (.long ov19), .second, .val (.long ov20), .second, .val (.long ov21), .second, .val (.long ov22), .second, .val (.ref b23), .val (.int ov225), .val (.int oj285), .unset, .unset, .unset] [(.int oj9), (.long (f7 ov21)), (.long ((f7 ov19) + oj292))])) _
            refine XS.ifNo X298.here hx rfl (hb hby at_269) rfl hc300 ?_
            show Steps p.tables e below (T298.setTop (mkF m 272 #[.val (.int x0), .val (.long x1), .second, .val (.long x2), .second, .val (.int x3), .val (.int oj3), .val (.int oj9), .val (.int oj15), .val (.long ov19), .second, .val (.long ov20), .second, .val (.long ov21), .second, .val (.long ov22), .second, .val (.ref b23), .val (.int ov225), .val (.int oj285), .unset, .unset, .unset] [(.long (f7 ov21)), (.long ((f7 ov19) + oj292))])) _
            refine XS.lload X298.here hx rfl (hb hby at_272) rfl ?_
            show Steps p.tables e below (T298.setTop (mkF m 274 #[.val (.int x0), .val (.long x1), .second, .val (.long x2), .second, .val (.int x3), .val (.int oj3), .val (.int oj9), .val (.int oj15), .val (.long ov19), .second, .val (.long ov20), .second, .val (.long ov21), .second, .val (.long ov22), .second, .val (.ref b23), .val (.int ov225), .val (.int oj285), .unset, .unset, .unset] [(.long ov22), (.long (f7 ov21)), (.long ((f7 ov19) + oj292))])) _
            refine st301 _ ?_
            show Steps p.tables e below (T301.setTop (mkF m 277 #[.val (.int x0), .val (.long x1), .second, .val (.long x2), .second, .val (.int x3), .val (.int oj3), .val (.int oj9), .val (.int oj15), .val (.long ov19), .second, .val (.long ov20), .second, .val (.long ov21), .second, .val (.long ov22), .second, .val (.ref b23), .val (.int ov225), .val (.int oj285), .unset, .unset, .unset] [(.long (f7 ov22)), (.long (f7 ov21)), (.long ((f7 ov19) + oj292))])) _
            refine XS.goto X301.here hx rfl (pc0 := 277) (pc' := 281) rfl (hb hby at_277) (by decide) (by decide) ?_
            exact k
          have qj0 : oj302 = (f7 ov22) := Eq.trans d_oj302 (if_neg (own_nt hc300))
          refine ⟨T301, _, X301, N301, e301, fun t k => pre305 _ ?_⟩
          rw [qj0] at k
          exact k
      have pre309 : ∀ t, Steps p.tables e below (T303.setTop (mkF m 286 #[.val (.int x0), .val (.long x1), .second, .val (.long x2), .second, .val (.int x3), .val (.int oj3), .val (.int oj9), .val (.int oj15), .val (.long ov19), .second, .val (.long ov20), .second, .val (.long ov21), .second, .val (.long ov22), .second, .val (.ref b23), .val (.int ov225), .val (.int oj285), .unset, .unset, .unset] [(.long ((f7 ov21) + oj302)), (.long ((f7 ov19) + oj292))])) t → Steps p.tables e below (s₁.setTop (entryFrame m #[(.int x0), (.long x1), (.long x2), (.int x3)] maxLocals)) t := by
        intro t k
        refine pre303 _ ?_
        show Steps p.tables e below (T303.setTop (mkF m 281 #[.val (.int x0), .val (.long x1), .second, .val (.long x2), .second, .val (.int x3), .val (.int oj3), .val (.int oj9), .val (.int oj15), .val (.long ov19), .second, .val (.long ov20), .second, .val (.long ov21), .second, .val (.long ov22), .second, .val (.ref b23), .val (.int ov225), .val (.int oj285), .unset, .unset, .unset] [(.long oj302), (.long (f7 ov21)), (.long ((f7 ov19) + oj292))])) _
        refine XS.ladd X303.here hx rfl (hb hby at_281) rfl ?_
        show Steps p.tables e below (T303.setTop (mkF m 282 #[.val (.int x0), .val (.long x1), .second, .val (.long x2), .second, .val (.int x3), .val (.int oj3), .val (.int oj9), .val (.int oj15), .val (.long ov19), .second, .val (.long ov20), .second, .val (.long ov21), .second, .val (.long ov22), .second, .val (.ref b23), .val (.int ov225), .val (.int oj285), .unset, .unset, .unset] [(.long ((f7 ov21) + oj302)), (.long ((f7 ov19) + oj292))])) _
        refine XS.goto X303.here hx rfl (pc0 := 282) (pc' := 286) rfl (hb hby at_282) (by decide) (by decide) ?_
        exact k
      have qj0 : oj306 = ((f7 ov21) + oj302) := Eq.trans d_oj306 (if_neg (own_nt hc297))
      refine ⟨T303, _, X303, N303, e303, fun t k => pre309 _ ?_⟩
      rw [qj0] at k
      exact k
  have pre311 : ∀ t, Steps p.tables e below (T307.setTop (mkF m 291 #[.val (.int x0), .val (.long x1), .second, .val (.long x2), .second, .val (.int x3), .val (.int oj3), .val (.int oj9), .val (.int oj15), .val (.long ov19), .second, .val (.long ov20), .second, .val (.long ov21), .second, .val (.long ov22), .second, .val (.ref b23), .val (.int ov225), .val (.int oj285), .val (.long ov310), .second, .unset] [(.int oj285)])) t → Steps p.tables e below (s₁.setTop (entryFrame m #[(.int x0), (.long x1), (.long x2), (.int x3)] maxLocals)) t := by
    intro t k
    refine pre307 _ ?_
    show Steps p.tables e below (T307.setTop (mkF m 286 #[.val (.int x0), .val (.long x1), .second, .val (.long x2), .second, .val (.int x3), .val (.int oj3), .val (.int oj9), .val (.int oj15), .val (.long ov19), .second, .val (.long ov20), .second, .val (.long ov21), .second, .val (.long ov22), .second, .val (.ref b23), .val (.int ov225), .val (.int oj285), .unset, .unset, .unset] [(.long oj306), (.long ((f7 ov19) + oj292))])) _
    refine XS.ladd X307.here hx rfl (hb hby at_286) rfl ?_
    show Steps p.tables e below (T307.setTop (mkF m 287 #[.val (.int x0), .val (.long x1), .second, .val (.long x2), .second, .val (.int x3), .val (.int oj3), .val (.int oj9), .val (.int oj15), .val (.long ov19), .second, .val (.long ov20), .second, .val (.long ov21), .second, .val (.long ov22), .second, .val (.ref b23), .val (.int ov225), .val (.int oj285), .unset, .unset, .unset] [(.long (((f7 ov19) + oj292) + oj306))])) _
    rw [← d_ov310]
    refine XS.lstore X307.here hx rfl (hb hby at_287) rfl (l' := #[.val (.int x0), .val (.long x1), .second, .val (.long x2), .second, .val (.int x3), .val (.int oj3), .val (.int oj9), .val (.int oj15), .val (.long ov19), .second, .val (.long ov20), .second, .val (.long ov21), .second, .val (.long ov22), .second, .val (.ref b23), .val (.int ov225), .val (.int oj285), .val (.long ov310), .second, .unset]) rfl ?_
    show Steps p.tables e below (T307.setTop (mkF m 289 #[.val (.int x0), .val (.long x1), .second, .val (.long x2), .second, .val (.int x3), .val (.int oj3), .val (.int oj9), .val (.int oj15), .val (.long ov19), .second, .val (.long ov20), .second, .val (.long ov21), .second, .val (.long ov22), .second, .val (.ref b23), .val (.int ov225), .val (.int oj285), .val (.long ov310), .second, .unset] [])) _
    refine XS.iload X307.here hx rfl (hb hby at_289) rfl ?_
    exact k
  obtain ⟨T320, L320, X320, N320, e320, pre320⟩ : ∃ (T' : State) (L' : List Loc), Stand p l e room_1 s m #[(.int x0), (.long x1), (.long x2), (.int x3)] below meth c T' L' 19 104 ∧ Fr n0 L' ∧ T'.heap = h197 ∧ ∀ t, Steps p.tables e below (T'.setTop (mkF m 312 #[.val (.int x0), .val (.long x1), .second, .val (.long x2), .second, .val (.int x3), .val (.int oj3), .val (.int oj9), .val (.int oj15), .val (.long ov19), .second, .val (.long ov20), .second, .val (.long ov21), .second, .val (.long ov22), .second, .val (.ref b23), .val (.int ov225), .val (.int oj285), .val (.long ov310), .second, .unset] [(.int oj319)])) t → Steps p.tables e below (s₁.setTop (entryFrame m #[(.int x0), (.long x1), (.long x2), (.int x3)] maxLocals)) t := by
    rcases Bool.eq_false_or_eq_true (ifCond.holds .eq oj285) with hc312 | hc312
    · have pre321 : ∀ t, Steps p.tables e below (T307.setTop (mkF m 312 #[.val (.int x0), .val (.long x1), .second, .val (.long x2), .second, .val (.int x3), .val (.int oj3), .val (.int oj9), .val (.int oj15), .val (.long ov19), .second, .val (.long ov20), .second, .val (.long ov21), .second, .val (.long ov22), .second, .val (.ref b23), .val (.int ov225), .val (.int oj285), .val (.long ov310), .second, .unset] [(.int (0 : Int32))])) t → Steps p.tables e below (s₁.setTop (entryFrame m #[(.int x0), (.long x1), (.long x2), (.int x3)] maxLocals)) t := by
        intro t k
        refine pre311 _ ?_
        show Steps p.tables e below (T307.setTop (mkF m 291 #[.val (.int x0), .val (.long x1), .second, .val (.long x2), .second, .val (.int x3), .val (.int oj3), .val (.int oj9), .val (.int oj15), .val (.long ov19), .second, .val (.long ov20), .second, .val (.long ov21), .second, .val (.long ov22), .second, .val (.ref b23), .val (.int ov225), .val (.int oj285), .val (.long ov310), .second, .unset] [(.int oj285)])) _
        refine XS.ifYes X307.here hx rfl (pc0 := 291) (pc' := 311) rfl (hb hby at_291) rfl hc312 (by decide) (by decide) ?_
        show Steps p.tables e below (T307.setTop (mkF m 311 #[.val (.int x0), .val (.long x1), .second, .val (.long x2), .second, .val (.int x3), .val (.int oj3), .val (.int oj9), .val (.int oj15), .val (.long ov19), .second, .val (.long ov20), .second, .val (.long ov21), .second, .val (.long ov22), .second, .val (.ref b23), .val (.int ov225), .val (.int oj285), .val (.long ov310), .second, .unset] [])) _
        refine XS.iconst X307.here hx rfl (hb hby at_311) ?_
        exact k
      have qj0 : oj319 = (0 : Int32) := Eq.trans d_oj319 (if_pos hc312)
      refine ⟨T307, _, X307, N307, e307, fun t k => pre321 _ ?_⟩
      rw [qj0] at k
      exact k
    · have pre313 : ∀ t, Steps p.tables e below (T307.setTop (mkF m 304 #[.val (.int x0), .val (.long x1), .second, .val (.long x2), .second, .val (.int x3), .val (.int oj3), .val (.int oj9), .val (.int oj15), .val (.long ov19), .second, .val (.long ov20), .second, .val (.long ov21), .second, .val (.long ov22), .second, .val (.ref b23), .val (.int ov225), .val (.int oj285), .val (.long ov310), .second, .unset] [(.int (own_cmp ov310 ((8 : Int64) * (oj15.toInt64))))])) t → Steps p.tables e below (s₁.setTop (entryFrame m #[(.int x0), (.long x1), (.long x2), (.int x3)] maxLocals)) t := by
        intro t k
        refine pre311 _ ?_
        show Steps p.tables e below (T307.setTop (mkF m 291 #[.val (.int x0), .val (.long x1), .second, .val (.long x2), .second, .val (.int x3), .val (.int oj3), .val (.int oj9), .val (.int oj15), .val (.long ov19), .second, .val (.long ov20), .second, .val (.long ov21), .second, .val (.long ov22), .second, .val (.ref b23), .val (.int ov225), .val (.int oj285), .val (.long ov310), .second, .unset] [(.int oj285)])) _
        refine XS.ifNo X307.here hx rfl (hb hby at_291) rfl hc312 ?_
        show Steps p.tables e below (T307.setTop (mkF m 294 #[.val (.int x0), .val (.long x1), .second, .val (.long x2), .second, .val (.int x3), .val (.int oj3), .val (.int oj9), .val (.int oj15), .val (.long ov19), .second, .val (.long ov20), .second, .val (.long ov21), .second, .val (.long ov22), .second, .val (.ref b23), .val (.int ov225), .val (.int oj285), .val (.long ov310), .second, .unset] [])) _
        refine XS.lload X307.here hx rfl (hb hby at_294) rfl ?_
        show Steps p.tables e below (T307.setTop (mkF m 296 #[.val (.int x0), .val (.long x1), .second, .val (.long x2), .second, .val (.int x3), .val (.int oj3), .val (.int oj9), .val (.int oj15), .val (.long ov19), .second, .val (.long ov20), .second, .val (.long ov21), .second, .val (.long ov22), .second, .val (.ref b23), .val (.int ov225), .val (.int oj285), .val (.long ov310), .second, .unset] [(.long ov310)])) _
        refine X307.ldc2Long hx hown (mvT hZ (hw _ (List.mem_of_getElem? (i := 75) rfl))) (g := (mkF m 296 #[.val (.int x0), .val (.long x1), .second, .val (.long x2), .second, .val (.int x3), .val (.int oj3), .val (.int oj9), .val (.int oj15), .val (.long ov19), .second, .val (.long ov20), .second, .val (.long ov21), .second, .val (.long ov22), .second, .val (.ref b23), .val (.int ov225), .val (.int oj285), .val (.long ov310), .second, .unset] [(.long ov310)])) rfl (hb hby at_296) _ ?_
        show Steps p.tables e below (T307.setTop (mkF m 299 #[.val (.int x0), .val (.long x1), .second, .val (.long x2), .second, .val (.int x3), .val (.int oj3), .val (.int oj9), .val (.int oj15), .val (.long ov19), .second, .val (.long ov20), .second, .val (.long ov21), .second, .val (.long ov22), .second, .val (.ref b23), .val (.int ov225), .val (.int oj285), .val (.long ov310), .second, .unset] [(.long (8 : Int64)), (.long ov310)])) _
        refine XS.iload X307.here hx rfl (hb hby at_299) rfl ?_
        show Steps p.tables e below (T307.setTop (mkF m 301 #[.val (.int x0), .val (.long x1), .second, .val (.long x2), .second, .val (.int x3), .val (.int oj3), .val (.int oj9), .val (.int oj15), .val (.long ov19), .second, .val (.long ov20), .second, .val (.long ov21), .second, .val (.long ov22), .second, .val (.ref b23), .val (.int ov225), .val (.int oj285), .val (.long ov310), .second, .unset] [(.int oj15), (.long (8 : Int64)), (.long ov310)])) _
        refine XS.i2l X307.here hx rfl (hb hby at_301) rfl ?_
        show Steps p.tables e below (T307.setTop (mkF m 302 #[.val (.int x0), .val (.long x1), .second, .val (.long x2), .second, .val (.int x3), .val (.int oj3), .val (.int oj9), .val (.int oj15), .val (.long ov19), .second, .val (.long ov20), .second, .val (.long ov21), .second, .val (.long ov22), .second, .val (.ref b23), .val (.int ov225), .val (.int oj285), .val (.long ov310), .second, .unset] [(.long (oj15.toInt64)), (.long (8 : Int64)), (.long ov310)])) _
        refine XS.lmul X307.here hx rfl (hb hby at_302) rfl ?_
        show Steps p.tables e below (T307.setTop (mkF m 303 #[.val (.int x0), .val (.long x1), .second, .val (.long x2), .second, .val (.int x3), .val (.int oj3), .val (.int oj9), .val (.int oj15), .val (.long ov19), .second, .val (.long ov20), .second, .val (.long ov21), .second, .val (.long ov22), .second, .val (.ref b23), .val (.int ov225), .val (.int oj285), .val (.long ov310), .second, .unset] [(.long ((8 : Int64) * (oj15.toInt64))), (.long ov310)])) _
        refine own_xlcmp X307.here hx rfl (hb hby at_303) rfl ?_
        exact k
      obtain ⟨T316, L316, X316, N316, e316, pre316⟩ : ∃ (T' : State) (L' : List Loc), Stand p l e room_1 s m #[(.int x0), (.long x1), (.long x2), (.int x3)] below meth c T' L' 19 104 ∧ Fr n0 L' ∧ T'.heap = h197 ∧ ∀ t, Steps p.tables e below (T'.setTop (mkF m 312 #[.val (.int x0), .val (.long x1), .second, .val (.long x2), .second, .val (.int x3), .val (.int oj3), .val (.int oj9), .val (.int oj15), .val (.long ov19), .second, .val (.long ov20), .second, .val (.long ov21), .second, .val (.long ov22), .second, .val (.ref b23), .val (.int ov225), .val (.int oj285), .val (.long ov310), .second, .unset] [(.int oj315)])) t → Steps p.tables e below (s₁.setTop (entryFrame m #[(.int x0), (.long x1), (.long x2), (.int x3)] maxLocals)) t := by
        rcases Bool.eq_false_or_eq_true (ifCond.holds .gt (own_cmp ov310 ((8 : Int64) * (oj15.toInt64)))) with hc314 | hc314
        · have pre317 : ∀ t, Steps p.tables e below (T307.setTop (mkF m 312 #[.val (.int x0), .val (.long x1), .second, .val (.long x2), .second, .val (.int x3), .val (.int oj3), .val (.int oj9), .val (.int oj15), .val (.long ov19), .second, .val (.long ov20), .second, .val (.long ov21), .second, .val (.long ov22), .second, .val (.ref b23), .val (.int ov225), .val (.int oj285), .val (.long ov310), .second, .unset] [(.int (0 : Int32))])) t → Steps p.tables e below (s₁.setTop (entryFrame m #[(.int x0), (.long x1), (.long x2), (.int x3)] maxLocals)) t := by
            intro t k
            refine pre313 _ ?_
            show Steps p.tables e below (T307.setTop (mkF m 304 #[.val (.int x0), .val (.long x1), .second, .val (.long x2), .second, .val (.int x3), .val (.int oj3), .val (.int oj9), .val (.int oj15), .val (.long ov19), .second, .val (.long ov20), .second, .val (.long ov21), .second, .val (.long ov22), .second, .val (.ref b23), .val (.int ov225), .val (.int oj285), .val (.long ov310), .second, .unset] [(.int (own_cmp ov310 ((8 : Int64) * (oj15.toInt64))))])) _
            refine XS.ifYes X307.here hx rfl (pc0 := 304) (pc' := 311) rfl (hb hby at_304) rfl hc314 (by decide) (by decide) ?_
            show Steps p.tables e below (T307.setTop (mkF m 311 #[.val (.int x0), .val (.long x1), .second, .val (.long x2), .second, .val (.int x3), .val (.int oj3), .val (.int oj9), .val (.int oj15), .val (.long ov19), .second, .val (.long ov20), .second, .val (.long ov21), .second, .val (.long ov22), .second, .val (.ref b23), .val (.int ov225), .val (.int oj285), .val (.long ov310), .second, .unset] [])) _
            refine XS.iconst X307.here hx rfl (hb hby at_311) ?_
            exact k
          have qj0 : oj315 = (0 : Int32) := Eq.trans d_oj315 (if_pos hc314)
          refine ⟨T307, _, X307, N307, e307, fun t k => pre317 _ ?_⟩
          rw [qj0] at k
          exact k
        · have pre318 : ∀ t, Steps p.tables e below (T307.setTop (mkF m 312 #[.val (.int x0), .val (.long x1), .second, .val (.long x2), .second, .val (.int x3), .val (.int oj3), .val (.int oj9), .val (.int oj15), .val (.long ov19), .second, .val (.long ov20), .second, .val (.long ov21), .second, .val (.long ov22), .second, .val (.ref b23), .val (.int ov225), .val (.int oj285), .val (.long ov310), .second, .unset] [(.int (1 : Int32))])) t → Steps p.tables e below (s₁.setTop (entryFrame m #[(.int x0), (.long x1), (.long x2), (.int x3)] maxLocals)) t := by
            intro t k
            refine pre313 _ ?_
            show Steps p.tables e below (T307.setTop (mkF m 304 #[.val (.int x0), .val (.long x1), .second, .val (.long x2), .second, .val (.int x3), .val (.int oj3), .val (.int oj9), .val (.int oj15), .val (.long ov19), .second, .val (.long ov20), .second, .val (.long ov21), .second, .val (.long ov22), .second, .val (.ref b23), .val (.int ov225), .val (.int oj285), .val (.long ov310), .second, .unset] [(.int (own_cmp ov310 ((8 : Int64) * (oj15.toInt64))))])) _
            refine XS.ifNo X307.here hx rfl (hb hby at_304) rfl hc314 ?_
            show Steps p.tables e below (T307.setTop (mkF m 307 #[.val (.int x0), .val (.long x1), .second, .val (.long x2), .second, .val (.int x3), .val (.int oj3), .val (.int oj9), .val (.int oj15), .val (.long ov19), .second, .val (.long ov20), .second, .val (.long ov21), .second, .val (.long ov22), .second, .val (.ref b23), .val (.int ov225), .val (.int oj285), .val (.long ov310), .second, .unset] [])) _
            refine XS.iconst X307.here hx rfl (hb hby at_307) ?_
            show Steps p.tables e below (T307.setTop (mkF m 308 #[.val (.int x0), .val (.long x1), .second, .val (.long x2), .second, .val (.int x3), .val (.int oj3), .val (.int oj9), .val (.int oj15), .val (.long ov19), .second, .val (.long ov20), .second, .val (.long ov21), .second, .val (.long ov22), .second, .val (.ref b23), .val (.int ov225), .val (.int oj285), .val (.long ov310), .second, .unset] [(.int (1 : Int32))])) _
            refine XS.goto X307.here hx rfl (pc0 := 308) (pc' := 312) rfl (hb hby at_308) (by decide) (by decide) ?_
            exact k
          have qj0 : oj315 = (1 : Int32) := Eq.trans d_oj315 (if_neg (own_nt hc314))
          refine ⟨T307, _, X307, N307, e307, fun t k => pre318 _ ?_⟩
          rw [qj0] at k
          exact k
      have qj0 : oj319 = oj315 := Eq.trans d_oj319 (if_neg (own_nt hc312))
      refine ⟨T316, _, X316, N316, e316, fun t k => pre316 _ ?_⟩
      rw [qj0] at k
      exact k
  have pre322 : ∀ t, Steps p.tables e below (T320.setTop (mkF m 318 #[.val (.int x0), .val (.long x1), .second, .val (.long x2), .second, .val (.int x3), .val (.int oj3), .val (.int oj9), .val (.int oj15), .val (.long ov19), .second, .val (.long ov20), .second, .val (.long ov21), .second, .val (.long ov22), .second, .val (.ref b23), .val (.int ov225), .val (.int oj285), .val (.long ov310), .second, .val (.int oj319)] [(.int oj319), (.int ov225)])) t → Steps p.tables e below (s₁.setTop (entryFrame m #[(.int x0), (.long x1), (.long x2), (.int x3)] maxLocals)) t := by
    intro t k
    refine pre320 _ ?_
    show Steps p.tables e below (T320.setTop (mkF m 312 #[.val (.int x0), .val (.long x1), .second, .val (.long x2), .second, .val (.int x3), .val (.int oj3), .val (.int oj9), .val (.int oj15), .val (.long ov19), .second, .val (.long ov20), .second, .val (.long ov21), .second, .val (.long ov22), .second, .val (.ref b23), .val (.int ov225), .val (.int oj285), .val (.long ov310), .second, .unset] [(.int oj319)])) _
    refine XS.istore X320.here hx rfl (hb hby at_312) rfl (l' := #[.val (.int x0), .val (.long x1), .second, .val (.long x2), .second, .val (.int x3), .val (.int oj3), .val (.int oj9), .val (.int oj15), .val (.long ov19), .second, .val (.long ov20), .second, .val (.long ov21), .second, .val (.long ov22), .second, .val (.ref b23), .val (.int ov225), .val (.int oj285), .val (.long ov310), .second, .val (.int oj319)]) rfl ?_
    show Steps p.tables e below (T320.setTop (mkF m 314 #[.val (.int x0), .val (.long x1), .second, .val (.long x2), .second, .val (.int x3), .val (.int oj3), .val (.int oj9), .val (.int oj15), .val (.long ov19), .second, .val (.long ov20), .second, .val (.long ov21), .second, .val (.long ov22), .second, .val (.ref b23), .val (.int ov225), .val (.int oj285), .val (.long ov310), .second, .val (.int oj319)] [])) _
    refine XS.iload X320.here hx rfl (hb hby at_314) rfl ?_
    show Steps p.tables e below (T320.setTop (mkF m 316 #[.val (.int x0), .val (.long x1), .second, .val (.long x2), .second, .val (.int x3), .val (.int oj3), .val (.int oj9), .val (.int oj15), .val (.long ov19), .second, .val (.long ov20), .second, .val (.long ov21), .second, .val (.long ov22), .second, .val (.ref b23), .val (.int ov225), .val (.int oj285), .val (.long ov310), .second, .val (.int oj319)] [(.int ov225)])) _
    refine XS.iload X320.here hx rfl (hb hby at_316) rfl ?_
    exact k
  obtain ⟨T325, L325, X325, N325, e325, pre325⟩ : ∃ (T' : State) (L' : List Loc), Stand p l e room_1 s m #[(.int x0), (.long x1), (.long x2), (.int x3)] below meth c T' L' 19 104 ∧ Fr n0 L' ∧ T'.heap = h197 ∧ ∀ t, Steps p.tables e below (T'.setTop (mkF m 326 #[.val (.int x0), .val (.long x1), .second, .val (.long x2), .second, .val (.int x3), .val (.int oj3), .val (.int oj9), .val (.int oj15), .val (.long ov19), .second, .val (.long ov20), .second, .val (.long ov21), .second, .val (.long ov22), .second, .val (.ref b23), .val (.int ov225), .val (.int oj285), .val (.long ov310), .second, .val (.int oj319)] [(.int oj324)])) t → Steps p.tables e below (s₁.setTop (entryFrame m #[(.int x0), (.long x1), (.long x2), (.int x3)] maxLocals)) t := by
    rcases Bool.eq_false_or_eq_true (if_icmp.holds .ne ov225 oj319) with hc323 | hc323
    · have pre326 : ∀ t, Steps p.tables e below (T320.setTop (mkF m 326 #[.val (.int x0), .val (.long x1), .second, .val (.long x2), .second, .val (.int x3), .val (.int oj3), .val (.int oj9), .val (.int oj15), .val (.long ov19), .second, .val (.long ov20), .second, .val (.long ov21), .second, .val (.long ov22), .second, .val (.ref b23), .val (.int ov225), .val (.int oj285), .val (.long ov310), .second, .val (.int oj319)] [(.int (0 : Int32))])) t → Steps p.tables e below (s₁.setTop (entryFrame m #[(.int x0), (.long x1), (.long x2), (.int x3)] maxLocals)) t := by
        intro t k
        refine pre322 _ ?_
        show Steps p.tables e below (T320.setTop (mkF m 318 #[.val (.int x0), .val (.long x1), .second, .val (.long x2), .second, .val (.int x3), .val (.int oj3), .val (.int oj9), .val (.int oj15), .val (.long ov19), .second, .val (.long ov20), .second, .val (.long ov21), .second, .val (.long ov22), .second, .val (.ref b23), .val (.int ov225), .val (.int oj285), .val (.long ov310), .second, .val (.int oj319)] [(.int oj319), (.int ov225)])) _
        refine XS.icmpYes X320.here hx rfl (pc0 := 318) (pc' := 325) rfl (hb hby at_318) rfl hc323 (by decide) (by decide) ?_
        show Steps p.tables e below (T320.setTop (mkF m 325 #[.val (.int x0), .val (.long x1), .second, .val (.long x2), .second, .val (.int x3), .val (.int oj3), .val (.int oj9), .val (.int oj15), .val (.long ov19), .second, .val (.long ov20), .second, .val (.long ov21), .second, .val (.long ov22), .second, .val (.ref b23), .val (.int ov225), .val (.int oj285), .val (.long ov310), .second, .val (.int oj319)] [])) _
        refine XS.iconst X320.here hx rfl (hb hby at_325) ?_
        exact k
      have qj0 : oj324 = (0 : Int32) := Eq.trans d_oj324 (if_pos hc323)
      refine ⟨T320, _, X320, N320, e320, fun t k => pre326 _ ?_⟩
      rw [qj0] at k
      exact k
    · have pre327 : ∀ t, Steps p.tables e below (T320.setTop (mkF m 326 #[.val (.int x0), .val (.long x1), .second, .val (.long x2), .second, .val (.int x3), .val (.int oj3), .val (.int oj9), .val (.int oj15), .val (.long ov19), .second, .val (.long ov20), .second, .val (.long ov21), .second, .val (.long ov22), .second, .val (.ref b23), .val (.int ov225), .val (.int oj285), .val (.long ov310), .second, .val (.int oj319)] [(.int (1 : Int32))])) t → Steps p.tables e below (s₁.setTop (entryFrame m #[(.int x0), (.long x1), (.long x2), (.int x3)] maxLocals)) t := by
        intro t k
        refine pre322 _ ?_
        show Steps p.tables e below (T320.setTop (mkF m 318 #[.val (.int x0), .val (.long x1), .second, .val (.long x2), .second, .val (.int x3), .val (.int oj3), .val (.int oj9), .val (.int oj15), .val (.long ov19), .second, .val (.long ov20), .second, .val (.long ov21), .second, .val (.long ov22), .second, .val (.ref b23), .val (.int ov225), .val (.int oj285), .val (.long ov310), .second, .val (.int oj319)] [(.int oj319), (.int ov225)])) _
        refine XS.icmpNo X320.here hx rfl (hb hby at_318) rfl hc323 ?_
        show Steps p.tables e below (T320.setTop (mkF m 321 #[.val (.int x0), .val (.long x1), .second, .val (.long x2), .second, .val (.int x3), .val (.int oj3), .val (.int oj9), .val (.int oj15), .val (.long ov19), .second, .val (.long ov20), .second, .val (.long ov21), .second, .val (.long ov22), .second, .val (.ref b23), .val (.int ov225), .val (.int oj285), .val (.long ov310), .second, .val (.int oj319)] [])) _
        refine XS.iconst X320.here hx rfl (hb hby at_321) ?_
        show Steps p.tables e below (T320.setTop (mkF m 322 #[.val (.int x0), .val (.long x1), .second, .val (.long x2), .second, .val (.int x3), .val (.int oj3), .val (.int oj9), .val (.int oj15), .val (.long ov19), .second, .val (.long ov20), .second, .val (.long ov21), .second, .val (.long ov22), .second, .val (.ref b23), .val (.int ov225), .val (.int oj285), .val (.long ov310), .second, .val (.int oj319)] [(.int (1 : Int32))])) _
        refine XS.goto X320.here hx rfl (pc0 := 322) (pc' := 326) rfl (hb hby at_322) (by decide) (by decide) ?_
        exact k
      have qj0 : oj324 = (1 : Int32) := Eq.trans d_oj324 (if_neg (own_nt hc323))
      refine ⟨T320, _, X320, N320, e320, fun t k => pre327 _ ?_⟩
      rw [qj0] at k
      exact k
  obtain ⟨fs, hr, hrun, hended, hW, hsame⟩ := X325.leave (v := some (.int (nar .boolean oj324))) (fun h => by rw [hret] at h; cases h)
  refine ⟨_, _, pre325 _ ?_, hrun, hended, _, _, rfl, ?_, ⟨_, rfl⟩, hW, hsame.mono (by decide) (by decide)⟩
  · show Steps p.tables e below (T325.setTop (mkF m 326 #[.val (.int x0), .val (.long x1), .second, .val (.long x2), .second, .val (.int x3), .val (.int oj3), .val (.int oj9), .val (.int oj15), .val (.long ov19), .second, .val (.long ov20), .second, .val (.long ov21), .second, .val (.long ov22), .second, .val (.ref b23), .val (.int ov225), .val (.int oj285), .val (.long ov310), .second, .val (.int oj319)] [(.int oj324)])) _
    exact retN X325 hx (t := .boolean) hret (by simp) (hb hby at_326) hr
  · show Q0 Z x0 x1 x2 x3 h0 n0 _ T325.heap _
    rw [e325]
    have rr : f0 x0 x1 x2 x3 = (nar .boolean oj324) := hroot
    exact ⟨congrArg (fun z => some (Value.int z)) rr.symm, N325⟩
theorem own_z64 : (0 : Int64).toInt = 0 := rfl
theorem own_m9 (x : Int64) : 0 ≤ (x &&& (511 : Int64)).toInt ∧ (x &&& (511 : Int64)).toInt ≤ 511 := by
  have a : (x &&& (511 : Int64)).toInt = x.toInt % 512 := c_maskL x 511 9 (by decide) (by decide)
  rw [a]
  omega
theorem own_m4 (x : Int64) : 0 ≤ (x &&& (15 : Int64)).toInt ∧ (x &&& (15 : Int64)).toInt ≤ 15 := by
  have a : (x &&& (15 : Int64)).toInt = x.toInt % 16 := c_maskL x 15 4 (by decide) (by decide)
  rw [a]
  omega
theorem own_m3 (x : Int64) : 0 ≤ (x &&& (7 : Int64)).toInt ∧ (x &&& (7 : Int64)).toInt ≤ 7 := by
  have a : (x &&& (7 : Int64)).toInt = x.toInt % 8 := c_maskL x 7 3 (by decide) (by decide)
  rw [a]
  omega
/-- a granule's own test, on its packed long and on its fields -/
theorem own_grg (b r s : Int64) (hb : 0 ≤ b.toInt ∧ b.toInt ≤ 511) (hr : 0 ≤ r.toInt ∧ r.toInt ≤ 15) (hs : 0 ≤ s.toInt ∧ s.toInt ≤ 7) : (nar .boolean (if ifCond.holds .gt (own_cmp b (288 : Int64)) = true then (0 : Int32) else (if ifCond.holds .gt (own_cmp (r + s) (20 : Int64)) = true then (0 : Int32) else (1 : Int32))) = 1 ∧ ¬ (288 : Int32).toInt < b.toInt32.toInt ∧ (r.toInt32 + s.toInt32 + 2).toInt ≤ (22 : Int32).toInt) ∨ (nar .boolean (if ifCond.holds .gt (own_cmp b (288 : Int64)) = true then (0 : Int32) else (if ifCond.holds .gt (own_cmp (r + s) (20 : Int64)) = true then (0 : Int32) else (1 : Int32))) = 0 ∧ ((288 : Int32).toInt < b.toInt32.toInt ∨ ¬ (r.toInt32 + s.toInt32 + 2).toInt ≤ (22 : Int32).toInt)) := by
  have eb : b.toInt32.toInt = b.toInt := own_l2iE rfl (by omega)
  have er : r.toInt32.toInt = r.toInt := own_l2iE rfl (by omega)
  have es : s.toInt32.toInt = s.toInt := own_l2iE rfl (by omega)
  have e5 : (2 : Int32).toInt = 2 := rfl
  have e6 : (r.toInt32 + s.toInt32 + 2).toInt = r.toInt + s.toInt + 2 := own_iaddE (own_iaddE er es (by omega)) e5 (by omega)
  have e7 : (r + s).toInt = r.toInt + s.toInt := own_addE rfl rfl (by omega)
  have e1 : (288 : Int32).toInt = 288 := rfl
  have e2 : (22 : Int32).toInt = 22 := rfl
  have e3 : (288 : Int64).toInt = 288 := rfl
  have e4 : (20 : Int64).toInt = 20 := rfl
  rw [eb, e6, e1, e2]
  clear er es e5 e6 e1 e2 eb
  by_cases h1 : (288 : Int64).toInt < b.toInt
  · rw [if_pos (by rw [own_cgt]; exact h1)]
    exact Or.inr ⟨rfl, Or.inl (by rw [e3] at h1; exact h1)⟩
  · rw [if_neg (by rw [own_cgt]; exact h1)]
    rw [e3] at h1
    by_cases h2 : (20 : Int64).toInt < (r + s).toInt
    · rw [if_pos (by rw [own_cgt]; exact h2)]
      rw [e4, e7] at h2
      exact Or.inr ⟨rfl, Or.inr (by omega)⟩
    · rw [if_neg (by rw [own_cgt]; exact h2)]
      rw [e4, e7] at h2
      exact Or.inl ⟨rfl, h1, by omega⟩
theorem own_gr (v : Int64) : (f6 v = 1 ∧ ¬ (288 : Int32).toInt < (((own_lushr v (12 : Int32)) &&& (511 : Int64)).toInt32).toInt ∧ ((((own_lushr v (21 : Int32)) &&& (15 : Int64)).toInt32) + (((own_lushr v (25 : Int32)) &&& (7 : Int64)).toInt32) + 2).toInt ≤ (22 : Int32).toInt) ∨ (f6 v = 0 ∧ ((288 : Int32).toInt < (((own_lushr v (12 : Int32)) &&& (511 : Int64)).toInt32).toInt ∨ ¬ ((((own_lushr v (21 : Int32)) &&& (15 : Int64)).toInt32) + (((own_lushr v (25 : Int32)) &&& (7 : Int64)).toInt32) + 2).toInt ≤ (22 : Int32).toInt)) := by
  unfold f6 f6_j12 f6_j8 f6_v1 f6_v2 f6_v3
  exact own_grg _ _ _ (own_m9 _) (own_m4 _) (own_m3 _)
theorem own_p (v : Int64) : ((v &&& (4095 : Int64)).toInt32).toInt64.toInt = (f7 v).toInt ∧ 0 ≤ (f7 v).toInt ∧ (f7 v).toInt ≤ 4095 := by
  have a1 : (v &&& (4095 : Int64)).toInt = v.toInt % 4096 := c_maskL v 4095 12 (by decide) (by decide)
  have e : f7 v = v &&& (4095 : Int64) := rfl
  rw [e, a1]
  exact ⟨own_i2lE (own_l2iE a1 (by omega)), by omega, by omega⟩
theorem own_t1 {a A : Int64} {i : Int} (ha : a.toInt = i) (hA : A.toInt = i) (h : 0 ≤ i ∧ i ≤ 4095) : (0 : Int64) + a = A + (0 : Int64) + (0 : Int64) := Int64.toInt_inj.mp (by
  rw [own_addE own_z64 ha (by omega), own_addE (own_addE hA own_z64 (by omega)) own_z64 (by omega)]
  omega)
theorem own_t2 {a b A B : Int64} {i j : Int} (ha : a.toInt = i) (hA : A.toInt = i) (h : 0 ≤ i ∧ i ≤ 4095) (hb : b.toInt = j) (hB : B.toInt = j) (k : 0 ≤ j ∧ j ≤ 4095) : (0 : Int64) + a + b = A + B + (0 : Int64) := Int64.toInt_inj.mp (by
  rw [own_addE (own_addE own_z64 ha (by omega)) hb (by omega), own_addE (own_addE hA hB (by omega)) own_z64 (by omega)]
  omega)
theorem own_t3 {a b A B : Int64} {i j : Int} (ha : a.toInt = i) (hA : A.toInt = i) (h : 0 ≤ i ∧ i ≤ 4095) (hb : b.toInt = j) (hB : B.toInt = j) (k : 0 ≤ j ∧ j ≤ 4095) : (0 : Int64) + a + b = A + (0 : Int64) + (B + (0 : Int64)) := Int64.toInt_inj.mp (by
  rw [own_addE (own_addE own_z64 ha (by omega)) hb (by omega), own_addE (own_addE hA own_z64 (by omega)) (own_addE hB own_z64 (by omega)) (by omega)]
  omega)
theorem own_t4 {a b c d A B C D : Int64} {i j m n : Int} (ha : a.toInt = i) (hA : A.toInt = i) (h : 0 ≤ i ∧ i ≤ 4095) (hb : b.toInt = j) (hB : B.toInt = j) (k : 0 ≤ j ∧ j ≤ 4095) (hc : c.toInt = m) (hC : C.toInt = m) (q : 0 ≤ m ∧ m ≤ 4095) (hd : d.toInt = n) (hD : D.toInt = n) (w : 0 ≤ n ∧ n ≤ 4095) : (0 : Int64) + a + b + c + d = A + B + (C + D) := Int64.toInt_inj.mp (by
  rw [own_addE (own_addE (own_addE (own_addE own_z64 ha (by omega)) hb (by omega)) hc (by omega)) hd (by omega), own_addE (own_addE hA hB (by omega)) (own_addE hC hD (by omega)) (by omega)]
  omega)
theorem own_s8 (v0 : Int64) : ((0 : Int64) + ((v0 &&& (4095 : Int64)).toInt32).toInt64) = f7 v0 + (0 : Int64) + (0 : Int64) := own_t1 (own_p v0).1 rfl (own_p v0).2
set_option maxRecDepth 65536 in
theorem own_A8 (m : Int32) (v0 : Int64) : f8 m (((own_lushr v0 (12 : Int32)) &&& (511 : Int64)).toInt32) (((own_lushr v0 (21 : Int32)) &&& (15 : Int64)).toInt32) (((own_lushr v0 (25 : Int32)) &&& (7 : Int64)).toInt32) ((v0 &&& (4095 : Int64)).toInt32) = (if ifCond.holds .eq (if ifCond.holds .eq (f6 v0) = true then (0 : Int32) else (1 : Int32)) = true then (0 : Int32) else (if ifCond.holds .gt (own_cmp (f7 v0 + (0 : Int64) + (0 : Int64)) ((8 : Int64) * m.toInt64)) = true then (0 : Int32) else (1 : Int32))) := by
  have hs := own_s8 v0
  unfold f8 f8_j19 f8_v14
  rw [hs]
  have hE : ¬ ifCond.holds .eq (1 : Int32) = true := by decide
  have hZ : ifCond.holds .eq (0 : Int32) = true := rfl
  rcases own_gr v0 with ⟨k0, a0, b0⟩ | ⟨k0, a0⟩
  · rw [if_neg (show ¬ if_icmp.holds .gt (((own_lushr v0 (12 : Int32)) &&& (511 : Int64)).toInt32) (288 : Int32) = true by rw [own_igt]; exact a0), if_pos (show if_icmp.holds .le ((((own_lushr v0 (21 : Int32)) &&& (15 : Int64)).toInt32) + (((own_lushr v0 (25 : Int32)) &&& (7 : Int64)).toInt32) + 2) (22 : Int32) = true by rw [own_ile]; exact b0), k0]
    repeat rw [if_neg hE]
    split <;> rfl
  · rw [k0]
    by_cases q : (288 : Int32).toInt < (((own_lushr v0 (12 : Int32)) &&& (511 : Int64)).toInt32).toInt
    · rw [if_pos (show if_icmp.holds .gt (((own_lushr v0 (12 : Int32)) &&& (511 : Int64)).toInt32) (288 : Int32) = true by rw [own_igt]; exact q)]
      repeat (first | rw [if_neg hE] | rw [if_pos hZ])
    · rw [if_neg (show ¬ if_icmp.holds .gt (((own_lushr v0 (12 : Int32)) &&& (511 : Int64)).toInt32) (288 : Int32) = true by rw [own_igt]; exact q), if_neg (show ¬ if_icmp.holds .le ((((own_lushr v0 (21 : Int32)) &&& (15 : Int64)).toInt32) + (((own_lushr v0 (25 : Int32)) &&& (7 : Int64)).toInt32) + 2) (22 : Int32) = true by rw [own_ile]; exact a0.resolve_left q)]
      repeat (first | rw [if_neg hE] | rw [if_pos hZ])
theorem own_s9 (v0 v1 : Int64) : (((0 : Int64) + ((v0 &&& (4095 : Int64)).toInt32).toInt64) + ((v1 &&& (4095 : Int64)).toInt32).toInt64) = f7 v0 + f7 v1 + (0 : Int64) := own_t2 (own_p v0).1 rfl (own_p v0).2 (own_p v1).1 rfl (own_p v1).2
set_option maxRecDepth 65536 in
theorem own_A9 (m : Int32) (v0 v1 : Int64) : f9 m (((own_lushr v0 (12 : Int32)) &&& (511 : Int64)).toInt32) (((own_lushr v0 (21 : Int32)) &&& (15 : Int64)).toInt32) (((own_lushr v0 (25 : Int32)) &&& (7 : Int64)).toInt32) ((v0 &&& (4095 : Int64)).toInt32) (((own_lushr v1 (12 : Int32)) &&& (511 : Int64)).toInt32) (((own_lushr v1 (21 : Int32)) &&& (15 : Int64)).toInt32) (((own_lushr v1 (25 : Int32)) &&& (7 : Int64)).toInt32) ((v1 &&& (4095 : Int64)).toInt32) = (if ifCond.holds .eq (if ifCond.holds .eq (f6 v0) = true then (0 : Int32) else (if ifCond.holds .eq (f6 v1) = true then (0 : Int32) else (1 : Int32))) = true then (0 : Int32) else (if ifCond.holds .gt (own_cmp (f7 v0 + f7 v1 + (0 : Int64)) ((8 : Int64) * m.toInt64)) = true then (0 : Int32) else (1 : Int32))) := by
  have hs := own_s9 v0 v1
  unfold f9 f9_j32 f9_v27 f9_v14
  rw [hs]
  have hE : ¬ ifCond.holds .eq (1 : Int32) = true := by decide
  have hZ : ifCond.holds .eq (0 : Int32) = true := rfl
  rcases own_gr v0 with ⟨k0, a0, b0⟩ | ⟨k0, a0⟩
  · rw [if_neg (show ¬ if_icmp.holds .gt (((own_lushr v0 (12 : Int32)) &&& (511 : Int64)).toInt32) (288 : Int32) = true by rw [own_igt]; exact a0), if_pos (show if_icmp.holds .le ((((own_lushr v0 (21 : Int32)) &&& (15 : Int64)).toInt32) + (((own_lushr v0 (25 : Int32)) &&& (7 : Int64)).toInt32) + 2) (22 : Int32) = true by rw [own_ile]; exact b0), k0]
    rcases own_gr v1 with ⟨k1, a1, b1⟩ | ⟨k1, a1⟩
    · rw [if_neg (show ¬ if_icmp.holds .gt (((own_lushr v1 (12 : Int32)) &&& (511 : Int64)).toInt32) (288 : Int32) = true by rw [own_igt]; exact a1), if_pos (show if_icmp.holds .le ((((own_lushr v1 (21 : Int32)) &&& (15 : Int64)).toInt32) + (((own_lushr v1 (25 : Int32)) &&& (7 : Int64)).toInt32) + 2) (22 : Int32) = true by rw [own_ile]; exact b1), k1]
      repeat rw [if_neg hE]
      split <;> rfl
    · rw [k1]
      by_cases q : (288 : Int32).toInt < (((own_lushr v1 (12 : Int32)) &&& (511 : Int64)).toInt32).toInt
      · rw [if_pos (show if_icmp.holds .gt (((own_lushr v1 (12 : Int32)) &&& (511 : Int64)).toInt32) (288 : Int32) = true by rw [own_igt]; exact q)]
        repeat (first | rw [if_neg hE] | rw [if_pos hZ])
      · rw [if_neg (show ¬ if_icmp.holds .gt (((own_lushr v1 (12 : Int32)) &&& (511 : Int64)).toInt32) (288 : Int32) = true by rw [own_igt]; exact q), if_neg (show ¬ if_icmp.holds .le ((((own_lushr v1 (21 : Int32)) &&& (15 : Int64)).toInt32) + (((own_lushr v1 (25 : Int32)) &&& (7 : Int64)).toInt32) + 2) (22 : Int32) = true by rw [own_ile]; exact a1.resolve_left q)]
        repeat (first | rw [if_neg hE] | rw [if_pos hZ])
  · rw [k0]
    by_cases q : (288 : Int32).toInt < (((own_lushr v0 (12 : Int32)) &&& (511 : Int64)).toInt32).toInt
    · rw [if_pos (show if_icmp.holds .gt (((own_lushr v0 (12 : Int32)) &&& (511 : Int64)).toInt32) (288 : Int32) = true by rw [own_igt]; exact q)]
      repeat (first | rw [if_neg hE] | rw [if_pos hZ])
    · rw [if_neg (show ¬ if_icmp.holds .gt (((own_lushr v0 (12 : Int32)) &&& (511 : Int64)).toInt32) (288 : Int32) = true by rw [own_igt]; exact q), if_neg (show ¬ if_icmp.holds .le ((((own_lushr v0 (21 : Int32)) &&& (15 : Int64)).toInt32) + (((own_lushr v0 (25 : Int32)) &&& (7 : Int64)).toInt32) + 2) (22 : Int32) = true by rw [own_ile]; exact a0.resolve_left q)]
      repeat (first | rw [if_neg hE] | rw [if_pos hZ])
theorem own_s10 (v0 v1 : Int64) : (((0 : Int64) + ((v0 &&& (4095 : Int64)).toInt32).toInt64) + ((v1 &&& (4095 : Int64)).toInt32).toInt64) = f7 v0 + (0 : Int64) + (f7 v1 + (0 : Int64)) := own_t3 (own_p v0).1 rfl (own_p v0).2 (own_p v1).1 rfl (own_p v1).2
set_option maxRecDepth 65536 in
theorem own_A10 (m : Int32) (v0 v1 : Int64) : f10 m (((own_lushr v0 (12 : Int32)) &&& (511 : Int64)).toInt32) (((own_lushr v0 (21 : Int32)) &&& (15 : Int64)).toInt32) (((own_lushr v0 (25 : Int32)) &&& (7 : Int64)).toInt32) ((v0 &&& (4095 : Int64)).toInt32) (((own_lushr v1 (12 : Int32)) &&& (511 : Int64)).toInt32) (((own_lushr v1 (21 : Int32)) &&& (15 : Int64)).toInt32) (((own_lushr v1 (25 : Int32)) &&& (7 : Int64)).toInt32) ((v1 &&& (4095 : Int64)).toInt32) = (if ifCond.holds .eq (if ifCond.holds .eq (f6 v0) = true then (0 : Int32) else (if ifCond.holds .eq (f6 v1) = true then (0 : Int32) else (1 : Int32))) = true then (0 : Int32) else (if ifCond.holds .gt (own_cmp (f7 v0 + (0 : Int64) + (f7 v1 + (0 : Int64))) ((8 : Int64) * m.toInt64)) = true then (0 : Int32) else (1 : Int32))) := by
  have hs := own_s10 v0 v1
  unfold f10 f10_j34 f10_v29 f10_v14
  rw [hs]
  have hE : ¬ ifCond.holds .eq (1 : Int32) = true := by decide
  have hZ : ifCond.holds .eq (0 : Int32) = true := rfl
  rcases own_gr v0 with ⟨k0, a0, b0⟩ | ⟨k0, a0⟩
  · rw [if_neg (show ¬ if_icmp.holds .gt (((own_lushr v0 (12 : Int32)) &&& (511 : Int64)).toInt32) (288 : Int32) = true by rw [own_igt]; exact a0), if_pos (show if_icmp.holds .le ((((own_lushr v0 (21 : Int32)) &&& (15 : Int64)).toInt32) + (((own_lushr v0 (25 : Int32)) &&& (7 : Int64)).toInt32) + 2) (22 : Int32) = true by rw [own_ile]; exact b0), k0]
    rcases own_gr v1 with ⟨k1, a1, b1⟩ | ⟨k1, a1⟩
    · rw [if_neg (show ¬ if_icmp.holds .gt (((own_lushr v1 (12 : Int32)) &&& (511 : Int64)).toInt32) (288 : Int32) = true by rw [own_igt]; exact a1), if_pos (show if_icmp.holds .le ((((own_lushr v1 (21 : Int32)) &&& (15 : Int64)).toInt32) + (((own_lushr v1 (25 : Int32)) &&& (7 : Int64)).toInt32) + 2) (22 : Int32) = true by rw [own_ile]; exact b1), k1]
      repeat rw [if_neg hE]
      split <;> rfl
    · rw [k1]
      by_cases q : (288 : Int32).toInt < (((own_lushr v1 (12 : Int32)) &&& (511 : Int64)).toInt32).toInt
      · rw [if_pos (show if_icmp.holds .gt (((own_lushr v1 (12 : Int32)) &&& (511 : Int64)).toInt32) (288 : Int32) = true by rw [own_igt]; exact q)]
        repeat (first | rw [if_neg hE] | rw [if_pos hZ])
      · rw [if_neg (show ¬ if_icmp.holds .gt (((own_lushr v1 (12 : Int32)) &&& (511 : Int64)).toInt32) (288 : Int32) = true by rw [own_igt]; exact q), if_neg (show ¬ if_icmp.holds .le ((((own_lushr v1 (21 : Int32)) &&& (15 : Int64)).toInt32) + (((own_lushr v1 (25 : Int32)) &&& (7 : Int64)).toInt32) + 2) (22 : Int32) = true by rw [own_ile]; exact a1.resolve_left q)]
        repeat (first | rw [if_neg hE] | rw [if_pos hZ])
  · rw [k0]
    by_cases q : (288 : Int32).toInt < (((own_lushr v0 (12 : Int32)) &&& (511 : Int64)).toInt32).toInt
    · rw [if_pos (show if_icmp.holds .gt (((own_lushr v0 (12 : Int32)) &&& (511 : Int64)).toInt32) (288 : Int32) = true by rw [own_igt]; exact q)]
      repeat (first | rw [if_neg hE] | rw [if_pos hZ])
    · rw [if_neg (show ¬ if_icmp.holds .gt (((own_lushr v0 (12 : Int32)) &&& (511 : Int64)).toInt32) (288 : Int32) = true by rw [own_igt]; exact q), if_neg (show ¬ if_icmp.holds .le ((((own_lushr v0 (21 : Int32)) &&& (15 : Int64)).toInt32) + (((own_lushr v0 (25 : Int32)) &&& (7 : Int64)).toInt32) + 2) (22 : Int32) = true by rw [own_ile]; exact a0.resolve_left q)]
      repeat (first | rw [if_neg hE] | rw [if_pos hZ])
theorem own_s11 (v0 v1 v2 v3 : Int64) : (((((0 : Int64) + ((v0 &&& (4095 : Int64)).toInt32).toInt64) + ((v1 &&& (4095 : Int64)).toInt32).toInt64) + ((v2 &&& (4095 : Int64)).toInt32).toInt64) + ((v3 &&& (4095 : Int64)).toInt32).toInt64) = f7 v0 + f7 v1 + (f7 v2 + f7 v3) := own_t4 (own_p v0).1 rfl (own_p v0).2 (own_p v1).1 rfl (own_p v1).2 (own_p v2).1 rfl (own_p v2).2 (own_p v3).1 rfl (own_p v3).2
set_option maxRecDepth 65536 in
theorem own_A11 (m : Int32) (v0 v1 v2 v3 : Int64) : f11 m (((own_lushr v0 (12 : Int32)) &&& (511 : Int64)).toInt32) (((own_lushr v0 (21 : Int32)) &&& (15 : Int64)).toInt32) (((own_lushr v0 (25 : Int32)) &&& (7 : Int64)).toInt32) ((v0 &&& (4095 : Int64)).toInt32) (((own_lushr v1 (12 : Int32)) &&& (511 : Int64)).toInt32) (((own_lushr v1 (21 : Int32)) &&& (15 : Int64)).toInt32) (((own_lushr v1 (25 : Int32)) &&& (7 : Int64)).toInt32) ((v1 &&& (4095 : Int64)).toInt32) (((own_lushr v2 (12 : Int32)) &&& (511 : Int64)).toInt32) (((own_lushr v2 (21 : Int32)) &&& (15 : Int64)).toInt32) (((own_lushr v2 (25 : Int32)) &&& (7 : Int64)).toInt32) ((v2 &&& (4095 : Int64)).toInt32) (((own_lushr v3 (12 : Int32)) &&& (511 : Int64)).toInt32) (((own_lushr v3 (21 : Int32)) &&& (15 : Int64)).toInt32) (((own_lushr v3 (25 : Int32)) &&& (7 : Int64)).toInt32) ((v3 &&& (4095 : Int64)).toInt32) = (if ifCond.holds .eq (if ifCond.holds .eq (f6 v0) = true then (0 : Int32) else (if ifCond.holds .eq (f6 v1) = true then (0 : Int32) else (if ifCond.holds .eq (f6 v2) = true then (0 : Int32) else (if ifCond.holds .eq (f6 v3) = true then (0 : Int32) else (1 : Int32))))) = true then (0 : Int32) else (if ifCond.holds .gt (own_cmp (f7 v0 + f7 v1 + (f7 v2 + f7 v3)) ((8 : Int64) * m.toInt64)) = true then (0 : Int32) else (1 : Int32))) := by
  have hs := own_s11 v0 v1 v2 v3
  unfold f11 f11_j60 f11_v55 f11_v42 f11_v27 f11_v14
  rw [hs]
  have hE : ¬ ifCond.holds .eq (1 : Int32) = true := by decide
  have hZ : ifCond.holds .eq (0 : Int32) = true := rfl
  rcases own_gr v0 with ⟨k0, a0, b0⟩ | ⟨k0, a0⟩
  · rw [if_neg (show ¬ if_icmp.holds .gt (((own_lushr v0 (12 : Int32)) &&& (511 : Int64)).toInt32) (288 : Int32) = true by rw [own_igt]; exact a0), if_pos (show if_icmp.holds .le ((((own_lushr v0 (21 : Int32)) &&& (15 : Int64)).toInt32) + (((own_lushr v0 (25 : Int32)) &&& (7 : Int64)).toInt32) + 2) (22 : Int32) = true by rw [own_ile]; exact b0), k0]
    rcases own_gr v1 with ⟨k1, a1, b1⟩ | ⟨k1, a1⟩
    · rw [if_neg (show ¬ if_icmp.holds .gt (((own_lushr v1 (12 : Int32)) &&& (511 : Int64)).toInt32) (288 : Int32) = true by rw [own_igt]; exact a1), if_pos (show if_icmp.holds .le ((((own_lushr v1 (21 : Int32)) &&& (15 : Int64)).toInt32) + (((own_lushr v1 (25 : Int32)) &&& (7 : Int64)).toInt32) + 2) (22 : Int32) = true by rw [own_ile]; exact b1), k1]
      rcases own_gr v2 with ⟨k2, a2, b2⟩ | ⟨k2, a2⟩
      · rw [if_neg (show ¬ if_icmp.holds .gt (((own_lushr v2 (12 : Int32)) &&& (511 : Int64)).toInt32) (288 : Int32) = true by rw [own_igt]; exact a2), if_pos (show if_icmp.holds .le ((((own_lushr v2 (21 : Int32)) &&& (15 : Int64)).toInt32) + (((own_lushr v2 (25 : Int32)) &&& (7 : Int64)).toInt32) + 2) (22 : Int32) = true by rw [own_ile]; exact b2), k2]
        rcases own_gr v3 with ⟨k3, a3, b3⟩ | ⟨k3, a3⟩
        · rw [if_neg (show ¬ if_icmp.holds .gt (((own_lushr v3 (12 : Int32)) &&& (511 : Int64)).toInt32) (288 : Int32) = true by rw [own_igt]; exact a3), if_pos (show if_icmp.holds .le ((((own_lushr v3 (21 : Int32)) &&& (15 : Int64)).toInt32) + (((own_lushr v3 (25 : Int32)) &&& (7 : Int64)).toInt32) + 2) (22 : Int32) = true by rw [own_ile]; exact b3), k3]
          repeat rw [if_neg hE]
          split <;> rfl
        · rw [k3]
          by_cases q : (288 : Int32).toInt < (((own_lushr v3 (12 : Int32)) &&& (511 : Int64)).toInt32).toInt
          · rw [if_pos (show if_icmp.holds .gt (((own_lushr v3 (12 : Int32)) &&& (511 : Int64)).toInt32) (288 : Int32) = true by rw [own_igt]; exact q)]
            repeat (first | rw [if_neg hE] | rw [if_pos hZ])
          · rw [if_neg (show ¬ if_icmp.holds .gt (((own_lushr v3 (12 : Int32)) &&& (511 : Int64)).toInt32) (288 : Int32) = true by rw [own_igt]; exact q), if_neg (show ¬ if_icmp.holds .le ((((own_lushr v3 (21 : Int32)) &&& (15 : Int64)).toInt32) + (((own_lushr v3 (25 : Int32)) &&& (7 : Int64)).toInt32) + 2) (22 : Int32) = true by rw [own_ile]; exact a3.resolve_left q)]
            repeat (first | rw [if_neg hE] | rw [if_pos hZ])
      · rw [k2]
        by_cases q : (288 : Int32).toInt < (((own_lushr v2 (12 : Int32)) &&& (511 : Int64)).toInt32).toInt
        · rw [if_pos (show if_icmp.holds .gt (((own_lushr v2 (12 : Int32)) &&& (511 : Int64)).toInt32) (288 : Int32) = true by rw [own_igt]; exact q)]
          repeat (first | rw [if_neg hE] | rw [if_pos hZ])
        · rw [if_neg (show ¬ if_icmp.holds .gt (((own_lushr v2 (12 : Int32)) &&& (511 : Int64)).toInt32) (288 : Int32) = true by rw [own_igt]; exact q), if_neg (show ¬ if_icmp.holds .le ((((own_lushr v2 (21 : Int32)) &&& (15 : Int64)).toInt32) + (((own_lushr v2 (25 : Int32)) &&& (7 : Int64)).toInt32) + 2) (22 : Int32) = true by rw [own_ile]; exact a2.resolve_left q)]
          repeat (first | rw [if_neg hE] | rw [if_pos hZ])
    · rw [k1]
      by_cases q : (288 : Int32).toInt < (((own_lushr v1 (12 : Int32)) &&& (511 : Int64)).toInt32).toInt
      · rw [if_pos (show if_icmp.holds .gt (((own_lushr v1 (12 : Int32)) &&& (511 : Int64)).toInt32) (288 : Int32) = true by rw [own_igt]; exact q)]
        repeat (first | rw [if_neg hE] | rw [if_pos hZ])
      · rw [if_neg (show ¬ if_icmp.holds .gt (((own_lushr v1 (12 : Int32)) &&& (511 : Int64)).toInt32) (288 : Int32) = true by rw [own_igt]; exact q), if_neg (show ¬ if_icmp.holds .le ((((own_lushr v1 (21 : Int32)) &&& (15 : Int64)).toInt32) + (((own_lushr v1 (25 : Int32)) &&& (7 : Int64)).toInt32) + 2) (22 : Int32) = true by rw [own_ile]; exact a1.resolve_left q)]
        repeat (first | rw [if_neg hE] | rw [if_pos hZ])
  · rw [k0]
    by_cases q : (288 : Int32).toInt < (((own_lushr v0 (12 : Int32)) &&& (511 : Int64)).toInt32).toInt
    · rw [if_pos (show if_icmp.holds .gt (((own_lushr v0 (12 : Int32)) &&& (511 : Int64)).toInt32) (288 : Int32) = true by rw [own_igt]; exact q)]
      repeat (first | rw [if_neg hE] | rw [if_pos hZ])
    · rw [if_neg (show ¬ if_icmp.holds .gt (((own_lushr v0 (12 : Int32)) &&& (511 : Int64)).toInt32) (288 : Int32) = true by rw [own_igt]; exact q), if_neg (show ¬ if_icmp.holds .le ((((own_lushr v0 (21 : Int32)) &&& (15 : Int64)).toInt32) + (((own_lushr v0 (25 : Int32)) &&& (7 : Int64)).toInt32) + 2) (22 : Int32) = true by rw [own_ile]; exact a0.resolve_left q)]
      repeat (first | rw [if_neg hE] | rw [if_pos hZ])
theorem own_E8 (x0 : Int32) (x1 x2 : Int64) (x3 : Int32) (a : ifCond.holds .eq (x0 &&& (1 : Int32)) = true) (b : ifCond.holds .eq (x0 &&& (2 : Int32)) = true) : f0_v225 x0 x1 x2 x3 = f0_j319 x0 x1 x2 x3 := by
  have j3 : f0_j3 x0 x1 x2 x3 = 0 := if_pos a
  have j9 : f0_j9 x0 x1 x2 x3 = 0 := if_pos b
  have j32 : f0_j32 x0 x1 x2 x3 = 1 := by
    unfold f0_j32
    rw [j3]
    exact if_pos (show ifCond.holds .eq (0 : Int32) = true from rfl)
  have j69 : f0_j69 x0 x1 x2 x3 = 1 := by
    unfold f0_j69
    rw [j9]
    exact if_pos (show ifCond.holds .eq (0 : Int32) = true from rfl)
  have j251 : f0_j251 x0 x1 x2 x3 = (1 : Int32) := by
    unfold f0_j251
    rw [j3]
    exact if_pos (show ifCond.holds .eq (0 : Int32) = true from rfl)
  have j283 : f0_j283 x0 x1 x2 x3 = (1 : Int32) := by
    unfold f0_j283
    rw [j9]
    exact Eq.trans (if_pos (show ifCond.holds .eq (0 : Int32) = true from rfl)) j251
  have j285 : f0_j285 x0 x1 x2 x3 = (if ifCond.holds .eq (f6 (f0_v19 x0 x1 x2 x3)) = true then (0 : Int32) else (1 : Int32)) := by
    unfold f0_j285
    rw [j283]
  have j292 : f0_j292 x0 x1 x2 x3 = (0 : Int64) := by
    unfold f0_j292
    rw [j9]
    exact if_pos (show ifCond.holds .eq (0 : Int32) = true from rfl)
  have j302 : f0_j302 x0 x1 x2 x3 = (0 : Int64) := by
    unfold f0_j302
    rw [j9]
    exact if_pos (show ifCond.holds .eq (0 : Int32) = true from rfl)
  have j306 : f0_j306 x0 x1 x2 x3 = (0 : Int64) := by
    unfold f0_j306
    rw [j3]
    exact if_pos (show ifCond.holds .eq (0 : Int32) = true from rfl)
  have j315 : f0_j315 x0 x1 x2 x3 = (if ifCond.holds .gt (own_cmp (f7 (f0_v19 x0 x1 x2 x3) + (0 : Int64) + (0 : Int64)) ((8 : Int64) * (f0_j15 x0 x1 x2 x3).toInt64)) = true then (0 : Int32) else (1 : Int32)) := by
    unfold f0_j315 f0_v310
    rw [j292, j306]
  have q : f0_v225 x0 x1 x2 x3 = f8 (f0_j15 x0 x1 x2 x3) (((own_lushr (f0_v19 x0 x1 x2 x3) (12 : Int32)) &&& (511 : Int64)).toInt32) (((own_lushr (f0_v19 x0 x1 x2 x3) (21 : Int32)) &&& (15 : Int64)).toInt32) (((own_lushr (f0_v19 x0 x1 x2 x3) (25 : Int32)) &&& (7 : Int64)).toInt32) (((f0_v19 x0 x1 x2 x3) &&& (4095 : Int64)).toInt32) := by
    unfold f0_v225
    rw [j32, j69]
    exact own_f5_8 _ _ _ _ _ _ _ _ _ _ _ _ _ _ _ _ _ 
  rw [q, own_A8 (f0_j15 x0 x1 x2 x3) (f0_v19 x0 x1 x2 x3)]
  unfold f0_j319
  rw [j285, j315]
theorem own_E9 (x0 : Int32) (x1 x2 : Int64) (x3 : Int32) (a : ifCond.holds .eq (x0 &&& (1 : Int32)) = true) (b : ifCond.holds .eq (x0 &&& (2 : Int32)) = false) : f0_v225 x0 x1 x2 x3 = f0_j319 x0 x1 x2 x3 := by
  have j3 : f0_j3 x0 x1 x2 x3 = 0 := if_pos a
  have j9 : f0_j9 x0 x1 x2 x3 = 1 := if_neg (own_nt b)
  have j32 : f0_j32 x0 x1 x2 x3 = 1 := by
    unfold f0_j32
    rw [j3]
    exact if_pos (show ifCond.holds .eq (0 : Int32) = true from rfl)
  have j69 : f0_j69 x0 x1 x2 x3 = 2 := by
    unfold f0_j69
    rw [j9]
    exact if_neg (show ¬ ifCond.holds .eq (1 : Int32) = true by decide)
  have j277 : f0_j277 x0 x1 x2 x3 = (1 : Int32) := by
    unfold f0_j277
    rw [j3]
    exact if_pos (show ifCond.holds .eq (0 : Int32) = true from rfl)
  have j280 : f0_j280 x0 x1 x2 x3 = (if ifCond.holds .eq (f6 (f0_v20 x0 x1 x2 x3)) = true then (0 : Int32) else (1 : Int32)) := by
    unfold f0_j280
    rw [j277]
  have j283 : f0_j283 x0 x1 x2 x3 = (if ifCond.holds .eq (f6 (f0_v20 x0 x1 x2 x3)) = true then (0 : Int32) else (1 : Int32)) := by
    unfold f0_j283
    rw [j9]
    exact Eq.trans (if_neg (show ¬ ifCond.holds .eq (1 : Int32) = true by decide)) j280
  have j285 : f0_j285 x0 x1 x2 x3 = (if ifCond.holds .eq (f6 (f0_v19 x0 x1 x2 x3)) = true then (0 : Int32) else (if ifCond.holds .eq (f6 (f0_v20 x0 x1 x2 x3)) = true then (0 : Int32) else (1 : Int32))) := by
    unfold f0_j285
    rw [j283]
  have j292 : f0_j292 x0 x1 x2 x3 = f7 (f0_v20 x0 x1 x2 x3) := by
    unfold f0_j292
    rw [j9]
    exact if_neg (show ¬ ifCond.holds .eq (1 : Int32) = true by decide)
  have j302 : f0_j302 x0 x1 x2 x3 = f7 (f0_v22 x0 x1 x2 x3) := by
    unfold f0_j302
    rw [j9]
    exact if_neg (show ¬ ifCond.holds .eq (1 : Int32) = true by decide)
  have j306 : f0_j306 x0 x1 x2 x3 = (0 : Int64) := by
    unfold f0_j306
    rw [j3]
    exact if_pos (show ifCond.holds .eq (0 : Int32) = true from rfl)
  have j315 : f0_j315 x0 x1 x2 x3 = (if ifCond.holds .gt (own_cmp (f7 (f0_v19 x0 x1 x2 x3) + f7 (f0_v20 x0 x1 x2 x3) + (0 : Int64)) ((8 : Int64) * (f0_j15 x0 x1 x2 x3).toInt64)) = true then (0 : Int32) else (1 : Int32)) := by
    unfold f0_j315 f0_v310
    rw [j292, j306]
  have q : f0_v225 x0 x1 x2 x3 = f9 (f0_j15 x0 x1 x2 x3) (((own_lushr (f0_v19 x0 x1 x2 x3) (12 : Int32)) &&& (511 : Int64)).toInt32) (((own_lushr (f0_v19 x0 x1 x2 x3) (21 : Int32)) &&& (15 : Int64)).toInt32) (((own_lushr (f0_v19 x0 x1 x2 x3) (25 : Int32)) &&& (7 : Int64)).toInt32) (((f0_v19 x0 x1 x2 x3) &&& (4095 : Int64)).toInt32) (((own_lushr (f0_v20 x0 x1 x2 x3) (12 : Int32)) &&& (511 : Int64)).toInt32) (((own_lushr (f0_v20 x0 x1 x2 x3) (21 : Int32)) &&& (15 : Int64)).toInt32) (((own_lushr (f0_v20 x0 x1 x2 x3) (25 : Int32)) &&& (7 : Int64)).toInt32) (((f0_v20 x0 x1 x2 x3) &&& (4095 : Int64)).toInt32) := by
    unfold f0_v225
    rw [j32, j69]
    exact own_f5_9 _ _ _ _ _ _ _ _ _ _ _ _ _ _ _ _ _ 
  rw [q, own_A9 (f0_j15 x0 x1 x2 x3) (f0_v19 x0 x1 x2 x3) (f0_v20 x0 x1 x2 x3)]
  unfold f0_j319
  rw [j285, j315]
theorem own_E10 (x0 : Int32) (x1 x2 : Int64) (x3 : Int32) (a : ifCond.holds .eq (x0 &&& (1 : Int32)) = false) (b : ifCond.holds .eq (x0 &&& (2 : Int32)) = true) : f0_v225 x0 x1 x2 x3 = f0_j319 x0 x1 x2 x3 := by
  have j3 : f0_j3 x0 x1 x2 x3 = 1 := if_neg (own_nt a)
  have j9 : f0_j9 x0 x1 x2 x3 = 0 := if_pos b
  have j32 : f0_j32 x0 x1 x2 x3 = 2 := by
    unfold f0_j32
    rw [j3]
    exact if_neg (show ¬ ifCond.holds .eq (1 : Int32) = true by decide)
  have j69 : f0_j69 x0 x1 x2 x3 = 1 := by
    unfold f0_j69
    rw [j9]
    exact if_pos (show ifCond.holds .eq (0 : Int32) = true from rfl)
  have j245 : f0_j245 x0 x1 x2 x3 = (1 : Int32) := by
    unfold f0_j245
    rw [j9]
    exact if_pos (show ifCond.holds .eq (0 : Int32) = true from rfl)
  have j248 : f0_j248 x0 x1 x2 x3 = (if ifCond.holds .eq (f6 (f0_v21 x0 x1 x2 x3)) = true then (0 : Int32) else (1 : Int32)) := by
    unfold f0_j248
    rw [j245]
  have j251 : f0_j251 x0 x1 x2 x3 = (if ifCond.holds .eq (f6 (f0_v21 x0 x1 x2 x3)) = true then (0 : Int32) else (1 : Int32)) := by
    unfold f0_j251
    rw [j3]
    exact Eq.trans (if_neg (show ¬ ifCond.holds .eq (1 : Int32) = true by decide)) j248
  have j283 : f0_j283 x0 x1 x2 x3 = (if ifCond.holds .eq (f6 (f0_v21 x0 x1 x2 x3)) = true then (0 : Int32) else (1 : Int32)) := by
    unfold f0_j283
    rw [j9]
    exact Eq.trans (if_pos (show ifCond.holds .eq (0 : Int32) = true from rfl)) j251
  have j285 : f0_j285 x0 x1 x2 x3 = (if ifCond.holds .eq (f6 (f0_v19 x0 x1 x2 x3)) = true then (0 : Int32) else (if ifCond.holds .eq (f6 (f0_v21 x0 x1 x2 x3)) = true then (0 : Int32) else (1 : Int32))) := by
    unfold f0_j285
    rw [j283]
  have j292 : f0_j292 x0 x1 x2 x3 = (0 : Int64) := by
    unfold f0_j292
    rw [j9]
    exact if_pos (show ifCond.holds .eq (0 : Int32) = true from rfl)
  have j302 : f0_j302 x0 x1 x2 x3 = (0 : Int64) := by
    unfold f0_j302
    rw [j9]
    exact if_pos (show ifCond.holds .eq (0 : Int32) = true from rfl)
  have j306 : f0_j306 x0 x1 x2 x3 = (f7 (f0_v21 x0 x1 x2 x3) + (0 : Int64)) := by
    unfold f0_j306
    rw [j3, j302]
    exact if_neg (show ¬ ifCond.holds .eq (1 : Int32) = true by decide)
  have j315 : f0_j315 x0 x1 x2 x3 = (if ifCond.holds .gt (own_cmp (f7 (f0_v19 x0 x1 x2 x3) + (0 : Int64) + (f7 (f0_v21 x0 x1 x2 x3) + (0 : Int64))) ((8 : Int64) * (f0_j15 x0 x1 x2 x3).toInt64)) = true then (0 : Int32) else (1 : Int32)) := by
    unfold f0_j315 f0_v310
    rw [j292, j306]
  have q : f0_v225 x0 x1 x2 x3 = f10 (f0_j15 x0 x1 x2 x3) (((own_lushr (f0_v19 x0 x1 x2 x3) (12 : Int32)) &&& (511 : Int64)).toInt32) (((own_lushr (f0_v19 x0 x1 x2 x3) (21 : Int32)) &&& (15 : Int64)).toInt32) (((own_lushr (f0_v19 x0 x1 x2 x3) (25 : Int32)) &&& (7 : Int64)).toInt32) (((f0_v19 x0 x1 x2 x3) &&& (4095 : Int64)).toInt32) (((own_lushr (f0_v21 x0 x1 x2 x3) (12 : Int32)) &&& (511 : Int64)).toInt32) (((own_lushr (f0_v21 x0 x1 x2 x3) (21 : Int32)) &&& (15 : Int64)).toInt32) (((own_lushr (f0_v21 x0 x1 x2 x3) (25 : Int32)) &&& (7 : Int64)).toInt32) (((f0_v21 x0 x1 x2 x3) &&& (4095 : Int64)).toInt32) := by
    unfold f0_v225
    rw [j32, j69]
    exact own_f5_10 _ _ _ _ _ _ _ _ _ _ _ _ _ _ _ _ _ 
  rw [q, own_A10 (f0_j15 x0 x1 x2 x3) (f0_v19 x0 x1 x2 x3) (f0_v21 x0 x1 x2 x3)]
  unfold f0_j319
  rw [j285, j315]
theorem own_E11 (x0 : Int32) (x1 x2 : Int64) (x3 : Int32) (a : ifCond.holds .eq (x0 &&& (1 : Int32)) = false) (b : ifCond.holds .eq (x0 &&& (2 : Int32)) = false) : f0_v225 x0 x1 x2 x3 = f0_j319 x0 x1 x2 x3 := by
  have j3 : f0_j3 x0 x1 x2 x3 = 1 := if_neg (own_nt a)
  have j9 : f0_j9 x0 x1 x2 x3 = 1 := if_neg (own_nt b)
  have j32 : f0_j32 x0 x1 x2 x3 = 2 := by
    unfold f0_j32
    rw [j3]
    exact if_neg (show ¬ ifCond.holds .eq (1 : Int32) = true by decide)
  have j69 : f0_j69 x0 x1 x2 x3 = 2 := by
    unfold f0_j69
    rw [j9]
    exact if_neg (show ¬ ifCond.holds .eq (1 : Int32) = true by decide)
  have j267 : f0_j267 x0 x1 x2 x3 = (if ifCond.holds .eq (f6 (f0_v22 x0 x1 x2 x3)) = true then (0 : Int32) else (1 : Int32)) := rfl
  have j271 : f0_j271 x0 x1 x2 x3 = (if ifCond.holds .eq (f6 (f0_v22 x0 x1 x2 x3)) = true then (0 : Int32) else (1 : Int32)) := by
    unfold f0_j271
    rw [j9]
    exact Eq.trans (if_neg (show ¬ ifCond.holds .eq (1 : Int32) = true by decide)) j267
  have j274 : f0_j274 x0 x1 x2 x3 = (if ifCond.holds .eq (f6 (f0_v21 x0 x1 x2 x3)) = true then (0 : Int32) else (if ifCond.holds .eq (f6 (f0_v22 x0 x1 x2 x3)) = true then (0 : Int32) else (1 : Int32))) := by
    unfold f0_j274
    rw [j271]
  have j277 : f0_j277 x0 x1 x2 x3 = (if ifCond.holds .eq (f6 (f0_v21 x0 x1 x2 x3)) = true then (0 : Int32) else (if ifCond.holds .eq (f6 (f0_v22 x0 x1 x2 x3)) = true then (0 : Int32) else (1 : Int32))) := by
    unfold f0_j277
    rw [j3]
    exact Eq.trans (if_neg (show ¬ ifCond.holds .eq (1 : Int32) = true by decide)) j274
  have j280 : f0_j280 x0 x1 x2 x3 = (if ifCond.holds .eq (f6 (f0_v20 x0 x1 x2 x3)) = true then (0 : Int32) else (if ifCond.holds .eq (f6 (f0_v21 x0 x1 x2 x3)) = true then (0 : Int32) else (if ifCond.holds .eq (f6 (f0_v22 x0 x1 x2 x3)) = true then (0 : Int32) else (1 : Int32)))) := by
    unfold f0_j280
    rw [j277]
  have j283 : f0_j283 x0 x1 x2 x3 = (if ifCond.holds .eq (f6 (f0_v20 x0 x1 x2 x3)) = true then (0 : Int32) else (if ifCond.holds .eq (f6 (f0_v21 x0 x1 x2 x3)) = true then (0 : Int32) else (if ifCond.holds .eq (f6 (f0_v22 x0 x1 x2 x3)) = true then (0 : Int32) else (1 : Int32)))) := by
    unfold f0_j283
    rw [j9]
    exact Eq.trans (if_neg (show ¬ ifCond.holds .eq (1 : Int32) = true by decide)) j280
  have j285 : f0_j285 x0 x1 x2 x3 = (if ifCond.holds .eq (f6 (f0_v19 x0 x1 x2 x3)) = true then (0 : Int32) else (if ifCond.holds .eq (f6 (f0_v20 x0 x1 x2 x3)) = true then (0 : Int32) else (if ifCond.holds .eq (f6 (f0_v21 x0 x1 x2 x3)) = true then (0 : Int32) else (if ifCond.holds .eq (f6 (f0_v22 x0 x1 x2 x3)) = true then (0 : Int32) else (1 : Int32))))) := by
    unfold f0_j285
    rw [j283]
  have j292 : f0_j292 x0 x1 x2 x3 = f7 (f0_v20 x0 x1 x2 x3) := by
    unfold f0_j292
    rw [j9]
    exact if_neg (show ¬ ifCond.holds .eq (1 : Int32) = true by decide)
  have j302 : f0_j302 x0 x1 x2 x3 = f7 (f0_v22 x0 x1 x2 x3) := by
    unfold f0_j302
    rw [j9]
    exact if_neg (show ¬ ifCond.holds .eq (1 : Int32) = true by decide)
  have j306 : f0_j306 x0 x1 x2 x3 = (f7 (f0_v21 x0 x1 x2 x3) + f7 (f0_v22 x0 x1 x2 x3)) := by
    unfold f0_j306
    rw [j3, j302]
    exact if_neg (show ¬ ifCond.holds .eq (1 : Int32) = true by decide)
  have j315 : f0_j315 x0 x1 x2 x3 = (if ifCond.holds .gt (own_cmp (f7 (f0_v19 x0 x1 x2 x3) + f7 (f0_v20 x0 x1 x2 x3) + (f7 (f0_v21 x0 x1 x2 x3) + f7 (f0_v22 x0 x1 x2 x3))) ((8 : Int64) * (f0_j15 x0 x1 x2 x3).toInt64)) = true then (0 : Int32) else (1 : Int32)) := by
    unfold f0_j315 f0_v310
    rw [j292, j306]
  have q : f0_v225 x0 x1 x2 x3 = f11 (f0_j15 x0 x1 x2 x3) (((own_lushr (f0_v19 x0 x1 x2 x3) (12 : Int32)) &&& (511 : Int64)).toInt32) (((own_lushr (f0_v19 x0 x1 x2 x3) (21 : Int32)) &&& (15 : Int64)).toInt32) (((own_lushr (f0_v19 x0 x1 x2 x3) (25 : Int32)) &&& (7 : Int64)).toInt32) (((f0_v19 x0 x1 x2 x3) &&& (4095 : Int64)).toInt32) (((own_lushr (f0_v20 x0 x1 x2 x3) (12 : Int32)) &&& (511 : Int64)).toInt32) (((own_lushr (f0_v20 x0 x1 x2 x3) (21 : Int32)) &&& (15 : Int64)).toInt32) (((own_lushr (f0_v20 x0 x1 x2 x3) (25 : Int32)) &&& (7 : Int64)).toInt32) (((f0_v20 x0 x1 x2 x3) &&& (4095 : Int64)).toInt32) (((own_lushr (f0_v21 x0 x1 x2 x3) (12 : Int32)) &&& (511 : Int64)).toInt32) (((own_lushr (f0_v21 x0 x1 x2 x3) (21 : Int32)) &&& (15 : Int64)).toInt32) (((own_lushr (f0_v21 x0 x1 x2 x3) (25 : Int32)) &&& (7 : Int64)).toInt32) (((f0_v21 x0 x1 x2 x3) &&& (4095 : Int64)).toInt32) (((own_lushr (f0_v22 x0 x1 x2 x3) (12 : Int32)) &&& (511 : Int64)).toInt32) (((own_lushr (f0_v22 x0 x1 x2 x3) (21 : Int32)) &&& (15 : Int64)).toInt32) (((own_lushr (f0_v22 x0 x1 x2 x3) (25 : Int32)) &&& (7 : Int64)).toInt32) (((f0_v22 x0 x1 x2 x3) &&& (4095 : Int64)).toInt32) := by
    unfold f0_v225
    rw [j32, j69]
    exact own_f5_11 _ _ _ _ _ _ _ _ _ _ _ _ _ _ _ _ _ 
  rw [q, own_A11 (f0_j15 x0 x1 x2 x3) (f0_v19 x0 x1 x2 x3) (f0_v20 x0 x1 x2 x3) (f0_v21 x0 x1 x2 x3) (f0_v22 x0 x1 x2 x3)]
  unfold f0_j319
  rw [j285, j315]
theorem own_law (x0 : Int32) (x1 x2 : Int64) (x3 : Int32) : f0 x0 x1 x2 x3 = 1 := by
  have h : f0_v225 x0 x1 x2 x3 = f0_j319 x0 x1 x2 x3 := by
    rcases Bool.eq_false_or_eq_true (ifCond.holds .eq (x0 &&& (1 : Int32))) with a | a
    · rcases Bool.eq_false_or_eq_true (ifCond.holds .eq (x0 &&& (2 : Int32))) with b | b
      · exact own_E8 x0 x1 x2 x3 a b
      · exact own_E9 x0 x1 x2 x3 a b
    · rcases Bool.eq_false_or_eq_true (ifCond.holds .eq (x0 &&& (2 : Int32))) with b | b
      · exact own_E10 x0 x1 x2 x3 a b
      · exact own_E11 x0 x1 x2 x3 a b
  unfold f0 f0_j324
  refine own_last ?_
  rw [own_ine, h]
  exact fun q => q rfl
set_option maxRecDepth 65536 in
set_option maxHeartbeats 40000000 in
theorem comes_1 {Post : Tables → Env → Array Value → State → Outcome → State → Prop} (hpost : ∀ tb e args s v u, (limb_1_1.after args s (.returned v) u = true ∧ limb_1_2.after args s (.returned v) u = true ∧ True) → FrameEnd s (.returned v) u (Jvm.fieldLocs frame_1_writes args s ++ Jvm.arrayLocs frame_1_arrays args s ++ Jvm.staticLocs frame_1_statics s) 48 320 → Post tb e args s (.returned v) u) :
    ArmFor flags0 classFile x code maxLocals ret World_1 tables_1 room_1 Calls_1 rest_1 Pre_1 Post := by
  intro l hfl _ _ p e ha hc hk s m args below hf hA hF happ hP
  obtain ⟨hcalls, hrest, hpre⟩ := hP
  obtain ⟨-, -, -, hnamed, -, -, -, hat⟩ := (Spec.applies_iff hf).mp happ
  obtain ⟨hg, hn⟩ := and_e (Cond.before_iff.mp (show (Jvm.Cond.and given_1 narrow_1).before args s = true from hpre))
  obtain ⟨g1, g2⟩ := and_e hg
  obtain ⟨g3, g4⟩ := and_e g2
  obtain ⟨g5, g6⟩ := and_e g4
  obtain ⟨g7, g8⟩ := and_e g6
  obtain ⟨w0, w1, w2, w3, rfl⟩ : ∃ w0 w1 w2 w3 : Value, args = #[w0, w1, w2, w3] := by
    have hs : args.size = 4 := by simpa [Cond.value, given_1] using g1
    obtain ⟨L⟩ := args
    match L, hs with
    | [w0, w1, w2, w3], _ => exact ⟨w0, w1, w2, w3, rfl⟩
  have hw := fun d (hd : d ∈ tables_1) => atoms_spec (ws := Jvm.Cond.code x code maxLocals ret :: tables_1) hat d (List.mem_cons_of_mem _ hd)
  obtain ⟨i0, ei0⟩ := is_v g3
  obtain rfl : w0 = (.int i0) := Option.some.inj ei0
  obtain ⟨i1, ei1⟩ := isL_v g5
  obtain rfl : w1 = (.long i1) := Option.some.inj ei1
  obtain ⟨i2, ei2⟩ := isL_v g7
  obtain rfl : w2 = (.long i2) := Option.some.inj ei2
  obtain ⟨i3, ei3⟩ := is_v g8
  obtain rfl : w3 = (.int i3) := Option.some.inj ei3
  obtain ⟨n, o, h1, h2, h3, v, L, rfl, ⟨hv, N⟩, hq⟩ := rm0 l s _ hw tables_1 i0 i1 i2 i3 s.heap s.heap.size (Nat.le_refl _) p e ha hc hk s m _ below hf ((Spec.applies_iff_loose hf).mp happ).1 ⟨rfl, State.Warmed39.refl s, rfl⟩ trivial
  rw [own_law] at hv
  subst hv
  refine ⟨n, _, h1, h2, h3, hpost _ _ _ _ _ _ ⟨Cond.after_iff.mpr rfl, Cond.after_iff.mpr (eq_i res_at (Term.int_eval (1)) rfl), trivial⟩ ⟨hq.1, hq.2.1, (hq.2.2.sift fun y hy => Or.inr (N y hy)).mono (by decide) (by decide)⟩⟩
theorem main_1_1 : Claimed_1_1 := comes_1 fun _ _ _ _ _ _ h hF => ⟨h.1, hF⟩
theorem main_1_2 : Claimed_1_2 := comes_1 fun _ _ _ _ _ _ h hF => ⟨h.2.1, hF⟩
end Jvm.Pilot.@@N@@
namespace Jvm.Pilot.@@N@@
open Jvm Jvm.ClassFile Sem Op Lib Jvm.Free Jvm.Stand Jvm.Pilot.@@N@@.Jvm.D
/-! MADE BY PROGRAM (witnessworld.py) out of the Statement's table words and the real class files: 13 classes; the members and pool entries that the words name. The judged class is class 1, her method 4. -/
namespace start1
open Jvm.ClassFile
def u (s : String) : CpInfo := .utf8 (stringToUtf16 s)
/-- a pool by its gaps: so many unusable entries, then the entry; so many at the end -/
def gap : Nat → List CpInfo → List CpInfo
  | 0, r => r
  | n + 1, r => .unusable :: gap n r
def poolList (es : List (Nat × CpInfo)) (last : Nat) : List CpInfo := es.foldr (fun e r => gap e.1 (e.2 :: r)) (gap last [])
def pool (es : List (Nat × CpInfo)) (last : Nat) : Array CpInfo := ⟨poolList es last⟩
def fileOf (pool : Array CpInfo) (this : Nat) (attrs : Array Attribute := #[]) (ms : Array MethodInfo := #[]) (fl : Nat := 33) (sup : Nat := 0) (ifs : Array Nat := #[]) (fds : Array FieldInfo := #[]) : ClassFile where
  minorVersion := 0
  majorVersion := 65
  constantPool := pool
  accessFlags := fl
  thisClass := this
  superClass := sup
  interfaces := ifs
  fields := fds
  methods := ms
  attributes := attrs
def plain (name : String) (sup : Option ClassId) : Class where
  name := name
  kind := .ordinary
  loader := none
  accessFlags := 33
  super := sup
  interfaces := #[]
  cf := none
  fields := #[]
  methods := #[]
  instanceTypes := #[]
  staticTypes := #[]
  resolved := #[]
  callSites := []
  init := .initialized
  statics := none
  mirror := none

def pool0 : Array CpInfo := pool [(5, u "<init>"), (0, u "()V"), (1, .class_ 10), (1, u "java/lang/Object")] 113

def k0c0 : Code := { maxStack := 0, maxLocals := 1, code := object_method_1_code, exceptionTable := #[], attributes := #[] }
def k0m0 : Method := { name := "<init>", desc := "()V", sig := { parameters := [], returnType := none }, accessFlags := 1, code := some k0c0 }
/-- java/lang/Object -/
def k0 : Class := { plain "java/lang/Object" none with
  accessFlags := 33
  interfaces := #[]
  cf := some (fileOf pool0 8 #[] #[{ accessFlags := 1, nameIndex := 5, descriptorIndex := 6, attributes := #[] }] 33 0 #[] #[])
  fields := #[]
  methods := #[k0m0]
  instanceTypes := #[]
  staticTypes := #[]
  resolved := Array.replicate 124 none
  statics := none }

def pool1 : Array CpInfo := pool [(2, .class_ 4), (0, .nameAndType 5 6), (0, u "java/lang/Object"), (0, u "<init>"), (0, u "()V"), (0, .long 4095), (1, .fieldref 10 11), (0, .class_ 12), (0, .nameAndType 13 14), (0, u "dev/stratumaudio/SideInformation$Granule"), (0, u "part23Length"), (0, u "I"), (0, .long 511), (1, .fieldref 10 18), (0, .nameAndType 19 14), (0, u "bigValues"), (0, .long 15), (1, .fieldref 10 23), (0, .nameAndType 24 14), (0, u "region0Count"), (0, .long 7), (1, .fieldref 10 28), (0, .nameAndType 29 14), (0, u "region1Count"), (0, .long 288), (1, .long 20), (1, .long 268435455), (1, .class_ 37), (0, u "dev/stratumaudio/SideInformation"), (0, .methodref 36 3), (0, .fieldref 36 40), (0, .nameAndType 41 14), (0, u "granuleCount"), (0, .fieldref 36 43), (0, .nameAndType 44 14), (0, u "channelCount"), (0, .fieldref 36 46), (0, .nameAndType 47 48), (0, u "granules"), (0, u "[[Ldev/stratumaudio/SideInformation$Granule;"), (0, .methodref 50 51), (0, .class_ 52), (0, .nameAndType 53 54), (0, u "dev/stratumaudio/SideInformationIsPossiblePinLaw"), (0, u "put"), (0, u "(Ldev/stratumaudio/SideInformation$Granule;J)V"), (0, .methodref 36 56), (0, .nameAndType 57 58), (0, u "isPossible"), (0, u "(I)Z"), (0, .methodref 50 60), (0, .nameAndType 61 62), (0, u "ok"), (0, u "(J)Z"), (0, .methodref 50 64), (0, .nameAndType 65 66), (0, u "part"), (0, u "(J)J"), (0, .long 8), (4, u "law"), (0, u "(IJJI)Z")] 4

def k1m0 : Method := { name := "<init>", desc := "()V", sig := { parameters := [], returnType := none }, accessFlags := 1, code := none }
def k1c1 : Code := { maxStack := 5, maxLocals := 3, code := method_2_code, exceptionTable := #[], attributes := #[] }
def k1m1 : Method := { name := "put", desc := "(Ldev/stratumaudio/SideInformation$Granule;J)V", sig := { parameters := [(.object "dev/stratumaudio/SideInformation$Granule"), .long], returnType := none }, accessFlags := 10, code := some k1c1 }
def k1c2 : Code := { maxStack := 4, maxLocals := 8, code := method_3_code, exceptionTable := #[], attributes := #[] }
def k1m2 : Method := { name := "ok", desc := "(J)Z", sig := { parameters := [.long], returnType := some .boolean }, accessFlags := 10, code := some k1c2 }
def k1c3 : Code := { maxStack := 4, maxLocals := 2, code := method_4_code, exceptionTable := #[], attributes := #[] }
def k1m3 : Method := { name := "part", desc := "(J)J", sig := { parameters := [.long], returnType := some .long }, accessFlags := 10, code := some k1c3 }
def k1c4 : Code := { maxStack := 6, maxLocals := 23, code := code, exceptionTable := #[], attributes := #[] }
def k1m4 : Method := { name := "law", desc := "(IJJI)Z", sig := { parameters := [.int, .long, .long, .int], returnType := some .boolean }, accessFlags := 9, code := some k1c4 }
/-- dev/stratumaudio/SideInformationIsPossiblePinLaw -/
def k1 : Class := { plain "dev/stratumaudio/SideInformationIsPossiblePinLaw" (some 0) with
  accessFlags := 49
  interfaces := #[]
  cf := some (fileOf pool1 50 #[] #[{ accessFlags := 1, nameIndex := 5, descriptorIndex := 6, attributes := #[] }, { accessFlags := 10, nameIndex := 53, descriptorIndex := 54, attributes := #[] }, { accessFlags := 10, nameIndex := 61, descriptorIndex := 62, attributes := #[] }, { accessFlags := 10, nameIndex := 65, descriptorIndex := 66, attributes := #[] }, { accessFlags := 9, nameIndex := 72, descriptorIndex := 73, attributes := #[] }] 49 2 #[] #[])
  fields := #[]
  methods := #[k1m0, k1m1, k1m2, k1m3, k1m4]
  instanceTypes := #[]
  staticTypes := #[]
  resolved := Array.replicate 78 none
  statics := none }

def pool2 : Array CpInfo := pool [(3, .methodref 4 5), (0, .class_ 6), (0, .nameAndType 7 8), (0, u "java/lang/Object"), (0, u "<init>"), (0, u "()V"), (0, .class_ 10), (0, u "dev/stratumaudio/SideInformation"), (0, .class_ 12), (0, u "[[Z"), (0, .fieldref 9 14), (0, .nameAndType 15 12), (0, u "scfsi"), (0, .class_ 17), (0, u "[Ldev/stratumaudio/SideInformation$Granule;"), (0, .class_ 19), (0, u "dev/stratumaudio/SideInformation$Granule"), (0, .methodref 18 5), (0, .fieldref 9 22), (0, .nameAndType 23 24), (0, u "granules"), (0, u "[[Ldev/stratumaudio/SideInformation$Granule;"), (22, .fieldref 9 48), (0, .nameAndType 49 50), (0, u "channelCount"), (0, u "I"), (2, u "lowSamplingFrequency"), (0, u "Z"), (0, .fieldref 9 56), (0, .nameAndType 57 50), (0, u "granuleCount"), (15, u "intensityStereo"), (2, u "midSideStereo"), (8, u "mainDataBegin"), (19, .fieldref 18 106), (0, .nameAndType 107 50), (0, u "bigValues"), (0, .fieldref 18 109), (0, .nameAndType 110 50), (0, u "region0Count"), (0, .fieldref 18 112), (0, .nameAndType 113 50), (0, u "region1Count"), (2, .fieldref 18 117), (0, .nameAndType 118 50), (0, u "part23Length"), (0, .long 8), (1, u "MAX_GRANULES"), (2, u "SCFSI_GROUPS"), (1, u "MAX_BIG_VALUES"), (1, u "MODE_EXTENSION_INTENSITY"), (1, u "MODE_EXTENSION_MID_SIDE"), (10, u "isPossible"), (0, u "(I)Z")] 7

def k2c0 : Code := { maxStack := 9, maxLocals := 1, code := prog_81_method_1_code, exceptionTable := #[], attributes := #[] }
def k2m0 : Method := { name := "<init>", desc := "()V", sig := { parameters := [], returnType := none }, accessFlags := 0, code := some k2c0 }
def k2c1 : Code := { maxStack := 6, maxLocals := 7, code := prog_81_method_6_code, exceptionTable := #[], attributes := #[] }
def k2m1 : Method := { name := "isPossible", desc := "(I)Z", sig := { parameters := [.int], returnType := some .boolean }, accessFlags := 0, code := some k2c1 }
/-- dev/stratumaudio/SideInformation -/
def k2 : Class := { plain "dev/stratumaudio/SideInformation" (some 0) with
  accessFlags := 48
  interfaces := #[]
  cf := some (fileOf pool2 9 #[.nestMembers #[18]] #[{ accessFlags := 0, nameIndex := 7, descriptorIndex := 8, attributes := #[] }, { accessFlags := 0, nameIndex := 141, descriptorIndex := 142, attributes := #[] }] 48 4 #[] #[{ accessFlags := 24, nameIndex := 121, descriptorIndex := 50, attributes := #[] }, { accessFlags := 24, nameIndex := 124, descriptorIndex := 50, attributes := #[] }, { accessFlags := 26, nameIndex := 126, descriptorIndex := 50, attributes := #[] }, { accessFlags := 26, nameIndex := 128, descriptorIndex := 50, attributes := #[] }, { accessFlags := 24, nameIndex := 130, descriptorIndex := 50, attributes := #[] }, { accessFlags := 0, nameIndex := 53, descriptorIndex := 54, attributes := #[] }, { accessFlags := 0, nameIndex := 57, descriptorIndex := 50, attributes := #[] }, { accessFlags := 0, nameIndex := 49, descriptorIndex := 50, attributes := #[] }, { accessFlags := 0, nameIndex := 73, descriptorIndex := 54, attributes := #[] }, { accessFlags := 0, nameIndex := 76, descriptorIndex := 54, attributes := #[] }, { accessFlags := 0, nameIndex := 85, descriptorIndex := 50, attributes := #[] }, { accessFlags := 16, nameIndex := 15, descriptorIndex := 12, attributes := #[] }, { accessFlags := 16, nameIndex := 23, descriptorIndex := 24, attributes := #[] }])
  fields := #[{ name := "MAX_GRANULES", type := .int, accessFlags := 24, slot := 0, constantValue := 0 }, { name := "SCFSI_GROUPS", type := .int, accessFlags := 24, slot := 1, constantValue := 0 }, { name := "MAX_BIG_VALUES", type := .int, accessFlags := 26, slot := 2, constantValue := 0 }, { name := "MODE_EXTENSION_INTENSITY", type := .int, accessFlags := 26, slot := 3, constantValue := 0 }, { name := "MODE_EXTENSION_MID_SIDE", type := .int, accessFlags := 24, slot := 4, constantValue := 0 }, { name := "lowSamplingFrequency", type := .boolean, accessFlags := 0, slot := 0, constantValue := 0 }, { name := "granuleCount", type := .int, accessFlags := 0, slot := 1, constantValue := 0 }, { name := "channelCount", type := .int, accessFlags := 0, slot := 2, constantValue := 0 }, { name := "intensityStereo", type := .boolean, accessFlags := 0, slot := 3, constantValue := 0 }, { name := "midSideStereo", type := .boolean, accessFlags := 0, slot := 4, constantValue := 0 }, { name := "mainDataBegin", type := .int, accessFlags := 0, slot := 5, constantValue := 0 }, { name := "scfsi", type := (.array (.array .boolean)), accessFlags := 16, slot := 6, constantValue := 0 }, { name := "granules", type := (.array (.array (.object "dev/stratumaudio/SideInformation$Granule"))), accessFlags := 16, slot := 7, constantValue := 0 }]
  methods := #[k2m0, k2m1]
  instanceTypes := #[.boolean, .int, .int, .boolean, .boolean, .int, (.array (.array .boolean)), (.array (.array (.object "dev/stratumaudio/SideInformation$Granule")))]
  staticTypes := #[.int, .int, .int, .int, .int]
  resolved := Array.replicate 150 none
  statics := none }

def pool3 : Array CpInfo := pool [(1, .methodref 2 3), (0, .class_ 4), (0, .nameAndType 5 6), (0, u "java/lang/Object"), (0, u "<init>"), (0, u "()V"), (0, .fieldref 8 9), (0, .class_ 10), (0, .nameAndType 11 12), (0, u "dev/stratumaudio/SideInformation$Granule"), (0, u "tableSelect"), (0, u "[I"), (0, .fieldref 8 14), (0, .nameAndType 15 12), (0, u "subblockGain"), (2, u "windowSwitching"), (0, u "Z"), (2, u "blockType"), (0, u "I"), (2, u "mixedBlock"), (2, u "region0Count"), (2, u "region1Count"), (20, u "part23Length"), (2, u "bigValues"), (2, u "globalGain"), (2, u "scalefacCompress"), (9, u "preflag"), (2, u "scalefacScale"), (2, u "count1Table"), (8, u "NORMAL_BLOCK"), (2, u "START_BLOCK"), (1, u "SHORT_BLOCKS"), (1, u "STOP_BLOCK"), (14, .class_ 110), (0, u "dev/stratumaudio/SideInformation")] 2

def k3c0 : Code := { maxStack := 2, maxLocals := 1, code := prog_82_method_1_code, exceptionTable := #[], attributes := #[] }
def k3m0 : Method := { name := "<init>", desc := "()V", sig := { parameters := [], returnType := none }, accessFlags := 0, code := some k3c0 }
/-- dev/stratumaudio/SideInformation$Granule -/
def k3 : Class := { plain "dev/stratumaudio/SideInformation$Granule" (some 0) with
  accessFlags := 48
  interfaces := #[]
  cf := some (fileOf pool3 8 #[.nestHost 109] #[{ accessFlags := 0, nameIndex := 5, descriptorIndex := 6, attributes := #[] }] 48 2 #[] #[{ accessFlags := 24, nameIndex := 87, descriptorIndex := 23, attributes := #[] }, { accessFlags := 24, nameIndex := 90, descriptorIndex := 23, attributes := #[] }, { accessFlags := 24, nameIndex := 92, descriptorIndex := 23, attributes := #[] }, { accessFlags := 24, nameIndex := 94, descriptorIndex := 23, attributes := #[] }, { accessFlags := 0, nameIndex := 53, descriptorIndex := 23, attributes := #[] }, { accessFlags := 0, nameIndex := 56, descriptorIndex := 23, attributes := #[] }, { accessFlags := 0, nameIndex := 59, descriptorIndex := 23, attributes := #[] }, { accessFlags := 0, nameIndex := 62, descriptorIndex := 23, attributes := #[] }, { accessFlags := 0, nameIndex := 18, descriptorIndex := 19, attributes := #[] }, { accessFlags := 0, nameIndex := 22, descriptorIndex := 23, attributes := #[] }, { accessFlags := 0, nameIndex := 26, descriptorIndex := 19, attributes := #[] }, { accessFlags := 16, nameIndex := 11, descriptorIndex := 12, attributes := #[] }, { accessFlags := 16, nameIndex := 15, descriptorIndex := 12, attributes := #[] }, { accessFlags := 0, nameIndex := 29, descriptorIndex := 23, attributes := #[] }, { accessFlags := 0, nameIndex := 32, descriptorIndex := 23, attributes := #[] }, { accessFlags := 0, nameIndex := 72, descriptorIndex := 19, attributes := #[] }, { accessFlags := 0, nameIndex := 75, descriptorIndex := 19, attributes := #[] }, { accessFlags := 0, nameIndex := 78, descriptorIndex := 23, attributes := #[] }])
  fields := #[{ name := "NORMAL_BLOCK", type := .int, accessFlags := 24, slot := 0, constantValue := 0 }, { name := "START_BLOCK", type := .int, accessFlags := 24, slot := 1, constantValue := 0 }, { name := "SHORT_BLOCKS", type := .int, accessFlags := 24, slot := 2, constantValue := 0 }, { name := "STOP_BLOCK", type := .int, accessFlags := 24, slot := 3, constantValue := 0 }, { name := "part23Length", type := .int, accessFlags := 0, slot := 0, constantValue := 0 }, { name := "bigValues", type := .int, accessFlags := 0, slot := 1, constantValue := 0 }, { name := "globalGain", type := .int, accessFlags := 0, slot := 2, constantValue := 0 }, { name := "scalefacCompress", type := .int, accessFlags := 0, slot := 3, constantValue := 0 }, { name := "windowSwitching", type := .boolean, accessFlags := 0, slot := 4, constantValue := 0 }, { name := "blockType", type := .int, accessFlags := 0, slot := 5, constantValue := 0 }, { name := "mixedBlock", type := .boolean, accessFlags := 0, slot := 6, constantValue := 0 }, { name := "tableSelect", type := (.array .int), accessFlags := 16, slot := 7, constantValue := 0 }, { name := "subblockGain", type := (.array .int), accessFlags := 16, slot := 8, constantValue := 0 }, { name := "region0Count", type := .int, accessFlags := 0, slot := 9, constantValue := 0 }, { name := "region1Count", type := .int, accessFlags := 0, slot := 10, constantValue := 0 }, { name := "preflag", type := .boolean, accessFlags := 0, slot := 11, constantValue := 0 }, { name := "scalefacScale", type := .boolean, accessFlags := 0, slot := 12, constantValue := 0 }, { name := "count1Table", type := .int, accessFlags := 0, slot := 13, constantValue := 0 }]
  methods := #[k3m0]
  instanceTypes := #[.int, .int, .int, .int, .boolean, .int, .boolean, (.array .int), (.array .int), .int, .int, .boolean, .boolean, .int]
  staticTypes := #[.int, .int, .int, .int]
  resolved := Array.replicate 113 none
  statics := none }

def pool4 : Array CpInfo := pool [(1, u "java/lang/Cloneable"), (0, .class_ 1), (0, u "java/lang/Object"), (0, .class_ 3)] 3

/-- java/lang/Cloneable -/
def k4 : Class := { plain "java/lang/Cloneable" (some 0) with
  accessFlags := 1537
  interfaces := #[]
  cf := some (fileOf pool4 2 #[] #[] 1537 4 #[] #[])
  fields := #[]
  methods := #[]
  instanceTypes := #[]
  staticTypes := #[]
  resolved := Array.replicate 8 none
  statics := none }

def pool5 : Array CpInfo := pool [(1, u "java/io/Serializable"), (0, .class_ 1), (0, u "java/lang/Object"), (0, .class_ 3)] 3

/-- java/io/Serializable -/
def k5 : Class := { plain "java/io/Serializable" (some 0) with
  accessFlags := 1537
  interfaces := #[]
  cf := some (fileOf pool5 2 #[] #[] 1537 4 #[] #[])
  fields := #[]
  methods := #[]
  instanceTypes := #[]
  staticTypes := #[]
  resolved := Array.replicate 8 none
  statics := none }

/-- the primitive boolean -/
def k6 : Class := { plain "boolean" none with kind := .primitive 'Z', accessFlags := 0x411 }
/-- [Z -/
def k7 : Class := { plain "[Z" (some 0) with kind := .array 6 .boolean, interfaces := #[4, 5], accessFlags := 1041 }

/-- the primitive byte -/
def k8 : Class := { plain "byte" none with kind := .primitive 'B', accessFlags := 0x411 }
/-- [B -/
def k9 : Class := { plain "[B" (some 0) with kind := .array 8 .byte, interfaces := #[4, 5], accessFlags := 1041 }

/-- the primitive int -/
def k10 : Class := { plain "int" none with kind := .primitive 'I', accessFlags := 0x411 }
/-- [I -/
def k11 : Class := { plain "[I" (some 0) with kind := .array 10 .int, interfaces := #[4, 5], accessFlags := 1041 }

/-- [Ldev/stratumaudio/SideInformation$Granule; -/
def k12 : Class := { plain "[Ldev/stratumaudio/SideInformation$Granule;" (some 0) with kind := .array 3 (.object "dev/stratumaudio/SideInformation$Granule"), interfaces := #[4, 5], accessFlags := 1041 }

/-- [[Z -/
def k13 : Class := { plain "[[Z" (some 0) with kind := .array 7 (.array .boolean), interfaces := #[4, 5], accessFlags := 1041 }

/-- [[Ldev/stratumaudio/SideInformation$Granule; -/
def k14 : Class := { plain "[[Ldev/stratumaudio/SideInformation$Granule;" (some 0) with kind := .array 12 (.array (.object "dev/stratumaudio/SideInformation$Granule")), interfaces := #[4, 5], accessFlags := 1041 }

def heap : Heap := #[]
def classes : Array Class := #[k0, k1, k2, k3, k4, k5, k6, k7, k8, k9, k10, k11, k12, k13, k14]
def interned : List (Array UInt16 × Addr) := []
def slotsUsed : Nat := 0
def theMethod : MethodId := ⟨1, 4⟩
def args0 : Array Value := #[.int 7, .long 5, .long 9, .int 3]
def aboutOver (below : List Frame) : State where
  vm := { classes := classes, interned := interned.toArray }
  heap := heap
  slotsUsed := slotsUsed
  threads := #[{ frames := .invoking theMethod args0 :: below }]
def below0 : List Frame := [.native { method := ⟨0, 0⟩, args := #[] }]
def about1 : State := aboutOver below0
def p0 : Program := .bare "" "" ""
def e0 : Env := launch0.env 0 0 0
theorem w_frames : about1.frames = Frame.invoking theMethod args0 :: below0 := rfl
set_option maxRecDepth 65536 in
theorem w_args : argsFit about1.vm theMethod args0 = true := by decide +kernel
set_option maxRecDepth 65536 in
theorem w_heap : heapFits about1 = true := by decide +kernel
set_option maxRecDepth 65536 in
theorem w_runnable : about1.curStatus? = some .runnable := by decide +kernel
set_option maxRecDepth 65536 in
theorem w_alone : about1.alone = true := by decide +kernel
set_option maxRecDepth 65536 in
theorem w_named : about1.methodNamed? x = some theMethod := by decide +kernel
set_option maxRecDepth 65536 in
theorem w_hears : about1.hears theMethod below0 = true := by decide +kernel
set_option maxRecDepth 65536 in
theorem w_ripe : about1.ripe theMethod args0 below0 = true := by decide +kernel
theorem w_running : about1.status = .running := rfl
set_option maxRecDepth 65536 in
theorem w_room : about1.hasRoom e0.platform room_1 = true :=
  launch0.hasRoom_least _ room_1 (by decide +kernel) (by decide +kernel) (by decide +kernel) (by decide +kernel) (by decide +kernel) (by decide +kernel)
theorem allAtoms_all (ts : List Jvm.Cond) (a : Array Jvm.Value) (st : Jvm.State) : (allAtoms ts).before a st = ts.all (fun c => c.before a st) := by
  induction ts with
  | nil => rfl
  | cons c t ih =>
    show (Jvm.Cond.and c (allAtoms t)).before a st = _
    rw [Jvm.Cond.before_and, ih, List.all_cons]
def words1 : List Jvm.Cond := Jvm.Cond.code x code maxLocals ret :: tables_1
/-- a 'code' word, met by the world's own term for the bytes: nothing is compared byte by byte -/
theorem code_word {y : MethodName} {bytes : ByteArray} {mx : Nat} {rt : Option FieldType} {a : Array Value} {s : State} {m : MethodId} {meth : Method} {c : Code} (h1 : s.methodNamed? y = some m) (h2 : s.vm.method? m = some meth) (h3 : meth.code = some c) (h4 : c.code = bytes)
    (h5 : (c.maxLocals == mx && c.exceptionTable.isEmpty && decide (c.maxStack ≤ mostOperands) && decide (meth.sig.returnType = rt) && !meth.locks && decide (parseMethodDescriptor y.desc = some meth.sig)) = true) : (Jvm.Cond.code y bytes mx rt).before a s = true := by
  simp only [Bool.and_eq_true, beq_iff_eq, Bool.not_eq_true', decide_eq_true_eq] at h5
  obtain ⟨⟨⟨⟨⟨g1, g2⟩, g3⟩, g4⟩, g5⟩, g6⟩ := h5
  simp [Cond.before, Cond.holds, Cond.value, h1, h2, h3, h4, g1, g2, g3, g4, g5, g6]
def isCode : Jvm.Cond → Bool
  | .code _ _ _ _ => true
  | _ => false
theorem all_split {L : List Jvm.Cond} {P : Jvm.Cond → Bool} (h1 : L.all (fun c => isCode c || P c) = true) (h2 : ∀ c ∈ L.filter isCode, P c = true) : L.all P = true := by
  refine List.all_eq_true.mpr fun c hc => ?_
  have h := List.all_eq_true.mp h1 c hc
  rcases Bool.eq_false_or_eq_true (isCode c) with hi | hi
  · exact h2 c (List.mem_filter.mpr ⟨hc, hi⟩)
  · simpa [hi] using h
set_option maxRecDepth 65536 in
theorem w_c0 : (Jvm.Cond.code x code maxLocals ret).before args0 about1 = true := code_word (m := ⟨1, 4⟩) (meth := k1m4) (c := k1c4) (by decide +kernel) rfl rfl rfl (by decide +kernel)
set_option maxRecDepth 65536 in
theorem w_c1 : (Jvm.Cond.code ({ cls := "dev/stratumaudio/SideInformation", name := "<init>", desc := "()V" } : Jvm.MethodName) prog_81_method_1_code (1 : Nat) (Option.none : Option Jvm.ClassFile.FieldType)).before args0 about1 = true := code_word (m := ⟨2, 0⟩) (meth := k2m0) (c := k2c0) (by decide +kernel) rfl rfl rfl (by decide +kernel)
set_option maxRecDepth 65536 in
theorem w_c2 : (Jvm.Cond.code ({ cls := "java/lang/Object", name := "<init>", desc := "()V" } : Jvm.MethodName) object_method_1_code (1 : Nat) (Option.none : Option Jvm.ClassFile.FieldType)).before args0 about1 = true := code_word (m := ⟨0, 0⟩) (meth := k0m0) (c := k0c0) (by decide +kernel) rfl rfl rfl (by decide +kernel)
set_option maxRecDepth 65536 in
theorem w_c3 : (Jvm.Cond.code ({ cls := "dev/stratumaudio/SideInformation$Granule", name := "<init>", desc := "()V" } : Jvm.MethodName) prog_82_method_1_code (1 : Nat) (Option.none : Option Jvm.ClassFile.FieldType)).before args0 about1 = true := code_word (m := ⟨3, 0⟩) (meth := k3m0) (c := k3c0) (by decide +kernel) rfl rfl rfl (by decide +kernel)
set_option maxRecDepth 65536 in
theorem w_c4 : (Jvm.Cond.code ({ cls := "dev/stratumaudio/SideInformationIsPossiblePinLaw", name := "put", desc := "(Ldev/stratumaudio/SideInformation$Granule;J)V" } : Jvm.MethodName) method_2_code (3 : Nat) (Option.none : Option Jvm.ClassFile.FieldType)).before args0 about1 = true := code_word (m := ⟨1, 1⟩) (meth := k1m1) (c := k1c1) (by decide +kernel) rfl rfl rfl (by decide +kernel)
set_option maxRecDepth 65536 in
theorem w_c5 : (Jvm.Cond.code ({ cls := "dev/stratumaudio/SideInformation", name := "isPossible", desc := "(I)Z" } : Jvm.MethodName) prog_81_method_6_code (7 : Nat) (Option.some Jvm.ClassFile.FieldType.boolean)).before args0 about1 = true := code_word (m := ⟨2, 1⟩) (meth := k2m1) (c := k2c1) (by decide +kernel) rfl rfl rfl (by decide +kernel)
set_option maxRecDepth 65536 in
theorem w_c6 : (Jvm.Cond.code ({ cls := "dev/stratumaudio/SideInformationIsPossiblePinLaw", name := "ok", desc := "(J)Z" } : Jvm.MethodName) method_3_code (8 : Nat) (Option.some Jvm.ClassFile.FieldType.boolean)).before args0 about1 = true := code_word (m := ⟨1, 2⟩) (meth := k1m2) (c := k1c2) (by decide +kernel) rfl rfl rfl (by decide +kernel)
set_option maxRecDepth 65536 in
theorem w_c7 : (Jvm.Cond.code ({ cls := "dev/stratumaudio/SideInformationIsPossiblePinLaw", name := "part", desc := "(J)J" } : Jvm.MethodName) method_4_code (2 : Nat) (Option.some Jvm.ClassFile.FieldType.long)).before args0 about1 = true := code_word (m := ⟨1, 3⟩) (meth := k1m3) (c := k1c3) (by decide +kernel) rfl rfl rfl (by decide +kernel)
def codes1 : List Jvm.Cond := [Jvm.Cond.code x code maxLocals ret, Jvm.Cond.code ({ cls := "dev/stratumaudio/SideInformation", name := "<init>", desc := "()V" } : Jvm.MethodName) prog_81_method_1_code (1 : Nat) (Option.none : Option Jvm.ClassFile.FieldType), Jvm.Cond.code ({ cls := "java/lang/Object", name := "<init>", desc := "()V" } : Jvm.MethodName) object_method_1_code (1 : Nat) (Option.none : Option Jvm.ClassFile.FieldType), Jvm.Cond.code ({ cls := "dev/stratumaudio/SideInformation$Granule", name := "<init>", desc := "()V" } : Jvm.MethodName) prog_82_method_1_code (1 : Nat) (Option.none : Option Jvm.ClassFile.FieldType), Jvm.Cond.code ({ cls := "dev/stratumaudio/SideInformationIsPossiblePinLaw", name := "put", desc := "(Ldev/stratumaudio/SideInformation$Granule;J)V" } : Jvm.MethodName) method_2_code (3 : Nat) (Option.none : Option Jvm.ClassFile.FieldType), Jvm.Cond.code ({ cls := "dev/stratumaudio/SideInformation", name := "isPossible", desc := "(I)Z" } : Jvm.MethodName) prog_81_method_6_code (7 : Nat) (Option.some Jvm.ClassFile.FieldType.boolean), Jvm.Cond.code ({ cls := "dev/stratumaudio/SideInformationIsPossiblePinLaw", name := "ok", desc := "(J)Z" } : Jvm.MethodName) method_3_code (8 : Nat) (Option.some Jvm.ClassFile.FieldType.boolean), Jvm.Cond.code ({ cls := "dev/stratumaudio/SideInformationIsPossiblePinLaw", name := "part", desc := "(J)J" } : Jvm.MethodName) method_4_code (2 : Nat) (Option.some Jvm.ClassFile.FieldType.long)]
set_option maxRecDepth 65536 in
theorem codes_eq : words1.filter isCode = codes1 := rfl
theorem w_codes : ∀ c ∈ words1.filter isCode, c.before args0 about1 = true := by
  rw [codes_eq]
  intro c hc
  simp only [codes1, List.mem_cons, List.not_mem_nil, or_false] at hc
  rcases hc with rfl | rfl | rfl | rfl | rfl | rfl | rfl | rfl
  · exact w_c0
  · exact w_c1
  · exact w_c2
  · exact w_c3
  · exact w_c4
  · exact w_c5
  · exact w_c6
  · exact w_c7
set_option maxRecDepth 65536 in
theorem w_t1 : (words1.take 24).all (fun c => isCode c || c.before args0 about1) = true := by decide +kernel
set_option maxRecDepth 65536 in
theorem w_t2 : ((words1.drop 24).take 24).all (fun c => isCode c || c.before args0 about1) = true := by decide +kernel
set_option maxRecDepth 65536 in
theorem w_t3 : (((words1.drop 24).drop 24).take 24).all (fun c => isCode c || c.before args0 about1) = true := by decide +kernel
set_option maxRecDepth 65536 in
theorem w_t4 : (((words1.drop 24).drop 24).drop 24).all (fun c => isCode c || c.before args0 about1) = true := by decide +kernel
theorem w_tables : (allAtoms (Jvm.Cond.code x code maxLocals ret :: tables_1)).before args0 about1 = true := by
  rw [allAtoms_all]
  show words1.all (fun c => c.before args0 about1) = true
  refine all_split ?_ w_codes
  rw [← List.take_append_drop 24 words1, List.all_append, w_t1, ← List.take_append_drop 24 (words1.drop 24), List.all_append, w_t2, ← List.take_append_drop 24 ((words1.drop 24).drop 24), List.all_append, w_t3, w_t4]
  rfl
set_option maxRecDepth 65536 in
theorem w_case : (Jvm.Cond.and given_1 narrow_1).before args0 about1 = true := by decide +kernel
theorem w_applies : (headSpec (Jvm.Cond.code x code maxLocals ret :: tables_1) room_1).applies x e0.platform about1 = true :=
  (Spec.applies_iff w_frames).mpr ⟨w_running, w_runnable, w_alone, w_named, w_hears, w_ripe, w_room, w_tables⟩
theorem atStart : AtStart classFile x code maxLocals ret World_1 tables_1 room_1 Calls_1 rest_1 Pre_1 launch0 p0 e0 about1 theMethod args0 below0 :=
  ⟨lists_1, trivial, launch0.admits_env _ _ _, launch0.least_env, fairChoices_fair.cas, fairChoices_fair.clock, w_frames, w_args, w_heap, w_applies, trivial, trivial, w_case⟩
end start1
theorem witness_1 : WitnessClaimed_1 := ⟨start1.p0, start1.e0, start1.about1, start1.theMethod, start1.args0, start1.below0, start1.atStart⟩
end Jvm.Pilot.@@N@@
