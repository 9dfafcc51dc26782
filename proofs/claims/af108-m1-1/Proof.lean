import JvmDerived
import JvmDerived.Pilot.@@N@@Statement
import JvmDerived.Pilot.@@N@@Code
set_option linter.unusedVariables false
set_option linter.unusedSimpArgs false
@@BLOCK:NumsL.lean.txt@@
namespace Jvm.RoadKit
open Sem ClassFile Op Lib Jvm.Stand Jvm.Free Jvm.LawKit
section New
variable {p : Program} {l : Launch} {e : Env} {R : Room} {s : State} {m : MethodId} {args : Array Value} {below : List Frame} {meth : Method} {c : Code} {T : State} {locs : List Loc} {cells slots : Nat}
theorem retI (X : Stand p l e R s m args below meth c T locs cells slots) (hx : p.tables.exec = Jvm.exec) {pc : Nat} {Ls : Array Slot} {z : Int32} {rest : List Value} (hret : meth.sig.returnType = some .int) (hd : decode c.code pc = .ok (.ireturn, 1)) {fs : List Frame}
    (hl : ∀ (f : JFrame) (acts : List Action), f.method = m → f.locked = none → f.entered = [] → (doReturn e (T.setTop f) acts (some (.int z))).1 = T.setFrames fs) : Steps p.tables e below (T.setTop (mkF m pc Ls (.int z :: rest))) (T.setFrames fs) := by
  have hm' : T.vm.method? m = some meth := X.method'
  have hn : narrow .int (.int z) = .int z := rfl
  show Steps p.tables e below (T.setTop { method := m, pc := pc, locals := Ls, stack := _ :: rest, locked := none }) _
  jvm_step X.here [X.here.top, hx, hd, hm', hret, hn]
  first | (intro acts; rw [hl _ acts rfl rfl rfl]) | rw [hl _ _ rfl rfl rfl]
  exact Steps.refl _
end New
end Jvm.RoadKit
namespace Jvm.Pilot.@@N@@
open Jvm Jvm.ClassFile Sem Op Lib Jvm.Free Jvm.Stand Jvm.LawKit Jvm.RoadKit Bundle Jvm.Pilot.@@N@@.Jvm.D
theorem own_nt {b : Bool} (h : b = false) : ¬ b = true := fun q => by rw [h] at q; cases q
theorem own_ts_ne {α : Type} {o : Option α} {a b : α} (h : o = some b) (ne : b ≠ a) : ¬ o = some a := fun q => ne (Option.some.inj (h.symm.trans q))
/-- what lcmp pushes; Java's shifts and the remainder of longs -/
def own_cmp (x y : Int64) : Int32 := lcmpW x y
def own_iushr (x y : Int32) : Int32 := (x.toUInt32 >>> (y &&& 31).toUInt32).toInt32
def own_lushr (x : Int64) (y : Int32) : Int64 := (x.toUInt64 >>> (y &&& 0x3f).toInt64.toUInt64).toInt64
def own_lshl (x : Int64) (y : Int32) : Int64 := x <<< (y &&& 0x3f).toInt64
def own_lshr (x : Int64) (y : Int32) : Int64 := x >>> (y &&& 0x3f).toInt64
def own_lrem (x y : Int64) : Int64 := x - (x / y) * y
theorem own_xlcmp {tb : Tables} [Ours tb] {e : Env} {below : List Frame} {T target : State} {m : MethodId} {c : Code} {g : JFrame} (h : At T m c below) (hx : tb.exec = Jvm.exec) (hg : g.method = m) {x : Int64} {y : Int64} {rest : List Value} (hd : decode c.code g.pc = .ok (.lcmp, 1)) (hs : g.stack = .long y :: .long x :: rest) (hr : Steps tb e below (T.setTop { g with pc := g.pc + 1, stack := .int (own_cmp x y) :: rest }) target) : Steps tb e below (T.setTop g) target := XS.lcmp h hx hg hd hs hr
theorem own_xiushr {tb : Tables} [Ours tb] {e : Env} {below : List Frame} {T target : State} {m : MethodId} {c : Code} {g : JFrame} (h : At T m c below) (hx : tb.exec = Jvm.exec) (hg : g.method = m) {x : Int32} {y : Int32} {rest : List Value} (hd : decode c.code g.pc = .ok (.iushr, 1)) (hs : g.stack = .int y :: .int x :: rest) (hr : Steps tb e below (T.setTop { g with pc := g.pc + 1, stack := .int (own_iushr x y) :: rest }) target) : Steps tb e below (T.setTop g) target := XS.iushr h hx hg hd hs hr
theorem own_xlushr {tb : Tables} [Ours tb] {e : Env} {below : List Frame} {T target : State} {m : MethodId} {c : Code} {g : JFrame} (h : At T m c below) (hx : tb.exec = Jvm.exec) (hg : g.method = m) {x : Int64} {y : Int32} {rest : List Value} (hd : decode c.code g.pc = .ok (.lushr, 1)) (hs : g.stack = .int y :: .long x :: rest) (hr : Steps tb e below (T.setTop { g with pc := g.pc + 1, stack := .long (own_lushr x y) :: rest }) target) : Steps tb e below (T.setTop g) target := XS.lushr h hx hg hd hs hr
theorem own_xlshl {tb : Tables} [Ours tb] {e : Env} {below : List Frame} {T target : State} {m : MethodId} {c : Code} {g : JFrame} (h : At T m c below) (hx : tb.exec = Jvm.exec) (hg : g.method = m) {x : Int64} {y : Int32} {rest : List Value} (hd : decode c.code g.pc = .ok (.lshl, 1)) (hs : g.stack = .int y :: .long x :: rest) (hr : Steps tb e below (T.setTop { g with pc := g.pc + 1, stack := .long (own_lshl x y) :: rest }) target) : Steps tb e below (T.setTop g) target := XS.lshl h hx hg hd hs hr
theorem own_xlshr {tb : Tables} [Ours tb] {e : Env} {below : List Frame} {T target : State} {m : MethodId} {c : Code} {g : JFrame} (h : At T m c below) (hx : tb.exec = Jvm.exec) (hg : g.method = m) {x : Int64} {y : Int32} {rest : List Value} (hd : decode c.code g.pc = .ok (.lshr, 1)) (hs : g.stack = .int y :: .long x :: rest) (hr : Steps tb e below (T.setTop { g with pc := g.pc + 1, stack := .long (own_lshr x y) :: rest }) target) : Steps tb e below (T.setTop g) target := XS.lshr h hx hg hd hs hr
theorem own_xlrem {tb : Tables} [Ours tb] {e : Env} {below : List Frame} {T target : State} {m : MethodId} {c : Code} {g : JFrame} (h : At T m c below) (hx : tb.exec = Jvm.exec) (hg : g.method = m) {x : Int64} {y : Int64} {rest : List Value} (hd : decode c.code g.pc = .ok (.lrem, 1)) (hs : g.stack = .long y :: .long x :: rest) (hy : y ≠ 0) (hr : Steps tb e below (T.setTop { g with pc := g.pc + 1, stack := .long (own_lrem x y) :: rest }) target) : Steps tb e below (T.setTop g) target := XS.lrem h hx hg hd hs hy hr
theorem own_ieq (x y : Int32) : (if_icmp.holds .eq x y = true) = (x.toInt = y.toInt) := by
  rw [show if_icmp.holds .eq x y = (x == y) from rfl, beq_iff_eq, Int32.toInt_inj]
theorem own_ine (x y : Int32) : (if_icmp.holds .ne x y = true) = (x.toInt ≠ y.toInt) := by
  rw [show if_icmp.holds .ne x y = (x != y) from rfl, bne_iff_ne, ne_eq, ne_eq, Int32.toInt_inj]
theorem own_ilt (x y : Int32) : (if_icmp.holds .lt x y = true) = (x.toInt < y.toInt) := by
  rw [show if_icmp.holds .lt x y = decide (x < y) from rfl, decide_eq_true_eq, Int32.lt_iff_toInt_lt]
theorem own_ige (x y : Int32) : (if_icmp.holds .ge x y = true) = (y.toInt ≤ x.toInt) := by
  rw [show if_icmp.holds .ge x y = decide (y ≤ x) from rfl, decide_eq_true_eq, Int32.le_iff_toInt_le]
theorem own_igt (x y : Int32) : (if_icmp.holds .gt x y = true) = (y.toInt < x.toInt) := by
  rw [show if_icmp.holds .gt x y = decide (y < x) from rfl, decide_eq_true_eq, Int32.lt_iff_toInt_lt]
theorem own_ile (x y : Int32) : (if_icmp.holds .le x y = true) = (x.toInt ≤ y.toInt) := by
  rw [show if_icmp.holds .le x y = decide (x ≤ y) from rfl, decide_eq_true_eq, Int32.le_iff_toInt_le]
theorem own_z32 : (0 : Int32).toInt = 0 := rfl
theorem own_eq0 (x : Int32) : (ifCond.holds .eq x = true) = (x.toInt = 0) := by rw [if0, own_ieq, own_z32]
theorem own_ne0 (x : Int32) : (ifCond.holds .ne x = true) = (x.toInt ≠ 0) := by rw [if0, own_ine, own_z32]
theorem own_lt0 (x : Int32) : (ifCond.holds .lt x = true) = (x.toInt < 0) := by rw [if0, own_ilt, own_z32]
theorem own_ge0 (x : Int32) : (ifCond.holds .ge x = true) = (0 ≤ x.toInt) := by rw [if0, own_ige, own_z32]
theorem own_gt0 (x : Int32) : (ifCond.holds .gt x = true) = (0 < x.toInt) := by rw [if0, own_igt, own_z32]
theorem own_le0 (x : Int32) : (ifCond.holds .le x = true) = (x.toInt ≤ 0) := by rw [if0, own_ile, own_z32]
theorem own_cmp3 (x y : Int64) : (x.toInt < y.toInt ∧ (own_cmp x y).toInt = -1) ∨ (x.toInt = y.toInt ∧ (own_cmp x y).toInt = 0) ∨ (y.toInt < x.toInt ∧ (own_cmp x y).toInt = 1) := by
  obtain ⟨h1, h2, h3⟩ := c_lcmp x y
  have e : own_cmp x y = lcmpW x y := rfl
  rw [e]
  rcases Int.lt_trichotomy x.toInt y.toInt with h | h | h
  · exact Or.inl ⟨h, h1 h⟩
  · exact Or.inr (Or.inl ⟨h, h2 h⟩)
  · exact Or.inr (Or.inr ⟨h, h3 h⟩)
theorem own_ceq (x y : Int64) : (ifCond.holds .eq (own_cmp x y) = true) = (x.toInt = y.toInt) := by
  rw [own_eq0]; have := own_cmp3 x y; exact propext ⟨fun h => by omega, fun h => by omega⟩
theorem own_cne (x y : Int64) : (ifCond.holds .ne (own_cmp x y) = true) = (x.toInt ≠ y.toInt) := by
  rw [own_ne0]; have := own_cmp3 x y; exact propext ⟨fun h => by omega, fun h => by omega⟩
theorem own_clt (x y : Int64) : (ifCond.holds .lt (own_cmp x y) = true) = (x.toInt < y.toInt) := by
  rw [own_lt0]; have := own_cmp3 x y; exact propext ⟨fun h => by omega, fun h => by omega⟩
theorem own_cge (x y : Int64) : (ifCond.holds .ge (own_cmp x y) = true) = (y.toInt ≤ x.toInt) := by
  rw [own_ge0]; have := own_cmp3 x y; exact propext ⟨fun h => by omega, fun h => by omega⟩
theorem own_cgt (x y : Int64) : (ifCond.holds .gt (own_cmp x y) = true) = (y.toInt < x.toInt) := by
  rw [own_gt0]; have := own_cmp3 x y; exact propext ⟨fun h => by omega, fun h => by omega⟩
theorem own_cle (x y : Int64) : (ifCond.holds .le (own_cmp x y) = true) = (x.toInt ≤ y.toInt) := by
  rw [own_le0]; have := own_cmp3 x y; exact propext ⟨fun h => by omega, fun h => by omega⟩
theorem own_nar1 {x : Int32} (h : x = 1) : nar .boolean x = 1 := by rw [h]; rfl
theorem own_nar0 {x : Int32} (h : x = 0) : nar .boolean x = 0 := by rw [h]; rfl
/-- the last row of a law: a comparison that isn't met gives 0, else 1 -/
theorem own_last {c : Prop} [Decidable c] (h : ¬ c) : nar .boolean (if c then (0 : Int32) else 1) = 1 := by rw [if_neg h]; rfl
theorem own_n32 (x : Int32) : (x.toBitVec.toNat : Int) = x.toInt % 4294967296 := by
  have h := x.toBitVec.isLt
  show _ = x.toBitVec.toInt % _
  rw [BitVec.toInt_eq_toNat_cond]
  split <;> omega
theorem own_n64 (x : Int64) : (x.toBitVec.toNat : Int) = x.toInt % 18446744073709551616 := by
  have h := x.toBitVec.isLt
  show _ = x.toBitVec.toInt % _
  rw [BitVec.toInt_eq_toNat_cond]
  split <;> omega
theorem own_iushr_nat (x y : Int32) : (own_iushr x y).toBitVec.toNat = x.toBitVec.toNat / 2 ^ (y.toBitVec.toNat % 32) := by
  have h1 : (y &&& 31).toBitVec.toNat = y.toBitVec.toNat % 32 := by
    show (y.toBitVec &&& (31 : Int32).toBitVec).toNat = _
    rw [BitVec.toNat_and, show (31 : Int32).toBitVec.toNat = 2 ^ 5 - 1 from by decide, Nat.and_two_pow_sub_one_eq_mod]
  show (x.toBitVec >>> ((y &&& 31).toBitVec % 32)).toNat = _
  rw [BitVec.ushiftRight_eq', BitVec.toNat_ushiftRight, Nat.shiftRight_eq_div_pow, BitVec.toNat_umod, h1, show (32 : BitVec 32).toNat = 32 from rfl, Nat.mod_mod]
theorem own_lushr_nat (x : Int64) (y : Int32) : (own_lushr x y).toBitVec.toNat = x.toBitVec.toNat / 2 ^ (y.toBitVec.toNat % 64) := by
  obtain ⟨h1, h2⟩ := sm64 y _ rfl
  show (x.toBitVec >>> ((y &&& 0x3f).toInt64.toBitVec % 64)).toNat = _
  rw [BitVec.ushiftRight_eq', BitVec.toNat_ushiftRight, Nat.shiftRight_eq_div_pow, BitVec.toNat_umod, h1, BitVec.toNat_ofNat]
  congr 2
  show y.toBitVec.toNat % 64 % 2 ^ 64 % 64 = _
  omega
theorem own_iushr_nn (x y : Int32) (h : 0 ≤ x.toInt) : 0 ≤ (own_iushr x y).toInt ∧ (own_iushr x y).toInt ≤ x.toInt := by
  have a := own_iushr_nat x y
  have b := Nat.div_le_self x.toBitVec.toNat (2 ^ (y.toBitVec.toNat % 32))
  have c := own_n32 x
  have d := own_n32 (own_iushr x y)
  have r := rng32 x
  have r2 := rng32 (own_iushr x y)
  omega
theorem own_lushr_nn (x : Int64) (y : Int32) (h : 0 ≤ x.toInt) : 0 ≤ (own_lushr x y).toInt ∧ (own_lushr x y).toInt ≤ x.toInt := by
  have a := own_lushr_nat x y
  have b := Nat.div_le_self x.toBitVec.toNat (2 ^ (y.toBitVec.toNat % 64))
  have c := own_n64 x
  have d := own_n64 (own_lushr x y)
  have r := rng64 x
  have r2 := rng64 (own_lushr x y)
  omega
theorem own_ff {b : Bool} (h : ¬ b = true) : b = false := by cases b <;> first | rfl | exact absurd rfl h
theorem own_clt_f {x y : Int64} (h : ¬ x.toInt < y.toInt) : ifCond.holds .lt (own_cmp x y) = false := own_ff fun q => h ((own_clt x y).mp q)
theorem own_nz {x : Int64} (h : (0 : Int64).toInt < x.toInt) : x ≠ 0 := fun q => by rw [q] at h; exact absurd h (Int.lt_irrefl _)
theorem own_max (x : Int64) : x.toInt ≤ (9223372036854775807 : Int64).toInt := by
  have r := rng64 x
  have e : (9223372036854775807 : Int64).toInt = 9223372036854775807 := rfl
  omega
theorem own_addE {x y : Int64} {a b : Int} (hx : x.toInt = a) (hy : y.toInt = b) (h : -9223372036854775808 ≤ a + b ∧ a + b < 9223372036854775808) : (x + y).toInt = a + b := by subst hx hy; exact Kit.i64_add (by omega) (by omega)
theorem own_subE {x y : Int64} {a b : Int} (hx : x.toInt = a) (hy : y.toInt = b) (h : -9223372036854775808 ≤ a - b ∧ a - b < 9223372036854775808) : (x - y).toInt = a - b := by subst hx hy; exact Kit.i64_sub (by omega) (by omega)
theorem own_mulE {x y : Int64} {a b : Int} (hx : x.toInt = a) (hy : y.toInt = b) (h : -9223372036854775808 ≤ a * b ∧ a * b < 9223372036854775808) : (x * y).toInt = a * b := by subst hx hy; exact Kit.i64_mul (by omega) (by omega)
theorem own_i2lE {x : Int32} {a : Int} (hx : x.toInt = a) : x.toInt64.toInt = a := (c_i2l x).trans hx
theorem own_l2iE {x : Int64} {a : Int} (hx : x.toInt = a) (h : -2147483648 ≤ a ∧ a < 2147483648) : x.toInt32.toInt = a := by subst hx; exact Kit.i32_of_i64 (by omega) (by omega)
theorem own_iaddE {x y : Int32} {a b : Int} (hx : x.toInt = a) (hy : y.toInt = b) (h : -2147483648 ≤ a + b ∧ a + b < 2147483648) : (x + y).toInt = a + b := by subst hx hy; exact Kit.i32_add (by omega) (by omega)
theorem own_isubE {x y : Int32} {a b : Int} (hx : x.toInt = a) (hy : y.toInt = b) (h : -2147483648 ≤ a - b ∧ a - b < 2147483648) : (x - y).toInt = a - b := by subst hx hy; exact Kit.i32_sub (by omega) (by omega)
theorem own_divE {x y : Int64} {a b : Int} (hx : x.toInt = a) (hy : y.toInt = b) (h : 0 ≤ a) (hb : 0 < b) : (x / y).toInt = a / b := by
  subst hx hy
  exact (c_ldiv x y y.toInt rfl (fun q => by rw [q] at hb; exact absurd hb (by decide))).1 h
theorem own_remE {x y : Int64} {a b : Int} (hx : x.toInt = a) (hy : y.toInt = b) (h : 0 ≤ a) : (own_lrem x y).toInt = a % b := by
  subst hx hy
  exact (c_lrem x y y.toInt rfl).1 h
theorem own_ushrE {x : Int64} {a : Int} (q : Int32) (k : Nat) (P : Int) (hx : x.toInt = a) (hk : q.toBitVec.toNat % 64 = k) (h0 : 0 < k) (hP : ((2 ^ k : Nat) : Int) = P) : (own_lushr x q).toInt = a % 18446744073709551616 / P := by
  subst hx hP
  exact c_lushr x q k hk h0
theorem own_shrE {x : Int64} {a : Int} (q : Int32) (k : Nat) (P : Int) (hx : x.toInt = a) (hk : q.toBitVec.toNat % 64 = k) (hP : ((2 ^ k : Nat) : Int) = P) : (own_lshr x q).toInt = a / P := by
  subst hx hP
  exact c_lshr x q k hk
theorem own_addM (x y : Int64) : (x + y).toInt % 18446744073709551616 = (x.toInt + y.toInt) % 18446744073709551616 := by have := c_ladd x y; omega
theorem own_subM (x y : Int64) : (x - y).toInt % 18446744073709551616 = (x.toInt - y.toInt) % 18446744073709551616 := by have := c_lsub x y; omega
theorem own_mulM (x y : Int64) : (x * y).toInt % 18446744073709551616 = (x.toInt * y.toInt) % 18446744073709551616 := by have := c_lmul x y; omega
theorem own_am (a y z : Int) (h : y % 18446744073709551616 = z % 18446744073709551616) : (a + y) % 18446744073709551616 = (a + z) % 18446744073709551616 := by omega
theorem own_sm (a y z : Int) (h : y % 18446744073709551616 = z % 18446744073709551616) : (a - y) % 18446744073709551616 = (a - z) % 18446744073709551616 := by omega
theorem own_me (b c : Int) (hb : -9223372036854775808 ≤ b ∧ b < 9223372036854775808) (hc : -9223372036854775808 ≤ c ∧ c < 9223372036854775808) (h : b % 18446744073709551616 = c % 18446744073709551616) : b = c := by omega
theorem own_dm (r T R : Int) (h : r % 18446744073709551616 = R) (hT : 0 ≤ T ∧ T ≤ R) : (r - T) % 18446744073709551616 = R - T := by omega

-- body 3: com/example/tick_wheel/tickwheel/wheel/TickGrid.checkTick:(J)V
theorem d3_0 : decode prog_3_method_2_code 0 = .ok (.lload_n 0, 1) := by decide +kernel
theorem d3_1 : decode prog_3_method_2_code 1 = .ok (.lconst 0, 1) := by decide +kernel
theorem d3_2 : decode prog_3_method_2_code 2 = .ok (.lcmp, 1) := by decide +kernel
theorem d3_3 : decode prog_3_method_2_code 3 = .ok (.ifCond .gt 17, 3) := by decide +kernel
theorem d3_20 : decode prog_3_method_2_code 20 = .ok (.return_, 1) := by decide +kernel
theorem pn_0 : plainName "com/example/tick_wheel/tickwheel/wheel/TickGrid" = true := by first | (simp [plainName, overriddenIn]; done) | decide +kernel
theorem ef_3 (m : MethodId) (x0 : Int64) : entryFrame m #[(.long x0)] 2 = mkF m 0 #[.val (.long x0), .second] [] := by first | (simp [entryFrame, mkF, argsToLocals, Value.category]; done) | rfl
def Q3 (Z : State) (x0 : Int64) (h0 : Heap) (n0 : Nat) (v : Option Value) (h : Heap) (L : List Loc) : Prop := v = none ∧ Fr n0 L ∧ h = h0
set_option maxRecDepth 65536 in
set_option maxHeartbeats 40000000 in
theorem rm3 (l : Launch) (Z : State) (a0 : Array Value) (hw : ∀ d ∈ tables_1, d.before a0 Z = true) (ws : List Jvm.Cond) (x0 : Int64) (h0 : Heap) (n0 : Nat) (Z0 : n0 ≤ h0.size) (hpos : (0 : Int64).toInt < x0.toInt) :
    MetFree l (⟨"com/example/tick_wheel/tickwheel/wheel/TickGrid", "checkTick", "(J)V"⟩ : MethodName) (head1 (Jvm.Cond.code (⟨"com/example/tick_wheel/tickwheel/wheel/TickGrid", "checkTick", "(J)V"⟩ : MethodName) prog_3_method_2_code 2 (none) :: ws) ({ frames := 0, cells := 0, slots := 0, locals := 0 } : Room)) (fun a U => a = #[(.long x0)] ∧ Z.Warmed39 U.vm ∧ U.heap = h0) (fun _ _ _ _ _ => True) (fun _ U o U' => ∃ v L, o = .returned v ∧ Q3 Z x0 h0 n0 v U'.heap L ∧ FrameEnd U o U' L ({ frames := 0, cells := 0, slots := 0, locals := 0 } : Room).cells ({ frames := 0, cells := 0, slots := 0, locals := 0 } : Room).slots) := by
  refine MetFree.of_bodySF (plainFor_of_name pn_0) hisR ?_
  intro p e s m args below meth c s₁ Bd hml0 hP hK0
  obtain ⟨rfl, hZ, hh⟩ := hP
  have hx := Bd.exec
  have hby := Bd.bytes
  have hml : c.maxLocals = 2 := hml0
  have hown : s.vm.findClass "com/example/tick_wheel/tickwheel/wheel/TickGrid" = some m.cls := findClass_of_methodNamed Bd.named
  have hnm := (name_of_methodNamed Bd.named Bd.method).1
  have hret : meth.sig.returnType = none := Bd.returns
  have hlk : meth.locks = false := Bd.notSynchronized
  have X0 : Stand p l e ({ frames := 0, cells := 0, slots := 0, locals := 0 } : Room) s m #[(.long x0)] below meth c s₁ [] 0 0 := Stand.of_body Bd
  have e0 : s₁.heap = h0 := by rw [← hh, Bd.state]; rfl
  have N0 := Fr.nil n0
  have pre0 : ∀ t, Steps p.tables e below (s₁.setTop (mkF m 0 #[.val (.long x0), .second] [])) t → Steps p.tables e below (s₁.setTop (entryFrame m #[(.long x0)] 2)) t := fun t k => castTop (ef_3 m x0) k
  obtain ⟨fs, hr, hrun, hended, hW, hsame⟩ := X0.leave (v := none) (fun _ => rfl)
  refine ⟨_, _, pre0 _ ?_, hrun, hended, _, _, rfl, ?_, ⟨_, rfl⟩, hW, hsame.mono (by decide) (by decide)⟩
  · show Steps p.tables e below (s₁.setTop (mkF m 0 #[.val (.long x0), .second] [])) _
    refine XS.lloadN X0.here hx rfl (hb hby d3_0) rfl ?_
    show Steps p.tables e below (s₁.setTop (mkF m 1 #[.val (.long x0), .second] [(.long x0)])) _
    refine XS.lconst X0.here hx rfl (hb hby d3_1) ?_
    show Steps p.tables e below (s₁.setTop (mkF m 2 #[.val (.long x0), .second] [(.long (0 : Int64)), (.long x0)])) _
    refine own_xlcmp X0.here hx rfl (hb hby d3_2) rfl ?_
    show Steps p.tables e below (s₁.setTop (mkF m 3 #[.val (.long x0), .second] [(.int (own_cmp x0 (0 : Int64)))])) _
    refine XS.ifYes X0.here hx rfl (pc0 := 3) (pc' := 20) rfl (hb hby d3_3) rfl (show ifCond.holds .gt (own_cmp x0 (0 : Int64)) = true from (own_cgt _ _).mpr hpos) (by decide) (by decide) ?_
    show Steps p.tables e below (s₁.setTop (mkF m 20 #[.val (.long x0), .second] [])) _
    exact X0.returnOut hx hret (hb hby d3_20) hr
  · show Q3 Z x0 h0 n0 _ s₁.heap _
    rw [e0]
    exact ⟨rfl, N0, rfl⟩
-- body 4: java/lang/Long.divideUnsigned:(JJ)J
theorem d4_0 : decode jdk_35_method_44_code 0 = .ok (.lload_n 2, 1) := by decide +kernel
theorem d4_1 : decode jdk_35_method_44_code 1 = .ok (.lconst 0, 1) := by decide +kernel
theorem d4_2 : decode jdk_35_method_44_code 2 = .ok (.lcmp, 1) := by decide +kernel
theorem d4_3 : decode jdk_35_method_44_code 3 = .ok (.ifCond .lt 38, 3) := by decide +kernel
theorem d4_6 : decode jdk_35_method_44_code 6 = .ok (.lload_n 0, 1) := by decide +kernel
theorem d4_7 : decode jdk_35_method_44_code 7 = .ok (.iconst 1, 1) := by decide +kernel
theorem d4_8 : decode jdk_35_method_44_code 8 = .ok (.lushr, 1) := by decide +kernel
theorem d4_9 : decode jdk_35_method_44_code 9 = .ok (.lload_n 2, 1) := by decide +kernel
theorem d4_10 : decode jdk_35_method_44_code 10 = .ok (.ldiv, 1) := by decide +kernel
theorem d4_11 : decode jdk_35_method_44_code 11 = .ok (.iconst 1, 1) := by decide +kernel
theorem d4_12 : decode jdk_35_method_44_code 12 = .ok (.lshl, 1) := by decide +kernel
theorem d4_13 : decode jdk_35_method_44_code 13 = .ok (.lstore 4, 2) := by decide +kernel
theorem d4_15 : decode jdk_35_method_44_code 15 = .ok (.lload_n 0, 1) := by decide +kernel
theorem d4_16 : decode jdk_35_method_44_code 16 = .ok (.lload 4, 2) := by decide +kernel
theorem d4_18 : decode jdk_35_method_44_code 18 = .ok (.lload_n 2, 1) := by decide +kernel
theorem d4_19 : decode jdk_35_method_44_code 19 = .ok (.lmul, 1) := by decide +kernel
theorem d4_20 : decode jdk_35_method_44_code 20 = .ok (.lsub, 1) := by decide +kernel
theorem d4_21 : decode jdk_35_method_44_code 21 = .ok (.lstore 6, 2) := by decide +kernel
theorem d4_23 : decode jdk_35_method_44_code 23 = .ok (.lload 4, 2) := by decide +kernel
theorem d4_25 : decode jdk_35_method_44_code 25 = .ok (.lload 6, 2) := by decide +kernel
theorem d4_27 : decode jdk_35_method_44_code 27 = .ok (.lload 6, 2) := by decide +kernel
theorem d4_29 : decode jdk_35_method_44_code 29 = .ok (.lload_n 2, 1) := by decide +kernel
theorem d4_30 : decode jdk_35_method_44_code 30 = .ok (.lsub, 1) := by decide +kernel
theorem d4_31 : decode jdk_35_method_44_code 31 = .ok (.ldc2_w 306, 3) := by decide +kernel
theorem d4_34 : decode jdk_35_method_44_code 34 = .ok (.lxor, 1) := by decide +kernel
theorem d4_35 : decode jdk_35_method_44_code 35 = .ok (.lor, 1) := by decide +kernel
theorem d4_36 : decode jdk_35_method_44_code 36 = .ok (.bipush 63, 2) := by decide +kernel
theorem d4_38 : decode jdk_35_method_44_code 38 = .ok (.lushr, 1) := by decide +kernel
theorem d4_39 : decode jdk_35_method_44_code 39 = .ok (.ladd, 1) := by decide +kernel
theorem d4_40 : decode jdk_35_method_44_code 40 = .ok (.lreturn, 1) := by decide +kernel
theorem pn_1 : plainName "java/lang/Long" = true := by first | (simp [plainName, overriddenIn]; done) | decide +kernel
theorem ef_4 (m : MethodId) (x0 : Int64) (x1 : Int64) : entryFrame m #[(.long x0), (.long x1)] 8 = mkF m 0 #[.val (.long x0), .second, .val (.long x1), .second, .unset, .unset, .unset, .unset] [] := by first | (simp [entryFrame, mkF, argsToLocals, Value.category]; done) | rfl
def f4_v1 (x0 : Int64) (x1 : Int64) : Int64 := (own_lshl ((own_lushr x0 (1 : Int32)) / x1) (1 : Int32))
def f4_v2 (x0 : Int64) (x1 : Int64) : Int64 := (x0 - ((f4_v1 x0 x1) * x1))
def f4 (x0 : Int64) (x1 : Int64) : Int64 := ((f4_v1 x0 x1) + (own_lushr ((f4_v2 x0 x1) ||| (((f4_v2 x0 x1) - x1) ^^^ (-1 : Int64))) (63 : Int32)))
def Q4 (Z : State) (x0 : Int64) (x1 : Int64) (h0 : Heap) (n0 : Nat) (v : Option Value) (h : Heap) (L : List Loc) : Prop := v = some (.long (f4 x0 x1)) ∧ Fr n0 L ∧ h = h0
set_option maxRecDepth 65536 in
set_option maxHeartbeats 40000000 in
theorem rm4 (l : Launch) (Z : State) (a0 : Array Value) (hw : ∀ d ∈ tables_1, d.before a0 Z = true) (ws : List Jvm.Cond) (x0 : Int64) (x1 : Int64) (h0 : Heap) (n0 : Nat) (Z0 : n0 ≤ h0.size) (hpos : (0 : Int64).toInt < x1.toInt) :
    MetFree l (⟨"java/lang/Long", "divideUnsigned", "(JJ)J"⟩ : MethodName) (head1 (Jvm.Cond.code (⟨"java/lang/Long", "divideUnsigned", "(JJ)J"⟩ : MethodName) jdk_35_method_44_code 8 (some .long) :: ws) ({ frames := 0, cells := 0, slots := 0, locals := 0 } : Room)) (fun a U => a = #[(.long x0), (.long x1)] ∧ Z.Warmed39 U.vm ∧ U.heap = h0) (fun _ _ _ _ _ => True) (fun _ U o U' => ∃ v L, o = .returned v ∧ Q4 Z x0 x1 h0 n0 v U'.heap L ∧ FrameEnd U o U' L ({ frames := 0, cells := 0, slots := 0, locals := 0 } : Room).cells ({ frames := 0, cells := 0, slots := 0, locals := 0 } : Room).slots) := by
  refine MetFree.of_bodySF (plainFor_of_name pn_1) hisR ?_
  intro p e s m args below meth c s₁ Bd hml0 hP hK0
  obtain ⟨rfl, hZ, hh⟩ := hP
  have hx := Bd.exec
  have hby := Bd.bytes
  have hml : c.maxLocals = 8 := hml0
  have hown : s.vm.findClass "java/lang/Long" = some m.cls := findClass_of_methodNamed Bd.named
  have hnm := (name_of_methodNamed Bd.named Bd.method).1
  have hret : meth.sig.returnType = some .long := Bd.returns
  have hlk : meth.locks = false := Bd.notSynchronized
  have X0 : Stand p l e ({ frames := 0, cells := 0, slots := 0, locals := 0 } : Room) s m #[(.long x0), (.long x1)] below meth c s₁ [] 0 0 := Stand.of_body Bd
  have e0 : s₁.heap = h0 := by rw [← hh, Bd.state]; rfl
  have N0 := Fr.nil n0
  have pre0 : ∀ t, Steps p.tables e below (s₁.setTop (mkF m 0 #[.val (.long x0), .second, .val (.long x1), .second, .unset, .unset, .unset, .unset] [])) t → Steps p.tables e below (s₁.setTop (entryFrame m #[(.long x0), (.long x1)] 8)) t := fun t k => castTop (ef_4 m x0 x1) k
  obtain ⟨fs, hr, hrun, hended, hW, hsame⟩ := X0.leave (v := some (.long ((f4_v1 x0 x1) + (own_lushr ((f4_v2 x0 x1) ||| (((f4_v2 x0 x1) - x1) ^^^ (-1 : Int64))) (63 : Int32))))) (fun h => by rw [hret] at h; cases h)
  refine ⟨_, _, pre0 _ ?_, hrun, hended, _, _, rfl, ?_, ⟨_, rfl⟩, hW, hsame.mono (by decide) (by decide)⟩
  · show Steps p.tables e below (s₁.setTop (mkF m 0 #[.val (.long x0), .second, .val (.long x1), .second, .unset, .unset, .unset, .unset] [])) _
    refine XS.lloadN X0.here hx rfl (hb hby d4_0) rfl ?_
    show Steps p.tables e below (s₁.setTop (mkF m 1 #[.val (.long x0), .second, .val (.long x1), .second, .unset, .unset, .unset, .unset] [(.long x1)])) _
    refine XS.lconst X0.here hx rfl (hb hby d4_1) ?_
    show Steps p.tables e below (s₁.setTop (mkF m 2 #[.val (.long x0), .second, .val (.long x1), .second, .unset, .unset, .unset, .unset] [(.long (0 : Int64)), (.long x1)])) _
    refine own_xlcmp X0.here hx rfl (hb hby d4_2) rfl ?_
    show Steps p.tables e below (s₁.setTop (mkF m 3 #[.val (.long x0), .second, .val (.long x1), .second, .unset, .unset, .unset, .unset] [(.int (own_cmp x1 (0 : Int64)))])) _
    refine XS.ifNo X0.here hx rfl (hb hby d4_3) rfl (show ifCond.holds .lt (own_cmp x1 (0 : Int64)) = false from own_clt_f (by omega)) ?_
    show Steps p.tables e below (s₁.setTop (mkF m 6 #[.val (.long x0), .second, .val (.long x1), .second, .unset, .unset, .unset, .unset] [])) _
    refine XS.lloadN X0.here hx rfl (hb hby d4_6) rfl ?_
    show Steps p.tables e below (s₁.setTop (mkF m 7 #[.val (.long x0), .second, .val (.long x1), .second, .unset, .unset, .unset, .unset] [(.long x0)])) _
    refine XS.iconst X0.here hx rfl (hb hby d4_7) ?_
    show Steps p.tables e below (s₁.setTop (mkF m 8 #[.val (.long x0), .second, .val (.long x1), .second, .unset, .unset, .unset, .unset] [(.int (1 : Int32)), (.long x0)])) _
    refine own_xlushr X0.here hx rfl (hb hby d4_8) rfl ?_
    show Steps p.tables e below (s₁.setTop (mkF m 9 #[.val (.long x0), .second, .val (.long x1), .second, .unset, .unset, .unset, .unset] [(.long (own_lushr x0 (1 : Int32)))])) _
    refine XS.lloadN X0.here hx rfl (hb hby d4_9) rfl ?_
    show Steps p.tables e below (s₁.setTop (mkF m 10 #[.val (.long x0), .second, .val (.long x1), .second, .unset, .unset, .unset, .unset] [(.long x1), (.long (own_lushr x0 (1 : Int32)))])) _
    refine XS.ldiv X0.here hx rfl (hb hby d4_10) rfl (own_nz hpos) ?_
    show Steps p.tables e below (s₁.setTop (mkF m 11 #[.val (.long x0), .second, .val (.long x1), .second, .unset, .unset, .unset, .unset] [(.long ((own_lushr x0 (1 : Int32)) / x1))])) _
    refine XS.iconst X0.here hx rfl (hb hby d4_11) ?_
    show Steps p.tables e below (s₁.setTop (mkF m 12 #[.val (.long x0), .second, .val (.long x1), .second, .unset, .unset, .unset, .unset] [(.int (1 : Int32)), (.long ((own_lushr x0 (1 : Int32)) / x1))])) _
    refine own_xlshl X0.here hx rfl (hb hby d4_12) rfl ?_
    show Steps p.tables e below (s₁.setTop (mkF m 13 #[.val (.long x0), .second, .val (.long x1), .second, .unset, .unset, .unset, .unset] [(.long (own_lshl ((own_lushr x0 (1 : Int32)) / x1) (1 : Int32)))])) _
    refine XS.lstore X0.here hx rfl (hb hby d4_13) rfl (l' := #[.val (.long x0), .second, .val (.long x1), .second, .val (.long (f4_v1 x0 x1)), .second, .unset, .unset]) rfl ?_
    show Steps p.tables e below (s₁.setTop (mkF m 15 #[.val (.long x0), .second, .val (.long x1), .second, .val (.long (f4_v1 x0 x1)), .second, .unset, .unset] [])) _
    refine XS.lloadN X0.here hx rfl (hb hby d4_15) rfl ?_
    show Steps p.tables e below (s₁.setTop (mkF m 16 #[.val (.long x0), .second, .val (.long x1), .second, .val (.long (f4_v1 x0 x1)), .second, .unset, .unset] [(.long x0)])) _
    refine XS.lload X0.here hx rfl (hb hby d4_16) rfl ?_
    show Steps p.tables e below (s₁.setTop (mkF m 18 #[.val (.long x0), .second, .val (.long x1), .second, .val (.long (f4_v1 x0 x1)), .second, .unset, .unset] [(.long (f4_v1 x0 x1)), (.long x0)])) _
    refine XS.lloadN X0.here hx rfl (hb hby d4_18) rfl ?_
    show Steps p.tables e below (s₁.setTop (mkF m 19 #[.val (.long x0), .second, .val (.long x1), .second, .val (.long (f4_v1 x0 x1)), .second, .unset, .unset] [(.long x1), (.long (f4_v1 x0 x1)), (.long x0)])) _
    refine XS.lmul X0.here hx rfl (hb hby d4_19) rfl ?_
    show Steps p.tables e below (s₁.setTop (mkF m 20 #[.val (.long x0), .second, .val (.long x1), .second, .val (.long (f4_v1 x0 x1)), .second, .unset, .unset] [(.long ((f4_v1 x0 x1) * x1)), (.long x0)])) _
    refine XS.lsub X0.here hx rfl (hb hby d4_20) rfl ?_
    show Steps p.tables e below (s₁.setTop (mkF m 21 #[.val (.long x0), .second, .val (.long x1), .second, .val (.long (f4_v1 x0 x1)), .second, .unset, .unset] [(.long (x0 - ((f4_v1 x0 x1) * x1)))])) _
    refine XS.lstore X0.here hx rfl (hb hby d4_21) rfl (l' := #[.val (.long x0), .second, .val (.long x1), .second, .val (.long (f4_v1 x0 x1)), .second, .val (.long (f4_v2 x0 x1)), .second]) rfl ?_
    show Steps p.tables e below (s₁.setTop (mkF m 23 #[.val (.long x0), .second, .val (.long x1), .second, .val (.long (f4_v1 x0 x1)), .second, .val (.long (f4_v2 x0 x1)), .second] [])) _
    refine XS.lload X0.here hx rfl (hb hby d4_23) rfl ?_
    show Steps p.tables e below (s₁.setTop (mkF m 25 #[.val (.long x0), .second, .val (.long x1), .second, .val (.long (f4_v1 x0 x1)), .second, .val (.long (f4_v2 x0 x1)), .second] [(.long (f4_v1 x0 x1))])) _
    refine XS.lload X0.here hx rfl (hb hby d4_25) rfl ?_
    show Steps p.tables e below (s₁.setTop (mkF m 27 #[.val (.long x0), .second, .val (.long x1), .second, .val (.long (f4_v1 x0 x1)), .second, .val (.long (f4_v2 x0 x1)), .second] [(.long (f4_v2 x0 x1)), (.long (f4_v1 x0 x1))])) _
    refine XS.lload X0.here hx rfl (hb hby d4_27) rfl ?_
    show Steps p.tables e below (s₁.setTop (mkF m 29 #[.val (.long x0), .second, .val (.long x1), .second, .val (.long (f4_v1 x0 x1)), .second, .val (.long (f4_v2 x0 x1)), .second] [(.long (f4_v2 x0 x1)), (.long (f4_v2 x0 x1)), (.long (f4_v1 x0 x1))])) _
    refine XS.lloadN X0.here hx rfl (hb hby d4_29) rfl ?_
    show Steps p.tables e below (s₁.setTop (mkF m 30 #[.val (.long x0), .second, .val (.long x1), .second, .val (.long (f4_v1 x0 x1)), .second, .val (.long (f4_v2 x0 x1)), .second] [(.long x1), (.long (f4_v2 x0 x1)), (.long (f4_v2 x0 x1)), (.long (f4_v1 x0 x1))])) _
    refine XS.lsub X0.here hx rfl (hb hby d4_30) rfl ?_
    show Steps p.tables e below (s₁.setTop (mkF m 31 #[.val (.long x0), .second, .val (.long x1), .second, .val (.long (f4_v1 x0 x1)), .second, .val (.long (f4_v2 x0 x1)), .second] [(.long ((f4_v2 x0 x1) - x1)), (.long (f4_v2 x0 x1)), (.long (f4_v1 x0 x1))])) _
    refine X0.ldc2Long hx hown (mvT hZ (hw _ (List.mem_of_getElem? (i := 23) rfl))) (g := (mkF m 31 #[.val (.long x0), .second, .val (.long x1), .second, .val (.long (f4_v1 x0 x1)), .second, .val (.long (f4_v2 x0 x1)), .second] [(.long ((f4_v2 x0 x1) - x1)), (.long (f4_v2 x0 x1)), (.long (f4_v1 x0 x1))])) rfl (hb hby d4_31) _ ?_
    show Steps p.tables e below (s₁.setTop (mkF m 34 #[.val (.long x0), .second, .val (.long x1), .second, .val (.long (f4_v1 x0 x1)), .second, .val (.long (f4_v2 x0 x1)), .second] [(.long (-1 : Int64)), (.long ((f4_v2 x0 x1) - x1)), (.long (f4_v2 x0 x1)), (.long (f4_v1 x0 x1))])) _
    refine XS.lxor X0.here hx rfl (hb hby d4_34) rfl ?_
    show Steps p.tables e below (s₁.setTop (mkF m 35 #[.val (.long x0), .second, .val (.long x1), .second, .val (.long (f4_v1 x0 x1)), .second, .val (.long (f4_v2 x0 x1)), .second] [(.long (((f4_v2 x0 x1) - x1) ^^^ (-1 : Int64))), (.long (f4_v2 x0 x1)), (.long (f4_v1 x0 x1))])) _
    refine XS.lor X0.here hx rfl (hb hby d4_35) rfl ?_
    show Steps p.tables e below (s₁.setTop (mkF m 36 #[.val (.long x0), .second, .val (.long x1), .second, .val (.long (f4_v1 x0 x1)), .second, .val (.long (f4_v2 x0 x1)), .second] [(.long ((f4_v2 x0 x1) ||| (((f4_v2 x0 x1) - x1) ^^^ (-1 : Int64)))), (.long (f4_v1 x0 x1))])) _
    refine XS.bipush X0.here hx rfl (hb hby d4_36) ?_
    show Steps p.tables e below (s₁.setTop (mkF m 38 #[.val (.long x0), .second, .val (.long x1), .second, .val (.long (f4_v1 x0 x1)), .second, .val (.long (f4_v2 x0 x1)), .second] [(.int (63 : Int32)), (.long ((f4_v2 x0 x1) ||| (((f4_v2 x0 x1) - x1) ^^^ (-1 : Int64)))), (.long (f4_v1 x0 x1))])) _
    refine own_xlushr X0.here hx rfl (hb hby d4_38) rfl ?_
    show Steps p.tables e below (s₁.setTop (mkF m 39 #[.val (.long x0), .second, .val (.long x1), .second, .val (.long (f4_v1 x0 x1)), .second, .val (.long (f4_v2 x0 x1)), .second] [(.long (own_lushr ((f4_v2 x0 x1) ||| (((f4_v2 x0 x1) - x1) ^^^ (-1 : Int64))) (63 : Int32))), (.long (f4_v1 x0 x1))])) _
    refine XS.ladd X0.here hx rfl (hb hby d4_39) rfl ?_
    show Steps p.tables e below (s₁.setTop (mkF m 40 #[.val (.long x0), .second, .val (.long x1), .second, .val (.long (f4_v1 x0 x1)), .second, .val (.long (f4_v2 x0 x1)), .second] [(.long ((f4_v1 x0 x1) + (own_lushr ((f4_v2 x0 x1) ||| (((f4_v2 x0 x1) - x1) ^^^ (-1 : Int64))) (63 : Int32))))])) _
    exact X0.lreturnOut hx hret (hb hby d4_40) hr
  · show Q4 Z x0 x1 h0 n0 _ s₁.heap _
    rw [e0]
    have rr : f4 x0 x1 = ((f4_v1 x0 x1) + (own_lushr ((f4_v2 x0 x1) ||| (((f4_v2 x0 x1) - x1) ^^^ (-1 : Int64))) (63 : Int32))) := rfl
    exact ⟨congrArg (fun z => some (Value.long z)) rr.symm, N0, rfl⟩
theorem pd_0 : parseMethodDescriptor "(J)V" = some ⟨[.long], none⟩ := by decide +kernel
theorem pd_1 : parseMethodDescriptor "(JJ)J" = some ⟨[.long, .long], some .long⟩ := by decide +kernel
-- body 1: com/example/tick_wheel/tickwheel/wheel/TickGrid.<init>:(JJ)V
theorem d1_0 : decode prog_3_method_1_code 0 = .ok (.aload_n 0, 1) := by decide +kernel
theorem d1_1 : decode prog_3_method_1_code 1 = .ok (.invokespecial 3, 3) := by decide +kernel
theorem d1_4 : decode prog_3_method_1_code 4 = .ok (.lload_n 3, 1) := by decide +kernel
theorem d1_5 : decode prog_3_method_1_code 5 = .ok (.invokestatic 9, 3) := by decide +kernel
theorem d1_8 : decode prog_3_method_1_code 8 = .ok (.lload_n 1, 1) := by decide +kernel
theorem d1_9 : decode prog_3_method_1_code 9 = .ok (.ldc2_w 15, 3) := by decide +kernel
theorem d1_12 : decode prog_3_method_1_code 12 = .ok (.lcmp, 1) := by decide +kernel
theorem d1_13 : decode prog_3_method_1_code 13 = .ok (.ifCond .ne 13, 3) := by decide +kernel
theorem d1_26 : decode prog_3_method_1_code 26 = .ok (.aload_n 0, 1) := by decide +kernel
theorem d1_27 : decode prog_3_method_1_code 27 = .ok (.lload_n 1, 1) := by decide +kernel
theorem d1_28 : decode prog_3_method_1_code 28 = .ok (.putfield 24, 3) := by decide +kernel
theorem d1_31 : decode prog_3_method_1_code 31 = .ok (.aload_n 0, 1) := by decide +kernel
theorem d1_32 : decode prog_3_method_1_code 32 = .ok (.lload_n 3, 1) := by decide +kernel
theorem d1_33 : decode prog_3_method_1_code 33 = .ok (.putfield 28, 3) := by decide +kernel
theorem d1_36 : decode prog_3_method_1_code 36 = .ok (.ldc2_w 31, 3) := by decide +kernel
theorem d1_39 : decode prog_3_method_1_code 39 = .ok (.lload_n 1, 1) := by decide +kernel
theorem d1_40 : decode prog_3_method_1_code 40 = .ok (.lsub, 1) := by decide +kernel
theorem d1_41 : decode prog_3_method_1_code 41 = .ok (.lload_n 3, 1) := by decide +kernel
theorem d1_42 : decode prog_3_method_1_code 42 = .ok (.invokestatic 33, 3) := by decide +kernel
theorem d1_45 : decode prog_3_method_1_code 45 = .ok (.lstore 5, 2) := by decide +kernel
theorem d1_47 : decode prog_3_method_1_code 47 = .ok (.aload_n 0, 1) := by decide +kernel
theorem d1_48 : decode prog_3_method_1_code 48 = .ok (.lload_n 1, 1) := by decide +kernel
theorem d1_49 : decode prog_3_method_1_code 49 = .ok (.lload 5, 2) := by decide +kernel
theorem d1_51 : decode prog_3_method_1_code 51 = .ok (.lload_n 3, 1) := by decide +kernel
theorem d1_52 : decode prog_3_method_1_code 52 = .ok (.lmul, 1) := by decide +kernel
theorem d1_53 : decode prog_3_method_1_code 53 = .ok (.ladd, 1) := by decide +kernel
theorem d1_54 : decode prog_3_method_1_code 54 = .ok (.putfield 37, 3) := by decide +kernel
theorem d1_57 : decode prog_3_method_1_code 57 = .ok (.return_, 1) := by decide +kernel
theorem ef_1 (m : MethodId) (x0 : Addr) (x1 : Int64) (x2 : Int64) : entryFrame m #[(.ref x0), (.long x1), (.long x2)] 7 = mkF m 0 #[.val (.ref x0), .val (.long x1), .second, .val (.long x2), .second, .unset, .unset] [] := by first | (simp [entryFrame, mkF, argsToLocals, Value.category]; done) | rfl
def f1_v14 (x1 : Int64) (x2 : Int64) : Int64 := (f4 ((9223372036854775806 : Int64) - x1) x2)
def Q1 (Z : State) (x0 : Addr) (x1 : Int64) (x2 : Int64) (u_startNanos_x0 : Value) (u_tickNanos_x0 : Value) (u_lastBoundaryNanos_x0 : Value) (h0 : Heap) (n0 : Nat) (v : Option Value) (h : Heap) (L : List Loc) : Prop := v = none ∧ Fr n0 L ∧ Keep h0 h [x0] ∧ Exa Z h x0 "com/example/tick_wheel/tickwheel/wheel/TickGrid" ∧ Fld Z h x0 "com/example/tick_wheel/tickwheel/wheel/TickGrid" "startNanos" "J" (.long x1) ∧ Fld Z h x0 "com/example/tick_wheel/tickwheel/wheel/TickGrid" "tickNanos" "J" (.long x2) ∧ Fld Z h x0 "com/example/tick_wheel/tickwheel/wheel/TickGrid" "lastBoundaryNanos" "J" (.long (x1 + ((f1_v14 x1 x2) * x2)))
set_option maxRecDepth 65536 in
set_option maxHeartbeats 40000000 in
theorem rm1 (l : Launch) (Z : State) (a0 : Array Value) (hw : ∀ d ∈ tables_1, d.before a0 Z = true) (ws : List Jvm.Cond) (x0 : Addr) (x1 : Int64) (x2 : Int64) (u_startNanos_x0 : Value) (u_tickNanos_x0 : Value) (u_lastBoundaryNanos_x0 : Value) (h0 : Heap) (n0 : Nat) (Z0 : n0 ≤ h0.size) (E_x0 : Exa Z h0 x0 "com/example/tick_wheel/tickwheel/wheel/TickGrid") (g_x0 : n0 ≤ x0) (F_x0_startNanos : Fld Z h0 x0 "com/example/tick_wheel/tickwheel/wheel/TickGrid" "startNanos" "J" u_startNanos_x0) (F_x0_tickNanos : Fld Z h0 x0 "com/example/tick_wheel/tickwheel/wheel/TickGrid" "tickNanos" "J" u_tickNanos_x0) (F_x0_lastBoundaryNanos : Fld Z h0 x0 "com/example/tick_wheel/tickwheel/wheel/TickGrid" "lastBoundaryNanos" "J" u_lastBoundaryNanos_x0) (hpos : (0 : Int64).toInt < x2.toInt) (hne : x1.toInt ≠ (9223372036854775807 : Int64).toInt) :
    MetFree l (⟨"com/example/tick_wheel/tickwheel/wheel/TickGrid", "<init>", "(JJ)V"⟩ : MethodName) (head1 (Jvm.Cond.code (⟨"com/example/tick_wheel/tickwheel/wheel/TickGrid", "<init>", "(JJ)V"⟩ : MethodName) prog_3_method_1_code 7 (none) :: ws) ({ frames := 1, cells := 0, slots := 0, locals := 19 } : Room)) (fun a U => a = #[(.ref x0), (.long x1), (.long x2)] ∧ Z.Warmed39 U.vm ∧ U.heap = h0) (fun _ _ _ _ _ => True) (fun _ U o U' => ∃ v L, o = .returned v ∧ Q1 Z x0 x1 x2 u_startNanos_x0 u_tickNanos_x0 u_lastBoundaryNanos_x0 h0 n0 v U'.heap L ∧ FrameEnd U o U' L ({ frames := 1, cells := 0, slots := 0, locals := 19 } : Room).cells ({ frames := 1, cells := 0, slots := 0, locals := 19 } : Room).slots) := by
  refine MetFree.of_bodySF (plainFor_of_name pn_0) hisR ?_
  intro p e s m args below meth c s₁ Bd hml0 hP hK0
  obtain ⟨rfl, hZ, hh⟩ := hP
  have hx := Bd.exec
  have hby := Bd.bytes
  have hml : c.maxLocals = 7 := hml0
  have hown : s.vm.findClass "com/example/tick_wheel/tickwheel/wheel/TickGrid" = some m.cls := findClass_of_methodNamed Bd.named
  have hnm := (name_of_methodNamed Bd.named Bd.method).1
  have hret : meth.sig.returnType = none := Bd.returns
  have hlk : meth.locks = false := Bd.notSynchronized
  have X0 : Stand p l e ({ frames := 1, cells := 0, slots := 0, locals := 19 } : Room) s m #[(.ref x0), (.long x1), (.long x2)] below meth c s₁ [] 0 0 := Stand.of_body Bd
  have e0 : s₁.heap = h0 := by rw [← hh, Bd.state]; rfl
  have N0 := Fr.nil n0
  have pre0 : ∀ t, Steps p.tables e below (s₁.setTop (mkF m 0 #[.val (.ref x0), .val (.long x1), .second, .val (.long x2), .second, .unset, .unset] [])) t → Steps p.tables e below (s₁.setTop (entryFrame m #[(.ref x0), (.long x1), (.long x2)] 7)) t := fun t k => castTop (ef_1 m x0 x1 x2) k
  obtain ⟨T1, X1, e1, st1⟩ := initO X0 hx hZ hown (hw _ (List.mem_of_getElem? (i := 7) rfl)) (hw _ (List.mem_of_getElem? (i := 8) rfl)) (hw _ (List.mem_of_getElem? (i := 9) rfl)) e0 (g := (mkF m 1 #[.val (.ref x0), .val (.long x1), .second, .val (.long x2), .second, .unset, .unset] [(.ref x0)])) rfl (by rw [hml]; rfl) rfl (hb hby d1_1) (by decide) (W := 0) (by show 2 * 0 + _ ≤ _; exact Nat.le_of_eq rfl) (by decide)
  obtain ⟨_, _, ⟨T2, L2, k2, n2⟩, -, X2, ⟨Lc2, hQ2, l2, y2, z2⟩, st2⟩ := Jvm.LawKit.callS X1 hx (y := (⟨"com/example/tick_wheel/tickwheel/wheel/TickGrid", "checkTick", "(J)V"⟩ : MethodName)) hown (mvT hZ (hw _ (List.mem_of_getElem? (i := 10) rfl))) (mvT hZ (hw _ (List.mem_of_getElem? (i := 11) rfl))) (mvT hZ (hw _ (List.mem_of_getElem? (i := 3) rfl))) (mvT hZ (hw _ (List.mem_of_getElem? (i := 12) rfl))) (by decide) (backOf (W := 0) (rm3 l Z a0 hw [] x2 h0 n0 Z0 hpos) hZ (hw _ (List.mem_of_getElem? (i := 12) rfl)) (hw _ (List.mem_of_getElem? (i := 3) rfl)) (by decide) (by decide)) (g := (mkF m 5 #[.val (.ref x0), .val (.long x1), .second, .val (.long x2), .second, .unset, .unset] [(.long x2)])) rfl (by rw [hml]; rfl) (argsL := [(.long x2)]) (rest := []) (lenOf pd_0 rfl) rfl (by show 2 * 0 + _ ≤ _; exact Nat.le_of_eq rfl) (hb hby d1_5) (fun _ _ => ⟨rfl, e1, (by decide : 0 + 0 ≤ _), (by decide : 0 + 0 ≤ _)⟩)
  dsimp only [Pt.U, Pt.locs, Pt.cells, Pt.slots] at X2 l2 y2 z2 st2 hQ2
  subst l2 y2 z2
  obtain ⟨rfl, Nq2, e2⟩ := hQ2
  have N2 := Fr.app N0 Nq2
  obtain ⟨T3, h3, X3, e3, W3, st3⟩ := putF X2 hx hZ hown (host := "") (Or.inl (hw _ (List.mem_of_getElem? (i := 14) rfl))) Via.refl e2 F_x0_startNanos E_x0 (Or.inr ⟨(hw _ (List.mem_of_getElem? (i := 15) rfl)), rfl, hnm⟩) (hw _ (List.mem_of_getElem? (i := 2) rfl)) (ty := .long) (by decide) rfl rfl (g := (mkF m 28 #[.val (.ref x0), .val (.long x1), .second, .val (.long x2), .second, .unset, .unset] [(.long x1), (.ref x0)])) rfl rfl (hb hby d1_28)
  have N3 := Fr.snoc X3 N2 g_x0
  have Z3 : n0 ≤ h3.size := Nat.le_trans Z0 (Keep.of_wr W3).1
  have K3 : Keep h0 h3 [x0] := Keep.wr (Keep.refl h0 [x0]) W3 (Or.inl (List.mem_of_getElem? (i := 0) rfl))
  have P4 := E_x0.wr W3
  have P5 := F_x0_startNanos.same W3
  have P6 := F_x0_tickNanos.other W3 (Or.inr (slot_ne (Or.inr (hw _ (List.mem_of_getElem? (i := 17) rfl))) (Or.inr (hw _ (List.mem_of_getElem? (i := 15) rfl))) (by decide) (t := .long) (t' := .long) (by decide) (by decide)))
  have P7 := F_x0_lastBoundaryNanos.other W3 (Or.inr (slot_ne (Or.inr (hw _ (List.mem_of_getElem? (i := 25) rfl))) (Or.inr (hw _ (List.mem_of_getElem? (i := 15) rfl))) (by decide) (t := .long) (t' := .long) (by decide) (by decide)))
  obtain ⟨T8, h8, X8, e8, W8, st8⟩ := putF X3 hx hZ hown (host := "") (Or.inl (hw _ (List.mem_of_getElem? (i := 16) rfl))) Via.refl e3 P6 P4 (Or.inr ⟨(hw _ (List.mem_of_getElem? (i := 17) rfl)), rfl, hnm⟩) (hw _ (List.mem_of_getElem? (i := 2) rfl)) (ty := .long) (by decide) rfl rfl (g := (mkF m 33 #[.val (.ref x0), .val (.long x1), .second, .val (.long x2), .second, .unset, .unset] [(.long x2), (.ref x0)])) rfl rfl (hb hby d1_33)
  have N8 := Fr.snoc X8 N3 g_x0
  have Z8 : n0 ≤ h8.size := Nat.le_trans Z3 (Keep.of_wr W8).1
  have K8 : Keep h0 h8 [x0] := Keep.wr K3 W8 (Or.inl (List.mem_of_getElem? (i := 0) rfl))
  have P9 := P4.wr W8
  have P10 := P5.other W8 (Or.inr (slot_ne (Or.inr (hw _ (List.mem_of_getElem? (i := 15) rfl))) (Or.inr (hw _ (List.mem_of_getElem? (i := 17) rfl))) (by decide) (t := .long) (t' := .long) (by decide) (by decide)))
  have P11 := P6.same W8
  have P12 := P7.other W8 (Or.inr (slot_ne (Or.inr (hw _ (List.mem_of_getElem? (i := 25) rfl))) (Or.inr (hw _ (List.mem_of_getElem? (i := 17) rfl))) (by decide) (t := .long) (t' := .long) (by decide) (by decide)))
  obtain ⟨_, _, ⟨T13, L13, k13, n13⟩, -, X13, ⟨Lc13, hQ13, l13, y13, z13⟩, st13⟩ := Jvm.LawKit.callS X8 hx (y := (⟨"java/lang/Long", "divideUnsigned", "(JJ)J"⟩ : MethodName)) hown (mvT hZ (hw _ (List.mem_of_getElem? (i := 19) rfl))) (mvT hZ (hw _ (List.mem_of_getElem? (i := 20) rfl))) (mvT hZ (hw _ (List.mem_of_getElem? (i := 21) rfl))) (mvT hZ (hw _ (List.mem_of_getElem? (i := 22) rfl))) (by decide) (backOf (W := 0) (rm4 l Z a0 hw [] ((9223372036854775806 : Int64) - x1) x2 h8 n0 Z8 hpos) hZ (hw _ (List.mem_of_getElem? (i := 22) rfl)) (hw _ (List.mem_of_getElem? (i := 21) rfl)) (by decide) (by decide)) (g := (mkF m 42 #[.val (.ref x0), .val (.long x1), .second, .val (.long x2), .second, .unset, .unset] [(.long x2), (.long ((9223372036854775806 : Int64) - x1))])) rfl (by rw [hml]; rfl) (argsL := [(.long ((9223372036854775806 : Int64) - x1)), (.long x2)]) (rest := []) (lenOf pd_1 rfl) rfl (by show 2 * 0 + _ ≤ _; exact Nat.le_of_eq rfl) (hb hby d1_42) (fun _ _ => ⟨rfl, e8, (by decide : 0 + 0 ≤ _), (by decide : 0 + 0 ≤ _)⟩)
  dsimp only [Pt.U, Pt.locs, Pt.cells, Pt.slots] at X13 l13 y13 z13 st13 hQ13
  subst l13 y13 z13
  obtain ⟨rfl, Nq13, e13⟩ := hQ13
  have N13 := Fr.app N8 Nq13
  obtain ⟨T15, h15, X15, e15, W15, st15⟩ := putF X13 hx hZ hown (host := "") (Or.inl (hw _ (List.mem_of_getElem? (i := 24) rfl))) Via.refl e13 P12 P9 (Or.inr ⟨(hw _ (List.mem_of_getElem? (i := 25) rfl)), rfl, hnm⟩) (hw _ (List.mem_of_getElem? (i := 2) rfl)) (ty := .long) (by decide) rfl rfl (g := (mkF m 54 #[.val (.ref x0), .val (.long x1), .second, .val (.long x2), .second, .val (.long (f1_v14 x1 x2)), .second] [(.long (x1 + ((f1_v14 x1 x2) * x2))), (.ref x0)])) rfl rfl (hb hby d1_54)
  have N15 := Fr.snoc X15 N13 g_x0
  have Z15 : n0 ≤ h15.size := Nat.le_trans Z8 (Keep.of_wr W15).1
  have K15 : Keep h0 h15 [x0] := Keep.wr K8 W15 (Or.inl (List.mem_of_getElem? (i := 0) rfl))
  have P16 := P9.wr W15
  have P17 := P10.other W15 (Or.inr (slot_ne (Or.inr (hw _ (List.mem_of_getElem? (i := 15) rfl))) (Or.inr (hw _ (List.mem_of_getElem? (i := 25) rfl))) (by decide) (t := .long) (t' := .long) (by decide) (by decide)))
  have P18 := P11.other W15 (Or.inr (slot_ne (Or.inr (hw _ (List.mem_of_getElem? (i := 17) rfl))) (Or.inr (hw _ (List.mem_of_getElem? (i := 25) rfl))) (by decide) (t := .long) (t' := .long) (by decide) (by decide)))
  have P19 := P12.same W15
  obtain ⟨fs, hr, hrun, hended, hW, hsame⟩ := X15.leave (v := none) (fun _ => rfl)
  refine ⟨_, _, pre0 _ ?_, hrun, hended, _, _, rfl, ?_, ⟨_, rfl⟩, hW, hsame.mono (by decide) (by decide)⟩
  · show Steps p.tables e below (s₁.setTop (mkF m 0 #[.val (.ref x0), .val (.long x1), .second, .val (.long x2), .second, .unset, .unset] [])) _
    refine XS.aloadN X0.here hx rfl (hb hby d1_0) rfl rfl ?_
    show Steps p.tables e below (s₁.setTop (mkF m 1 #[.val (.ref x0), .val (.long x1), .second, .val (.long x2), .second, .unset, .unset] [(.ref x0)])) _
    refine st1 _ ?_
    show Steps p.tables e below (T1.setTop (mkF m 4 #[.val (.ref x0), .val (.long x1), .second, .val (.long x2), .second, .unset, .unset] [])) _
    refine XS.lloadN X1.here hx rfl (hb hby d1_4) rfl ?_
    show Steps p.tables e below (T1.setTop (mkF m 5 #[.val (.ref x0), .val (.long x1), .second, .val (.long x2), .second, .unset, .unset] [(.long x2)])) _
    refine st2 _ ?_
    show Steps p.tables e below (T2.setTop (mkF m 8 #[.val (.ref x0), .val (.long x1), .second, .val (.long x2), .second, .unset, .unset] [])) _
    refine XS.lloadN X2.here hx rfl (hb hby d1_8) rfl ?_
    show Steps p.tables e below (T2.setTop (mkF m 9 #[.val (.ref x0), .val (.long x1), .second, .val (.long x2), .second, .unset, .unset] [(.long x1)])) _
    refine X2.ldc2Long hx hown (mvT hZ (hw _ (List.mem_of_getElem? (i := 13) rfl))) (g := (mkF m 9 #[.val (.ref x0), .val (.long x1), .second, .val (.long x2), .second, .unset, .unset] [(.long x1)])) rfl (hb hby d1_9) _ ?_
    show Steps p.tables e below (T2.setTop (mkF m 12 #[.val (.ref x0), .val (.long x1), .second, .val (.long x2), .second, .unset, .unset] [(.long (9223372036854775807 : Int64)), (.long x1)])) _
    refine own_xlcmp X2.here hx rfl (hb hby d1_12) rfl ?_
    show Steps p.tables e below (T2.setTop (mkF m 13 #[.val (.ref x0), .val (.long x1), .second, .val (.long x2), .second, .unset, .unset] [(.int (own_cmp x1 (9223372036854775807 : Int64)))])) _
    refine XS.ifYes X2.here hx rfl (pc0 := 13) (pc' := 26) rfl (hb hby d1_13) rfl (show ifCond.holds .ne (own_cmp x1 (9223372036854775807 : Int64)) = true from (own_cne _ _).mpr hne) (by decide) (by decide) ?_
    show Steps p.tables e below (T2.setTop (mkF m 26 #[.val (.ref x0), .val (.long x1), .second, .val (.long x2), .second, .unset, .unset] [])) _
    refine XS.aloadN X2.here hx rfl (hb hby d1_26) rfl rfl ?_
    show Steps p.tables e below (T2.setTop (mkF m 27 #[.val (.ref x0), .val (.long x1), .second, .val (.long x2), .second, .unset, .unset] [(.ref x0)])) _
    refine XS.lloadN X2.here hx rfl (hb hby d1_27) rfl ?_
    show Steps p.tables e below (T2.setTop (mkF m 28 #[.val (.ref x0), .val (.long x1), .second, .val (.long x2), .second, .unset, .unset] [(.long x1), (.ref x0)])) _
    refine st3 _ ?_
    show Steps p.tables e below (T3.setTop (mkF m 31 #[.val (.ref x0), .val (.long x1), .second, .val (.long x2), .second, .unset, .unset] [])) _
    refine XS.aloadN X3.here hx rfl (hb hby d1_31) rfl rfl ?_
    show Steps p.tables e below (T3.setTop (mkF m 32 #[.val (.ref x0), .val (.long x1), .second, .val (.long x2), .second, .unset, .unset] [(.ref x0)])) _
    refine XS.lloadN X3.here hx rfl (hb hby d1_32) rfl ?_
    show Steps p.tables e below (T3.setTop (mkF m 33 #[.val (.ref x0), .val (.long x1), .second, .val (.long x2), .second, .unset, .unset] [(.long x2), (.ref x0)])) _
    refine st8 _ ?_
    show Steps p.tables e below (T8.setTop (mkF m 36 #[.val (.ref x0), .val (.long x1), .second, .val (.long x2), .second, .unset, .unset] [])) _
    refine X8.ldc2Long hx hown (mvT hZ (hw _ (List.mem_of_getElem? (i := 18) rfl))) (g := (mkF m 36 #[.val (.ref x0), .val (.long x1), .second, .val (.long x2), .second, .unset, .unset] [])) rfl (hb hby d1_36) _ ?_
    show Steps p.tables e below (T8.setTop (mkF m 39 #[.val (.ref x0), .val (.long x1), .second, .val (.long x2), .second, .unset, .unset] [(.long (9223372036854775806 : Int64))])) _
    refine XS.lloadN X8.here hx rfl (hb hby d1_39) rfl ?_
    show Steps p.tables e below (T8.setTop (mkF m 40 #[.val (.ref x0), .val (.long x1), .second, .val (.long x2), .second, .unset, .unset] [(.long x1), (.long (9223372036854775806 : Int64))])) _
    refine XS.lsub X8.here hx rfl (hb hby d1_40) rfl ?_
    show Steps p.tables e below (T8.setTop (mkF m 41 #[.val (.ref x0), .val (.long x1), .second, .val (.long x2), .second, .unset, .unset] [(.long ((9223372036854775806 : Int64) - x1))])) _
    refine XS.lloadN X8.here hx rfl (hb hby d1_41) rfl ?_
    show Steps p.tables e below (T8.setTop (mkF m 42 #[.val (.ref x0), .val (.long x1), .second, .val (.long x2), .second, .unset, .unset] [(.long x2), (.long ((9223372036854775806 : Int64) - x1))])) _
    refine st13 _ ?_
    show Steps p.tables e below (T13.setTop (mkF m 45 #[.val (.ref x0), .val (.long x1), .second, .val (.long x2), .second, .unset, .unset] [(.long (f4 ((9223372036854775806 : Int64) - x1) x2))])) _
    refine XS.lstore X13.here hx rfl (hb hby d1_45) rfl (l' := #[.val (.ref x0), .val (.long x1), .second, .val (.long x2), .second, .val (.long (f1_v14 x1 x2)), .second]) rfl ?_
    show Steps p.tables e below (T13.setTop (mkF m 47 #[.val (.ref x0), .val (.long x1), .second, .val (.long x2), .second, .val (.long (f1_v14 x1 x2)), .second] [])) _
    refine XS.aloadN X13.here hx rfl (hb hby d1_47) rfl rfl ?_
    show Steps p.tables e below (T13.setTop (mkF m 48 #[.val (.ref x0), .val (.long x1), .second, .val (.long x2), .second, .val (.long (f1_v14 x1 x2)), .second] [(.ref x0)])) _
    refine XS.lloadN X13.here hx rfl (hb hby d1_48) rfl ?_
    show Steps p.tables e below (T13.setTop (mkF m 49 #[.val (.ref x0), .val (.long x1), .second, .val (.long x2), .second, .val (.long (f1_v14 x1 x2)), .second] [(.long x1), (.ref x0)])) _
    refine XS.lload X13.here hx rfl (hb hby d1_49) rfl ?_
    show Steps p.tables e below (T13.setTop (mkF m 51 #[.val (.ref x0), .val (.long x1), .second, .val (.long x2), .second, .val (.long (f1_v14 x1 x2)), .second] [(.long (f1_v14 x1 x2)), (.long x1), (.ref x0)])) _
    refine XS.lloadN X13.here hx rfl (hb hby d1_51) rfl ?_
    show Steps p.tables e below (T13.setTop (mkF m 52 #[.val (.ref x0), .val (.long x1), .second, .val (.long x2), .second, .val (.long (f1_v14 x1 x2)), .second] [(.long x2), (.long (f1_v14 x1 x2)), (.long x1), (.ref x0)])) _
    refine XS.lmul X13.here hx rfl (hb hby d1_52) rfl ?_
    show Steps p.tables e below (T13.setTop (mkF m 53 #[.val (.ref x0), .val (.long x1), .second, .val (.long x2), .second, .val (.long (f1_v14 x1 x2)), .second] [(.long ((f1_v14 x1 x2) * x2)), (.long x1), (.ref x0)])) _
    refine XS.ladd X13.here hx rfl (hb hby d1_53) rfl ?_
    show Steps p.tables e below (T13.setTop (mkF m 54 #[.val (.ref x0), .val (.long x1), .second, .val (.long x2), .second, .val (.long (f1_v14 x1 x2)), .second] [(.long (x1 + ((f1_v14 x1 x2) * x2))), (.ref x0)])) _
    refine st15 _ ?_
    show Steps p.tables e below (T15.setTop (mkF m 57 #[.val (.ref x0), .val (.long x1), .second, .val (.long x2), .second, .val (.long (f1_v14 x1 x2)), .second] [])) _
    exact X15.returnOut hx hret (hb hby d1_57) hr
  · show Q1 Z x0 x1 x2 u_startNanos_x0 u_tickNanos_x0 u_lastBoundaryNanos_x0 h0 n0 _ T15.heap _
    rw [e15]
    exact ⟨rfl, N15, K15, P16, P17, P18, P19⟩
-- body 5: com/example/tick_wheel/tickwheel/wheel/TickGrid.boundaryAtOrBefore:(J)J
theorem d5_0 : decode prog_3_method_4_code 0 = .ok (.lload_n 1, 1) := by decide +kernel
theorem d5_1 : decode prog_3_method_4_code 1 = .ok (.aload_n 0, 1) := by decide +kernel
theorem d5_2 : decode prog_3_method_4_code 2 = .ok (.getfield 24, 3) := by decide +kernel
theorem d5_5 : decode prog_3_method_4_code 5 = .ok (.lcmp, 1) := by decide +kernel
theorem d5_6 : decode prog_3_method_4_code 6 = .ok (.ifCond .ge 21, 3) := by decide +kernel
theorem d5_27 : decode prog_3_method_4_code 27 = .ok (.lload_n 1, 1) := by decide +kernel
theorem d5_28 : decode prog_3_method_4_code 28 = .ok (.aload_n 0, 1) := by decide +kernel
theorem d5_29 : decode prog_3_method_4_code 29 = .ok (.getfield 37, 3) := by decide +kernel
theorem d5_32 : decode prog_3_method_4_code 32 = .ok (.lcmp, 1) := by decide +kernel
theorem d5_33 : decode prog_3_method_4_code 33 = .ok (.ifCond .lt 8, 3) := by decide +kernel
theorem d5_36 : decode prog_3_method_4_code 36 = .ok (.aload_n 0, 1) := by decide +kernel
theorem d5_37 : decode prog_3_method_4_code 37 = .ok (.getfield 37, 3) := by decide +kernel
theorem d5_40 : decode prog_3_method_4_code 40 = .ok (.lreturn, 1) := by decide +kernel
theorem ef_5 (m : MethodId) (x0 : Addr) (x1 : Int64) : entryFrame m #[(.ref x0), (.long x1)] 5 = mkF m 0 #[.val (.ref x0), .val (.long x1), .second, .unset, .unset] [] := by first | (simp [entryFrame, mkF, argsToLocals, Value.category]; done) | rfl
def f5 (x1 : Int64) (w_startNanos_x0 : Int64) (w_lastBoundaryNanos_x0 : Int64) : Int64 := w_lastBoundaryNanos_x0
def Q5 (Z : State) (x0 : Addr) (x1 : Int64) (w_startNanos_x0 : Int64) (w_lastBoundaryNanos_x0 : Int64) (h0 : Heap) (n0 : Nat) (v : Option Value) (h : Heap) (L : List Loc) : Prop := v = some (.long (f5 x1 w_startNanos_x0 w_lastBoundaryNanos_x0)) ∧ Fr n0 L ∧ h = h0
set_option maxRecDepth 65536 in
set_option maxHeartbeats 40000000 in
theorem rm5 (l : Launch) (Z : State) (a0 : Array Value) (hw : ∀ d ∈ tables_1, d.before a0 Z = true) (ws : List Jvm.Cond) (x0 : Addr) (x1 : Int64) (w_startNanos_x0 : Int64) (w_lastBoundaryNanos_x0 : Int64) (h0 : Heap) (n0 : Nat) (Z0 : n0 ≤ h0.size) (F_x0_startNanos : Fld Z h0 x0 "com/example/tick_wheel/tickwheel/wheel/TickGrid" "startNanos" "J" (.long w_startNanos_x0)) (F_x0_lastBoundaryNanos : Fld Z h0 x0 "com/example/tick_wheel/tickwheel/wheel/TickGrid" "lastBoundaryNanos" "J" (.long w_lastBoundaryNanos_x0)) (hge : w_startNanos_x0.toInt ≤ x1.toInt) (hle : w_lastBoundaryNanos_x0.toInt ≤ x1.toInt) :
    MetFree l (⟨"com/example/tick_wheel/tickwheel/wheel/TickGrid", "boundaryAtOrBefore", "(J)J"⟩ : MethodName) (head1 (Jvm.Cond.code (⟨"com/example/tick_wheel/tickwheel/wheel/TickGrid", "boundaryAtOrBefore", "(J)J"⟩ : MethodName) prog_3_method_4_code 5 (some .long) :: ws) ({ frames := 0, cells := 0, slots := 0, locals := 0 } : Room)) (fun a U => a = #[(.ref x0), (.long x1)] ∧ Z.Warmed39 U.vm ∧ U.heap = h0) (fun _ _ _ _ _ => True) (fun _ U o U' => ∃ v L, o = .returned v ∧ Q5 Z x0 x1 w_startNanos_x0 w_lastBoundaryNanos_x0 h0 n0 v U'.heap L ∧ FrameEnd U o U' L ({ frames := 0, cells := 0, slots := 0, locals := 0 } : Room).cells ({ frames := 0, cells := 0, slots := 0, locals := 0 } : Room).slots) := by
  refine MetFree.of_bodySF (plainFor_of_name pn_0) hisR ?_
  intro p e s m args below meth c s₁ Bd hml0 hP hK0
  obtain ⟨rfl, hZ, hh⟩ := hP
  have hx := Bd.exec
  have hby := Bd.bytes
  have hml : c.maxLocals = 5 := hml0
  have hown : s.vm.findClass "com/example/tick_wheel/tickwheel/wheel/TickGrid" = some m.cls := findClass_of_methodNamed Bd.named
  have hnm := (name_of_methodNamed Bd.named Bd.method).1
  have hret : meth.sig.returnType = some .long := Bd.returns
  have hlk : meth.locks = false := Bd.notSynchronized
  have X0 : Stand p l e ({ frames := 0, cells := 0, slots := 0, locals := 0 } : Room) s m #[(.ref x0), (.long x1)] below meth c s₁ [] 0 0 := Stand.of_body Bd
  have e0 : s₁.heap = h0 := by rw [← hh, Bd.state]; rfl
  have N0 := Fr.nil n0
  have pre0 : ∀ t, Steps p.tables e below (s₁.setTop (mkF m 0 #[.val (.ref x0), .val (.long x1), .second, .unset, .unset] [])) t → Steps p.tables e below (s₁.setTop (entryFrame m #[(.ref x0), (.long x1)] 5)) t := fun t k => castTop (ef_5 m x0 x1) k
  obtain ⟨T1, X1, e1, st1⟩ := getF X0 hx hZ hown (host := "") (Or.inl (hw _ (List.mem_of_getElem? (i := 14) rfl))) Via.refl e0 F_x0_startNanos (g := (mkF m 2 #[.val (.ref x0), .val (.long x1), .second, .unset, .unset] [(.ref x0), (.long x1)])) rfl rfl (hb hby d5_2)
  obtain ⟨T2, X2, e2, st2⟩ := getF X1 hx hZ hown (host := "") (Or.inl (hw _ (List.mem_of_getElem? (i := 24) rfl))) Via.refl e1 F_x0_lastBoundaryNanos (g := (mkF m 29 #[.val (.ref x0), .val (.long x1), .second, .unset, .unset] [(.ref x0), (.long x1)])) rfl rfl (hb hby d5_29)
  obtain ⟨T3, X3, e3, st3⟩ := getF X2 hx hZ hown (host := "") (Or.inl (hw _ (List.mem_of_getElem? (i := 24) rfl))) Via.refl e2 F_x0_lastBoundaryNanos (g := (mkF m 37 #[.val (.ref x0), .val (.long x1), .second, .unset, .unset] [(.ref x0)])) rfl rfl (hb hby d5_37)
  obtain ⟨fs, hr, hrun, hended, hW, hsame⟩ := X3.leave (v := some (.long w_lastBoundaryNanos_x0)) (fun h => by rw [hret] at h; cases h)
  refine ⟨_, _, pre0 _ ?_, hrun, hended, _, _, rfl, ?_, ⟨_, rfl⟩, hW, hsame.mono (by decide) (by decide)⟩
  · show Steps p.tables e below (s₁.setTop (mkF m 0 #[.val (.ref x0), .val (.long x1), .second, .unset, .unset] [])) _
    refine XS.lloadN X0.here hx rfl (hb hby d5_0) rfl ?_
    show Steps p.tables e below (s₁.setTop (mkF m 1 #[.val (.ref x0), .val (.long x1), .second, .unset, .unset] [(.long x1)])) _
    refine XS.aloadN X0.here hx rfl (hb hby d5_1) rfl rfl ?_
    show Steps p.tables e below (s₁.setTop (mkF m 2 #[.val (.ref x0), .val (.long x1), .second, .unset, .unset] [(.ref x0), (.long x1)])) _
    refine st1 _ ?_
    show Steps p.tables e below (T1.setTop (mkF m 5 #[.val (.ref x0), .val (.long x1), .second, .unset, .unset] [(.long w_startNanos_x0), (.long x1)])) _
    refine own_xlcmp X1.here hx rfl (hb hby d5_5) rfl ?_
    show Steps p.tables e below (T1.setTop (mkF m 6 #[.val (.ref x0), .val (.long x1), .second, .unset, .unset] [(.int (own_cmp x1 w_startNanos_x0))])) _
    refine XS.ifYes X1.here hx rfl (pc0 := 6) (pc' := 27) rfl (hb hby d5_6) rfl (show ifCond.holds .ge (own_cmp x1 w_startNanos_x0) = true from (own_cge _ _).mpr hge) (by decide) (by decide) ?_
    show Steps p.tables e below (T1.setTop (mkF m 27 #[.val (.ref x0), .val (.long x1), .second, .unset, .unset] [])) _
    refine XS.lloadN X1.here hx rfl (hb hby d5_27) rfl ?_
    show Steps p.tables e below (T1.setTop (mkF m 28 #[.val (.ref x0), .val (.long x1), .second, .unset, .unset] [(.long x1)])) _
    refine XS.aloadN X1.here hx rfl (hb hby d5_28) rfl rfl ?_
    show Steps p.tables e below (T1.setTop (mkF m 29 #[.val (.ref x0), .val (.long x1), .second, .unset, .unset] [(.ref x0), (.long x1)])) _
    refine st2 _ ?_
    show Steps p.tables e below (T2.setTop (mkF m 32 #[.val (.ref x0), .val (.long x1), .second, .unset, .unset] [(.long w_lastBoundaryNanos_x0), (.long x1)])) _
    refine own_xlcmp X2.here hx rfl (hb hby d5_32) rfl ?_
    show Steps p.tables e below (T2.setTop (mkF m 33 #[.val (.ref x0), .val (.long x1), .second, .unset, .unset] [(.int (own_cmp x1 w_lastBoundaryNanos_x0))])) _
    refine XS.ifNo X2.here hx rfl (hb hby d5_33) rfl (show ifCond.holds .lt (own_cmp x1 w_lastBoundaryNanos_x0) = false from own_clt_f (by omega)) ?_
    show Steps p.tables e below (T2.setTop (mkF m 36 #[.val (.ref x0), .val (.long x1), .second, .unset, .unset] [])) _
    refine XS.aloadN X2.here hx rfl (hb hby d5_36) rfl rfl ?_
    show Steps p.tables e below (T2.setTop (mkF m 37 #[.val (.ref x0), .val (.long x1), .second, .unset, .unset] [(.ref x0)])) _
    refine st3 _ ?_
    show Steps p.tables e below (T3.setTop (mkF m 40 #[.val (.ref x0), .val (.long x1), .second, .unset, .unset] [(.long w_lastBoundaryNanos_x0)])) _
    exact X3.lreturnOut hx hret (hb hby d5_40) hr
  · show Q5 Z x0 x1 w_startNanos_x0 w_lastBoundaryNanos_x0 h0 n0 _ T3.heap _
    rw [e3]
    have rr : f5 x1 w_startNanos_x0 w_lastBoundaryNanos_x0 = w_lastBoundaryNanos_x0 := rfl
    exact ⟨congrArg (fun z => some (Value.long z)) rr.symm, N0, rfl⟩
-- body 6: com/example/tick_wheel/tickwheel/wheel/TickGridBoundaryAfterPinLaw.uge:(JJ)Z
theorem d6_0 : decode method_2_code 0 = .ok (.lload_n 0, 1) := by decide +kernel
theorem d6_1 : decode method_2_code 1 = .ok (.ldc2_w 9, 3) := by decide +kernel
theorem d6_4 : decode method_2_code 4 = .ok (.ladd, 1) := by decide +kernel
theorem d6_5 : decode method_2_code 5 = .ok (.lload_n 2, 1) := by decide +kernel
theorem d6_6 : decode method_2_code 6 = .ok (.ldc2_w 9, 3) := by decide +kernel
theorem d6_9 : decode method_2_code 9 = .ok (.ladd, 1) := by decide +kernel
theorem d6_10 : decode method_2_code 10 = .ok (.lcmp, 1) := by decide +kernel
theorem d6_11 : decode method_2_code 11 = .ok (.ifCond .lt 7, 3) := by decide +kernel
theorem d6_14 : decode method_2_code 14 = .ok (.iconst 1, 1) := by decide +kernel
theorem d6_15 : decode method_2_code 15 = .ok (.goto 4, 3) := by decide +kernel
theorem d6_18 : decode method_2_code 18 = .ok (.iconst 0, 1) := by decide +kernel
theorem d6_19 : decode method_2_code 19 = .ok (.ireturn, 1) := by decide +kernel
theorem pn_2 : plainName "com/example/tick_wheel/tickwheel/wheel/TickGridBoundaryAfterPinLaw" = true := by first | (simp [plainName, overriddenIn]; done) | decide +kernel
theorem ef_6 (m : MethodId) (x0 : Int64) (x1 : Int64) : entryFrame m #[(.long x0), (.long x1)] 4 = mkF m 0 #[.val (.long x0), .second, .val (.long x1), .second] [] := by first | (simp [entryFrame, mkF, argsToLocals, Value.category]; done) | rfl
def f6_j3 (x0 : Int64) (x1 : Int64) : Int32 := if ifCond.holds .lt (own_cmp (x0 + (-9223372036854775808 : Int64)) (x1 + (-9223372036854775808 : Int64))) = true then (0 : Int32) else (1 : Int32)
def f6 (x0 : Int64) (x1 : Int64) : Int32 := (nar .boolean (f6_j3 x0 x1))
def Q6 (Z : State) (x0 : Int64) (x1 : Int64) (h0 : Heap) (n0 : Nat) (v : Option Value) (h : Heap) (L : List Loc) : Prop := v = some (.int (f6 x0 x1)) ∧ Fr n0 L ∧ h = h0
set_option maxRecDepth 65536 in
set_option maxHeartbeats 40000000 in
theorem rm6 (l : Launch) (Z : State) (a0 : Array Value) (hw : ∀ d ∈ tables_1, d.before a0 Z = true) (ws : List Jvm.Cond) (x0 : Int64) (x1 : Int64) (h0 : Heap) (n0 : Nat) (Z0 : n0 ≤ h0.size) :
    MetFree l (⟨"com/example/tick_wheel/tickwheel/wheel/TickGridBoundaryAfterPinLaw", "uge", "(JJ)Z"⟩ : MethodName) (head1 (Jvm.Cond.code (⟨"com/example/tick_wheel/tickwheel/wheel/TickGridBoundaryAfterPinLaw", "uge", "(JJ)Z"⟩ : MethodName) method_2_code 4 (some .boolean) :: ws) ({ frames := 0, cells := 0, slots := 0, locals := 0 } : Room)) (fun a U => a = #[(.long x0), (.long x1)] ∧ Z.Warmed39 U.vm ∧ U.heap = h0) (fun _ _ _ _ _ => True) (fun _ U o U' => ∃ v L, o = .returned v ∧ Q6 Z x0 x1 h0 n0 v U'.heap L ∧ FrameEnd U o U' L ({ frames := 0, cells := 0, slots := 0, locals := 0 } : Room).cells ({ frames := 0, cells := 0, slots := 0, locals := 0 } : Room).slots) := by
  refine MetFree.of_bodySF (plainFor_of_name pn_2) hisR ?_
  intro p e s m args below meth c s₁ Bd hml0 hP hK0
  obtain ⟨rfl, hZ, hh⟩ := hP
  have hx := Bd.exec
  have hby := Bd.bytes
  have hml : c.maxLocals = 4 := hml0
  have hown : s.vm.findClass "com/example/tick_wheel/tickwheel/wheel/TickGridBoundaryAfterPinLaw" = some m.cls := findClass_of_methodNamed Bd.named
  have hnm := (name_of_methodNamed Bd.named Bd.method).1
  have hret : meth.sig.returnType = some .boolean := Bd.returns
  have hlk : meth.locks = false := Bd.notSynchronized
  have X0 : Stand p l e ({ frames := 0, cells := 0, slots := 0, locals := 0 } : Room) s m #[(.long x0), (.long x1)] below meth c s₁ [] 0 0 := Stand.of_body Bd
  have e0 : s₁.heap = h0 := by rw [← hh, Bd.state]; rfl
  have N0 := Fr.nil n0
  have pre0 : ∀ t, Steps p.tables e below (s₁.setTop (mkF m 0 #[.val (.long x0), .second, .val (.long x1), .second] [])) t → Steps p.tables e below (s₁.setTop (entryFrame m #[(.long x0), (.long x1)] 4)) t := fun t k => castTop (ef_6 m x0 x1) k
  have pre1 : ∀ t, Steps p.tables e below (s₁.setTop (mkF m 11 #[.val (.long x0), .second, .val (.long x1), .second] [(.int (own_cmp (x0 + (-9223372036854775808 : Int64)) (x1 + (-9223372036854775808 : Int64))))])) t → Steps p.tables e below (s₁.setTop (entryFrame m #[(.long x0), (.long x1)] 4)) t := by
    intro t k
    refine pre0 _ ?_
    show Steps p.tables e below (s₁.setTop (mkF m 0 #[.val (.long x0), .second, .val (.long x1), .second] [])) _
    refine XS.lloadN X0.here hx rfl (hb hby d6_0) rfl ?_
    show Steps p.tables e below (s₁.setTop (mkF m 1 #[.val (.long x0), .second, .val (.long x1), .second] [(.long x0)])) _
    refine X0.ldc2Long hx hown (mvT hZ (hw _ (List.mem_of_getElem? (i := 36) rfl))) (g := (mkF m 1 #[.val (.long x0), .second, .val (.long x1), .second] [(.long x0)])) rfl (hb hby d6_1) _ ?_
    show Steps p.tables e below (s₁.setTop (mkF m 4 #[.val (.long x0), .second, .val (.long x1), .second] [(.long (-9223372036854775808 : Int64)), (.long x0)])) _
    refine XS.ladd X0.here hx rfl (hb hby d6_4) rfl ?_
    show Steps p.tables e below (s₁.setTop (mkF m 5 #[.val (.long x0), .second, .val (.long x1), .second] [(.long (x0 + (-9223372036854775808 : Int64)))])) _
    refine XS.lloadN X0.here hx rfl (hb hby d6_5) rfl ?_
    show Steps p.tables e below (s₁.setTop (mkF m 6 #[.val (.long x0), .second, .val (.long x1), .second] [(.long x1), (.long (x0 + (-9223372036854775808 : Int64)))])) _
    refine X0.ldc2Long hx hown (mvT hZ (hw _ (List.mem_of_getElem? (i := 36) rfl))) (g := (mkF m 6 #[.val (.long x0), .second, .val (.long x1), .second] [(.long x1), (.long (x0 + (-9223372036854775808 : Int64)))])) rfl (hb hby d6_6) _ ?_
    show Steps p.tables e below (s₁.setTop (mkF m 9 #[.val (.long x0), .second, .val (.long x1), .second] [(.long (-9223372036854775808 : Int64)), (.long x1), (.long (x0 + (-9223372036854775808 : Int64)))])) _
    refine XS.ladd X0.here hx rfl (hb hby d6_9) rfl ?_
    show Steps p.tables e below (s₁.setTop (mkF m 10 #[.val (.long x0), .second, .val (.long x1), .second] [(.long (x1 + (-9223372036854775808 : Int64))), (.long (x0 + (-9223372036854775808 : Int64)))])) _
    refine own_xlcmp X0.here hx rfl (hb hby d6_10) rfl ?_
    exact k
  obtain ⟨T4, L4, X4, N4, e4, pre4⟩ : ∃ (T' : State) (L' : List Loc), Stand p l e ({ frames := 0, cells := 0, slots := 0, locals := 0 } : Room) s m #[(.long x0), (.long x1)] below meth c T' L' 0 0 ∧ Fr n0 L' ∧ T'.heap = h0 ∧ ∀ t, Steps p.tables e below (T'.setTop (mkF m 19 #[.val (.long x0), .second, .val (.long x1), .second] [(.int (f6_j3 x0 x1))])) t → Steps p.tables e below (s₁.setTop (entryFrame m #[(.long x0), (.long x1)] 4)) t := by
    rcases Bool.eq_false_or_eq_true (ifCond.holds .lt (own_cmp (x0 + (-9223372036854775808 : Int64)) (x1 + (-9223372036854775808 : Int64)))) with hc2 | hc2
    · have pre5 : ∀ t, Steps p.tables e below (s₁.setTop (mkF m 19 #[.val (.long x0), .second, .val (.long x1), .second] [(.int (0 : Int32))])) t → Steps p.tables e below (s₁.setTop (entryFrame m #[(.long x0), (.long x1)] 4)) t := by
        intro t k
        refine pre1 _ ?_
        show Steps p.tables e below (s₁.setTop (mkF m 11 #[.val (.long x0), .second, .val (.long x1), .second] [(.int (own_cmp (x0 + (-9223372036854775808 : Int64)) (x1 + (-9223372036854775808 : Int64))))])) _
        refine XS.ifYes X0.here hx rfl (pc0 := 11) (pc' := 18) rfl (hb hby d6_11) rfl hc2 (by decide) (by decide) ?_
        show Steps p.tables e below (s₁.setTop (mkF m 18 #[.val (.long x0), .second, .val (.long x1), .second] [])) _
        refine XS.iconst X0.here hx rfl (hb hby d6_18) ?_
        exact k
      have qj0 : (f6_j3 x0 x1) = (0 : Int32) := if_pos hc2
      refine ⟨s₁, _, X0, N0, e0, fun t k => pre5 _ ?_⟩
      rw [qj0] at k
      exact k
    · have pre6 : ∀ t, Steps p.tables e below (s₁.setTop (mkF m 19 #[.val (.long x0), .second, .val (.long x1), .second] [(.int (1 : Int32))])) t → Steps p.tables e below (s₁.setTop (entryFrame m #[(.long x0), (.long x1)] 4)) t := by
        intro t k
        refine pre1 _ ?_
        show Steps p.tables e below (s₁.setTop (mkF m 11 #[.val (.long x0), .second, .val (.long x1), .second] [(.int (own_cmp (x0 + (-9223372036854775808 : Int64)) (x1 + (-9223372036854775808 : Int64))))])) _
        refine XS.ifNo X0.here hx rfl (hb hby d6_11) rfl hc2 ?_
        show Steps p.tables e below (s₁.setTop (mkF m 14 #[.val (.long x0), .second, .val (.long x1), .second] [])) _
        refine XS.iconst X0.here hx rfl (hb hby d6_14) ?_
        show Steps p.tables e below (s₁.setTop (mkF m 15 #[.val (.long x0), .second, .val (.long x1), .second] [(.int (1 : Int32))])) _
        refine XS.goto X0.here hx rfl (pc0 := 15) (pc' := 19) rfl (hb hby d6_15) (by decide) (by decide) ?_
        exact k
      have qj0 : (f6_j3 x0 x1) = (1 : Int32) := if_neg (own_nt hc2)
      refine ⟨s₁, _, X0, N0, e0, fun t k => pre6 _ ?_⟩
      rw [qj0] at k
      exact k
  obtain ⟨fs, hr, hrun, hended, hW, hsame⟩ := X4.leave (v := some (.int (nar .boolean (f6_j3 x0 x1)))) (fun h => by rw [hret] at h; cases h)
  refine ⟨_, _, pre4 _ ?_, hrun, hended, _, _, rfl, ?_, ⟨_, rfl⟩, hW, hsame.mono (by decide) (by decide)⟩
  · show Steps p.tables e below (T4.setTop (mkF m 19 #[.val (.long x0), .second, .val (.long x1), .second] [(.int (f6_j3 x0 x1))])) _
    exact retN X4 hx (t := .boolean) hret (by simp) (hb hby d6_19) hr
  · show Q6 Z x0 x1 h0 n0 _ T4.heap _
    rw [e4]
    have rr : f6 x0 x1 = (nar .boolean (f6_j3 x0 x1)) := rfl
    exact ⟨congrArg (fun z => some (Value.int z)) rr.symm, N4, rfl⟩
-- body 7: com/example/tick_wheel/tickwheel/wheel/TickGrid.boundaryAfter:(J)J
theorem d7_0 : decode prog_3_method_5_code 0 = .ok (.lload_n 1, 1) := by decide +kernel
theorem d7_1 : decode prog_3_method_5_code 1 = .ok (.aload_n 0, 1) := by decide +kernel
theorem d7_2 : decode prog_3_method_5_code 2 = .ok (.getfield 37, 3) := by decide +kernel
theorem d7_5 : decode prog_3_method_5_code 5 = .ok (.lcmp, 1) := by decide +kernel
theorem d7_6 : decode prog_3_method_5_code 6 = .ok (.ifCond .lt 7, 3) := by decide +kernel
theorem d7_9 : decode prog_3_method_5_code 9 = .ok (.ldc2_w 15, 3) := by decide +kernel
theorem d7_12 : decode prog_3_method_5_code 12 = .ok (.lreturn, 1) := by decide +kernel
theorem d7_13 : decode prog_3_method_5_code 13 = .ok (.lload_n 1, 1) := by decide +kernel
theorem d7_14 : decode prog_3_method_5_code 14 = .ok (.aload_n 0, 1) := by decide +kernel
theorem d7_15 : decode prog_3_method_5_code 15 = .ok (.getfield 28, 3) := by decide +kernel
theorem d7_18 : decode prog_3_method_5_code 18 = .ok (.ladd, 1) := by decide +kernel
theorem d7_19 : decode prog_3_method_5_code 19 = .ok (.lreturn, 1) := by decide +kernel
theorem ef_7 (m : MethodId) (x0 : Addr) (x1 : Int64) : entryFrame m #[(.ref x0), (.long x1)] 3 = mkF m 0 #[.val (.ref x0), .val (.long x1), .second] [] := by first | (simp [entryFrame, mkF, argsToLocals, Value.category]; done) | rfl
def f7 (x1 : Int64) (w_lastBoundaryNanos_x0 : Int64) (w_tickNanos_x0 : Int64) : Int64 := (if ifCond.holds .lt (own_cmp x1 w_lastBoundaryNanos_x0) = true then (x1 + w_tickNanos_x0) else (9223372036854775807 : Int64))
def Q7 (Z : State) (x0 : Addr) (x1 : Int64) (w_lastBoundaryNanos_x0 : Int64) (w_tickNanos_x0 : Int64) (h0 : Heap) (n0 : Nat) (v : Option Value) (h : Heap) (L : List Loc) : Prop := v = some (.long (f7 x1 w_lastBoundaryNanos_x0 w_tickNanos_x0)) ∧ Fr n0 L ∧ h = h0
set_option maxRecDepth 65536 in
set_option maxHeartbeats 40000000 in
theorem rm7 (l : Launch) (Z : State) (a0 : Array Value) (hw : ∀ d ∈ tables_1, d.before a0 Z = true) (ws : List Jvm.Cond) (x0 : Addr) (x1 : Int64) (w_lastBoundaryNanos_x0 : Int64) (w_tickNanos_x0 : Int64) (h0 : Heap) (n0 : Nat) (Z0 : n0 ≤ h0.size) (F_x0_lastBoundaryNanos : Fld Z h0 x0 "com/example/tick_wheel/tickwheel/wheel/TickGrid" "lastBoundaryNanos" "J" (.long w_lastBoundaryNanos_x0)) (F_x0_tickNanos : Fld Z h0 x0 "com/example/tick_wheel/tickwheel/wheel/TickGrid" "tickNanos" "J" (.long w_tickNanos_x0)) :
    MetFree l (⟨"com/example/tick_wheel/tickwheel/wheel/TickGrid", "boundaryAfter", "(J)J"⟩ : MethodName) (head1 (Jvm.Cond.code (⟨"com/example/tick_wheel/tickwheel/wheel/TickGrid", "boundaryAfter", "(J)J"⟩ : MethodName) prog_3_method_5_code 3 (some .long) :: ws) ({ frames := 0, cells := 0, slots := 0, locals := 0 } : Room)) (fun a U => a = #[(.ref x0), (.long x1)] ∧ Z.Warmed39 U.vm ∧ U.heap = h0) (fun _ _ _ _ _ => True) (fun _ U o U' => ∃ v L, o = .returned v ∧ Q7 Z x0 x1 w_lastBoundaryNanos_x0 w_tickNanos_x0 h0 n0 v U'.heap L ∧ FrameEnd U o U' L ({ frames := 0, cells := 0, slots := 0, locals := 0 } : Room).cells ({ frames := 0, cells := 0, slots := 0, locals := 0 } : Room).slots) := by
  refine MetFree.of_bodySF (plainFor_of_name pn_0) hisR ?_
  intro p e s m args below meth c s₁ Bd hml0 hP hK0
  obtain ⟨rfl, hZ, hh⟩ := hP
  have hx := Bd.exec
  have hby := Bd.bytes
  have hml : c.maxLocals = 3 := hml0
  have hown : s.vm.findClass "com/example/tick_wheel/tickwheel/wheel/TickGrid" = some m.cls := findClass_of_methodNamed Bd.named
  have hnm := (name_of_methodNamed Bd.named Bd.method).1
  have hret : meth.sig.returnType = some .long := Bd.returns
  have hlk : meth.locks = false := Bd.notSynchronized
  have X0 : Stand p l e ({ frames := 0, cells := 0, slots := 0, locals := 0 } : Room) s m #[(.ref x0), (.long x1)] below meth c s₁ [] 0 0 := Stand.of_body Bd
  have e0 : s₁.heap = h0 := by rw [← hh, Bd.state]; rfl
  have N0 := Fr.nil n0
  have pre0 : ∀ t, Steps p.tables e below (s₁.setTop (mkF m 0 #[.val (.ref x0), .val (.long x1), .second] [])) t → Steps p.tables e below (s₁.setTop (entryFrame m #[(.ref x0), (.long x1)] 3)) t := fun t k => castTop (ef_7 m x0 x1) k
  obtain ⟨T1, X1, e1, st1⟩ := getF X0 hx hZ hown (host := "") (Or.inl (hw _ (List.mem_of_getElem? (i := 24) rfl))) Via.refl e0 F_x0_lastBoundaryNanos (g := (mkF m 2 #[.val (.ref x0), .val (.long x1), .second] [(.ref x0), (.long x1)])) rfl rfl (hb hby d7_2)
  have pre2 : ∀ t, Steps p.tables e below (T1.setTop (mkF m 6 #[.val (.ref x0), .val (.long x1), .second] [(.int (own_cmp x1 w_lastBoundaryNanos_x0))])) t → Steps p.tables e below (s₁.setTop (entryFrame m #[(.ref x0), (.long x1)] 3)) t := by
    intro t k
    refine pre0 _ ?_
    show Steps p.tables e below (s₁.setTop (mkF m 0 #[.val (.ref x0), .val (.long x1), .second] [])) _
    refine XS.lloadN X0.here hx rfl (hb hby d7_0) rfl ?_
    show Steps p.tables e below (s₁.setTop (mkF m 1 #[.val (.ref x0), .val (.long x1), .second] [(.long x1)])) _
    refine XS.aloadN X0.here hx rfl (hb hby d7_1) rfl rfl ?_
    show Steps p.tables e below (s₁.setTop (mkF m 2 #[.val (.ref x0), .val (.long x1), .second] [(.ref x0), (.long x1)])) _
    refine st1 _ ?_
    show Steps p.tables e below (T1.setTop (mkF m 5 #[.val (.ref x0), .val (.long x1), .second] [(.long w_lastBoundaryNanos_x0), (.long x1)])) _
    refine own_xlcmp X1.here hx rfl (hb hby d7_5) rfl ?_
    exact k
  rcases Bool.eq_false_or_eq_true (ifCond.holds .lt (own_cmp x1 w_lastBoundaryNanos_x0)) with hc3 | hc3
  · obtain ⟨T4, X4, e4, st4⟩ := getF X1 hx hZ hown (host := "") (Or.inl (hw _ (List.mem_of_getElem? (i := 16) rfl))) Via.refl e1 F_x0_tickNanos (g := (mkF m 15 #[.val (.ref x0), .val (.long x1), .second] [(.ref x0), (.long x1)])) rfl rfl (hb hby d7_15)
    obtain ⟨fs, hr, hrun, hended, hW, hsame⟩ := X4.leave (v := some (.long (x1 + w_tickNanos_x0))) (fun h => by rw [hret] at h; cases h)
    refine ⟨_, _, pre2 _ ?_, hrun, hended, _, _, rfl, ?_, ⟨_, rfl⟩, hW, hsame.mono (by decide) (by decide)⟩
    · show Steps p.tables e below (T1.setTop (mkF m 6 #[.val (.ref x0), .val (.long x1), .second] [(.int (own_cmp x1 w_lastBoundaryNanos_x0))])) _
      refine XS.ifYes X1.here hx rfl (pc0 := 6) (pc' := 13) rfl (hb hby d7_6) rfl hc3 (by decide) (by decide) ?_
      show Steps p.tables e below (T1.setTop (mkF m 13 #[.val (.ref x0), .val (.long x1), .second] [])) _
      refine XS.lloadN X1.here hx rfl (hb hby d7_13) rfl ?_
      show Steps p.tables e below (T1.setTop (mkF m 14 #[.val (.ref x0), .val (.long x1), .second] [(.long x1)])) _
      refine XS.aloadN X1.here hx rfl (hb hby d7_14) rfl rfl ?_
      show Steps p.tables e below (T1.setTop (mkF m 15 #[.val (.ref x0), .val (.long x1), .second] [(.ref x0), (.long x1)])) _
      refine st4 _ ?_
      show Steps p.tables e below (T4.setTop (mkF m 18 #[.val (.ref x0), .val (.long x1), .second] [(.long w_tickNanos_x0), (.long x1)])) _
      refine XS.ladd X4.here hx rfl (hb hby d7_18) rfl ?_
      show Steps p.tables e below (T4.setTop (mkF m 19 #[.val (.ref x0), .val (.long x1), .second] [(.long (x1 + w_tickNanos_x0))])) _
      exact X4.lreturnOut hx hret (hb hby d7_19) hr
    · show Q7 Z x0 x1 w_lastBoundaryNanos_x0 w_tickNanos_x0 h0 n0 _ T4.heap _
      rw [e4]
      have rr : f7 x1 w_lastBoundaryNanos_x0 w_tickNanos_x0 = (x1 + w_tickNanos_x0) := if_pos hc3
      exact ⟨congrArg (fun z => some (Value.long z)) rr.symm, N0, rfl⟩
  · obtain ⟨fs, hr, hrun, hended, hW, hsame⟩ := X1.leave (v := some (.long (9223372036854775807 : Int64))) (fun h => by rw [hret] at h; cases h)
    refine ⟨_, _, pre2 _ ?_, hrun, hended, _, _, rfl, ?_, ⟨_, rfl⟩, hW, hsame.mono (by decide) (by decide)⟩
    · show Steps p.tables e below (T1.setTop (mkF m 6 #[.val (.ref x0), .val (.long x1), .second] [(.int (own_cmp x1 w_lastBoundaryNanos_x0))])) _
      refine XS.ifNo X1.here hx rfl (hb hby d7_6) rfl hc3 ?_
      show Steps p.tables e below (T1.setTop (mkF m 9 #[.val (.ref x0), .val (.long x1), .second] [])) _
      refine X1.ldc2Long hx hown (mvT hZ (hw _ (List.mem_of_getElem? (i := 13) rfl))) (g := (mkF m 9 #[.val (.ref x0), .val (.long x1), .second] [])) rfl (hb hby d7_9) _ ?_
      show Steps p.tables e below (T1.setTop (mkF m 12 #[.val (.ref x0), .val (.long x1), .second] [(.long (9223372036854775807 : Int64))])) _
      exact X1.lreturnOut hx hret (hb hby d7_12) hr
    · show Q7 Z x0 x1 w_lastBoundaryNanos_x0 w_tickNanos_x0 h0 n0 _ T1.heap _
      rw [e1]
      have rr : f7 x1 w_lastBoundaryNanos_x0 w_tickNanos_x0 = (9223372036854775807 : Int64) := if_neg (own_nt hc3)
      exact ⟨congrArg (fun z => some (Value.long z)) rr.symm, N0, rfl⟩
theorem pd_2 : parseMethodDescriptor "(JJ)V" = some ⟨[.long, .long], none⟩ := by decide +kernel
theorem pd_3 : parseMethodDescriptor "(J)J" = some ⟨[.long], some .long⟩ := by decide +kernel
theorem pd_4 : parseMethodDescriptor "(JJ)Z" = some ⟨[.long, .long], some .boolean⟩ := by decide +kernel
-- body 0: com/example/tick_wheel/tickwheel/wheel/TickGridBoundaryAfterPinLaw.law:(JJII)Z
theorem ef_0 (m : MethodId) (x0 : Int64) (x1 : Int64) (x2 : Int32) (x3 : Int32) : entryFrame m #[(.long x0), (.long x1), (.int x2), (.int x3)] maxLocals = mkF m 0 #[.val (.long x0), .second, .val (.long x1), .second, .val (.int x2), .val (.int x3), .unset, .unset, .unset, .unset, .unset, .unset, .unset, .unset, .unset, .unset, .unset, .unset, .unset, .unset, .unset, .unset, .unset] [] := by first | (simp [entryFrame, mkF, argsToLocals, Value.category, maxLocals]; done) | rfl
def f0_v3 (x0 : Int64) (x1 : Int64) (x2 : Int32) (x3 : Int32) : Int64 := (x1 &&& (9223372036854775807 : Int64))
def f0_j6 (x0 : Int64) (x1 : Int64) (x2 : Int32) (x3 : Int32) : Int64 := if ifCond.holds .ne (own_cmp (f0_v3 x0 x1 x2 x3) (0 : Int64)) = true then (f0_v3 x0 x1 x2 x3) else (1 : Int64)
def f0_v10 (x0 : Int64) (x1 : Int64) (x2 : Int32) (x3 : Int32) : Int32 := (x2 &&& (3 : Int32))
def f0_j13 (x0 : Int64) (x1 : Int64) (x2 : Int32) (x3 : Int32) : Int32 := if ifCond.holds .ne (x3 &&& (1 : Int32)) = true then (0 : Int32) else (1 : Int32)
def f0_v34 (x0 : Int64) (x1 : Int64) (x2 : Int32) (x3 : Int32) : Int64 := (f5 (9223372036854775807 : Int64) x0 (x0 + ((f1_v14 x0 (f0_j6 x0 x1 x2 x3)) * (f0_j6 x0 x1 x2 x3))))
def f0_v35 (x0 : Int64) (x1 : Int64) (x2 : Int32) (x3 : Int32) : Int64 := ((f0_v34 x0 x1 x2 x3) - x0)
def f0_v36 (x0 : Int64) (x1 : Int64) (x2 : Int32) (x3 : Int32) : Int64 := ((9223372036854775806 : Int64) - x0)
def f0_j37 (x0 : Int64) (x1 : Int64) (x2 : Int32) (x3 : Int32) : Int64 := if ifCond.holds .eq (f0_j13 x0 x1 x2 x3) = true then (f0_v35 x0 x1 x2 x3) else (f0_v36 x0 x1 x2 x3)
def f0_j38 (x0 : Int64) (x1 : Int64) (x2 : Int32) (x3 : Int32) : Int64 := if ifCond.holds .eq (f0_j13 x0 x1 x2 x3) = true then (f0_v34 x0 x1 x2 x3) else x0
def f0_j39 (x0 : Int64) (x1 : Int64) (x2 : Int32) (x3 : Int32) : Int64 := if ifCond.holds .eq (f0_j13 x0 x1 x2 x3) = true then (f0_v35 x0 x1 x2 x3) else (f0_v36 x0 x1 x2 x3)
def f0_v49 (x0 : Int64) (x1 : Int64) (x2 : Int32) (x3 : Int32) : Int64 := ((f0_j39 x0 x1 x2 x3) - (f0_j6 x0 x1 x2 x3))
def f0_j52 (x0 : Int64) (x1 : Int64) (x2 : Int32) (x3 : Int32) : Int64 := (if if_icmp.holds .lt (f0_v10 x0 x1 x2 x3) (1 : Int32) = true then (f0_j39 x0 x1 x2 x3) else (f0_v49 x0 x1 x2 x3))
def f0_v59 (x0 : Int64) (x1 : Int64) (x2 : Int32) (x3 : Int32) : Int64 := ((f0_j52 x0 x1 x2 x3) - (f0_j6 x0 x1 x2 x3))
def f0_j62 (x0 : Int64) (x1 : Int64) (x2 : Int32) (x3 : Int32) : Int64 := (if if_icmp.holds .lt (f0_v10 x0 x1 x2 x3) (2 : Int32) = true then (f0_j52 x0 x1 x2 x3) else (f0_v59 x0 x1 x2 x3))
def f0_v69 (x0 : Int64) (x1 : Int64) (x2 : Int32) (x3 : Int32) : Int64 := ((f0_j62 x0 x1 x2 x3) - (f0_j6 x0 x1 x2 x3))
def f0_j72 (x0 : Int64) (x1 : Int64) (x2 : Int32) (x3 : Int32) : Int64 := (if if_icmp.holds .lt (f0_v10 x0 x1 x2 x3) (3 : Int32) = true then (f0_j62 x0 x1 x2 x3) else (f0_v69 x0 x1 x2 x3))
def f0_v73 (x0 : Int64) (x1 : Int64) (x2 : Int32) (x3 : Int32) : Int64 := ((f0_j6 x0 x1 x2 x3) * ((f0_v10 x0 x1 x2 x3).toInt64))
def f0_j76 (x0 : Int64) (x1 : Int64) (x2 : Int32) (x3 : Int32) : Int64 := if ifCond.holds .eq (f0_j13 x0 x1 x2 x3) = true then ((f0_j38 x0 x1 x2 x3) - (f0_v73 x0 x1 x2 x3)) else ((f0_j38 x0 x1 x2 x3) + (f0_v73 x0 x1 x2 x3))
def f0_j83 (x0 : Int64) (x1 : Int64) (x2 : Int32) (x3 : Int32) : Int64 := if ifCond.holds .eq (f6 ((9223372036854775806 : Int64) - (f0_j76 x0 x1 x2 x3)) (f0_j6 x0 x1 x2 x3)) = true then (9223372036854775807 : Int64) else ((f0_j76 x0 x1 x2 x3) + (f0_j6 x0 x1 x2 x3))
def f0_j90 (x0 : Int64) (x1 : Int64) (x2 : Int32) (x3 : Int32) : Int32 := if ifCond.holds .ne (own_cmp (f7 (f0_j76 x0 x1 x2 x3) (x0 + ((f1_v14 x0 (f0_j6 x0 x1 x2 x3)) * (f0_j6 x0 x1 x2 x3))) (f0_j6 x0 x1 x2 x3)) (f0_j83 x0 x1 x2 x3)) = true then (0 : Int32) else (1 : Int32)
def f0_c65 (x0 : Int64) (x1 : Int64) (x2 : Int32) (x3 : Int32) : Int32 := (nar .boolean (f0_j90 x0 x1 x2 x3))
def f0_c55 (x0 : Int64) (x1 : Int64) (x2 : Int32) (x3 : Int32) : Int32 := (if if_icmp.holds .lt (f0_v10 x0 x1 x2 x3) (3 : Int32) = true then (f0_c65 x0 x1 x2 x3) else (if ifCond.holds .ne (f6 (f0_j62 x0 x1 x2 x3) (f0_j6 x0 x1 x2 x3)) = true then (f0_c65 x0 x1 x2 x3) else (1 : Int32)))
def f0_c45 (x0 : Int64) (x1 : Int64) (x2 : Int32) (x3 : Int32) : Int32 := (if if_icmp.holds .lt (f0_v10 x0 x1 x2 x3) (2 : Int32) = true then (f0_c55 x0 x1 x2 x3) else (if ifCond.holds .ne (f6 (f0_j52 x0 x1 x2 x3) (f0_j6 x0 x1 x2 x3)) = true then (f0_c55 x0 x1 x2 x3) else (1 : Int32)))
def f0 (x0 : Int64) (x1 : Int64) (x2 : Int32) (x3 : Int32) : Int32 := (if ifCond.holds .ne (own_cmp x0 (9223372036854775807 : Int64)) = true then (if if_icmp.holds .lt (f0_v10 x0 x1 x2 x3) (1 : Int32) = true then (f0_c45 x0 x1 x2 x3) else (if ifCond.holds .ne (f6 (f0_j39 x0 x1 x2 x3) (f0_j6 x0 x1 x2 x3)) = true then (f0_c45 x0 x1 x2 x3) else (1 : Int32))) else (1 : Int32))
theorem own_tick (x0 x1 : Int64) (x2 x3 : Int32) : (0 : Int64).toInt < (f0_j6 x0 x1 x2 x3).toInt := by
  have a1 : (x1 &&& (9223372036854775807 : Int64)).toInt = x1.toInt % 9223372036854775808 := c_maskL x1 9223372036854775807 63 (by decide) (by decide)
  have e0 : (0 : Int64).toInt = 0 := rfl
  have e1 : (1 : Int64).toInt = 1 := rfl
  unfold f0_j6 f0_v3
  simp only [own_cne]
  split <;> omega
def Q0 (Z : State) (x0 : Int64) (x1 : Int64) (x2 : Int32) (x3 : Int32) (h0 : Heap) (n0 : Nat) (v : Option Value) (h : Heap) (L : List Loc) : Prop := v = some (.int (f0 x0 x1 x2 x3)) ∧ Fr n0 L
set_option maxRecDepth 65536 in
set_option maxHeartbeats 40000000 in
theorem rm0 (l : Launch) (Z : State) (a0 : Array Value) (hw : ∀ d ∈ tables_1, d.before a0 Z = true) (ws : List Jvm.Cond) (x0 : Int64) (x1 : Int64) (x2 : Int32) (x3 : Int32) (h0 : Heap) (n0 : Nat) (Z0 : n0 ≤ h0.size) :
    MetFree l x (head1 (Jvm.Cond.code x code maxLocals ret :: ws) room_1) (fun a U => a = #[(.long x0), (.long x1), (.int x2), (.int x3)] ∧ Z.Warmed39 U.vm ∧ U.heap = h0) (fun _ _ _ _ _ => True) (fun _ U o U' => ∃ v L, o = .returned v ∧ Q0 Z x0 x1 x2 x3 h0 n0 v U'.heap L ∧ FrameEnd U o U' L 1 3) := by
  refine MetFree.of_bodySF (plainFor_of_name pn_2) hisR ?_
  intro p e s m args below meth c s₁ Bd hml0 hP hK0
  obtain ⟨rfl, hZ, hh⟩ := hP
  have hx := Bd.exec
  have hby := Bd.bytes
  have hml : c.maxLocals = 23 := hml0
  have hown : s.vm.findClass "com/example/tick_wheel/tickwheel/wheel/TickGridBoundaryAfterPinLaw" = some m.cls := findClass_of_methodNamed Bd.named
  have hnm := (name_of_methodNamed Bd.named Bd.method).1
  have hret : meth.sig.returnType = ret := Bd.returns
  have hlk : meth.locks = false := Bd.notSynchronized
  have X0 : Stand p l e room_1 s m #[(.long x0), (.long x1), (.int x2), (.int x3)] below meth c s₁ [] 0 0 := Stand.of_body Bd
  have e0 : s₁.heap = h0 := by rw [← hh, Bd.state]; rfl
  have N0 := Fr.nil n0
  have pre0 : ∀ t, Steps p.tables e below (s₁.setTop (mkF m 0 #[.val (.long x0), .second, .val (.long x1), .second, .val (.int x2), .val (.int x3), .unset, .unset, .unset, .unset, .unset, .unset, .unset, .unset, .unset, .unset, .unset, .unset, .unset, .unset, .unset, .unset, .unset] [])) t → Steps p.tables e below (s₁.setTop (entryFrame m #[(.long x0), (.long x1), (.int x2), (.int x3)] maxLocals)) t := fun t k => castTop (ef_0 m x0 x1 x2 x3) k
  have pre1 : ∀ t, Steps p.tables e below (s₁.setTop (mkF m 5 #[.val (.long x0), .second, .val (.long x1), .second, .val (.int x2), .val (.int x3), .unset, .unset, .unset, .unset, .unset, .unset, .unset, .unset, .unset, .unset, .unset, .unset, .unset, .unset, .unset, .unset, .unset] [(.int (own_cmp x0 (9223372036854775807 : Int64)))])) t → Steps p.tables e below (s₁.setTop (entryFrame m #[(.long x0), (.long x1), (.int x2), (.int x3)] maxLocals)) t := by
    intro t k
    refine pre0 _ ?_
    show Steps p.tables e below (s₁.setTop (mkF m 0 #[.val (.long x0), .second, .val (.long x1), .second, .val (.int x2), .val (.int x3), .unset, .unset, .unset, .unset, .unset, .unset, .unset, .unset, .unset, .unset, .unset, .unset, .unset, .unset, .unset, .unset, .unset] [])) _
    refine XS.lloadN X0.here hx rfl (hb hby at_0) rfl ?_
    show Steps p.tables e below (s₁.setTop (mkF m 1 #[.val (.long x0), .second, .val (.long x1), .second, .val (.int x2), .val (.int x3), .unset, .unset, .unset, .unset, .unset, .unset, .unset, .unset, .unset, .unset, .unset, .unset, .unset, .unset, .unset, .unset, .unset] [(.long x0)])) _
    refine X0.ldc2Long hx hown (mvT hZ (hw _ (List.mem_of_getElem? (i := 0) rfl))) (g := (mkF m 1 #[.val (.long x0), .second, .val (.long x1), .second, .val (.int x2), .val (.int x3), .unset, .unset, .unset, .unset, .unset, .unset, .unset, .unset, .unset, .unset, .unset, .unset, .unset, .unset, .unset, .unset, .unset] [(.long x0)])) rfl (hb hby at_1) _ ?_
    show Steps p.tables e below (s₁.setTop (mkF m 4 #[.val (.long x0), .second, .val (.long x1), .second, .val (.int x2), .val (.int x3), .unset, .unset, .unset, .unset, .unset, .unset, .unset, .unset, .unset, .unset, .unset, .unset, .unset, .unset, .unset, .unset, .unset] [(.long (9223372036854775807 : Int64)), (.long x0)])) _
    refine own_xlcmp X0.here hx rfl (hb hby at_4) rfl ?_
    exact k
  rcases Bool.eq_false_or_eq_true (ifCond.holds .ne (own_cmp x0 (9223372036854775807 : Int64))) with hc2 | hc2
  · have pre4 : ∀ t, Steps p.tables e below (s₁.setTop (mkF m 21 #[.val (.long x0), .second, .val (.long x1), .second, .val (.int x2), .val (.int x3), .val (.long (f0_v3 x0 x1 x2 x3)), .second, .unset, .unset, .unset, .unset, .unset, .unset, .unset, .unset, .unset, .unset, .unset, .unset, .unset, .unset, .unset] [(.int (own_cmp (f0_v3 x0 x1 x2 x3) (0 : Int64)))])) t → Steps p.tables e below (s₁.setTop (entryFrame m #[(.long x0), (.long x1), (.int x2), (.int x3)] maxLocals)) t := by
      intro t k
      refine pre1 _ ?_
      show Steps p.tables e below (s₁.setTop (mkF m 5 #[.val (.long x0), .second, .val (.long x1), .second, .val (.int x2), .val (.int x3), .unset, .unset, .unset, .unset, .unset, .unset, .unset, .unset, .unset, .unset, .unset, .unset, .unset, .unset, .unset, .unset, .unset] [(.int (own_cmp x0 (9223372036854775807 : Int64)))])) _
      refine XS.ifYes X0.here hx rfl (pc0 := 5) (pc' := 10) rfl (hb hby at_5) rfl hc2 (by decide) (by decide) ?_
      show Steps p.tables e below (s₁.setTop (mkF m 10 #[.val (.long x0), .second, .val (.long x1), .second, .val (.int x2), .val (.int x3), .unset, .unset, .unset, .unset, .unset, .unset, .unset, .unset, .unset, .unset, .unset, .unset, .unset, .unset, .unset, .unset, .unset] [])) _
      refine XS.lloadN X0.here hx rfl (hb hby at_10) rfl ?_
      show Steps p.tables e below (s₁.setTop (mkF m 11 #[.val (.long x0), .second, .val (.long x1), .second, .val (.int x2), .val (.int x3), .unset, .unset, .unset, .unset, .unset, .unset, .unset, .unset, .unset, .unset, .unset, .unset, .unset, .unset, .unset, .unset, .unset] [(.long x1)])) _
      refine X0.ldc2Long hx hown (mvT hZ (hw _ (List.mem_of_getElem? (i := 0) rfl))) (g := (mkF m 11 #[.val (.long x0), .second, .val (.long x1), .second, .val (.int x2), .val (.int x3), .unset, .unset, .unset, .unset, .unset, .unset, .unset, .unset, .unset, .unset, .unset, .unset, .unset, .unset, .unset, .unset, .unset] [(.long x1)])) rfl (hb hby at_11) _ ?_
      show Steps p.tables e below (s₁.setTop (mkF m 14 #[.val (.long x0), .second, .val (.long x1), .second, .val (.int x2), .val (.int x3), .unset, .unset, .unset, .unset, .unset, .unset, .unset, .unset, .unset, .unset, .unset, .unset, .unset, .unset, .unset, .unset, .unset] [(.long (9223372036854775807 : Int64)), (.long x1)])) _
      refine XS.land X0.here hx rfl (hb hby at_14) rfl ?_
      show Steps p.tables e below (s₁.setTop (mkF m 15 #[.val (.long x0), .second, .val (.long x1), .second, .val (.int x2), .val (.int x3), .unset, .unset, .unset, .unset, .unset, .unset, .unset, .unset, .unset, .unset, .unset, .unset, .unset, .unset, .unset, .unset, .unset] [(.long (x1 &&& (9223372036854775807 : Int64)))])) _
      refine XS.lstore X0.here hx rfl (hb hby at_15) rfl (l' := #[.val (.long x0), .second, .val (.long x1), .second, .val (.int x2), .val (.int x3), .val (.long (f0_v3 x0 x1 x2 x3)), .second, .unset, .unset, .unset, .unset, .unset, .unset, .unset, .unset, .unset, .unset, .unset, .unset, .unset, .unset, .unset]) rfl ?_
      show Steps p.tables e below (s₁.setTop (mkF m 17 #[.val (.long x0), .second, .val (.long x1), .second, .val (.int x2), .val (.int x3), .val (.long (f0_v3 x0 x1 x2 x3)), .second, .unset, .unset, .unset, .unset, .unset, .unset, .unset, .unset, .unset, .unset, .unset, .unset, .unset, .unset, .unset] [])) _
      refine XS.lload X0.here hx rfl (hb hby at_17) rfl ?_
      show Steps p.tables e below (s₁.setTop (mkF m 19 #[.val (.long x0), .second, .val (.long x1), .second, .val (.int x2), .val (.int x3), .val (.long (f0_v3 x0 x1 x2 x3)), .second, .unset, .unset, .unset, .unset, .unset, .unset, .unset, .unset, .unset, .unset, .unset, .unset, .unset, .unset, .unset] [(.long (f0_v3 x0 x1 x2 x3))])) _
      refine XS.lconst X0.here hx rfl (hb hby at_19) ?_
      show Steps p.tables e below (s₁.setTop (mkF m 20 #[.val (.long x0), .second, .val (.long x1), .second, .val (.int x2), .val (.int x3), .val (.long (f0_v3 x0 x1 x2 x3)), .second, .unset, .unset, .unset, .unset, .unset, .unset, .unset, .unset, .unset, .unset, .unset, .unset, .unset, .unset, .unset] [(.long (0 : Int64)), (.long (f0_v3 x0 x1 x2 x3))])) _
      refine own_xlcmp X0.here hx rfl (hb hby at_20) rfl ?_
      exact k
    obtain ⟨T7, L7, X7, N7, e7, pre7⟩ : ∃ (T' : State) (L' : List Loc), Stand p l e room_1 s m #[(.long x0), (.long x1), (.int x2), (.int x3)] below meth c T' L' 0 0 ∧ Fr n0 L' ∧ T'.heap = h0 ∧ ∀ t, Steps p.tables e below (T'.setTop (mkF m 27 #[.val (.long x0), .second, .val (.long x1), .second, .val (.int x2), .val (.int x3), .val (.long (f0_j6 x0 x1 x2 x3)), .second, .unset, .unset, .unset, .unset, .unset, .unset, .unset, .unset, .unset, .unset, .unset, .unset, .unset, .unset, .unset] [])) t → Steps p.tables e below (s₁.setTop (entryFrame m #[(.long x0), (.long x1), (.int x2), (.int x3)] maxLocals)) t := by
      rcases Bool.eq_false_or_eq_true (ifCond.holds .ne (own_cmp (f0_v3 x0 x1 x2 x3) (0 : Int64))) with hc5 | hc5
      · have pre8 : ∀ t, Steps p.tables e below (s₁.setTop (mkF m 27 #[.val (.long x0), .second, .val (.long x1), .second, .val (.int x2), .val (.int x3), .val (.long (f0_v3 x0 x1 x2 x3)), .second, .unset, .unset, .unset, .unset, .unset, .unset, .unset, .unset, .unset, .unset, .unset, .unset, .unset, .unset, .unset] [])) t → Steps p.tables e below (s₁.setTop (entryFrame m #[(.long x0), (.long x1), (.int x2), (.int x3)] maxLocals)) t := by
          intro t k
          refine pre4 _ ?_
          show Steps p.tables e below (s₁.setTop (mkF m 21 #[.val (.long x0), .second, .val (.long x1), .second, .val (.int x2), .val (.int x3), .val (.long (f0_v3 x0 x1 x2 x3)), .second, .unset, .unset, .unset, .unset, .unset, .unset, .unset, .unset, .unset, .unset, .unset, .unset, .unset, .unset, .unset] [(.int (own_cmp (f0_v3 x0 x1 x2 x3) (0 : Int64)))])) _
          refine XS.ifYes X0.here hx rfl (pc0 := 21) (pc' := 27) rfl (hb hby at_21) rfl hc5 (by decide) (by decide) ?_
          exact k
        have qj0 : (f0_j6 x0 x1 x2 x3) = (f0_v3 x0 x1 x2 x3) := if_pos hc5
        refine ⟨s₁, _, X0, N0, e0, fun t k => pre8 _ ?_⟩
        rw [qj0] at k
        exact k
      · have pre9 : ∀ t, Steps p.tables e below (s₁.setTop (mkF m 27 #[.val (.long x0), .second, .val (.long x1), .second, .val (.int x2), .val (.int x3), .val (.long (1 : Int64)), .second, .unset, .unset, .unset, .unset, .unset, .unset, .unset, .unset, .unset, .unset, .unset, .unset, .unset, .unset, .unset] [])) t → Steps p.tables e below (s₁.setTop (entryFrame m #[(.long x0), (.long x1), (.int x2), (.int x3)] maxLocals)) t := by
          intro t k
          refine pre4 _ ?_
          show Steps p.tables e below (s₁.setTop (mkF m 21 #[.val (.long x0), .second, .val (.long x1), .second, .val (.int x2), .val (.int x3), .val (.long (f0_v3 x0 x1 x2 x3)), .second, .unset, .unset, .unset, .unset, .unset, .unset, .unset, .unset, .unset, .unset, .unset, .unset, .unset, .unset, .unset] [(.int (own_cmp (f0_v3 x0 x1 x2 x3) (0 : Int64)))])) _
          refine XS.ifNo X0.here hx rfl (hb hby at_21) rfl hc5 ?_
          show Steps p.tables e below (s₁.setTop (mkF m 24 #[.val (.long x0), .second, .val (.long x1), .second, .val (.int x2), .val (.int x3), .val (.long (f0_v3 x0 x1 x2 x3)), .second, .unset, .unset, .unset, .unset, .unset, .unset, .unset, .unset, .unset, .unset, .unset, .unset, .unset, .unset, .unset] [])) _
          refine XS.lconst X0.here hx rfl (hb hby at_24) ?_
          show Steps p.tables e below (s₁.setTop (mkF m 25 #[.val (.long x0), .second, .val (.long x1), .second, .val (.int x2), .val (.int x3), .val (.long (f0_v3 x0 x1 x2 x3)), .second, .unset, .unset, .unset, .unset, .unset, .unset, .unset, .unset, .unset, .unset, .unset, .unset, .unset, .unset, .unset] [(.long (1 : Int64))])) _
          refine XS.lstore X0.here hx rfl (hb hby at_25) rfl (l' := #[.val (.long x0), .second, .val (.long x1), .second, .val (.int x2), .val (.int x3), .val (.long (1 : Int64)), .second, .unset, .unset, .unset, .unset, .unset, .unset, .unset, .unset, .unset, .unset, .unset, .unset, .unset, .unset, .unset]) rfl ?_
          exact k
        have qj0 : (f0_j6 x0 x1 x2 x3) = (1 : Int64) := if_neg (own_nt hc5)
        refine ⟨s₁, _, X0, N0, e0, fun t k => pre9 _ ?_⟩
        rw [qj0] at k
        exact k
    have pre11 : ∀ t, Steps p.tables e below (T7.setTop (mkF m 37 #[.val (.long x0), .second, .val (.long x1), .second, .val (.int x2), .val (.int x3), .val (.long (f0_j6 x0 x1 x2 x3)), .second, .val (.int (f0_v10 x0 x1 x2 x3)), .unset, .unset, .unset, .unset, .unset, .unset, .unset, .unset, .unset, .unset, .unset, .unset, .unset, .unset] [(.int (x3 &&& (1 : Int32)))])) t → Steps p.tables e below (s₁.setTop (entryFrame m #[(.long x0), (.long x1), (.int x2), (.int x3)] maxLocals)) t := by
      intro t k
      refine pre7 _ ?_
      show Steps p.tables e below (T7.setTop (mkF m 27 #[.val (.long x0), .second, .val (.long x1), .second, .val (.int x2), .val (.int x3), .val (.long (f0_j6 x0 x1 x2 x3)), .second, .unset, .unset, .unset, .unset, .unset, .unset, .unset, .unset, .unset, .unset, .unset, .unset, .unset, .unset, .unset] [])) _
      refine XS.iload X7.here hx rfl (hb hby at_27) rfl ?_
      show Steps p.tables e below (T7.setTop (mkF m 29 #[.val (.long x0), .second, .val (.long x1), .second, .val (.int x2), .val (.int x3), .val (.long (f0_j6 x0 x1 x2 x3)), .second, .unset, .unset, .unset, .unset, .unset, .unset, .unset, .unset, .unset, .unset, .unset, .unset, .unset, .unset, .unset] [(.int x2)])) _
      refine XS.iconst X7.here hx rfl (hb hby at_29) ?_
      show Steps p.tables e below (T7.setTop (mkF m 30 #[.val (.long x0), .second, .val (.long x1), .second, .val (.int x2), .val (.int x3), .val (.long (f0_j6 x0 x1 x2 x3)), .second, .unset, .unset, .unset, .unset, .unset, .unset, .unset, .unset, .unset, .unset, .unset, .unset, .unset, .unset, .unset] [(.int (3 : Int32)), (.int x2)])) _
      refine XS.iand X7.here hx rfl (hb hby at_30) rfl ?_
      show Steps p.tables e below (T7.setTop (mkF m 31 #[.val (.long x0), .second, .val (.long x1), .second, .val (.int x2), .val (.int x3), .val (.long (f0_j6 x0 x1 x2 x3)), .second, .unset, .unset, .unset, .unset, .unset, .unset, .unset, .unset, .unset, .unset, .unset, .unset, .unset, .unset, .unset] [(.int (x2 &&& (3 : Int32)))])) _
      refine XS.istore X7.here hx rfl (hb hby at_31) rfl (l' := #[.val (.long x0), .second, .val (.long x1), .second, .val (.int x2), .val (.int x3), .val (.long (f0_j6 x0 x1 x2 x3)), .second, .val (.int (f0_v10 x0 x1 x2 x3)), .unset, .unset, .unset, .unset, .unset, .unset, .unset, .unset, .unset, .unset, .unset, .unset, .unset, .unset]) rfl ?_
      show Steps p.tables e below (T7.setTop (mkF m 33 #[.val (.long x0), .second, .val (.long x1), .second, .val (.int x2), .val (.int x3), .val (.long (f0_j6 x0 x1 x2 x3)), .second, .val (.int (f0_v10 x0 x1 x2 x3)), .unset, .unset, .unset, .unset, .unset, .unset, .unset, .unset, .unset, .unset, .unset, .unset, .unset, .unset] [])) _
      refine XS.iload X7.here hx rfl (hb hby at_33) rfl ?_
      show Steps p.tables e below (T7.setTop (mkF m 35 #[.val (.long x0), .second, .val (.long x1), .second, .val (.int x2), .val (.int x3), .val (.long (f0_j6 x0 x1 x2 x3)), .second, .val (.int (f0_v10 x0 x1 x2 x3)), .unset, .unset, .unset, .unset, .unset, .unset, .unset, .unset, .unset, .unset, .unset, .unset, .unset, .unset] [(.int x3)])) _
      refine XS.iconst X7.here hx rfl (hb hby at_35) ?_
      show Steps p.tables e below (T7.setTop (mkF m 36 #[.val (.long x0), .second, .val (.long x1), .second, .val (.int x2), .val (.int x3), .val (.long (f0_j6 x0 x1 x2 x3)), .second, .val (.int (f0_v10 x0 x1 x2 x3)), .unset, .unset, .unset, .unset, .unset, .unset, .unset, .unset, .unset, .unset, .unset, .unset, .unset, .unset] [(.int (1 : Int32)), (.int x3)])) _
      refine XS.iand X7.here hx rfl (hb hby at_36) rfl ?_
      exact k
    obtain ⟨T14, L14, X14, N14, e14, pre14⟩ : ∃ (T' : State) (L' : List Loc), Stand p l e room_1 s m #[(.long x0), (.long x1), (.int x2), (.int x3)] below meth c T' L' 0 0 ∧ Fr n0 L' ∧ T'.heap = h0 ∧ ∀ t, Steps p.tables e below (T'.setTop (mkF m 45 #[.val (.long x0), .second, .val (.long x1), .second, .val (.int x2), .val (.int x3), .val (.long (f0_j6 x0 x1 x2 x3)), .second, .val (.int (f0_v10 x0 x1 x2 x3)), .unset, .unset, .unset, .unset, .unset, .unset, .unset, .unset, .unset, .unset, .unset, .unset, .unset, .unset] [(.int (f0_j13 x0 x1 x2 x3))])) t → Steps p.tables e below (s₁.setTop (entryFrame m #[(.long x0), (.long x1), (.int x2), (.int x3)] maxLocals)) t := by
      rcases Bool.eq_false_or_eq_true (ifCond.holds .ne (x3 &&& (1 : Int32))) with hc12 | hc12
      · have pre15 : ∀ t, Steps p.tables e below (T7.setTop (mkF m 45 #[.val (.long x0), .second, .val (.long x1), .second, .val (.int x2), .val (.int x3), .val (.long (f0_j6 x0 x1 x2 x3)), .second, .val (.int (f0_v10 x0 x1 x2 x3)), .unset, .unset, .unset, .unset, .unset, .unset, .unset, .unset, .unset, .unset, .unset, .unset, .unset, .unset] [(.int (0 : Int32))])) t → Steps p.tables e below (s₁.setTop (entryFrame m #[(.long x0), (.long x1), (.int x2), (.int x3)] maxLocals)) t := by
          intro t k
          refine pre11 _ ?_
          show Steps p.tables e below (T7.setTop (mkF m 37 #[.val (.long x0), .second, .val (.long x1), .second, .val (.int x2), .val (.int x3), .val (.long (f0_j6 x0 x1 x2 x3)), .second, .val (.int (f0_v10 x0 x1 x2 x3)), .unset, .unset, .unset, .unset, .unset, .unset, .unset, .unset, .unset, .unset, .unset, .unset, .unset, .unset] [(.int (x3 &&& (1 : Int32)))])) _
          refine XS.ifYes X7.here hx rfl (pc0 := 37) (pc' := 44) rfl (hb hby at_37) rfl hc12 (by decide) (by decide) ?_
          show Steps p.tables e below (T7.setTop (mkF m 44 #[.val (.long x0), .second, .val (.long x1), .second, .val (.int x2), .val (.int x3), .val (.long (f0_j6 x0 x1 x2 x3)), .second, .val (.int (f0_v10 x0 x1 x2 x3)), .unset, .unset, .unset, .unset, .unset, .unset, .unset, .unset, .unset, .unset, .unset, .unset, .unset, .unset] [])) _
          refine XS.iconst X7.here hx rfl (hb hby at_44) ?_
          exact k
        have qj0 : (f0_j13 x0 x1 x2 x3) = (0 : Int32) := if_pos hc12
        refine ⟨T7, _, X7, N7, e7, fun t k => pre15 _ ?_⟩
        rw [qj0] at k
        exact k
      · have pre16 : ∀ t, Steps p.tables e below (T7.setTop (mkF m 45 #[.val (.long x0), .second, .val (.long x1), .second, .val (.int x2), .val (.int x3), .val (.long (f0_j6 x0 x1 x2 x3)), .second, .val (.int (f0_v10 x0 x1 x2 x3)), .unset, .unset, .unset, .unset, .unset, .unset, .unset, .unset, .unset, .unset, .unset, .unset, .unset, .unset] [(.int (1 : Int32))])) t → Steps p.tables e below (s₁.setTop (entryFrame m #[(.long x0), (.long x1), (.int x2), (.int x3)] maxLocals)) t := by
          intro t k
          refine pre11 _ ?_
          show Steps p.tables e below (T7.setTop (mkF m 37 #[.val (.long x0), .second, .val (.long x1), .second, .val (.int x2), .val (.int x3), .val (.long (f0_j6 x0 x1 x2 x3)), .second, .val (.int (f0_v10 x0 x1 x2 x3)), .unset, .unset, .unset, .unset, .unset, .unset, .unset, .unset, .unset, .unset, .unset, .unset, .unset, .unset] [(.int (x3 &&& (1 : Int32)))])) _
          refine XS.ifNo X7.here hx rfl (hb hby at_37) rfl hc12 ?_
          show Steps p.tables e below (T7.setTop (mkF m 40 #[.val (.long x0), .second, .val (.long x1), .second, .val (.int x2), .val (.int x3), .val (.long (f0_j6 x0 x1 x2 x3)), .second, .val (.int (f0_v10 x0 x1 x2 x3)), .unset, .unset, .unset, .unset, .unset, .unset, .unset, .unset, .unset, .unset, .unset, .unset, .unset, .unset] [])) _
          refine XS.iconst X7.here hx rfl (hb hby at_40) ?_
          show Steps p.tables e below (T7.setTop (mkF m 41 #[.val (.long x0), .second, .val (.long x1), .second, .val (.int x2), .val (.int x3), .val (.long (f0_j6 x0 x1 x2 x3)), .second, .val (.int (f0_v10 x0 x1 x2 x3)), .unset, .unset, .unset, .unset, .unset, .unset, .unset, .unset, .unset, .unset, .unset, .unset, .unset, .unset] [(.int (1 : Int32))])) _
          refine XS.goto X7.here hx rfl (pc0 := 41) (pc' := 45) rfl (hb hby at_41) (by decide) (by decide) ?_
          exact k
        have qj0 : (f0_j13 x0 x1 x2 x3) = (1 : Int32) := if_neg (own_nt hc12)
        refine ⟨T7, _, X7, N7, e7, fun t k => pre16 _ ?_⟩
        rw [qj0] at k
        exact k
    obtain ⟨T17, h17, X17, e17, E17, A17, D17, -, st17⟩ := newO X14 hx hZ hown (hw _ (List.mem_of_getElem? (i := 1) rfl)) (hw _ (List.mem_of_getElem? (i := 2) rfl)) (hw _ (List.mem_of_getElem? (i := 3) rfl)) e14 (g := (mkF m 47 #[.val (.long x0), .second, .val (.long x1), .second, .val (.int x2), .val (.int x3), .val (.long (f0_j6 x0 x1 x2 x3)), .second, .val (.int (f0_v10 x0 x1 x2 x3)), .val (.int (f0_j13 x0 x1 x2 x3)), .unset, .unset, .unset, .unset, .unset, .unset, .unset, .unset, .unset, .unset, .unset, .unset, .unset] [])) rfl (hb hby at_47) (by decide) (by decide)
    obtain ⟨b17, gg17⟩ : ∃ z, z = h0.size := ⟨_, rfl⟩
    rw [← gg17] at A17 D17 st17
    have g_b17 : n0 ≤ b17 := Nat.le_trans Z0 (Nat.le_of_eq gg17.symm)
    have Z17 : n0 ≤ h17.size := Nat.le_trans Z0 E17.1
    have P18 : Fld Z h17 b17 "com/example/tick_wheel/tickwheel/wheel/TickGrid" "startNanos" "J" (.long (0 : Int64)) := D17 (Or.inr (hw _ (List.mem_of_getElem? (i := 15) rfl))) (ty := .long) (by decide)
    have P19 : Fld Z h17 b17 "com/example/tick_wheel/tickwheel/wheel/TickGrid" "tickNanos" "J" (.long (0 : Int64)) := D17 (Or.inr (hw _ (List.mem_of_getElem? (i := 17) rfl))) (ty := .long) (by decide)
    have P20 : Fld Z h17 b17 "com/example/tick_wheel/tickwheel/wheel/TickGrid" "lastBoundaryNanos" "J" (.long (0 : Int64)) := D17 (Or.inr (hw _ (List.mem_of_getElem? (i := 25) rfl))) (ty := .long) (by decide)
    obtain ⟨_, _, ⟨T21, L21, k21, n21⟩, -, X21, ⟨Lc21, hQ21, l21, y21, z21⟩, st21⟩ := X17.specialBack hx (y := (⟨"com/example/tick_wheel/tickwheel/wheel/TickGrid", "<init>", "(JJ)V"⟩ : MethodName)) rfl hown (mvT hZ (hw _ (List.mem_of_getElem? (i := 4) rfl))) (mvT hZ (hw _ (List.mem_of_getElem? (i := 5) rfl))) (mvT hZ (hw _ (List.mem_of_getElem? (i := 6) rfl))) (by decide) (backOf (W := 1) (rm1 l Z a0 hw [] b17 x0 (f0_j6 x0 x1 x2 x3) (.long (0 : Int64)) (.long (0 : Int64)) (.long (0 : Int64)) h17 n0 Z17 A17 g_b17 P18 P19 P20 (own_tick x0 x1 x2 x3) ((own_cne _ _).mp hc2)) hZ (hw _ (List.mem_of_getElem? (i := 6) rfl)) (hw _ (List.mem_of_getElem? (i := 3) rfl)) (by decide) (by decide)) (g := (mkF m 54 #[.val (.long x0), .second, .val (.long x1), .second, .val (.int x2), .val (.int x3), .val (.long (f0_j6 x0 x1 x2 x3)), .second, .val (.int (f0_v10 x0 x1 x2 x3)), .val (.int (f0_j13 x0 x1 x2 x3)), .unset, .unset, .unset, .unset, .unset, .unset, .unset, .unset, .unset, .unset, .unset, .unset, .unset] [(.long (f0_j6 x0 x1 x2 x3)), (.long x0), (.ref b17), (.ref b17)])) rfl (by rw [hml]; rfl) (Steps.refl _) (a := b17) (argsL := [(.long x0), (.long (f0_j6 x0 x1 x2 x3))]) (rest := [(.ref b17)]) (lenOf pd_2 rfl) rfl (by show 2 * 0 + _ ≤ _; exact Nat.le_of_eq rfl) (hb hby at_54) (fun _ _ => ⟨rfl, e17, (by decide : 1 + 0 ≤ _), (by decide : 3 + 0 ≤ _)⟩)
    dsimp only [Pt.U, Pt.locs, Pt.cells, Pt.slots] at X21 l21 y21 z21 st21 hQ21
    subst l21 y21 z21
    obtain ⟨rfl, Nq21, Kq21, G21_0, G21_1, G21_2, G21_3⟩ := hQ21
    obtain ⟨h21, e21⟩ : ∃ z, T21.heap = z := ⟨_, rfl⟩
    rw [e21] at Kq21 G21_0 G21_1 G21_2 G21_3
    have N21 := Fr.app N14 Nq21
    have Z21 : n0 ≤ h21.size := Nat.le_trans Z17 Kq21.1
    have P22 := A17.keep Kq21
    have pre23 : ∀ t, Steps p.tables e below (T21.setTop (mkF m 61 #[.val (.long x0), .second, .val (.long x1), .second, .val (.int x2), .val (.int x3), .val (.long (f0_j6 x0 x1 x2 x3)), .second, .val (.int (f0_v10 x0 x1 x2 x3)), .val (.int (f0_j13 x0 x1 x2 x3)), .val (.ref b17), .unset, .unset, .unset, .unset, .unset, .unset, .unset, .unset, .unset, .unset, .unset, .unset] [(.int (f0_j13 x0 x1 x2 x3))])) t → Steps p.tables e below (s₁.setTop (entryFrame m #[(.long x0), (.long x1), (.int x2), (.int x3)] maxLocals)) t := by
      intro t k
      refine pre14 _ ?_
      show Steps p.tables e below (T14.setTop (mkF m 45 #[.val (.long x0), .second, .val (.long x1), .second, .val (.int x2), .val (.int x3), .val (.long (f0_j6 x0 x1 x2 x3)), .second, .val (.int (f0_v10 x0 x1 x2 x3)), .unset, .unset, .unset, .unset, .unset, .unset, .unset, .unset, .unset, .unset, .unset, .unset, .unset, .unset] [(.int (f0_j13 x0 x1 x2 x3))])) _
      refine XS.istore X14.here hx rfl (hb hby at_45) rfl (l' := #[.val (.long x0), .second, .val (.long x1), .second, .val (.int x2), .val (.int x3), .val (.long (f0_j6 x0 x1 x2 x3)), .second, .val (.int (f0_v10 x0 x1 x2 x3)), .val (.int (f0_j13 x0 x1 x2 x3)), .unset, .unset, .unset, .unset, .unset, .unset, .unset, .unset, .unset, .unset, .unset, .unset, .unset]) rfl ?_
      show Steps p.tables e below (T14.setTop (mkF m 47 #[.val (.long x0), .second, .val (.long x1), .second, .val (.int x2), .val (.int x3), .val (.long (f0_j6 x0 x1 x2 x3)), .second, .val (.int (f0_v10 x0 x1 x2 x3)), .val (.int (f0_j13 x0 x1 x2 x3)), .unset, .unset, .unset, .unset, .unset, .unset, .unset, .unset, .unset, .unset, .unset, .unset, .unset] [])) _
      refine st17 _ ?_
      show Steps p.tables e below (T17.setTop (mkF m 50 #[.val (.long x0), .second, .val (.long x1), .second, .val (.int x2), .val (.int x3), .val (.long (f0_j6 x0 x1 x2 x3)), .second, .val (.int (f0_v10 x0 x1 x2 x3)), .val (.int (f0_j13 x0 x1 x2 x3)), .unset, .unset, .unset, .unset, .unset, .unset, .unset, .unset, .unset, .unset, .unset, .unset, .unset] [(.ref b17)])) _
      refine XS.dup X17.here hx rfl (hb hby at_50) rfl rfl ?_
      show Steps p.tables e below (T17.setTop (mkF m 51 #[.val (.long x0), .second, .val (.long x1), .second, .val (.int x2), .val (.int x3), .val (.long (f0_j6 x0 x1 x2 x3)), .second, .val (.int (f0_v10 x0 x1 x2 x3)), .val (.int (f0_j13 x0 x1 x2 x3)), .unset, .unset, .unset, .unset, .unset, .unset, .unset, .unset, .unset, .unset, .unset, .unset, .unset] [(.ref b17), (.ref b17)])) _
      refine XS.lloadN X17.here hx rfl (hb hby at_51) rfl ?_
      show Steps p.tables e below (T17.setTop (mkF m 52 #[.val (.long x0), .second, .val (.long x1), .second, .val (.int x2), .val (.int x3), .val (.long (f0_j6 x0 x1 x2 x3)), .second, .val (.int (f0_v10 x0 x1 x2 x3)), .val (.int (f0_j13 x0 x1 x2 x3)), .unset, .unset, .unset, .unset, .unset, .unset, .unset, .unset, .unset, .unset, .unset, .unset, .unset] [(.long x0), (.ref b17), (.ref b17)])) _
      refine XS.lload X17.here hx rfl (hb hby at_52) rfl ?_
      show Steps p.tables e below (T17.setTop (mkF m 54 #[.val (.long x0), .second, .val (.long x1), .second, .val (.int x2), .val (.int x3), .val (.long (f0_j6 x0 x1 x2 x3)), .second, .val (.int (f0_v10 x0 x1 x2 x3)), .val (.int (f0_j13 x0 x1 x2 x3)), .unset, .unset, .unset, .unset, .unset, .unset, .unset, .unset, .unset, .unset, .unset, .unset, .unset] [(.long (f0_j6 x0 x1 x2 x3)), (.long x0), (.ref b17), (.ref b17)])) _
      refine st21.trans ?_
      show Steps p.tables e below (T21.setTop (mkF m 57 #[.val (.long x0), .second, .val (.long x1), .second, .val (.int x2), .val (.int x3), .val (.long (f0_j6 x0 x1 x2 x3)), .second, .val (.int (f0_v10 x0 x1 x2 x3)), .val (.int (f0_j13 x0 x1 x2 x3)), .unset, .unset, .unset, .unset, .unset, .unset, .unset, .unset, .unset, .unset, .unset, .unset, .unset] [(.ref b17)])) _
      refine XS.astore X21.here hx rfl (hb hby at_57) rfl rfl (l' := #[.val (.long x0), .second, .val (.long x1), .second, .val (.int x2), .val (.int x3), .val (.long (f0_j6 x0 x1 x2 x3)), .second, .val (.int (f0_v10 x0 x1 x2 x3)), .val (.int (f0_j13 x0 x1 x2 x3)), .val (.ref b17), .unset, .unset, .unset, .unset, .unset, .unset, .unset, .unset, .unset, .unset, .unset, .unset]) rfl ?_
      show Steps p.tables e below (T21.setTop (mkF m 59 #[.val (.long x0), .second, .val (.long x1), .second, .val (.int x2), .val (.int x3), .val (.long (f0_j6 x0 x1 x2 x3)), .second, .val (.int (f0_v10 x0 x1 x2 x3)), .val (.int (f0_j13 x0 x1 x2 x3)), .val (.ref b17), .unset, .unset, .unset, .unset, .unset, .unset, .unset, .unset, .unset, .unset, .unset, .unset] [])) _
      refine XS.iload X21.here hx rfl (hb hby at_59) rfl ?_
      exact k
    obtain ⟨T40, L40, X40, N40, e40, pre40⟩ : ∃ (T' : State) (L' : List Loc), Stand p l e room_1 s m #[(.long x0), (.long x1), (.int x2), (.int x3)] below meth c T' L' 1 3 ∧ Fr n0 L' ∧ T'.heap = h21 ∧ ∀ t, Steps p.tables e below (T'.setTop (mkF m 101 #[.val (.long x0), .second, .val (.long x1), .second, .val (.int x2), .val (.int x3), .val (.long (f0_j6 x0 x1 x2 x3)), .second, .val (.int (f0_v10 x0 x1 x2 x3)), .val (.int (f0_j13 x0 x1 x2 x3)), .val (.ref b17), .val (.long (f0_j37 x0 x1 x2 x3)), .second, .val (.long (f0_j38 x0 x1 x2 x3)), .second, .val (.long (f0_j39 x0 x1 x2 x3)), .second, .unset, .unset, .unset, .unset, .unset, .unset] [])) t → Steps p.tables e below (s₁.setTop (entryFrame m #[(.long x0), (.long x1), (.int x2), (.int x3)] maxLocals)) t := by
      rcases Bool.eq_false_or_eq_true (ifCond.holds .eq (f0_j13 x0 x1 x2 x3)) with hc24 | hc24
      · obtain ⟨cq33, kq33, q33a, q33b, q33c⟩ := isOf hZ e21 G21_0
        obtain ⟨_, _, ⟨T33, L33, k33, n33⟩, -, X33, ⟨Lc33, hQ33, l33, y33, z33⟩, st33⟩ := X21.virtualBack hx (y := (⟨"com/example/tick_wheel/tickwheel/wheel/TickGrid", "boundaryAtOrBefore", "(J)J"⟩ : MethodName)) (z := (⟨"com/example/tick_wheel/tickwheel/wheel/TickGrid", "boundaryAtOrBefore", "(J)J"⟩ : MethodName)) hown (mvT hZ (hw _ (List.mem_of_getElem? (i := 26) rfl))) (mvT hZ (hw _ (List.mem_of_getElem? (i := 27) rfl))) (notFace_of_selects (args := #[]) (mvT hZ (hw _ (List.mem_of_getElem? (i := 29) rfl)))) (mvT hZ (hw _ (List.mem_of_getElem? (i := 29) rfl))) (mvT hZ (hw _ (List.mem_of_getElem? (i := 28) rfl))) (by decide) (backOf (W := 0) (rm5 l Z a0 hw [] b17 (9223372036854775807 : Int64) x0 (x0 + ((f1_v14 x0 (f0_j6 x0 x1 x2 x3)) * (f0_j6 x0 x1 x2 x3))) h21 n0 Z21 G21_1 G21_3 (own_max _) (own_max _)) hZ (hw _ (List.mem_of_getElem? (i := 30) rfl)) (hw _ (List.mem_of_getElem? (i := 3) rfl)) (by decide) (by decide)) q33a q33c (g := (mkF m 82 #[.val (.long x0), .second, .val (.long x1), .second, .val (.int x2), .val (.int x3), .val (.long (f0_j6 x0 x1 x2 x3)), .second, .val (.int (f0_v10 x0 x1 x2 x3)), .val (.int (f0_j13 x0 x1 x2 x3)), .val (.ref b17), .unset, .unset, .unset, .unset, .unset, .unset, .unset, .unset, .unset, .unset, .unset, .unset] [(.long (9223372036854775807 : Int64)), (.ref b17)])) rfl (by rw [hml]; rfl) (Steps.refl _) (argsL := [(.long (9223372036854775807 : Int64))]) (rest := []) (lenOf pd_3 rfl) rfl (by show 2 * 0 + _ ≤ _; exact Nat.le_of_eq rfl) (hb hby at_82) (fun _ _ => ⟨rfl, e21, (by decide : 1 + 0 ≤ _), (by decide : 3 + 0 ≤ _)⟩)
        dsimp only [Pt.U, Pt.locs, Pt.cells, Pt.slots] at X33 l33 y33 z33 st33 hQ33
        subst l33 y33 z33
        obtain ⟨rfl, Nq33, e33⟩ := hQ33
        have N33 := Fr.app N21 Nq33
        have pre41 : ∀ t, Steps p.tables e below (T33.setTop (mkF m 101 #[.val (.long x0), .second, .val (.long x1), .second, .val (.int x2), .val (.int x3), .val (.long (f0_j6 x0 x1 x2 x3)), .second, .val (.int (f0_v10 x0 x1 x2 x3)), .val (.int (f0_j13 x0 x1 x2 x3)), .val (.ref b17), .val (.long (f0_v35 x0 x1 x2 x3)), .second, .val (.long (f0_v34 x0 x1 x2 x3)), .second, .val (.long (f0_v35 x0 x1 x2 x3)), .second, .unset, .unset, .unset, .unset, .unset, .unset] [])) t → Steps p.tables e below (s₁.setTop (entryFrame m #[(.long x0), (.long x1), (.int x2), (.int x3)] maxLocals)) t := by
          intro t k
          refine pre23 _ ?_
          show Steps p.tables e below (T21.setTop (mkF m 61 #[.val (.long x0), .second, .val (.long x1), .second, .val (.int x2), .val (.int x3), .val (.long (f0_j6 x0 x1 x2 x3)), .second, .val (.int (f0_v10 x0 x1 x2 x3)), .val (.int (f0_j13 x0 x1 x2 x3)), .val (.ref b17), .unset, .unset, .unset, .unset, .unset, .unset, .unset, .unset, .unset, .unset, .unset, .unset] [(.int (f0_j13 x0 x1 x2 x3))])) _
          refine XS.ifYes X21.here hx rfl (pc0 := 61) (pc' := 77) rfl (hb hby at_61) rfl hc24 (by decide) (by decide) ?_
          show Steps p.tables e below (T21.setTop (mkF m 77 #[.val (.long x0), .second, .val (.long x1), .second, .val (.int x2), .val (.int x3), .val (.long (f0_j6 x0 x1 x2 x3)), .second, .val (.int (f0_v10 x0 x1 x2 x3)), .val (.int (f0_j13 x0 x1 x2 x3)), .val (.ref b17), .unset, .unset, .unset, .unset, .unset, .unset, .unset, .unset, .unset, .unset, .unset, .unset] [])) _
          refine XS.aload X21.here hx rfl (hb hby at_77) rfl rfl ?_
          show Steps p.tables e below (T21.setTop (mkF m 79 #[.val (.long x0), .second, .val (.long x1), .second, .val (.int x2), .val (.int x3), .val (.long (f0_j6 x0 x1 x2 x3)), .second, .val (.int (f0_v10 x0 x1 x2 x3)), .val (.int (f0_j13 x0 x1 x2 x3)), .val (.ref b17), .unset, .unset, .unset, .unset, .unset, .unset, .unset, .unset, .unset, .unset, .unset, .unset] [(.ref b17)])) _
          refine X21.ldc2Long hx hown (mvT hZ (hw _ (List.mem_of_getElem? (i := 0) rfl))) (g := (mkF m 79 #[.val (.long x0), .second, .val (.long x1), .second, .val (.int x2), .val (.int x3), .val (.long (f0_j6 x0 x1 x2 x3)), .second, .val (.int (f0_v10 x0 x1 x2 x3)), .val (.int (f0_j13 x0 x1 x2 x3)), .val (.ref b17), .unset, .unset, .unset, .unset, .unset, .unset, .unset, .unset, .unset, .unset, .unset, .unset] [(.ref b17)])) rfl (hb hby at_79) _ ?_
          show Steps p.tables e below (T21.setTop (mkF m 82 #[.val (.long x0), .second, .val (.long x1), .second, .val (.int x2), .val (.int x3), .val (.long (f0_j6 x0 x1 x2 x3)), .second, .val (.int (f0_v10 x0 x1 x2 x3)), .val (.int (f0_j13 x0 x1 x2 x3)), .val (.ref b17), .unset, .unset, .unset, .unset, .unset, .unset, .unset, .unset, .unset, .unset, .unset, .unset] [(.long (9223372036854775807 : Int64)), (.ref b17)])) _
          refine st33.trans ?_
          show Steps p.tables e below (T33.setTop (mkF m 85 #[.val (.long x0), .second, .val (.long x1), .second, .val (.int x2), .val (.int x3), .val (.long (f0_j6 x0 x1 x2 x3)), .second, .val (.int (f0_v10 x0 x1 x2 x3)), .val (.int (f0_j13 x0 x1 x2 x3)), .val (.ref b17), .unset, .unset, .unset, .unset, .unset, .unset, .unset, .unset, .unset, .unset, .unset, .unset] [(.long (f5 (9223372036854775807 : Int64) x0 (x0 + ((f1_v14 x0 (f0_j6 x0 x1 x2 x3)) * (f0_j6 x0 x1 x2 x3)))))])) _
          refine XS.lstore X33.here hx rfl (hb hby at_85) rfl (l' := #[.val (.long x0), .second, .val (.long x1), .second, .val (.int x2), .val (.int x3), .val (.long (f0_j6 x0 x1 x2 x3)), .second, .val (.int (f0_v10 x0 x1 x2 x3)), .val (.int (f0_j13 x0 x1 x2 x3)), .val (.ref b17), .unset, .unset, .unset, .unset, .val (.long (f0_v34 x0 x1 x2 x3)), .second, .unset, .unset, .unset, .unset, .unset, .unset]) rfl ?_
          show Steps p.tables e below (T33.setTop (mkF m 87 #[.val (.long x0), .second, .val (.long x1), .second, .val (.int x2), .val (.int x3), .val (.long (f0_j6 x0 x1 x2 x3)), .second, .val (.int (f0_v10 x0 x1 x2 x3)), .val (.int (f0_j13 x0 x1 x2 x3)), .val (.ref b17), .unset, .unset, .unset, .unset, .val (.long (f0_v34 x0 x1 x2 x3)), .second, .unset, .unset, .unset, .unset, .unset, .unset] [])) _
          refine XS.lload X33.here hx rfl (hb hby at_87) rfl ?_
          show Steps p.tables e below (T33.setTop (mkF m 89 #[.val (.long x0), .second, .val (.long x1), .second, .val (.int x2), .val (.int x3), .val (.long (f0_j6 x0 x1 x2 x3)), .second, .val (.int (f0_v10 x0 x1 x2 x3)), .val (.int (f0_j13 x0 x1 x2 x3)), .val (.ref b17), .unset, .unset, .unset, .unset, .val (.long (f0_v34 x0 x1 x2 x3)), .second, .unset, .unset, .unset, .unset, .unset, .unset] [(.long (f0_v34 x0 x1 x2 x3))])) _
          refine XS.lloadN X33.here hx rfl (hb hby at_89) rfl ?_
          show Steps p.tables e below (T33.setTop (mkF m 90 #[.val (.long x0), .second, .val (.long x1), .second, .val (.int x2), .val (.int x3), .val (.long (f0_j6 x0 x1 x2 x3)), .second, .val (.int (f0_v10 x0 x1 x2 x3)), .val (.int (f0_j13 x0 x1 x2 x3)), .val (.ref b17), .unset, .unset, .unset, .unset, .val (.long (f0_v34 x0 x1 x2 x3)), .second, .unset, .unset, .unset, .unset, .unset, .unset] [(.long x0), (.long (f0_v34 x0 x1 x2 x3))])) _
          refine XS.lsub X33.here hx rfl (hb hby at_90) rfl ?_
          show Steps p.tables e below (T33.setTop (mkF m 91 #[.val (.long x0), .second, .val (.long x1), .second, .val (.int x2), .val (.int x3), .val (.long (f0_j6 x0 x1 x2 x3)), .second, .val (.int (f0_v10 x0 x1 x2 x3)), .val (.int (f0_j13 x0 x1 x2 x3)), .val (.ref b17), .unset, .unset, .unset, .unset, .val (.long (f0_v34 x0 x1 x2 x3)), .second, .unset, .unset, .unset, .unset, .unset, .unset] [(.long ((f0_v34 x0 x1 x2 x3) - x0))])) _
          refine XS.lstore X33.here hx rfl (hb hby at_91) rfl (l' := #[.val (.long x0), .second, .val (.long x1), .second, .val (.int x2), .val (.int x3), .val (.long (f0_j6 x0 x1 x2 x3)), .second, .val (.int (f0_v10 x0 x1 x2 x3)), .val (.int (f0_j13 x0 x1 x2 x3)), .val (.ref b17), .val (.long (f0_v35 x0 x1 x2 x3)), .second, .unset, .unset, .val (.long (f0_v34 x0 x1 x2 x3)), .second, .unset, .unset, .unset, .unset, .unset, .unset]) rfl ?_
          show Steps p.tables e below (T33.setTop (mkF m 93 #[.val (.long x0), .second, .val (.long x1), .second, .val (.int x2), .val (.int x3), .val (.long (f0_j6 x0 x1 x2 x3)), .second, .val (.int (f0_v10 x0 x1 x2 x3)), .val (.int (f0_j13 x0 x1 x2 x3)), .val (.ref b17), .val (.long (f0_v35 x0 x1 x2 x3)), .second, .unset, .unset, .val (.long (f0_v34 x0 x1 x2 x3)), .second, .unset, .unset, .unset, .unset, .unset, .unset] [])) _
          refine XS.lload X33.here hx rfl (hb hby at_93) rfl ?_
          show Steps p.tables e below (T33.setTop (mkF m 95 #[.val (.long x0), .second, .val (.long x1), .second, .val (.int x2), .val (.int x3), .val (.long (f0_j6 x0 x1 x2 x3)), .second, .val (.int (f0_v10 x0 x1 x2 x3)), .val (.int (f0_j13 x0 x1 x2 x3)), .val (.ref b17), .val (.long (f0_v35 x0 x1 x2 x3)), .second, .unset, .unset, .val (.long (f0_v34 x0 x1 x2 x3)), .second, .unset, .unset, .unset, .unset, .unset, .unset] [(.long (f0_v34 x0 x1 x2 x3))])) _
          refine XS.lstore X33.here hx rfl (hb hby at_95) rfl (l' := #[.val (.long x0), .second, .val (.long x1), .second, .val (.int x2), .val (.int x3), .val (.long (f0_j6 x0 x1 x2 x3)), .second, .val (.int (f0_v10 x0 x1 x2 x3)), .val (.int (f0_j13 x0 x1 x2 x3)), .val (.ref b17), .val (.long (f0_v35 x0 x1 x2 x3)), .second, .val (.long (f0_v34 x0 x1 x2 x3)), .second, .val (.long (f0_v34 x0 x1 x2 x3)), .second, .unset, .unset, .unset, .unset, .unset, .unset]) rfl ?_
          show Steps p.tables e below (T33.setTop (mkF m 97 #[.val (.long x0), .second, .val (.long x1), .second, .val (.int x2), .val (.int x3), .val (.long (f0_j6 x0 x1 x2 x3)), .second, .val (.int (f0_v10 x0 x1 x2 x3)), .val (.int (f0_j13 x0 x1 x2 x3)), .val (.ref b17), .val (.long (f0_v35 x0 x1 x2 x3)), .second, .val (.long (f0_v34 x0 x1 x2 x3)), .second, .val (.long (f0_v34 x0 x1 x2 x3)), .second, .unset, .unset, .unset, .unset, .unset, .unset] [])) _
          refine XS.lload X33.here hx rfl (hb hby at_97) rfl ?_
          show Steps p.tables e below (T33.setTop (mkF m 99 #[.val (.long x0), .second, .val (.long x1), .second, .val (.int x2), .val (.int x3), .val (.long (f0_j6 x0 x1 x2 x3)), .second, .val (.int (f0_v10 x0 x1 x2 x3)), .val (.int (f0_j13 x0 x1 x2 x3)), .val (.ref b17), .val (.long (f0_v35 x0 x1 x2 x3)), .second, .val (.long (f0_v34 x0 x1 x2 x3)), .second, .val (.long (f0_v34 x0 x1 x2 x3)), .second, .unset, .unset, .unset, .unset, .unset, .unset] [(.long (f0_v35 x0 x1 x2 x3))])) _
          refine XS.lstore X33.here hx rfl (hb hby at_99) rfl (l' := #[.val (.long x0), .second, .val (.long x1), .second, .val (.int x2), .val (.int x3), .val (.long (f0_j6 x0 x1 x2 x3)), .second, .val (.int (f0_v10 x0 x1 x2 x3)), .val (.int (f0_j13 x0 x1 x2 x3)), .val (.ref b17), .val (.long (f0_v35 x0 x1 x2 x3)), .second, .val (.long (f0_v34 x0 x1 x2 x3)), .second, .val (.long (f0_v35 x0 x1 x2 x3)), .second, .unset, .unset, .unset, .unset, .unset, .unset]) rfl ?_
          exact k
        have qj0 : (f0_j37 x0 x1 x2 x3) = (f0_v35 x0 x1 x2 x3) := if_pos hc24
        have qj1 : (f0_j38 x0 x1 x2 x3) = (f0_v34 x0 x1 x2 x3) := if_pos hc24
        have qj2 : (f0_j39 x0 x1 x2 x3) = (f0_v35 x0 x1 x2 x3) := if_pos hc24
        refine ⟨T33, _, X33, N33, e33, fun t k => pre41 _ ?_⟩
        rw [qj0, qj1, qj2] at k
        exact k
      · have pre42 : ∀ t, Steps p.tables e below (T21.setTop (mkF m 101 #[.val (.long x0), .second, .val (.long x1), .second, .val (.int x2), .val (.int x3), .val (.long (f0_j6 x0 x1 x2 x3)), .second, .val (.int (f0_v10 x0 x1 x2 x3)), .val (.int (f0_j13 x0 x1 x2 x3)), .val (.ref b17), .val (.long (f0_v36 x0 x1 x2 x3)), .second, .val (.long x0), .second, .val (.long (f0_v36 x0 x1 x2 x3)), .second, .unset, .unset, .unset, .unset, .unset, .unset] [])) t → Steps p.tables e below (s₁.setTop (entryFrame m #[(.long x0), (.long x1), (.int x2), (.int x3)] maxLocals)) t := by
          intro t k
          refine pre23 _ ?_
          show Steps p.tables e below (T21.setTop (mkF m 61 #[.val (.long x0), .second, .val (.long x1), .second, .val (.int x2), .val (.int x3), .val (.long (f0_j6 x0 x1 x2 x3)), .second, .val (.int (f0_v10 x0 x1 x2 x3)), .val (.int (f0_j13 x0 x1 x2 x3)), .val (.ref b17), .unset, .unset, .unset, .unset, .unset, .unset, .unset, .unset, .unset, .unset, .unset, .unset] [(.int (f0_j13 x0 x1 x2 x3))])) _
          refine XS.ifNo X21.here hx rfl (hb hby at_61) rfl hc24 ?_
          show Steps p.tables e below (T21.setTop (mkF m 64 #[.val (.long x0), .second, .val (.long x1), .second, .val (.int x2), .val (.int x3), .val (.long (f0_j6 x0 x1 x2 x3)), .second, .val (.int (f0_v10 x0 x1 x2 x3)), .val (.int (f0_j13 x0 x1 x2 x3)), .val (.ref b17), .unset, .unset, .unset, .unset, .unset, .unset, .unset, .unset, .unset, .unset, .unset, .unset] [])) _
          refine X21.ldc2Long hx hown (mvT hZ (hw _ (List.mem_of_getElem? (i := 31) rfl))) (g := (mkF m 64 #[.val (.long x0), .second, .val (.long x1), .second, .val (.int x2), .val (.int x3), .val (.long (f0_j6 x0 x1 x2 x3)), .second, .val (.int (f0_v10 x0 x1 x2 x3)), .val (.int (f0_j13 x0 x1 x2 x3)), .val (.ref b17), .unset, .unset, .unset, .unset, .unset, .unset, .unset, .unset, .unset, .unset, .unset, .unset] [])) rfl (hb hby at_64) _ ?_
          show Steps p.tables e below (T21.setTop (mkF m 67 #[.val (.long x0), .second, .val (.long x1), .second, .val (.int x2), .val (.int x3), .val (.long (f0_j6 x0 x1 x2 x3)), .second, .val (.int (f0_v10 x0 x1 x2 x3)), .val (.int (f0_j13 x0 x1 x2 x3)), .val (.ref b17), .unset, .unset, .unset, .unset, .unset, .unset, .unset, .unset, .unset, .unset, .unset, .unset] [(.long (9223372036854775806 : Int64))])) _
          refine XS.lloadN X21.here hx rfl (hb hby at_67) rfl ?_
          show Steps p.tables e below (T21.setTop (mkF m 68 #[.val (.long x0), .second, .val (.long x1), .second, .val (.int x2), .val (.int x3), .val (.long (f0_j6 x0 x1 x2 x3)), .second, .val (.int (f0_v10 x0 x1 x2 x3)), .val (.int (f0_j13 x0 x1 x2 x3)), .val (.ref b17), .unset, .unset, .unset, .unset, .unset, .unset, .unset, .unset, .unset, .unset, .unset, .unset] [(.long x0), (.long (9223372036854775806 : Int64))])) _
          refine XS.lsub X21.here hx rfl (hb hby at_68) rfl ?_
          show Steps p.tables e below (T21.setTop (mkF m 69 #[.val (.long x0), .second, .val (.long x1), .second, .val (.int x2), .val (.int x3), .val (.long (f0_j6 x0 x1 x2 x3)), .second, .val (.int (f0_v10 x0 x1 x2 x3)), .val (.int (f0_j13 x0 x1 x2 x3)), .val (.ref b17), .unset, .unset, .unset, .unset, .unset, .unset, .unset, .unset, .unset, .unset, .unset, .unset] [(.long ((9223372036854775806 : Int64) - x0))])) _
          refine XS.lstore X21.here hx rfl (hb hby at_69) rfl (l' := #[.val (.long x0), .second, .val (.long x1), .second, .val (.int x2), .val (.int x3), .val (.long (f0_j6 x0 x1 x2 x3)), .second, .val (.int (f0_v10 x0 x1 x2 x3)), .val (.int (f0_j13 x0 x1 x2 x3)), .val (.ref b17), .val (.long (f0_v36 x0 x1 x2 x3)), .second, .unset, .unset, .unset, .unset, .unset, .unset, .unset, .unset, .unset, .unset]) rfl ?_
          show Steps p.tables e below (T21.setTop (mkF m 71 #[.val (.long x0), .second, .val (.long x1), .second, .val (.int x2), .val (.int x3), .val (.long (f0_j6 x0 x1 x2 x3)), .second, .val (.int (f0_v10 x0 x1 x2 x3)), .val (.int (f0_j13 x0 x1 x2 x3)), .val (.ref b17), .val (.long (f0_v36 x0 x1 x2 x3)), .second, .unset, .unset, .unset, .unset, .unset, .unset, .unset, .unset, .unset, .unset] [])) _
          refine XS.lloadN X21.here hx rfl (hb hby at_71) rfl ?_
          show Steps p.tables e below (T21.setTop (mkF m 72 #[.val (.long x0), .second, .val (.long x1), .second, .val (.int x2), .val (.int x3), .val (.long (f0_j6 x0 x1 x2 x3)), .second, .val (.int (f0_v10 x0 x1 x2 x3)), .val (.int (f0_j13 x0 x1 x2 x3)), .val (.ref b17), .val (.long (f0_v36 x0 x1 x2 x3)), .second, .unset, .unset, .unset, .unset, .unset, .unset, .unset, .unset, .unset, .unset] [(.long x0)])) _
          refine XS.lstore X21.here hx rfl (hb hby at_72) rfl (l' := #[.val (.long x0), .second, .val (.long x1), .second, .val (.int x2), .val (.int x3), .val (.long (f0_j6 x0 x1 x2 x3)), .second, .val (.int (f0_v10 x0 x1 x2 x3)), .val (.int (f0_j13 x0 x1 x2 x3)), .val (.ref b17), .val (.long (f0_v36 x0 x1 x2 x3)), .second, .val (.long x0), .second, .unset, .unset, .unset, .unset, .unset, .unset, .unset, .unset]) rfl ?_
          show Steps p.tables e below (T21.setTop (mkF m 74 #[.val (.long x0), .second, .val (.long x1), .second, .val (.int x2), .val (.int x3), .val (.long (f0_j6 x0 x1 x2 x3)), .second, .val (.int (f0_v10 x0 x1 x2 x3)), .val (.int (f0_j13 x0 x1 x2 x3)), .val (.ref b17), .val (.long (f0_v36 x0 x1 x2 x3)), .second, .val (.long x0), .second, .unset, .unset, .unset, .unset, .unset, .unset, .unset, .unset] [])) _
          refine XS.goto X21.here hx rfl (pc0 := 74) (pc' := 97) rfl (hb hby at_74) (by decide) (by decide) ?_
          show Steps p.tables e below (T21.setTop (mkF m 97 #[.val (.long x0), .second, .val (.long x1), .second, .val (.int x2), .val (.int x3), .val (.long (f0_j6 x0 x1 x2 x3)), .second, .val (.int (f0_v10 x0 x1 x2 x3)), .val (.int (f0_j13 x0 x1 x2 x3)), .val (.ref b17), .val (.long (f0_v36 x0 x1 x2 x3)), .second, .val (.long x0), .second, .unset, .unset, .unset, .unset, .unset, .unset, .unset, .unset] [])) _
          refine XS.lload X21.here hx rfl (hb hby at_97) rfl ?_
          show Steps p.tables e below (T21.setTop (mkF m 99 #[.val (.long x0), .second, .val (.long x1), .second, .val (.int x2), .val (.int x3), .val (.long (f0_j6 x0 x1 x2 x3)), .second, .val (.int (f0_v10 x0 x1 x2 x3)), .val (.int (f0_j13 x0 x1 x2 x3)), .val (.ref b17), .val (.long (f0_v36 x0 x1 x2 x3)), .second, .val (.long x0), .second, .unset, .unset, .unset, .unset, .unset, .unset, .unset, .unset] [(.long (f0_v36 x0 x1 x2 x3))])) _
          refine XS.lstore X21.here hx rfl (hb hby at_99) rfl (l' := #[.val (.long x0), .second, .val (.long x1), .second, .val (.int x2), .val (.int x3), .val (.long (f0_j6 x0 x1 x2 x3)), .second, .val (.int (f0_v10 x0 x1 x2 x3)), .val (.int (f0_j13 x0 x1 x2 x3)), .val (.ref b17), .val (.long (f0_v36 x0 x1 x2 x3)), .second, .val (.long x0), .second, .val (.long (f0_v36 x0 x1 x2 x3)), .second, .unset, .unset, .unset, .unset, .unset, .unset]) rfl ?_
          exact k
        have qj0 : (f0_j37 x0 x1 x2 x3) = (f0_v36 x0 x1 x2 x3) := if_neg (own_nt hc24)
        have qj1 : (f0_j38 x0 x1 x2 x3) = x0 := if_neg (own_nt hc24)
        have qj2 : (f0_j39 x0 x1 x2 x3) = (f0_v36 x0 x1 x2 x3) := if_neg (own_nt hc24)
        refine ⟨T21, _, X21, N21, e21, fun t k => pre42 _ ?_⟩
        rw [qj0, qj1, qj2] at k
        exact k
    have pre43 : ∀ t, Steps p.tables e below (T40.setTop (mkF m 104 #[.val (.long x0), .second, .val (.long x1), .second, .val (.int x2), .val (.int x3), .val (.long (f0_j6 x0 x1 x2 x3)), .second, .val (.int (f0_v10 x0 x1 x2 x3)), .val (.int (f0_j13 x0 x1 x2 x3)), .val (.ref b17), .val (.long (f0_j37 x0 x1 x2 x3)), .second, .val (.long (f0_j38 x0 x1 x2 x3)), .second, .val (.long (f0_j39 x0 x1 x2 x3)), .second, .unset, .unset, .unset, .unset, .unset, .unset] [(.int (1 : Int32)), (.int (f0_v10 x0 x1 x2 x3))])) t → Steps p.tables e below (s₁.setTop (entryFrame m #[(.long x0), (.long x1), (.int x2), (.int x3)] maxLocals)) t := by
      intro t k
      refine pre40 _ ?_
      show Steps p.tables e below (T40.setTop (mkF m 101 #[.val (.long x0), .second, .val (.long x1), .second, .val (.int x2), .val (.int x3), .val (.long (f0_j6 x0 x1 x2 x3)), .second, .val (.int (f0_v10 x0 x1 x2 x3)), .val (.int (f0_j13 x0 x1 x2 x3)), .val (.ref b17), .val (.long (f0_j37 x0 x1 x2 x3)), .second, .val (.long (f0_j38 x0 x1 x2 x3)), .second, .val (.long (f0_j39 x0 x1 x2 x3)), .second, .unset, .unset, .unset, .unset, .unset, .unset] [])) _
      refine XS.iload X40.here hx rfl (hb hby at_101) rfl ?_
      show Steps p.tables e below (T40.setTop (mkF m 103 #[.val (.long x0), .second, .val (.long x1), .second, .val (.int x2), .val (.int x3), .val (.long (f0_j6 x0 x1 x2 x3)), .second, .val (.int (f0_v10 x0 x1 x2 x3)), .val (.int (f0_j13 x0 x1 x2 x3)), .val (.ref b17), .val (.long (f0_j37 x0 x1 x2 x3)), .second, .val (.long (f0_j38 x0 x1 x2 x3)), .second, .val (.long (f0_j39 x0 x1 x2 x3)), .second, .unset, .unset, .unset, .unset, .unset, .unset] [(.int (f0_v10 x0 x1 x2 x3))])) _
      refine XS.iconst X40.here hx rfl (hb hby at_103) ?_
      exact k
    have cont45 : ∀ (T' : State) (L' : List Loc), Stand p l e room_1 s m #[(.long x0), (.long x1), (.int x2), (.int x3)] below meth c T' L' 1 3 → Fr n0 L' → T'.heap = h21 → (f0 x0 x1 x2 x3) = (f0_c45 x0 x1 x2 x3) → (∀ t, Steps p.tables e below (T'.setTop (mkF m 126 #[.val (.long x0), .second, .val (.long x1), .second, .val (.int x2), .val (.int x3), .val (.long (f0_j6 x0 x1 x2 x3)), .second, .val (.int (f0_v10 x0 x1 x2 x3)), .val (.int (f0_j13 x0 x1 x2 x3)), .val (.ref b17), .val (.long (f0_j37 x0 x1 x2 x3)), .second, .val (.long (f0_j38 x0 x1 x2 x3)), .second, .val (.long (f0_j52 x0 x1 x2 x3)), .second, .unset, .unset, .unset, .unset, .unset, .unset] [])) t → Steps p.tables e below (s₁.setTop (entryFrame m #[(.long x0), (.long x1), (.int x2), (.int x3)] maxLocals)) t) → (∃ s₂ o, Steps p.tables e below (s₁.setTop (entryFrame m #[(.long x0), (.long x1), (.int x2), (.int x3)] maxLocals)) s₂ ∧ s₂.status = .running ∧ Ended s₂ below o ∧ ∃ v L, o = .returned v ∧ Q0 Z x0 x1 x2 x3 h0 n0 v s₂.heap L ∧ FrameEnd s o s₂ L 1 3) := by
      intro T45 L45 X45 N45 e45 hres45 pre45
      have pre53 : ∀ t, Steps p.tables e below (T45.setTop (mkF m 129 #[.val (.long x0), .second, .val (.long x1), .second, .val (.int x2), .val (.int x3), .val (.long (f0_j6 x0 x1 x2 x3)), .second, .val (.int (f0_v10 x0 x1 x2 x3)), .val (.int (f0_j13 x0 x1 x2 x3)), .val (.ref b17), .val (.long (f0_j37 x0 x1 x2 x3)), .second, .val (.long (f0_j38 x0 x1 x2 x3)), .second, .val (.long (f0_j52 x0 x1 x2 x3)), .second, .unset, .unset, .unset, .unset, .unset, .unset] [(.int (2 : Int32)), (.int (f0_v10 x0 x1 x2 x3))])) t → Steps p.tables e below (s₁.setTop (entryFrame m #[(.long x0), (.long x1), (.int x2), (.int x3)] maxLocals)) t := by
        intro t k
        refine pre45 _ ?_
        show Steps p.tables e below (T45.setTop (mkF m 126 #[.val (.long x0), .second, .val (.long x1), .second, .val (.int x2), .val (.int x3), .val (.long (f0_j6 x0 x1 x2 x3)), .second, .val (.int (f0_v10 x0 x1 x2 x3)), .val (.int (f0_j13 x0 x1 x2 x3)), .val (.ref b17), .val (.long (f0_j37 x0 x1 x2 x3)), .second, .val (.long (f0_j38 x0 x1 x2 x3)), .second, .val (.long (f0_j52 x0 x1 x2 x3)), .second, .unset, .unset, .unset, .unset, .unset, .unset] [])) _
        refine XS.iload X45.here hx rfl (hb hby at_126) rfl ?_
        show Steps p.tables e below (T45.setTop (mkF m 128 #[.val (.long x0), .second, .val (.long x1), .second, .val (.int x2), .val (.int x3), .val (.long (f0_j6 x0 x1 x2 x3)), .second, .val (.int (f0_v10 x0 x1 x2 x3)), .val (.int (f0_j13 x0 x1 x2 x3)), .val (.ref b17), .val (.long (f0_j37 x0 x1 x2 x3)), .second, .val (.long (f0_j38 x0 x1 x2 x3)), .second, .val (.long (f0_j52 x0 x1 x2 x3)), .second, .unset, .unset, .unset, .unset, .unset, .unset] [(.int (f0_v10 x0 x1 x2 x3))])) _
        refine XS.iconst X45.here hx rfl (hb hby at_128) ?_
        exact k
      have cont55 : ∀ (T' : State) (L' : List Loc), Stand p l e room_1 s m #[(.long x0), (.long x1), (.int x2), (.int x3)] below meth c T' L' 1 3 → Fr n0 L' → T'.heap = h21 → (f0 x0 x1 x2 x3) = (f0_c55 x0 x1 x2 x3) → (∀ t, Steps p.tables e below (T'.setTop (mkF m 151 #[.val (.long x0), .second, .val (.long x1), .second, .val (.int x2), .val (.int x3), .val (.long (f0_j6 x0 x1 x2 x3)), .second, .val (.int (f0_v10 x0 x1 x2 x3)), .val (.int (f0_j13 x0 x1 x2 x3)), .val (.ref b17), .val (.long (f0_j37 x0 x1 x2 x3)), .second, .val (.long (f0_j38 x0 x1 x2 x3)), .second, .val (.long (f0_j62 x0 x1 x2 x3)), .second, .unset, .unset, .unset, .unset, .unset, .unset] [])) t → Steps p.tables e below (s₁.setTop (entryFrame m #[(.long x0), (.long x1), (.int x2), (.int x3)] maxLocals)) t) → (∃ s₂ o, Steps p.tables e below (s₁.setTop (entryFrame m #[(.long x0), (.long x1), (.int x2), (.int x3)] maxLocals)) s₂ ∧ s₂.status = .running ∧ Ended s₂ below o ∧ ∃ v L, o = .returned v ∧ Q0 Z x0 x1 x2 x3 h0 n0 v s₂.heap L ∧ FrameEnd s o s₂ L 1 3) := by
        intro T55 L55 X55 N55 e55 hres55 pre55
        have pre63 : ∀ t, Steps p.tables e below (T55.setTop (mkF m 154 #[.val (.long x0), .second, .val (.long x1), .second, .val (.int x2), .val (.int x3), .val (.long (f0_j6 x0 x1 x2 x3)), .second, .val (.int (f0_v10 x0 x1 x2 x3)), .val (.int (f0_j13 x0 x1 x2 x3)), .val (.ref b17), .val (.long (f0_j37 x0 x1 x2 x3)), .second, .val (.long (f0_j38 x0 x1 x2 x3)), .second, .val (.long (f0_j62 x0 x1 x2 x3)), .second, .unset, .unset, .unset, .unset, .unset, .unset] [(.int (3 : Int32)), (.int (f0_v10 x0 x1 x2 x3))])) t → Steps p.tables e below (s₁.setTop (entryFrame m #[(.long x0), (.long x1), (.int x2), (.int x3)] maxLocals)) t := by
          intro t k
          refine pre55 _ ?_
          show Steps p.tables e below (T55.setTop (mkF m 151 #[.val (.long x0), .second, .val (.long x1), .second, .val (.int x2), .val (.int x3), .val (.long (f0_j6 x0 x1 x2 x3)), .second, .val (.int (f0_v10 x0 x1 x2 x3)), .val (.int (f0_j13 x0 x1 x2 x3)), .val (.ref b17), .val (.long (f0_j37 x0 x1 x2 x3)), .second, .val (.long (f0_j38 x0 x1 x2 x3)), .second, .val (.long (f0_j62 x0 x1 x2 x3)), .second, .unset, .unset, .unset, .unset, .unset, .unset] [])) _
          refine XS.iload X55.here hx rfl (hb hby at_151) rfl ?_
          show Steps p.tables e below (T55.setTop (mkF m 153 #[.val (.long x0), .second, .val (.long x1), .second, .val (.int x2), .val (.int x3), .val (.long (f0_j6 x0 x1 x2 x3)), .second, .val (.int (f0_v10 x0 x1 x2 x3)), .val (.int (f0_j13 x0 x1 x2 x3)), .val (.ref b17), .val (.long (f0_j37 x0 x1 x2 x3)), .second, .val (.long (f0_j38 x0 x1 x2 x3)), .second, .val (.long (f0_j62 x0 x1 x2 x3)), .second, .unset, .unset, .unset, .unset, .unset, .unset] [(.int (f0_v10 x0 x1 x2 x3))])) _
          refine XS.iconst X55.here hx rfl (hb hby at_153) ?_
          exact k
        have cont65 : ∀ (T' : State) (L' : List Loc), Stand p l e room_1 s m #[(.long x0), (.long x1), (.int x2), (.int x3)] below meth c T' L' 1 3 → Fr n0 L' → T'.heap = h21 → (f0 x0 x1 x2 x3) = (f0_c65 x0 x1 x2 x3) → (∀ t, Steps p.tables e below (T'.setTop (mkF m 176 #[.val (.long x0), .second, .val (.long x1), .second, .val (.int x2), .val (.int x3), .val (.long (f0_j6 x0 x1 x2 x3)), .second, .val (.int (f0_v10 x0 x1 x2 x3)), .val (.int (f0_j13 x0 x1 x2 x3)), .val (.ref b17), .val (.long (f0_j37 x0 x1 x2 x3)), .second, .val (.long (f0_j38 x0 x1 x2 x3)), .second, .val (.long (f0_j72 x0 x1 x2 x3)), .second, .unset, .unset, .unset, .unset, .unset, .unset] [])) t → Steps p.tables e below (s₁.setTop (entryFrame m #[(.long x0), (.long x1), (.int x2), (.int x3)] maxLocals)) t) → (∃ s₂ o, Steps p.tables e below (s₁.setTop (entryFrame m #[(.long x0), (.long x1), (.int x2), (.int x3)] maxLocals)) s₂ ∧ s₂.status = .running ∧ Ended s₂ below o ∧ ∃ v L, o = .returned v ∧ Q0 Z x0 x1 x2 x3 h0 n0 v s₂.heap L ∧ FrameEnd s o s₂ L 1 3) := by
          intro T65 L65 X65 N65 e65 hres65 pre65
          have pre74 : ∀ t, Steps p.tables e below (T65.setTop (mkF m 186 #[.val (.long x0), .second, .val (.long x1), .second, .val (.int x2), .val (.int x3), .val (.long (f0_j6 x0 x1 x2 x3)), .second, .val (.int (f0_v10 x0 x1 x2 x3)), .val (.int (f0_j13 x0 x1 x2 x3)), .val (.ref b17), .val (.long (f0_j37 x0 x1 x2 x3)), .second, .val (.long (f0_j38 x0 x1 x2 x3)), .second, .val (.long (f0_j72 x0 x1 x2 x3)), .second, .val (.long (f0_v73 x0 x1 x2 x3)), .second, .unset, .unset, .unset, .unset] [(.int (f0_j13 x0 x1 x2 x3))])) t → Steps p.tables e below (s₁.setTop (entryFrame m #[(.long x0), (.long x1), (.int x2), (.int x3)] maxLocals)) t := by
            intro t k
            refine pre65 _ ?_
            show Steps p.tables e below (T65.setTop (mkF m 176 #[.val (.long x0), .second, .val (.long x1), .second, .val (.int x2), .val (.int x3), .val (.long (f0_j6 x0 x1 x2 x3)), .second, .val (.int (f0_v10 x0 x1 x2 x3)), .val (.int (f0_j13 x0 x1 x2 x3)), .val (.ref b17), .val (.long (f0_j37 x0 x1 x2 x3)), .second, .val (.long (f0_j38 x0 x1 x2 x3)), .second, .val (.long (f0_j72 x0 x1 x2 x3)), .second, .unset, .unset, .unset, .unset, .unset, .unset] [])) _
            refine XS.lload X65.here hx rfl (hb hby at_176) rfl ?_
            show Steps p.tables e below (T65.setTop (mkF m 178 #[.val (.long x0), .second, .val (.long x1), .second, .val (.int x2), .val (.int x3), .val (.long (f0_j6 x0 x1 x2 x3)), .second, .val (.int (f0_v10 x0 x1 x2 x3)), .val (.int (f0_j13 x0 x1 x2 x3)), .val (.ref b17), .val (.long (f0_j37 x0 x1 x2 x3)), .second, .val (.long (f0_j38 x0 x1 x2 x3)), .second, .val (.long (f0_j72 x0 x1 x2 x3)), .second, .unset, .unset, .unset, .unset, .unset, .unset] [(.long (f0_j6 x0 x1 x2 x3))])) _
            refine XS.iload X65.here hx rfl (hb hby at_178) rfl ?_
            show Steps p.tables e below (T65.setTop (mkF m 180 #[.val (.long x0), .second, .val (.long x1), .second, .val (.int x2), .val (.int x3), .val (.long (f0_j6 x0 x1 x2 x3)), .second, .val (.int (f0_v10 x0 x1 x2 x3)), .val (.int (f0_j13 x0 x1 x2 x3)), .val (.ref b17), .val (.long (f0_j37 x0 x1 x2 x3)), .second, .val (.long (f0_j38 x0 x1 x2 x3)), .second, .val (.long (f0_j72 x0 x1 x2 x3)), .second, .unset, .unset, .unset, .unset, .unset, .unset] [(.int (f0_v10 x0 x1 x2 x3)), (.long (f0_j6 x0 x1 x2 x3))])) _
            refine XS.i2l X65.here hx rfl (hb hby at_180) rfl ?_
            show Steps p.tables e below (T65.setTop (mkF m 181 #[.val (.long x0), .second, .val (.long x1), .second, .val (.int x2), .val (.int x3), .val (.long (f0_j6 x0 x1 x2 x3)), .second, .val (.int (f0_v10 x0 x1 x2 x3)), .val (.int (f0_j13 x0 x1 x2 x3)), .val (.ref b17), .val (.long (f0_j37 x0 x1 x2 x3)), .second, .val (.long (f0_j38 x0 x1 x2 x3)), .second, .val (.long (f0_j72 x0 x1 x2 x3)), .second, .unset, .unset, .unset, .unset, .unset, .unset] [(.long ((f0_v10 x0 x1 x2 x3).toInt64)), (.long (f0_j6 x0 x1 x2 x3))])) _
            refine XS.lmul X65.here hx rfl (hb hby at_181) rfl ?_
            show Steps p.tables e below (T65.setTop (mkF m 182 #[.val (.long x0), .second, .val (.long x1), .second, .val (.int x2), .val (.int x3), .val (.long (f0_j6 x0 x1 x2 x3)), .second, .val (.int (f0_v10 x0 x1 x2 x3)), .val (.int (f0_j13 x0 x1 x2 x3)), .val (.ref b17), .val (.long (f0_j37 x0 x1 x2 x3)), .second, .val (.long (f0_j38 x0 x1 x2 x3)), .second, .val (.long (f0_j72 x0 x1 x2 x3)), .second, .unset, .unset, .unset, .unset, .unset, .unset] [(.long ((f0_j6 x0 x1 x2 x3) * ((f0_v10 x0 x1 x2 x3).toInt64)))])) _
            refine XS.lstore X65.here hx rfl (hb hby at_182) rfl (l' := #[.val (.long x0), .second, .val (.long x1), .second, .val (.int x2), .val (.int x3), .val (.long (f0_j6 x0 x1 x2 x3)), .second, .val (.int (f0_v10 x0 x1 x2 x3)), .val (.int (f0_j13 x0 x1 x2 x3)), .val (.ref b17), .val (.long (f0_j37 x0 x1 x2 x3)), .second, .val (.long (f0_j38 x0 x1 x2 x3)), .second, .val (.long (f0_j72 x0 x1 x2 x3)), .second, .val (.long (f0_v73 x0 x1 x2 x3)), .second, .unset, .unset, .unset, .unset]) rfl ?_
            show Steps p.tables e below (T65.setTop (mkF m 184 #[.val (.long x0), .second, .val (.long x1), .second, .val (.int x2), .val (.int x3), .val (.long (f0_j6 x0 x1 x2 x3)), .second, .val (.int (f0_v10 x0 x1 x2 x3)), .val (.int (f0_j13 x0 x1 x2 x3)), .val (.ref b17), .val (.long (f0_j37 x0 x1 x2 x3)), .second, .val (.long (f0_j38 x0 x1 x2 x3)), .second, .val (.long (f0_j72 x0 x1 x2 x3)), .second, .val (.long (f0_v73 x0 x1 x2 x3)), .second, .unset, .unset, .unset, .unset] [])) _
            refine XS.iload X65.here hx rfl (hb hby at_184) rfl ?_
            exact k
          obtain ⟨T77, L77, X77, N77, e77, pre77⟩ : ∃ (T' : State) (L' : List Loc), Stand p l e room_1 s m #[(.long x0), (.long x1), (.int x2), (.int x3)] below meth c T' L' 1 3 ∧ Fr n0 L' ∧ T'.heap = h21 ∧ ∀ t, Steps p.tables e below (T'.setTop (mkF m 202 #[.val (.long x0), .second, .val (.long x1), .second, .val (.int x2), .val (.int x3), .val (.long (f0_j6 x0 x1 x2 x3)), .second, .val (.int (f0_v10 x0 x1 x2 x3)), .val (.int (f0_j13 x0 x1 x2 x3)), .val (.ref b17), .val (.long (f0_j37 x0 x1 x2 x3)), .second, .val (.long (f0_j38 x0 x1 x2 x3)), .second, .val (.long (f0_j72 x0 x1 x2 x3)), .second, .val (.long (f0_v73 x0 x1 x2 x3)), .second, .unset, .unset, .unset, .unset] [(.long (f0_j76 x0 x1 x2 x3))])) t → Steps p.tables e below (s₁.setTop (entryFrame m #[(.long x0), (.long x1), (.int x2), (.int x3)] maxLocals)) t := by
            rcases Bool.eq_false_or_eq_true (ifCond.holds .eq (f0_j13 x0 x1 x2 x3)) with hc75 | hc75
            · have pre78 : ∀ t, Steps p.tables e below (T65.setTop (mkF m 202 #[.val (.long x0), .second, .val (.long x1), .second, .val (.int x2), .val (.int x3), .val (.long (f0_j6 x0 x1 x2 x3)), .second, .val (.int (f0_v10 x0 x1 x2 x3)), .val (.int (f0_j13 x0 x1 x2 x3)), .val (.ref b17), .val (.long (f0_j37 x0 x1 x2 x3)), .second, .val (.long (f0_j38 x0 x1 x2 x3)), .second, .val (.long (f0_j72 x0 x1 x2 x3)), .second, .val (.long (f0_v73 x0 x1 x2 x3)), .second, .unset, .unset, .unset, .unset] [(.long ((f0_j38 x0 x1 x2 x3) - (f0_v73 x0 x1 x2 x3)))])) t → Steps p.tables e below (s₁.setTop (entryFrame m #[(.long x0), (.long x1), (.int x2), (.int x3)] maxLocals)) t := by
                intro t k
                refine pre74 _ ?_
                show Steps p.tables e below (T65.setTop (mkF m 186 #[.val (.long x0), .second, .val (.long x1), .second, .val (.int x2), .val (.int x3), .val (.long (f0_j6 x0 x1 x2 x3)), .second, .val (.int (f0_v10 x0 x1 x2 x3)), .val (.int (f0_j13 x0 x1 x2 x3)), .val (.ref b17), .val (.long (f0_j37 x0 x1 x2 x3)), .second, .val (.long (f0_j38 x0 x1 x2 x3)), .second, .val (.long (f0_j72 x0 x1 x2 x3)), .second, .val (.long (f0_v73 x0 x1 x2 x3)), .second, .unset, .unset, .unset, .unset] [(.int (f0_j13 x0 x1 x2 x3))])) _
                refine XS.ifYes X65.here hx rfl (pc0 := 186) (pc' := 197) rfl (hb hby at_186) rfl hc75 (by decide) (by decide) ?_
                show Steps p.tables e below (T65.setTop (mkF m 197 #[.val (.long x0), .second, .val (.long x1), .second, .val (.int x2), .val (.int x3), .val (.long (f0_j6 x0 x1 x2 x3)), .second, .val (.int (f0_v10 x0 x1 x2 x3)), .val (.int (f0_j13 x0 x1 x2 x3)), .val (.ref b17), .val (.long (f0_j37 x0 x1 x2 x3)), .second, .val (.long (f0_j38 x0 x1 x2 x3)), .second, .val (.long (f0_j72 x0 x1 x2 x3)), .second, .val (.long (f0_v73 x0 x1 x2 x3)), .second, .unset, .unset, .unset, .unset] [])) _
                refine XS.lload X65.here hx rfl (hb hby at_197) rfl ?_
                show Steps p.tables e below (T65.setTop (mkF m 199 #[.val (.long x0), .second, .val (.long x1), .second, .val (.int x2), .val (.int x3), .val (.long (f0_j6 x0 x1 x2 x3)), .second, .val (.int (f0_v10 x0 x1 x2 x3)), .val (.int (f0_j13 x0 x1 x2 x3)), .val (.ref b17), .val (.long (f0_j37 x0 x1 x2 x3)), .second, .val (.long (f0_j38 x0 x1 x2 x3)), .second, .val (.long (f0_j72 x0 x1 x2 x3)), .second, .val (.long (f0_v73 x0 x1 x2 x3)), .second, .unset, .unset, .unset, .unset] [(.long (f0_j38 x0 x1 x2 x3))])) _
                refine XS.lload X65.here hx rfl (hb hby at_199) rfl ?_
                show Steps p.tables e below (T65.setTop (mkF m 201 #[.val (.long x0), .second, .val (.long x1), .second, .val (.int x2), .val (.int x3), .val (.long (f0_j6 x0 x1 x2 x3)), .second, .val (.int (f0_v10 x0 x1 x2 x3)), .val (.int (f0_j13 x0 x1 x2 x3)), .val (.ref b17), .val (.long (f0_j37 x0 x1 x2 x3)), .second, .val (.long (f0_j38 x0 x1 x2 x3)), .second, .val (.long (f0_j72 x0 x1 x2 x3)), .second, .val (.long (f0_v73 x0 x1 x2 x3)), .second, .unset, .unset, .unset, .unset] [(.long (f0_v73 x0 x1 x2 x3)), (.long (f0_j38 x0 x1 x2 x3))])) _
                refine XS.lsub X65.here hx rfl (hb hby at_201) rfl ?_
                exact k
              have qj0 : (f0_j76 x0 x1 x2 x3) = ((f0_j38 x0 x1 x2 x3) - (f0_v73 x0 x1 x2 x3)) := if_pos hc75
              refine ⟨T65, _, X65, N65, e65, fun t k => pre78 _ ?_⟩
              rw [qj0] at k
              exact k
            · have pre79 : ∀ t, Steps p.tables e below (T65.setTop (mkF m 202 #[.val (.long x0), .second, .val (.long x1), .second, .val (.int x2), .val (.int x3), .val (.long (f0_j6 x0 x1 x2 x3)), .second, .val (.int (f0_v10 x0 x1 x2 x3)), .val (.int (f0_j13 x0 x1 x2 x3)), .val (.ref b17), .val (.long (f0_j37 x0 x1 x2 x3)), .second, .val (.long (f0_j38 x0 x1 x2 x3)), .second, .val (.long (f0_j72 x0 x1 x2 x3)), .second, .val (.long (f0_v73 x0 x1 x2 x3)), .second, .unset, .unset, .unset, .unset] [(.long ((f0_j38 x0 x1 x2 x3) + (f0_v73 x0 x1 x2 x3)))])) t → Steps p.tables e below (s₁.setTop (entryFrame m #[(.long x0), (.long x1), (.int x2), (.int x3)] maxLocals)) t := by
                intro t k
                refine pre74 _ ?_
                show Steps p.tables e below (T65.setTop (mkF m 186 #[.val (.long x0), .second, .val (.long x1), .second, .val (.int x2), .val (.int x3), .val (.long (f0_j6 x0 x1 x2 x3)), .second, .val (.int (f0_v10 x0 x1 x2 x3)), .val (.int (f0_j13 x0 x1 x2 x3)), .val (.ref b17), .val (.long (f0_j37 x0 x1 x2 x3)), .second, .val (.long (f0_j38 x0 x1 x2 x3)), .second, .val (.long (f0_j72 x0 x1 x2 x3)), .second, .val (.long (f0_v73 x0 x1 x2 x3)), .second, .unset, .unset, .unset, .unset] [(.int (f0_j13 x0 x1 x2 x3))])) _
                refine XS.ifNo X65.here hx rfl (hb hby at_186) rfl hc75 ?_
                show Steps p.tables e below (T65.setTop (mkF m 189 #[.val (.long x0), .second, .val (.long x1), .second, .val (.int x2), .val (.int x3), .val (.long (f0_j6 x0 x1 x2 x3)), .second, .val (.int (f0_v10 x0 x1 x2 x3)), .val (.int (f0_j13 x0 x1 x2 x3)), .val (.ref b17), .val (.long (f0_j37 x0 x1 x2 x3)), .second, .val (.long (f0_j38 x0 x1 x2 x3)), .second, .val (.long (f0_j72 x0 x1 x2 x3)), .second, .val (.long (f0_v73 x0 x1 x2 x3)), .second, .unset, .unset, .unset, .unset] [])) _
                refine XS.lload X65.here hx rfl (hb hby at_189) rfl ?_
                show Steps p.tables e below (T65.setTop (mkF m 191 #[.val (.long x0), .second, .val (.long x1), .second, .val (.int x2), .val (.int x3), .val (.long (f0_j6 x0 x1 x2 x3)), .second, .val (.int (f0_v10 x0 x1 x2 x3)), .val (.int (f0_j13 x0 x1 x2 x3)), .val (.ref b17), .val (.long (f0_j37 x0 x1 x2 x3)), .second, .val (.long (f0_j38 x0 x1 x2 x3)), .second, .val (.long (f0_j72 x0 x1 x2 x3)), .second, .val (.long (f0_v73 x0 x1 x2 x3)), .second, .unset, .unset, .unset, .unset] [(.long (f0_j38 x0 x1 x2 x3))])) _
                refine XS.lload X65.here hx rfl (hb hby at_191) rfl ?_
                show Steps p.tables e below (T65.setTop (mkF m 193 #[.val (.long x0), .second, .val (.long x1), .second, .val (.int x2), .val (.int x3), .val (.long (f0_j6 x0 x1 x2 x3)), .second, .val (.int (f0_v10 x0 x1 x2 x3)), .val (.int (f0_j13 x0 x1 x2 x3)), .val (.ref b17), .val (.long (f0_j37 x0 x1 x2 x3)), .second, .val (.long (f0_j38 x0 x1 x2 x3)), .second, .val (.long (f0_j72 x0 x1 x2 x3)), .second, .val (.long (f0_v73 x0 x1 x2 x3)), .second, .unset, .unset, .unset, .unset] [(.long (f0_v73 x0 x1 x2 x3)), (.long (f0_j38 x0 x1 x2 x3))])) _
                refine XS.ladd X65.here hx rfl (hb hby at_193) rfl ?_
                show Steps p.tables e below (T65.setTop (mkF m 194 #[.val (.long x0), .second, .val (.long x1), .second, .val (.int x2), .val (.int x3), .val (.long (f0_j6 x0 x1 x2 x3)), .second, .val (.int (f0_v10 x0 x1 x2 x3)), .val (.int (f0_j13 x0 x1 x2 x3)), .val (.ref b17), .val (.long (f0_j37 x0 x1 x2 x3)), .second, .val (.long (f0_j38 x0 x1 x2 x3)), .second, .val (.long (f0_j72 x0 x1 x2 x3)), .second, .val (.long (f0_v73 x0 x1 x2 x3)), .second, .unset, .unset, .unset, .unset] [(.long ((f0_j38 x0 x1 x2 x3) + (f0_v73 x0 x1 x2 x3)))])) _
                refine XS.goto X65.here hx rfl (pc0 := 194) (pc' := 202) rfl (hb hby at_194) (by decide) (by decide) ?_
                exact k
              have qj0 : (f0_j76 x0 x1 x2 x3) = ((f0_j38 x0 x1 x2 x3) + (f0_v73 x0 x1 x2 x3)) := if_neg (own_nt hc75)
              refine ⟨T65, _, X65, N65, e65, fun t k => pre79 _ ?_⟩
              rw [qj0] at k
              exact k
          obtain ⟨_, _, ⟨T80, L80, k80, n80⟩, -, X80, ⟨Lc80, hQ80, l80, y80, z80⟩, st80⟩ := Jvm.LawKit.callS X77 hx (y := (⟨"com/example/tick_wheel/tickwheel/wheel/TickGridBoundaryAfterPinLaw", "uge", "(JJ)Z"⟩ : MethodName)) hown (mvT hZ (hw _ (List.mem_of_getElem? (i := 32) rfl))) (mvT hZ (hw _ (List.mem_of_getElem? (i := 33) rfl))) (mvT hZ (hw _ (List.mem_of_getElem? (i := 34) rfl))) (mvT hZ (hw _ (List.mem_of_getElem? (i := 35) rfl))) (by decide) (backOf (W := 0) (rm6 l Z a0 hw [] ((9223372036854775806 : Int64) - (f0_j76 x0 x1 x2 x3)) (f0_j6 x0 x1 x2 x3) h21 n0 Z21) hZ (hw _ (List.mem_of_getElem? (i := 35) rfl)) (hw _ (List.mem_of_getElem? (i := 34) rfl)) (by decide) (by decide)) (g := (mkF m 212 #[.val (.long x0), .second, .val (.long x1), .second, .val (.int x2), .val (.int x3), .val (.long (f0_j6 x0 x1 x2 x3)), .second, .val (.int (f0_v10 x0 x1 x2 x3)), .val (.int (f0_j13 x0 x1 x2 x3)), .val (.ref b17), .val (.long (f0_j37 x0 x1 x2 x3)), .second, .val (.long (f0_j38 x0 x1 x2 x3)), .second, .val (.long (f0_j72 x0 x1 x2 x3)), .second, .val (.long (f0_v73 x0 x1 x2 x3)), .second, .val (.long (f0_j76 x0 x1 x2 x3)), .second, .unset, .unset] [(.long (f0_j6 x0 x1 x2 x3)), (.long ((9223372036854775806 : Int64) - (f0_j76 x0 x1 x2 x3)))])) rfl (by rw [hml]; rfl) (argsL := [(.long ((9223372036854775806 : Int64) - (f0_j76 x0 x1 x2 x3))), (.long (f0_j6 x0 x1 x2 x3))]) (rest := []) (lenOf pd_4 rfl) rfl (by show 2 * 0 + _ ≤ _; exact Nat.le_of_eq rfl) (hb hby at_212) (fun _ _ => ⟨rfl, e77, (by decide : 1 + 0 ≤ _), (by decide : 3 + 0 ≤ _)⟩)
          dsimp only [Pt.U, Pt.locs, Pt.cells, Pt.slots] at X80 l80 y80 z80 st80 hQ80
          subst l80 y80 z80
          obtain ⟨rfl, Nq80, e80⟩ := hQ80
          have N80 := Fr.app N77 Nq80
          have pre81 : ∀ t, Steps p.tables e below (T80.setTop (mkF m 215 #[.val (.long x0), .second, .val (.long x1), .second, .val (.int x2), .val (.int x3), .val (.long (f0_j6 x0 x1 x2 x3)), .second, .val (.int (f0_v10 x0 x1 x2 x3)), .val (.int (f0_j13 x0 x1 x2 x3)), .val (.ref b17), .val (.long (f0_j37 x0 x1 x2 x3)), .second, .val (.long (f0_j38 x0 x1 x2 x3)), .second, .val (.long (f0_j72 x0 x1 x2 x3)), .second, .val (.long (f0_v73 x0 x1 x2 x3)), .second, .val (.long (f0_j76 x0 x1 x2 x3)), .second, .unset, .unset] [(.int (f6 ((9223372036854775806 : Int64) - (f0_j76 x0 x1 x2 x3)) (f0_j6 x0 x1 x2 x3)))])) t → Steps p.tables e below (s₁.setTop (entryFrame m #[(.long x0), (.long x1), (.int x2), (.int x3)] maxLocals)) t := by
            intro t k
            refine pre77 _ ?_
            show Steps p.tables e below (T77.setTop (mkF m 202 #[.val (.long x0), .second, .val (.long x1), .second, .val (.int x2), .val (.int x3), .val (.long (f0_j6 x0 x1 x2 x3)), .second, .val (.int (f0_v10 x0 x1 x2 x3)), .val (.int (f0_j13 x0 x1 x2 x3)), .val (.ref b17), .val (.long (f0_j37 x0 x1 x2 x3)), .second, .val (.long (f0_j38 x0 x1 x2 x3)), .second, .val (.long (f0_j72 x0 x1 x2 x3)), .second, .val (.long (f0_v73 x0 x1 x2 x3)), .second, .unset, .unset, .unset, .unset] [(.long (f0_j76 x0 x1 x2 x3))])) _
            refine XS.lstore X77.here hx rfl (hb hby at_202) rfl (l' := #[.val (.long x0), .second, .val (.long x1), .second, .val (.int x2), .val (.int x3), .val (.long (f0_j6 x0 x1 x2 x3)), .second, .val (.int (f0_v10 x0 x1 x2 x3)), .val (.int (f0_j13 x0 x1 x2 x3)), .val (.ref b17), .val (.long (f0_j37 x0 x1 x2 x3)), .second, .val (.long (f0_j38 x0 x1 x2 x3)), .second, .val (.long (f0_j72 x0 x1 x2 x3)), .second, .val (.long (f0_v73 x0 x1 x2 x3)), .second, .val (.long (f0_j76 x0 x1 x2 x3)), .second, .unset, .unset]) rfl ?_
            show Steps p.tables e below (T77.setTop (mkF m 204 #[.val (.long x0), .second, .val (.long x1), .second, .val (.int x2), .val (.int x3), .val (.long (f0_j6 x0 x1 x2 x3)), .second, .val (.int (f0_v10 x0 x1 x2 x3)), .val (.int (f0_j13 x0 x1 x2 x3)), .val (.ref b17), .val (.long (f0_j37 x0 x1 x2 x3)), .second, .val (.long (f0_j38 x0 x1 x2 x3)), .second, .val (.long (f0_j72 x0 x1 x2 x3)), .second, .val (.long (f0_v73 x0 x1 x2 x3)), .second, .val (.long (f0_j76 x0 x1 x2 x3)), .second, .unset, .unset] [])) _
            refine X77.ldc2Long hx hown (mvT hZ (hw _ (List.mem_of_getElem? (i := 31) rfl))) (g := (mkF m 204 #[.val (.long x0), .second, .val (.long x1), .second, .val (.int x2), .val (.int x3), .val (.long (f0_j6 x0 x1 x2 x3)), .second, .val (.int (f0_v10 x0 x1 x2 x3)), .val (.int (f0_j13 x0 x1 x2 x3)), .val (.ref b17), .val (.long (f0_j37 x0 x1 x2 x3)), .second, .val (.long (f0_j38 x0 x1 x2 x3)), .second, .val (.long (f0_j72 x0 x1 x2 x3)), .second, .val (.long (f0_v73 x0 x1 x2 x3)), .second, .val (.long (f0_j76 x0 x1 x2 x3)), .second, .unset, .unset] [])) rfl (hb hby at_204) _ ?_
            show Steps p.tables e below (T77.setTop (mkF m 207 #[.val (.long x0), .second, .val (.long x1), .second, .val (.int x2), .val (.int x3), .val (.long (f0_j6 x0 x1 x2 x3)), .second, .val (.int (f0_v10 x0 x1 x2 x3)), .val (.int (f0_j13 x0 x1 x2 x3)), .val (.ref b17), .val (.long (f0_j37 x0 x1 x2 x3)), .second, .val (.long (f0_j38 x0 x1 x2 x3)), .second, .val (.long (f0_j72 x0 x1 x2 x3)), .second, .val (.long (f0_v73 x0 x1 x2 x3)), .second, .val (.long (f0_j76 x0 x1 x2 x3)), .second, .unset, .unset] [(.long (9223372036854775806 : Int64))])) _
            refine XS.lload X77.here hx rfl (hb hby at_207) rfl ?_
            show Steps p.tables e below (T77.setTop (mkF m 209 #[.val (.long x0), .second, .val (.long x1), .second, .val (.int x2), .val (.int x3), .val (.long (f0_j6 x0 x1 x2 x3)), .second, .val (.int (f0_v10 x0 x1 x2 x3)), .val (.int (f0_j13 x0 x1 x2 x3)), .val (.ref b17), .val (.long (f0_j37 x0 x1 x2 x3)), .second, .val (.long (f0_j38 x0 x1 x2 x3)), .second, .val (.long (f0_j72 x0 x1 x2 x3)), .second, .val (.long (f0_v73 x0 x1 x2 x3)), .second, .val (.long (f0_j76 x0 x1 x2 x3)), .second, .unset, .unset] [(.long (f0_j76 x0 x1 x2 x3)), (.long (9223372036854775806 : Int64))])) _
            refine XS.lsub X77.here hx rfl (hb hby at_209) rfl ?_
            show Steps p.tables e below (T77.setTop (mkF m 210 #[.val (.long x0), .second, .val (.long x1), .second, .val (.int x2), .val (.int x3), .val (.long (f0_j6 x0 x1 x2 x3)), .second, .val (.int (f0_v10 x0 x1 x2 x3)), .val (.int (f0_j13 x0 x1 x2 x3)), .val (.ref b17), .val (.long (f0_j37 x0 x1 x2 x3)), .second, .val (.long (f0_j38 x0 x1 x2 x3)), .second, .val (.long (f0_j72 x0 x1 x2 x3)), .second, .val (.long (f0_v73 x0 x1 x2 x3)), .second, .val (.long (f0_j76 x0 x1 x2 x3)), .second, .unset, .unset] [(.long ((9223372036854775806 : Int64) - (f0_j76 x0 x1 x2 x3)))])) _
            refine XS.lload X77.here hx rfl (hb hby at_210) rfl ?_
            show Steps p.tables e below (T77.setTop (mkF m 212 #[.val (.long x0), .second, .val (.long x1), .second, .val (.int x2), .val (.int x3), .val (.long (f0_j6 x0 x1 x2 x3)), .second, .val (.int (f0_v10 x0 x1 x2 x3)), .val (.int (f0_j13 x0 x1 x2 x3)), .val (.ref b17), .val (.long (f0_j37 x0 x1 x2 x3)), .second, .val (.long (f0_j38 x0 x1 x2 x3)), .second, .val (.long (f0_j72 x0 x1 x2 x3)), .second, .val (.long (f0_v73 x0 x1 x2 x3)), .second, .val (.long (f0_j76 x0 x1 x2 x3)), .second, .unset, .unset] [(.long (f0_j6 x0 x1 x2 x3)), (.long ((9223372036854775806 : Int64) - (f0_j76 x0 x1 x2 x3)))])) _
            refine st80 _ ?_
            exact k
          obtain ⟨T84, L84, X84, N84, e84, pre84⟩ : ∃ (T' : State) (L' : List Loc), Stand p l e room_1 s m #[(.long x0), (.long x1), (.int x2), (.int x3)] below meth c T' L' 1 3 ∧ Fr n0 L' ∧ T'.heap = h21 ∧ ∀ t, Steps p.tables e below (T'.setTop (mkF m 229 #[.val (.long x0), .second, .val (.long x1), .second, .val (.int x2), .val (.int x3), .val (.long (f0_j6 x0 x1 x2 x3)), .second, .val (.int (f0_v10 x0 x1 x2 x3)), .val (.int (f0_j13 x0 x1 x2 x3)), .val (.ref b17), .val (.long (f0_j37 x0 x1 x2 x3)), .second, .val (.long (f0_j38 x0 x1 x2 x3)), .second, .val (.long (f0_j72 x0 x1 x2 x3)), .second, .val (.long (f0_v73 x0 x1 x2 x3)), .second, .val (.long (f0_j76 x0 x1 x2 x3)), .second, .unset, .unset] [(.long (f0_j83 x0 x1 x2 x3))])) t → Steps p.tables e below (s₁.setTop (entryFrame m #[(.long x0), (.long x1), (.int x2), (.int x3)] maxLocals)) t := by
            rcases Bool.eq_false_or_eq_true (ifCond.holds .eq (f6 ((9223372036854775806 : Int64) - (f0_j76 x0 x1 x2 x3)) (f0_j6 x0 x1 x2 x3))) with hc82 | hc82
            · have pre85 : ∀ t, Steps p.tables e below (T80.setTop (mkF m 229 #[.val (.long x0), .second, .val (.long x1), .second, .val (.int x2), .val (.int x3), .val (.long (f0_j6 x0 x1 x2 x3)), .second, .val (.int (f0_v10 x0 x1 x2 x3)), .val (.int (f0_j13 x0 x1 x2 x3)), .val (.ref b17), .val (.long (f0_j37 x0 x1 x2 x3)), .second, .val (.long (f0_j38 x0 x1 x2 x3)), .second, .val (.long (f0_j72 x0 x1 x2 x3)), .second, .val (.long (f0_v73 x0 x1 x2 x3)), .second, .val (.long (f0_j76 x0 x1 x2 x3)), .second, .unset, .unset] [(.long (9223372036854775807 : Int64))])) t → Steps p.tables e below (s₁.setTop (entryFrame m #[(.long x0), (.long x1), (.int x2), (.int x3)] maxLocals)) t := by
                intro t k
                refine pre81 _ ?_
                show Steps p.tables e below (T80.setTop (mkF m 215 #[.val (.long x0), .second, .val (.long x1), .second, .val (.int x2), .val (.int x3), .val (.long (f0_j6 x0 x1 x2 x3)), .second, .val (.int (f0_v10 x0 x1 x2 x3)), .val (.int (f0_j13 x0 x1 x2 x3)), .val (.ref b17), .val (.long (f0_j37 x0 x1 x2 x3)), .second, .val (.long (f0_j38 x0 x1 x2 x3)), .second, .val (.long (f0_j72 x0 x1 x2 x3)), .second, .val (.long (f0_v73 x0 x1 x2 x3)), .second, .val (.long (f0_j76 x0 x1 x2 x3)), .second, .unset, .unset] [(.int (f6 ((9223372036854775806 : Int64) - (f0_j76 x0 x1 x2 x3)) (f0_j6 x0 x1 x2 x3)))])) _
                refine XS.ifYes X80.here hx rfl (pc0 := 215) (pc' := 226) rfl (hb hby at_215) rfl hc82 (by decide) (by decide) ?_
                show Steps p.tables e below (T80.setTop (mkF m 226 #[.val (.long x0), .second, .val (.long x1), .second, .val (.int x2), .val (.int x3), .val (.long (f0_j6 x0 x1 x2 x3)), .second, .val (.int (f0_v10 x0 x1 x2 x3)), .val (.int (f0_j13 x0 x1 x2 x3)), .val (.ref b17), .val (.long (f0_j37 x0 x1 x2 x3)), .second, .val (.long (f0_j38 x0 x1 x2 x3)), .second, .val (.long (f0_j72 x0 x1 x2 x3)), .second, .val (.long (f0_v73 x0 x1 x2 x3)), .second, .val (.long (f0_j76 x0 x1 x2 x3)), .second, .unset, .unset] [])) _
                refine X80.ldc2Long hx hown (mvT hZ (hw _ (List.mem_of_getElem? (i := 0) rfl))) (g := (mkF m 226 #[.val (.long x0), .second, .val (.long x1), .second, .val (.int x2), .val (.int x3), .val (.long (f0_j6 x0 x1 x2 x3)), .second, .val (.int (f0_v10 x0 x1 x2 x3)), .val (.int (f0_j13 x0 x1 x2 x3)), .val (.ref b17), .val (.long (f0_j37 x0 x1 x2 x3)), .second, .val (.long (f0_j38 x0 x1 x2 x3)), .second, .val (.long (f0_j72 x0 x1 x2 x3)), .second, .val (.long (f0_v73 x0 x1 x2 x3)), .second, .val (.long (f0_j76 x0 x1 x2 x3)), .second, .unset, .unset] [])) rfl (hb hby at_226) _ ?_
                exact k
              have qj0 : (f0_j83 x0 x1 x2 x3) = (9223372036854775807 : Int64) := if_pos hc82
              refine ⟨T80, _, X80, N80, e80, fun t k => pre85 _ ?_⟩
              rw [qj0] at k
              exact k
            · have pre86 : ∀ t, Steps p.tables e below (T80.setTop (mkF m 229 #[.val (.long x0), .second, .val (.long x1), .second, .val (.int x2), .val (.int x3), .val (.long (f0_j6 x0 x1 x2 x3)), .second, .val (.int (f0_v10 x0 x1 x2 x3)), .val (.int (f0_j13 x0 x1 x2 x3)), .val (.ref b17), .val (.long (f0_j37 x0 x1 x2 x3)), .second, .val (.long (f0_j38 x0 x1 x2 x3)), .second, .val (.long (f0_j72 x0 x1 x2 x3)), .second, .val (.long (f0_v73 x0 x1 x2 x3)), .second, .val (.long (f0_j76 x0 x1 x2 x3)), .second, .unset, .unset] [(.long ((f0_j76 x0 x1 x2 x3) + (f0_j6 x0 x1 x2 x3)))])) t → Steps p.tables e below (s₁.setTop (entryFrame m #[(.long x0), (.long x1), (.int x2), (.int x3)] maxLocals)) t := by
                intro t k
                refine pre81 _ ?_
                show Steps p.tables e below (T80.setTop (mkF m 215 #[.val (.long x0), .second, .val (.long x1), .second, .val (.int x2), .val (.int x3), .val (.long (f0_j6 x0 x1 x2 x3)), .second, .val (.int (f0_v10 x0 x1 x2 x3)), .val (.int (f0_j13 x0 x1 x2 x3)), .val (.ref b17), .val (.long (f0_j37 x0 x1 x2 x3)), .second, .val (.long (f0_j38 x0 x1 x2 x3)), .second, .val (.long (f0_j72 x0 x1 x2 x3)), .second, .val (.long (f0_v73 x0 x1 x2 x3)), .second, .val (.long (f0_j76 x0 x1 x2 x3)), .second, .unset, .unset] [(.int (f6 ((9223372036854775806 : Int64) - (f0_j76 x0 x1 x2 x3)) (f0_j6 x0 x1 x2 x3)))])) _
                refine XS.ifNo X80.here hx rfl (hb hby at_215) rfl hc82 ?_
                show Steps p.tables e below (T80.setTop (mkF m 218 #[.val (.long x0), .second, .val (.long x1), .second, .val (.int x2), .val (.int x3), .val (.long (f0_j6 x0 x1 x2 x3)), .second, .val (.int (f0_v10 x0 x1 x2 x3)), .val (.int (f0_j13 x0 x1 x2 x3)), .val (.ref b17), .val (.long (f0_j37 x0 x1 x2 x3)), .second, .val (.long (f0_j38 x0 x1 x2 x3)), .second, .val (.long (f0_j72 x0 x1 x2 x3)), .second, .val (.long (f0_v73 x0 x1 x2 x3)), .second, .val (.long (f0_j76 x0 x1 x2 x3)), .second, .unset, .unset] [])) _
                refine XS.lload X80.here hx rfl (hb hby at_218) rfl ?_
                show Steps p.tables e below (T80.setTop (mkF m 220 #[.val (.long x0), .second, .val (.long x1), .second, .val (.int x2), .val (.int x3), .val (.long (f0_j6 x0 x1 x2 x3)), .second, .val (.int (f0_v10 x0 x1 x2 x3)), .val (.int (f0_j13 x0 x1 x2 x3)), .val (.ref b17), .val (.long (f0_j37 x0 x1 x2 x3)), .second, .val (.long (f0_j38 x0 x1 x2 x3)), .second, .val (.long (f0_j72 x0 x1 x2 x3)), .second, .val (.long (f0_v73 x0 x1 x2 x3)), .second, .val (.long (f0_j76 x0 x1 x2 x3)), .second, .unset, .unset] [(.long (f0_j76 x0 x1 x2 x3))])) _
                refine XS.lload X80.here hx rfl (hb hby at_220) rfl ?_
                show Steps p.tables e below (T80.setTop (mkF m 222 #[.val (.long x0), .second, .val (.long x1), .second, .val (.int x2), .val (.int x3), .val (.long (f0_j6 x0 x1 x2 x3)), .second, .val (.int (f0_v10 x0 x1 x2 x3)), .val (.int (f0_j13 x0 x1 x2 x3)), .val (.ref b17), .val (.long (f0_j37 x0 x1 x2 x3)), .second, .val (.long (f0_j38 x0 x1 x2 x3)), .second, .val (.long (f0_j72 x0 x1 x2 x3)), .second, .val (.long (f0_v73 x0 x1 x2 x3)), .second, .val (.long (f0_j76 x0 x1 x2 x3)), .second, .unset, .unset] [(.long (f0_j6 x0 x1 x2 x3)), (.long (f0_j76 x0 x1 x2 x3))])) _
                refine XS.ladd X80.here hx rfl (hb hby at_222) rfl ?_
                show Steps p.tables e below (T80.setTop (mkF m 223 #[.val (.long x0), .second, .val (.long x1), .second, .val (.int x2), .val (.int x3), .val (.long (f0_j6 x0 x1 x2 x3)), .second, .val (.int (f0_v10 x0 x1 x2 x3)), .val (.int (f0_j13 x0 x1 x2 x3)), .val (.ref b17), .val (.long (f0_j37 x0 x1 x2 x3)), .second, .val (.long (f0_j38 x0 x1 x2 x3)), .second, .val (.long (f0_j72 x0 x1 x2 x3)), .second, .val (.long (f0_v73 x0 x1 x2 x3)), .second, .val (.long (f0_j76 x0 x1 x2 x3)), .second, .unset, .unset] [(.long ((f0_j76 x0 x1 x2 x3) + (f0_j6 x0 x1 x2 x3)))])) _
                refine XS.goto X80.here hx rfl (pc0 := 223) (pc' := 229) rfl (hb hby at_223) (by decide) (by decide) ?_
                exact k
              have qj0 : (f0_j83 x0 x1 x2 x3) = ((f0_j76 x0 x1 x2 x3) + (f0_j6 x0 x1 x2 x3)) := if_neg (own_nt hc82)
              refine ⟨T80, _, X80, N80, e80, fun t k => pre86 _ ?_⟩
              rw [qj0] at k
              exact k
          obtain ⟨cq87, kq87, q87a, q87b, q87c⟩ := isOf hZ e84 G21_0
          obtain ⟨_, _, ⟨T87, L87, k87, n87⟩, -, X87, ⟨Lc87, hQ87, l87, y87, z87⟩, st87⟩ := X84.virtualBack hx (y := (⟨"com/example/tick_wheel/tickwheel/wheel/TickGrid", "boundaryAfter", "(J)J"⟩ : MethodName)) (z := (⟨"com/example/tick_wheel/tickwheel/wheel/TickGrid", "boundaryAfter", "(J)J"⟩ : MethodName)) hown (mvT hZ (hw _ (List.mem_of_getElem? (i := 37) rfl))) (mvT hZ (hw _ (List.mem_of_getElem? (i := 38) rfl))) (notFace_of_selects (args := #[]) (mvT hZ (hw _ (List.mem_of_getElem? (i := 40) rfl)))) (mvT hZ (hw _ (List.mem_of_getElem? (i := 40) rfl))) (mvT hZ (hw _ (List.mem_of_getElem? (i := 39) rfl))) (by decide) (backOf (W := 0) (rm7 l Z a0 hw [] b17 (f0_j76 x0 x1 x2 x3) (x0 + ((f1_v14 x0 (f0_j6 x0 x1 x2 x3)) * (f0_j6 x0 x1 x2 x3))) (f0_j6 x0 x1 x2 x3) h21 n0 Z21 G21_3 G21_2) hZ (hw _ (List.mem_of_getElem? (i := 41) rfl)) (hw _ (List.mem_of_getElem? (i := 3) rfl)) (by decide) (by decide)) q87a q87c (g := (mkF m 235 #[.val (.long x0), .second, .val (.long x1), .second, .val (.int x2), .val (.int x3), .val (.long (f0_j6 x0 x1 x2 x3)), .second, .val (.int (f0_v10 x0 x1 x2 x3)), .val (.int (f0_j13 x0 x1 x2 x3)), .val (.ref b17), .val (.long (f0_j37 x0 x1 x2 x3)), .second, .val (.long (f0_j38 x0 x1 x2 x3)), .second, .val (.long (f0_j72 x0 x1 x2 x3)), .second, .val (.long (f0_v73 x0 x1 x2 x3)), .second, .val (.long (f0_j76 x0 x1 x2 x3)), .second, .val (.long (f0_j83 x0 x1 x2 x3)), .second] [(.long (f0_j76 x0 x1 x2 x3)), (.ref b17)])) rfl (by rw [hml]; rfl) (Steps.refl _) (argsL := [(.long (f0_j76 x0 x1 x2 x3))]) (rest := []) (lenOf pd_3 rfl) rfl (by show 2 * 0 + _ ≤ _; exact Nat.le_of_eq rfl) (hb hby at_235) (fun _ _ => ⟨rfl, e84, (by decide : 1 + 0 ≤ _), (by decide : 3 + 0 ≤ _)⟩)
          dsimp only [Pt.U, Pt.locs, Pt.cells, Pt.slots] at X87 l87 y87 z87 st87 hQ87
          subst l87 y87 z87
          obtain ⟨rfl, Nq87, e87⟩ := hQ87
          have N87 := Fr.app N84 Nq87
          have pre88 : ∀ t, Steps p.tables e below (T87.setTop (mkF m 241 #[.val (.long x0), .second, .val (.long x1), .second, .val (.int x2), .val (.int x3), .val (.long (f0_j6 x0 x1 x2 x3)), .second, .val (.int (f0_v10 x0 x1 x2 x3)), .val (.int (f0_j13 x0 x1 x2 x3)), .val (.ref b17), .val (.long (f0_j37 x0 x1 x2 x3)), .second, .val (.long (f0_j38 x0 x1 x2 x3)), .second, .val (.long (f0_j72 x0 x1 x2 x3)), .second, .val (.long (f0_v73 x0 x1 x2 x3)), .second, .val (.long (f0_j76 x0 x1 x2 x3)), .second, .val (.long (f0_j83 x0 x1 x2 x3)), .second] [(.int (own_cmp (f7 (f0_j76 x0 x1 x2 x3) (x0 + ((f1_v14 x0 (f0_j6 x0 x1 x2 x3)) * (f0_j6 x0 x1 x2 x3))) (f0_j6 x0 x1 x2 x3)) (f0_j83 x0 x1 x2 x3)))])) t → Steps p.tables e below (s₁.setTop (entryFrame m #[(.long x0), (.long x1), (.int x2), (.int x3)] maxLocals)) t := by
            intro t k
            refine pre84 _ ?_
            show Steps p.tables e below (T84.setTop (mkF m 229 #[.val (.long x0), .second, .val (.long x1), .second, .val (.int x2), .val (.int x3), .val (.long (f0_j6 x0 x1 x2 x3)), .second, .val (.int (f0_v10 x0 x1 x2 x3)), .val (.int (f0_j13 x0 x1 x2 x3)), .val (.ref b17), .val (.long (f0_j37 x0 x1 x2 x3)), .second, .val (.long (f0_j38 x0 x1 x2 x3)), .second, .val (.long (f0_j72 x0 x1 x2 x3)), .second, .val (.long (f0_v73 x0 x1 x2 x3)), .second, .val (.long (f0_j76 x0 x1 x2 x3)), .second, .unset, .unset] [(.long (f0_j83 x0 x1 x2 x3))])) _
            refine XS.lstore X84.here hx rfl (hb hby at_229) rfl (l' := #[.val (.long x0), .second, .val (.long x1), .second, .val (.int x2), .val (.int x3), .val (.long (f0_j6 x0 x1 x2 x3)), .second, .val (.int (f0_v10 x0 x1 x2 x3)), .val (.int (f0_j13 x0 x1 x2 x3)), .val (.ref b17), .val (.long (f0_j37 x0 x1 x2 x3)), .second, .val (.long (f0_j38 x0 x1 x2 x3)), .second, .val (.long (f0_j72 x0 x1 x2 x3)), .second, .val (.long (f0_v73 x0 x1 x2 x3)), .second, .val (.long (f0_j76 x0 x1 x2 x3)), .second, .val (.long (f0_j83 x0 x1 x2 x3)), .second]) rfl ?_
            show Steps p.tables e below (T84.setTop (mkF m 231 #[.val (.long x0), .second, .val (.long x1), .second, .val (.int x2), .val (.int x3), .val (.long (f0_j6 x0 x1 x2 x3)), .second, .val (.int (f0_v10 x0 x1 x2 x3)), .val (.int (f0_j13 x0 x1 x2 x3)), .val (.ref b17), .val (.long (f0_j37 x0 x1 x2 x3)), .second, .val (.long (f0_j38 x0 x1 x2 x3)), .second, .val (.long (f0_j72 x0 x1 x2 x3)), .second, .val (.long (f0_v73 x0 x1 x2 x3)), .second, .val (.long (f0_j76 x0 x1 x2 x3)), .second, .val (.long (f0_j83 x0 x1 x2 x3)), .second] [])) _
            refine XS.aload X84.here hx rfl (hb hby at_231) rfl rfl ?_
            show Steps p.tables e below (T84.setTop (mkF m 233 #[.val (.long x0), .second, .val (.long x1), .second, .val (.int x2), .val (.int x3), .val (.long (f0_j6 x0 x1 x2 x3)), .second, .val (.int (f0_v10 x0 x1 x2 x3)), .val (.int (f0_j13 x0 x1 x2 x3)), .val (.ref b17), .val (.long (f0_j37 x0 x1 x2 x3)), .second, .val (.long (f0_j38 x0 x1 x2 x3)), .second, .val (.long (f0_j72 x0 x1 x2 x3)), .second, .val (.long (f0_v73 x0 x1 x2 x3)), .second, .val (.long (f0_j76 x0 x1 x2 x3)), .second, .val (.long (f0_j83 x0 x1 x2 x3)), .second] [(.ref b17)])) _
            refine XS.lload X84.here hx rfl (hb hby at_233) rfl ?_
            show Steps p.tables e below (T84.setTop (mkF m 235 #[.val (.long x0), .second, .val (.long x1), .second, .val (.int x2), .val (.int x3), .val (.long (f0_j6 x0 x1 x2 x3)), .second, .val (.int (f0_v10 x0 x1 x2 x3)), .val (.int (f0_j13 x0 x1 x2 x3)), .val (.ref b17), .val (.long (f0_j37 x0 x1 x2 x3)), .second, .val (.long (f0_j38 x0 x1 x2 x3)), .second, .val (.long (f0_j72 x0 x1 x2 x3)), .second, .val (.long (f0_v73 x0 x1 x2 x3)), .second, .val (.long (f0_j76 x0 x1 x2 x3)), .second, .val (.long (f0_j83 x0 x1 x2 x3)), .second] [(.long (f0_j76 x0 x1 x2 x3)), (.ref b17)])) _
            refine st87.trans ?_
            show Steps p.tables e below (T87.setTop (mkF m 238 #[.val (.long x0), .second, .val (.long x1), .second, .val (.int x2), .val (.int x3), .val (.long (f0_j6 x0 x1 x2 x3)), .second, .val (.int (f0_v10 x0 x1 x2 x3)), .val (.int (f0_j13 x0 x1 x2 x3)), .val (.ref b17), .val (.long (f0_j37 x0 x1 x2 x3)), .second, .val (.long (f0_j38 x0 x1 x2 x3)), .second, .val (.long (f0_j72 x0 x1 x2 x3)), .second, .val (.long (f0_v73 x0 x1 x2 x3)), .second, .val (.long (f0_j76 x0 x1 x2 x3)), .second, .val (.long (f0_j83 x0 x1 x2 x3)), .second] [(.long (f7 (f0_j76 x0 x1 x2 x3) (x0 + ((f1_v14 x0 (f0_j6 x0 x1 x2 x3)) * (f0_j6 x0 x1 x2 x3))) (f0_j6 x0 x1 x2 x3)))])) _
            refine XS.lload X87.here hx rfl (hb hby at_238) rfl ?_
            show Steps p.tables e below (T87.setTop (mkF m 240 #[.val (.long x0), .second, .val (.long x1), .second, .val (.int x2), .val (.int x3), .val (.long (f0_j6 x0 x1 x2 x3)), .second, .val (.int (f0_v10 x0 x1 x2 x3)), .val (.int (f0_j13 x0 x1 x2 x3)), .val (.ref b17), .val (.long (f0_j37 x0 x1 x2 x3)), .second, .val (.long (f0_j38 x0 x1 x2 x3)), .second, .val (.long (f0_j72 x0 x1 x2 x3)), .second, .val (.long (f0_v73 x0 x1 x2 x3)), .second, .val (.long (f0_j76 x0 x1 x2 x3)), .second, .val (.long (f0_j83 x0 x1 x2 x3)), .second] [(.long (f0_j83 x0 x1 x2 x3)), (.long (f7 (f0_j76 x0 x1 x2 x3) (x0 + ((f1_v14 x0 (f0_j6 x0 x1 x2 x3)) * (f0_j6 x0 x1 x2 x3))) (f0_j6 x0 x1 x2 x3)))])) _
            refine own_xlcmp X87.here hx rfl (hb hby at_240) rfl ?_
            exact k
          obtain ⟨T91, L91, X91, N91, e91, pre91⟩ : ∃ (T' : State) (L' : List Loc), Stand p l e room_1 s m #[(.long x0), (.long x1), (.int x2), (.int x3)] below meth c T' L' 1 3 ∧ Fr n0 L' ∧ T'.heap = h21 ∧ ∀ t, Steps p.tables e below (T'.setTop (mkF m 249 #[.val (.long x0), .second, .val (.long x1), .second, .val (.int x2), .val (.int x3), .val (.long (f0_j6 x0 x1 x2 x3)), .second, .val (.int (f0_v10 x0 x1 x2 x3)), .val (.int (f0_j13 x0 x1 x2 x3)), .val (.ref b17), .val (.long (f0_j37 x0 x1 x2 x3)), .second, .val (.long (f0_j38 x0 x1 x2 x3)), .second, .val (.long (f0_j72 x0 x1 x2 x3)), .second, .val (.long (f0_v73 x0 x1 x2 x3)), .second, .val (.long (f0_j76 x0 x1 x2 x3)), .second, .val (.long (f0_j83 x0 x1 x2 x3)), .second] [(.int (f0_j90 x0 x1 x2 x3))])) t → Steps p.tables e below (s₁.setTop (entryFrame m #[(.long x0), (.long x1), (.int x2), (.int x3)] maxLocals)) t := by
            rcases Bool.eq_false_or_eq_true (ifCond.holds .ne (own_cmp (f7 (f0_j76 x0 x1 x2 x3) (x0 + ((f1_v14 x0 (f0_j6 x0 x1 x2 x3)) * (f0_j6 x0 x1 x2 x3))) (f0_j6 x0 x1 x2 x3)) (f0_j83 x0 x1 x2 x3))) with hc89 | hc89
            · have pre92 : ∀ t, Steps p.tables e below (T87.setTop (mkF m 249 #[.val (.long x0), .second, .val (.long x1), .second, .val (.int x2), .val (.int x3), .val (.long (f0_j6 x0 x1 x2 x3)), .second, .val (.int (f0_v10 x0 x1 x2 x3)), .val (.int (f0_j13 x0 x1 x2 x3)), .val (.ref b17), .val (.long (f0_j37 x0 x1 x2 x3)), .second, .val (.long (f0_j38 x0 x1 x2 x3)), .second, .val (.long (f0_j72 x0 x1 x2 x3)), .second, .val (.long (f0_v73 x0 x1 x2 x3)), .second, .val (.long (f0_j76 x0 x1 x2 x3)), .second, .val (.long (f0_j83 x0 x1 x2 x3)), .second] [(.int (0 : Int32))])) t → Steps p.tables e below (s₁.setTop (entryFrame m #[(.long x0), (.long x1), (.int x2), (.int x3)] maxLocals)) t := by
                intro t k
                refine pre88 _ ?_
                show Steps p.tables e below (T87.setTop (mkF m 241 #[.val (.long x0), .second, .val (.long x1), .second, .val (.int x2), .val (.int x3), .val (.long (f0_j6 x0 x1 x2 x3)), .second, .val (.int (f0_v10 x0 x1 x2 x3)), .val (.int (f0_j13 x0 x1 x2 x3)), .val (.ref b17), .val (.long (f0_j37 x0 x1 x2 x3)), .second, .val (.long (f0_j38 x0 x1 x2 x3)), .second, .val (.long (f0_j72 x0 x1 x2 x3)), .second, .val (.long (f0_v73 x0 x1 x2 x3)), .second, .val (.long (f0_j76 x0 x1 x2 x3)), .second, .val (.long (f0_j83 x0 x1 x2 x3)), .second] [(.int (own_cmp (f7 (f0_j76 x0 x1 x2 x3) (x0 + ((f1_v14 x0 (f0_j6 x0 x1 x2 x3)) * (f0_j6 x0 x1 x2 x3))) (f0_j6 x0 x1 x2 x3)) (f0_j83 x0 x1 x2 x3)))])) _
                refine XS.ifYes X87.here hx rfl (pc0 := 241) (pc' := 248) rfl (hb hby at_241) rfl hc89 (by decide) (by decide) ?_
                show Steps p.tables e below (T87.setTop (mkF m 248 #[.val (.long x0), .second, .val (.long x1), .second, .val (.int x2), .val (.int x3), .val (.long (f0_j6 x0 x1 x2 x3)), .second, .val (.int (f0_v10 x0 x1 x2 x3)), .val (.int (f0_j13 x0 x1 x2 x3)), .val (.ref b17), .val (.long (f0_j37 x0 x1 x2 x3)), .second, .val (.long (f0_j38 x0 x1 x2 x3)), .second, .val (.long (f0_j72 x0 x1 x2 x3)), .second, .val (.long (f0_v73 x0 x1 x2 x3)), .second, .val (.long (f0_j76 x0 x1 x2 x3)), .second, .val (.long (f0_j83 x0 x1 x2 x3)), .second] [])) _
                refine XS.iconst X87.here hx rfl (hb hby at_248) ?_
                exact k
              have qj0 : (f0_j90 x0 x1 x2 x3) = (0 : Int32) := if_pos hc89
              refine ⟨T87, _, X87, N87, e87, fun t k => pre92 _ ?_⟩
              rw [qj0] at k
              exact k
            · have pre93 : ∀ t, Steps p.tables e below (T87.setTop (mkF m 249 #[.val (.long x0), .second, .val (.long x1), .second, .val (.int x2), .val (.int x3), .val (.long (f0_j6 x0 x1 x2 x3)), .second, .val (.int (f0_v10 x0 x1 x2 x3)), .val (.int (f0_j13 x0 x1 x2 x3)), .val (.ref b17), .val (.long (f0_j37 x0 x1 x2 x3)), .second, .val (.long (f0_j38 x0 x1 x2 x3)), .second, .val (.long (f0_j72 x0 x1 x2 x3)), .second, .val (.long (f0_v73 x0 x1 x2 x3)), .second, .val (.long (f0_j76 x0 x1 x2 x3)), .second, .val (.long (f0_j83 x0 x1 x2 x3)), .second] [(.int (1 : Int32))])) t → Steps p.tables e below (s₁.setTop (entryFrame m #[(.long x0), (.long x1), (.int x2), (.int x3)] maxLocals)) t := by
                intro t k
                refine pre88 _ ?_
                show Steps p.tables e below (T87.setTop (mkF m 241 #[.val (.long x0), .second, .val (.long x1), .second, .val (.int x2), .val (.int x3), .val (.long (f0_j6 x0 x1 x2 x3)), .second, .val (.int (f0_v10 x0 x1 x2 x3)), .val (.int (f0_j13 x0 x1 x2 x3)), .val (.ref b17), .val (.long (f0_j37 x0 x1 x2 x3)), .second, .val (.long (f0_j38 x0 x1 x2 x3)), .second, .val (.long (f0_j72 x0 x1 x2 x3)), .second, .val (.long (f0_v73 x0 x1 x2 x3)), .second, .val (.long (f0_j76 x0 x1 x2 x3)), .second, .val (.long (f0_j83 x0 x1 x2 x3)), .second] [(.int (own_cmp (f7 (f0_j76 x0 x1 x2 x3) (x0 + ((f1_v14 x0 (f0_j6 x0 x1 x2 x3)) * (f0_j6 x0 x1 x2 x3))) (f0_j6 x0 x1 x2 x3)) (f0_j83 x0 x1 x2 x3)))])) _
                refine XS.ifNo X87.here hx rfl (hb hby at_241) rfl hc89 ?_
                show Steps p.tables e below (T87.setTop (mkF m 244 #[.val (.long x0), .second, .val (.long x1), .second, .val (.int x2), .val (.int x3), .val (.long (f0_j6 x0 x1 x2 x3)), .second, .val (.int (f0_v10 x0 x1 x2 x3)), .val (.int (f0_j13 x0 x1 x2 x3)), .val (.ref b17), .val (.long (f0_j37 x0 x1 x2 x3)), .second, .val (.long (f0_j38 x0 x1 x2 x3)), .second, .val (.long (f0_j72 x0 x1 x2 x3)), .second, .val (.long (f0_v73 x0 x1 x2 x3)), .second, .val (.long (f0_j76 x0 x1 x2 x3)), .second, .val (.long (f0_j83 x0 x1 x2 x3)), .second] [])) _
                refine XS.iconst X87.here hx rfl (hb hby at_244) ?_
                show Steps p.tables e below (T87.setTop (mkF m 245 #[.val (.long x0), .second, .val (.long x1), .second, .val (.int x2), .val (.int x3), .val (.long (f0_j6 x0 x1 x2 x3)), .second, .val (.int (f0_v10 x0 x1 x2 x3)), .val (.int (f0_j13 x0 x1 x2 x3)), .val (.ref b17), .val (.long (f0_j37 x0 x1 x2 x3)), .second, .val (.long (f0_j38 x0 x1 x2 x3)), .second, .val (.long (f0_j72 x0 x1 x2 x3)), .second, .val (.long (f0_v73 x0 x1 x2 x3)), .second, .val (.long (f0_j76 x0 x1 x2 x3)), .second, .val (.long (f0_j83 x0 x1 x2 x3)), .second] [(.int (1 : Int32))])) _
                refine XS.goto X87.here hx rfl (pc0 := 245) (pc' := 249) rfl (hb hby at_245) (by decide) (by decide) ?_
                exact k
              have qj0 : (f0_j90 x0 x1 x2 x3) = (1 : Int32) := if_neg (own_nt hc89)
              refine ⟨T87, _, X87, N87, e87, fun t k => pre93 _ ?_⟩
              rw [qj0] at k
              exact k
          obtain ⟨fs, hr, hrun, hended, hW, hsame⟩ := X91.leave (v := some (.int (nar .boolean (f0_j90 x0 x1 x2 x3)))) (fun h => by rw [hret] at h; cases h)
          refine ⟨_, _, pre91 _ ?_, hrun, hended, _, _, rfl, ?_, ⟨_, rfl⟩, hW, hsame.mono (by decide) (by decide)⟩
          · show Steps p.tables e below (T91.setTop (mkF m 249 #[.val (.long x0), .second, .val (.long x1), .second, .val (.int x2), .val (.int x3), .val (.long (f0_j6 x0 x1 x2 x3)), .second, .val (.int (f0_v10 x0 x1 x2 x3)), .val (.int (f0_j13 x0 x1 x2 x3)), .val (.ref b17), .val (.long (f0_j37 x0 x1 x2 x3)), .second, .val (.long (f0_j38 x0 x1 x2 x3)), .second, .val (.long (f0_j72 x0 x1 x2 x3)), .second, .val (.long (f0_v73 x0 x1 x2 x3)), .second, .val (.long (f0_j76 x0 x1 x2 x3)), .second, .val (.long (f0_j83 x0 x1 x2 x3)), .second] [(.int (f0_j90 x0 x1 x2 x3))])) _
            exact retN X91 hx (t := .boolean) hret (by simp) (hb hby at_249) hr
          · show Q0 Z x0 x1 x2 x3 h0 n0 _ T91.heap _
            rw [e91]
            have rr : f0 x0 x1 x2 x3 = (nar .boolean (f0_j90 x0 x1 x2 x3)) := hres65
            exact ⟨congrArg (fun z => some (Value.int z)) rr.symm, N91⟩
        rcases Bool.eq_false_or_eq_true (if_icmp.holds .lt (f0_v10 x0 x1 x2 x3) (3 : Int32)) with hc64 | hc64
        · have pre71 : ∀ t, Steps p.tables e below (T55.setTop (mkF m 176 #[.val (.long x0), .second, .val (.long x1), .second, .val (.int x2), .val (.int x3), .val (.long (f0_j6 x0 x1 x2 x3)), .second, .val (.int (f0_v10 x0 x1 x2 x3)), .val (.int (f0_j13 x0 x1 x2 x3)), .val (.ref b17), .val (.long (f0_j37 x0 x1 x2 x3)), .second, .val (.long (f0_j38 x0 x1 x2 x3)), .second, .val (.long (f0_j62 x0 x1 x2 x3)), .second, .unset, .unset, .unset, .unset, .unset, .unset] [])) t → Steps p.tables e below (s₁.setTop (entryFrame m #[(.long x0), (.long x1), (.int x2), (.int x3)] maxLocals)) t := by
            intro t k
            refine pre63 _ ?_
            show Steps p.tables e below (T55.setTop (mkF m 154 #[.val (.long x0), .second, .val (.long x1), .second, .val (.int x2), .val (.int x3), .val (.long (f0_j6 x0 x1 x2 x3)), .second, .val (.int (f0_v10 x0 x1 x2 x3)), .val (.int (f0_j13 x0 x1 x2 x3)), .val (.ref b17), .val (.long (f0_j37 x0 x1 x2 x3)), .second, .val (.long (f0_j38 x0 x1 x2 x3)), .second, .val (.long (f0_j62 x0 x1 x2 x3)), .second, .unset, .unset, .unset, .unset, .unset, .unset] [(.int (3 : Int32)), (.int (f0_v10 x0 x1 x2 x3))])) _
            refine XS.icmpYes X55.here hx rfl (pc0 := 154) (pc' := 176) rfl (hb hby at_154) rfl hc64 (by decide) (by decide) ?_
            exact k
          have qj0 : (f0_j72 x0 x1 x2 x3) = (f0_j62 x0 x1 x2 x3) := if_pos hc64
          exact cont65 T55 _ X55 N55 e55 (Eq.trans (hres55) (if_pos hc64)) (fun t k => pre71 _ (by rw [qj0] at k; exact k))
        · obtain ⟨_, _, ⟨T66, L66, k66, n66⟩, -, X66, ⟨Lc66, hQ66, l66, y66, z66⟩, st66⟩ := Jvm.LawKit.callS X55 hx (y := (⟨"com/example/tick_wheel/tickwheel/wheel/TickGridBoundaryAfterPinLaw", "uge", "(JJ)Z"⟩ : MethodName)) hown (mvT hZ (hw _ (List.mem_of_getElem? (i := 32) rfl))) (mvT hZ (hw _ (List.mem_of_getElem? (i := 33) rfl))) (mvT hZ (hw _ (List.mem_of_getElem? (i := 34) rfl))) (mvT hZ (hw _ (List.mem_of_getElem? (i := 35) rfl))) (by decide) (backOf (W := 0) (rm6 l Z a0 hw [] (f0_j62 x0 x1 x2 x3) (f0_j6 x0 x1 x2 x3) h21 n0 Z21) hZ (hw _ (List.mem_of_getElem? (i := 35) rfl)) (hw _ (List.mem_of_getElem? (i := 34) rfl)) (by decide) (by decide)) (g := (mkF m 161 #[.val (.long x0), .second, .val (.long x1), .second, .val (.int x2), .val (.int x3), .val (.long (f0_j6 x0 x1 x2 x3)), .second, .val (.int (f0_v10 x0 x1 x2 x3)), .val (.int (f0_j13 x0 x1 x2 x3)), .val (.ref b17), .val (.long (f0_j37 x0 x1 x2 x3)), .second, .val (.long (f0_j38 x0 x1 x2 x3)), .second, .val (.long (f0_j62 x0 x1 x2 x3)), .second, .unset, .unset, .unset, .unset, .unset, .unset] [(.long (f0_j6 x0 x1 x2 x3)), (.long (f0_j62 x0 x1 x2 x3))])) rfl (by rw [hml]; rfl) (argsL := [(.long (f0_j62 x0 x1 x2 x3)), (.long (f0_j6 x0 x1 x2 x3))]) (rest := []) (lenOf pd_4 rfl) rfl (by show 2 * 0 + _ ≤ _; exact Nat.le_of_eq rfl) (hb hby at_161) (fun _ _ => ⟨rfl, e55, (by decide : 1 + 0 ≤ _), (by decide : 3 + 0 ≤ _)⟩)
          dsimp only [Pt.U, Pt.locs, Pt.cells, Pt.slots] at X66 l66 y66 z66 st66 hQ66
          subst l66 y66 z66
          obtain ⟨rfl, Nq66, e66⟩ := hQ66
          have N66 := Fr.app N55 Nq66
          have pre67 : ∀ t, Steps p.tables e below (T66.setTop (mkF m 164 #[.val (.long x0), .second, .val (.long x1), .second, .val (.int x2), .val (.int x3), .val (.long (f0_j6 x0 x1 x2 x3)), .second, .val (.int (f0_v10 x0 x1 x2 x3)), .val (.int (f0_j13 x0 x1 x2 x3)), .val (.ref b17), .val (.long (f0_j37 x0 x1 x2 x3)), .second, .val (.long (f0_j38 x0 x1 x2 x3)), .second, .val (.long (f0_j62 x0 x1 x2 x3)), .second, .unset, .unset, .unset, .unset, .unset, .unset] [(.int (f6 (f0_j62 x0 x1 x2 x3) (f0_j6 x0 x1 x2 x3)))])) t → Steps p.tables e below (s₁.setTop (entryFrame m #[(.long x0), (.long x1), (.int x2), (.int x3)] maxLocals)) t := by
            intro t k
            refine pre63 _ ?_
            show Steps p.tables e below (T55.setTop (mkF m 154 #[.val (.long x0), .second, .val (.long x1), .second, .val (.int x2), .val (.int x3), .val (.long (f0_j6 x0 x1 x2 x3)), .second, .val (.int (f0_v10 x0 x1 x2 x3)), .val (.int (f0_j13 x0 x1 x2 x3)), .val (.ref b17), .val (.long (f0_j37 x0 x1 x2 x3)), .second, .val (.long (f0_j38 x0 x1 x2 x3)), .second, .val (.long (f0_j62 x0 x1 x2 x3)), .second, .unset, .unset, .unset, .unset, .unset, .unset] [(.int (3 : Int32)), (.int (f0_v10 x0 x1 x2 x3))])) _
            refine XS.icmpNo X55.here hx rfl (hb hby at_154) rfl hc64 ?_
            show Steps p.tables e below (T55.setTop (mkF m 157 #[.val (.long x0), .second, .val (.long x1), .second, .val (.int x2), .val (.int x3), .val (.long (f0_j6 x0 x1 x2 x3)), .second, .val (.int (f0_v10 x0 x1 x2 x3)), .val (.int (f0_j13 x0 x1 x2 x3)), .val (.ref b17), .val (.long (f0_j37 x0 x1 x2 x3)), .second, .val (.long (f0_j38 x0 x1 x2 x3)), .second, .val (.long (f0_j62 x0 x1 x2 x3)), .second, .unset, .unset, .unset, .unset, .unset, .unset] [])) _
            refine XS.lload X55.here hx rfl (hb hby at_157) rfl ?_
            show Steps p.tables e below (T55.setTop (mkF m 159 #[.val (.long x0), .second, .val (.long x1), .second, .val (.int x2), .val (.int x3), .val (.long (f0_j6 x0 x1 x2 x3)), .second, .val (.int (f0_v10 x0 x1 x2 x3)), .val (.int (f0_j13 x0 x1 x2 x3)), .val (.ref b17), .val (.long (f0_j37 x0 x1 x2 x3)), .second, .val (.long (f0_j38 x0 x1 x2 x3)), .second, .val (.long (f0_j62 x0 x1 x2 x3)), .second, .unset, .unset, .unset, .unset, .unset, .unset] [(.long (f0_j62 x0 x1 x2 x3))])) _
            refine XS.lload X55.here hx rfl (hb hby at_159) rfl ?_
            show Steps p.tables e below (T55.setTop (mkF m 161 #[.val (.long x0), .second, .val (.long x1), .second, .val (.int x2), .val (.int x3), .val (.long (f0_j6 x0 x1 x2 x3)), .second, .val (.int (f0_v10 x0 x1 x2 x3)), .val (.int (f0_j13 x0 x1 x2 x3)), .val (.ref b17), .val (.long (f0_j37 x0 x1 x2 x3)), .second, .val (.long (f0_j38 x0 x1 x2 x3)), .second, .val (.long (f0_j62 x0 x1 x2 x3)), .second, .unset, .unset, .unset, .unset, .unset, .unset] [(.long (f0_j6 x0 x1 x2 x3)), (.long (f0_j62 x0 x1 x2 x3))])) _
            refine st66 _ ?_
            exact k
          rcases Bool.eq_false_or_eq_true (ifCond.holds .ne (f6 (f0_j62 x0 x1 x2 x3) (f0_j6 x0 x1 x2 x3))) with hc68 | hc68
          · have pre70 : ∀ t, Steps p.tables e below (T66.setTop (mkF m 176 #[.val (.long x0), .second, .val (.long x1), .second, .val (.int x2), .val (.int x3), .val (.long (f0_j6 x0 x1 x2 x3)), .second, .val (.int (f0_v10 x0 x1 x2 x3)), .val (.int (f0_j13 x0 x1 x2 x3)), .val (.ref b17), .val (.long (f0_j37 x0 x1 x2 x3)), .second, .val (.long (f0_j38 x0 x1 x2 x3)), .second, .val (.long (f0_v69 x0 x1 x2 x3)), .second, .unset, .unset, .unset, .unset, .unset, .unset] [])) t → Steps p.tables e below (s₁.setTop (entryFrame m #[(.long x0), (.long x1), (.int x2), (.int x3)] maxLocals)) t := by
              intro t k
              refine pre67 _ ?_
              show Steps p.tables e below (T66.setTop (mkF m 164 #[.val (.long x0), .second, .val (.long x1), .second, .val (.int x2), .val (.int x3), .val (.long (f0_j6 x0 x1 x2 x3)), .second, .val (.int (f0_v10 x0 x1 x2 x3)), .val (.int (f0_j13 x0 x1 x2 x3)), .val (.ref b17), .val (.long (f0_j37 x0 x1 x2 x3)), .second, .val (.long (f0_j38 x0 x1 x2 x3)), .second, .val (.long (f0_j62 x0 x1 x2 x3)), .second, .unset, .unset, .unset, .unset, .unset, .unset] [(.int (f6 (f0_j62 x0 x1 x2 x3) (f0_j6 x0 x1 x2 x3)))])) _
              refine XS.ifYes X66.here hx rfl (pc0 := 164) (pc' := 169) rfl (hb hby at_164) rfl hc68 (by decide) (by decide) ?_
              show Steps p.tables e below (T66.setTop (mkF m 169 #[.val (.long x0), .second, .val (.long x1), .second, .val (.int x2), .val (.int x3), .val (.long (f0_j6 x0 x1 x2 x3)), .second, .val (.int (f0_v10 x0 x1 x2 x3)), .val (.int (f0_j13 x0 x1 x2 x3)), .val (.ref b17), .val (.long (f0_j37 x0 x1 x2 x3)), .second, .val (.long (f0_j38 x0 x1 x2 x3)), .second, .val (.long (f0_j62 x0 x1 x2 x3)), .second, .unset, .unset, .unset, .unset, .unset, .unset] [])) _
              refine XS.lload X66.here hx rfl (hb hby at_169) rfl ?_
              show Steps p.tables e below (T66.setTop (mkF m 171 #[.val (.long x0), .second, .val (.long x1), .second, .val (.int x2), .val (.int x3), .val (.long (f0_j6 x0 x1 x2 x3)), .second, .val (.int (f0_v10 x0 x1 x2 x3)), .val (.int (f0_j13 x0 x1 x2 x3)), .val (.ref b17), .val (.long (f0_j37 x0 x1 x2 x3)), .second, .val (.long (f0_j38 x0 x1 x2 x3)), .second, .val (.long (f0_j62 x0 x1 x2 x3)), .second, .unset, .unset, .unset, .unset, .unset, .unset] [(.long (f0_j62 x0 x1 x2 x3))])) _
              refine XS.lload X66.here hx rfl (hb hby at_171) rfl ?_
              show Steps p.tables e below (T66.setTop (mkF m 173 #[.val (.long x0), .second, .val (.long x1), .second, .val (.int x2), .val (.int x3), .val (.long (f0_j6 x0 x1 x2 x3)), .second, .val (.int (f0_v10 x0 x1 x2 x3)), .val (.int (f0_j13 x0 x1 x2 x3)), .val (.ref b17), .val (.long (f0_j37 x0 x1 x2 x3)), .second, .val (.long (f0_j38 x0 x1 x2 x3)), .second, .val (.long (f0_j62 x0 x1 x2 x3)), .second, .unset, .unset, .unset, .unset, .unset, .unset] [(.long (f0_j6 x0 x1 x2 x3)), (.long (f0_j62 x0 x1 x2 x3))])) _
              refine XS.lsub X66.here hx rfl (hb hby at_173) rfl ?_
              show Steps p.tables e below (T66.setTop (mkF m 174 #[.val (.long x0), .second, .val (.long x1), .second, .val (.int x2), .val (.int x3), .val (.long (f0_j6 x0 x1 x2 x3)), .second, .val (.int (f0_v10 x0 x1 x2 x3)), .val (.int (f0_j13 x0 x1 x2 x3)), .val (.ref b17), .val (.long (f0_j37 x0 x1 x2 x3)), .second, .val (.long (f0_j38 x0 x1 x2 x3)), .second, .val (.long (f0_j62 x0 x1 x2 x3)), .second, .unset, .unset, .unset, .unset, .unset, .unset] [(.long ((f0_j62 x0 x1 x2 x3) - (f0_j6 x0 x1 x2 x3)))])) _
              refine XS.lstore X66.here hx rfl (hb hby at_174) rfl (l' := #[.val (.long x0), .second, .val (.long x1), .second, .val (.int x2), .val (.int x3), .val (.long (f0_j6 x0 x1 x2 x3)), .second, .val (.int (f0_v10 x0 x1 x2 x3)), .val (.int (f0_j13 x0 x1 x2 x3)), .val (.ref b17), .val (.long (f0_j37 x0 x1 x2 x3)), .second, .val (.long (f0_j38 x0 x1 x2 x3)), .second, .val (.long (f0_v69 x0 x1 x2 x3)), .second, .unset, .unset, .unset, .unset, .unset, .unset]) rfl ?_
              exact k
            have qj0 : (f0_j72 x0 x1 x2 x3) = (f0_v69 x0 x1 x2 x3) := if_neg (own_nt hc64)
            exact cont65 T66 _ X66 N66 e66 (Eq.trans (hres55) (Eq.trans (if_neg (own_nt hc64)) (if_pos hc68))) (fun t k => pre70 _ (by rw [qj0] at k; exact k))
          · obtain ⟨fs, hr, hrun, hended, hW, hsame⟩ := X66.leave (v := some (.int (1 : Int32))) (fun h => by rw [hret] at h; cases h)
            refine ⟨_, _, pre67 _ ?_, hrun, hended, _, _, rfl, ?_, ⟨_, rfl⟩, hW, hsame.mono (by decide) (by decide)⟩
            · show Steps p.tables e below (T66.setTop (mkF m 164 #[.val (.long x0), .second, .val (.long x1), .second, .val (.int x2), .val (.int x3), .val (.long (f0_j6 x0 x1 x2 x3)), .second, .val (.int (f0_v10 x0 x1 x2 x3)), .val (.int (f0_j13 x0 x1 x2 x3)), .val (.ref b17), .val (.long (f0_j37 x0 x1 x2 x3)), .second, .val (.long (f0_j38 x0 x1 x2 x3)), .second, .val (.long (f0_j62 x0 x1 x2 x3)), .second, .unset, .unset, .unset, .unset, .unset, .unset] [(.int (f6 (f0_j62 x0 x1 x2 x3) (f0_j6 x0 x1 x2 x3)))])) _
              refine XS.ifNo X66.here hx rfl (hb hby at_164) rfl hc68 ?_
              show Steps p.tables e below (T66.setTop (mkF m 167 #[.val (.long x0), .second, .val (.long x1), .second, .val (.int x2), .val (.int x3), .val (.long (f0_j6 x0 x1 x2 x3)), .second, .val (.int (f0_v10 x0 x1 x2 x3)), .val (.int (f0_j13 x0 x1 x2 x3)), .val (.ref b17), .val (.long (f0_j37 x0 x1 x2 x3)), .second, .val (.long (f0_j38 x0 x1 x2 x3)), .second, .val (.long (f0_j62 x0 x1 x2 x3)), .second, .unset, .unset, .unset, .unset, .unset, .unset] [])) _
              refine XS.iconst X66.here hx rfl (hb hby at_167) ?_
              show Steps p.tables e below (T66.setTop (mkF m 168 #[.val (.long x0), .second, .val (.long x1), .second, .val (.int x2), .val (.int x3), .val (.long (f0_j6 x0 x1 x2 x3)), .second, .val (.int (f0_v10 x0 x1 x2 x3)), .val (.int (f0_j13 x0 x1 x2 x3)), .val (.ref b17), .val (.long (f0_j37 x0 x1 x2 x3)), .second, .val (.long (f0_j38 x0 x1 x2 x3)), .second, .val (.long (f0_j62 x0 x1 x2 x3)), .second, .unset, .unset, .unset, .unset, .unset, .unset] [(.int (1 : Int32))])) _
              exact retN X66 hx (t := .boolean) hret (by simp) (hb hby at_168) hr
            · show Q0 Z x0 x1 x2 x3 h0 n0 _ T66.heap _
              rw [e66]
              have rr : f0 x0 x1 x2 x3 = (1 : Int32) := Eq.trans (hres55) (Eq.trans (if_neg (own_nt hc64)) (if_neg (own_nt hc68)))
              exact ⟨congrArg (fun z => some (Value.int z)) rr.symm, N66⟩
      rcases Bool.eq_false_or_eq_true (if_icmp.holds .lt (f0_v10 x0 x1 x2 x3) (2 : Int32)) with hc54 | hc54
      · have pre61 : ∀ t, Steps p.tables e below (T45.setTop (mkF m 151 #[.val (.long x0), .second, .val (.long x1), .second, .val (.int x2), .val (.int x3), .val (.long (f0_j6 x0 x1 x2 x3)), .second, .val (.int (f0_v10 x0 x1 x2 x3)), .val (.int (f0_j13 x0 x1 x2 x3)), .val (.ref b17), .val (.long (f0_j37 x0 x1 x2 x3)), .second, .val (.long (f0_j38 x0 x1 x2 x3)), .second, .val (.long (f0_j52 x0 x1 x2 x3)), .second, .unset, .unset, .unset, .unset, .unset, .unset] [])) t → Steps p.tables e below (s₁.setTop (entryFrame m #[(.long x0), (.long x1), (.int x2), (.int x3)] maxLocals)) t := by
          intro t k
          refine pre53 _ ?_
          show Steps p.tables e below (T45.setTop (mkF m 129 #[.val (.long x0), .second, .val (.long x1), .second, .val (.int x2), .val (.int x3), .val (.long (f0_j6 x0 x1 x2 x3)), .second, .val (.int (f0_v10 x0 x1 x2 x3)), .val (.int (f0_j13 x0 x1 x2 x3)), .val (.ref b17), .val (.long (f0_j37 x0 x1 x2 x3)), .second, .val (.long (f0_j38 x0 x1 x2 x3)), .second, .val (.long (f0_j52 x0 x1 x2 x3)), .second, .unset, .unset, .unset, .unset, .unset, .unset] [(.int (2 : Int32)), (.int (f0_v10 x0 x1 x2 x3))])) _
          refine XS.icmpYes X45.here hx rfl (pc0 := 129) (pc' := 151) rfl (hb hby at_129) rfl hc54 (by decide) (by decide) ?_
          exact k
        have qj0 : (f0_j62 x0 x1 x2 x3) = (f0_j52 x0 x1 x2 x3) := if_pos hc54
        exact cont55 T45 _ X45 N45 e45 (Eq.trans (hres45) (if_pos hc54)) (fun t k => pre61 _ (by rw [qj0] at k; exact k))
      · obtain ⟨_, _, ⟨T56, L56, k56, n56⟩, -, X56, ⟨Lc56, hQ56, l56, y56, z56⟩, st56⟩ := Jvm.LawKit.callS X45 hx (y := (⟨"com/example/tick_wheel/tickwheel/wheel/TickGridBoundaryAfterPinLaw", "uge", "(JJ)Z"⟩ : MethodName)) hown (mvT hZ (hw _ (List.mem_of_getElem? (i := 32) rfl))) (mvT hZ (hw _ (List.mem_of_getElem? (i := 33) rfl))) (mvT hZ (hw _ (List.mem_of_getElem? (i := 34) rfl))) (mvT hZ (hw _ (List.mem_of_getElem? (i := 35) rfl))) (by decide) (backOf (W := 0) (rm6 l Z a0 hw [] (f0_j52 x0 x1 x2 x3) (f0_j6 x0 x1 x2 x3) h21 n0 Z21) hZ (hw _ (List.mem_of_getElem? (i := 35) rfl)) (hw _ (List.mem_of_getElem? (i := 34) rfl)) (by decide) (by decide)) (g := (mkF m 136 #[.val (.long x0), .second, .val (.long x1), .second, .val (.int x2), .val (.int x3), .val (.long (f0_j6 x0 x1 x2 x3)), .second, .val (.int (f0_v10 x0 x1 x2 x3)), .val (.int (f0_j13 x0 x1 x2 x3)), .val (.ref b17), .val (.long (f0_j37 x0 x1 x2 x3)), .second, .val (.long (f0_j38 x0 x1 x2 x3)), .second, .val (.long (f0_j52 x0 x1 x2 x3)), .second, .unset, .unset, .unset, .unset, .unset, .unset] [(.long (f0_j6 x0 x1 x2 x3)), (.long (f0_j52 x0 x1 x2 x3))])) rfl (by rw [hml]; rfl) (argsL := [(.long (f0_j52 x0 x1 x2 x3)), (.long (f0_j6 x0 x1 x2 x3))]) (rest := []) (lenOf pd_4 rfl) rfl (by show 2 * 0 + _ ≤ _; exact Nat.le_of_eq rfl) (hb hby at_136) (fun _ _ => ⟨rfl, e45, (by decide : 1 + 0 ≤ _), (by decide : 3 + 0 ≤ _)⟩)
        dsimp only [Pt.U, Pt.locs, Pt.cells, Pt.slots] at X56 l56 y56 z56 st56 hQ56
        subst l56 y56 z56
        obtain ⟨rfl, Nq56, e56⟩ := hQ56
        have N56 := Fr.app N45 Nq56
        have pre57 : ∀ t, Steps p.tables e below (T56.setTop (mkF m 139 #[.val (.long x0), .second, .val (.long x1), .second, .val (.int x2), .val (.int x3), .val (.long (f0_j6 x0 x1 x2 x3)), .second, .val (.int (f0_v10 x0 x1 x2 x3)), .val (.int (f0_j13 x0 x1 x2 x3)), .val (.ref b17), .val (.long (f0_j37 x0 x1 x2 x3)), .second, .val (.long (f0_j38 x0 x1 x2 x3)), .second, .val (.long (f0_j52 x0 x1 x2 x3)), .second, .unset, .unset, .unset, .unset, .unset, .unset] [(.int (f6 (f0_j52 x0 x1 x2 x3) (f0_j6 x0 x1 x2 x3)))])) t → Steps p.tables e below (s₁.setTop (entryFrame m #[(.long x0), (.long x1), (.int x2), (.int x3)] maxLocals)) t := by
          intro t k
          refine pre53 _ ?_
          show Steps p.tables e below (T45.setTop (mkF m 129 #[.val (.long x0), .second, .val (.long x1), .second, .val (.int x2), .val (.int x3), .val (.long (f0_j6 x0 x1 x2 x3)), .second, .val (.int (f0_v10 x0 x1 x2 x3)), .val (.int (f0_j13 x0 x1 x2 x3)), .val (.ref b17), .val (.long (f0_j37 x0 x1 x2 x3)), .second, .val (.long (f0_j38 x0 x1 x2 x3)), .second, .val (.long (f0_j52 x0 x1 x2 x3)), .second, .unset, .unset, .unset, .unset, .unset, .unset] [(.int (2 : Int32)), (.int (f0_v10 x0 x1 x2 x3))])) _
          refine XS.icmpNo X45.here hx rfl (hb hby at_129) rfl hc54 ?_
          show Steps p.tables e below (T45.setTop (mkF m 132 #[.val (.long x0), .second, .val (.long x1), .second, .val (.int x2), .val (.int x3), .val (.long (f0_j6 x0 x1 x2 x3)), .second, .val (.int (f0_v10 x0 x1 x2 x3)), .val (.int (f0_j13 x0 x1 x2 x3)), .val (.ref b17), .val (.long (f0_j37 x0 x1 x2 x3)), .second, .val (.long (f0_j38 x0 x1 x2 x3)), .second, .val (.long (f0_j52 x0 x1 x2 x3)), .second, .unset, .unset, .unset, .unset, .unset, .unset] [])) _
          refine XS.lload X45.here hx rfl (hb hby at_132) rfl ?_
          show Steps p.tables e below (T45.setTop (mkF m 134 #[.val (.long x0), .second, .val (.long x1), .second, .val (.int x2), .val (.int x3), .val (.long (f0_j6 x0 x1 x2 x3)), .second, .val (.int (f0_v10 x0 x1 x2 x3)), .val (.int (f0_j13 x0 x1 x2 x3)), .val (.ref b17), .val (.long (f0_j37 x0 x1 x2 x3)), .second, .val (.long (f0_j38 x0 x1 x2 x3)), .second, .val (.long (f0_j52 x0 x1 x2 x3)), .second, .unset, .unset, .unset, .unset, .unset, .unset] [(.long (f0_j52 x0 x1 x2 x3))])) _
          refine XS.lload X45.here hx rfl (hb hby at_134) rfl ?_
          show Steps p.tables e below (T45.setTop (mkF m 136 #[.val (.long x0), .second, .val (.long x1), .second, .val (.int x2), .val (.int x3), .val (.long (f0_j6 x0 x1 x2 x3)), .second, .val (.int (f0_v10 x0 x1 x2 x3)), .val (.int (f0_j13 x0 x1 x2 x3)), .val (.ref b17), .val (.long (f0_j37 x0 x1 x2 x3)), .second, .val (.long (f0_j38 x0 x1 x2 x3)), .second, .val (.long (f0_j52 x0 x1 x2 x3)), .second, .unset, .unset, .unset, .unset, .unset, .unset] [(.long (f0_j6 x0 x1 x2 x3)), (.long (f0_j52 x0 x1 x2 x3))])) _
          refine st56 _ ?_
          exact k
        rcases Bool.eq_false_or_eq_true (ifCond.holds .ne (f6 (f0_j52 x0 x1 x2 x3) (f0_j6 x0 x1 x2 x3))) with hc58 | hc58
        · have pre60 : ∀ t, Steps p.tables e below (T56.setTop (mkF m 151 #[.val (.long x0), .second, .val (.long x1), .second, .val (.int x2), .val (.int x3), .val (.long (f0_j6 x0 x1 x2 x3)), .second, .val (.int (f0_v10 x0 x1 x2 x3)), .val (.int (f0_j13 x0 x1 x2 x3)), .val (.ref b17), .val (.long (f0_j37 x0 x1 x2 x3)), .second, .val (.long (f0_j38 x0 x1 x2 x3)), .second, .val (.long (f0_v59 x0 x1 x2 x3)), .second, .unset, .unset, .unset, .unset, .unset, .unset] [])) t → Steps p.tables e below (s₁.setTop (entryFrame m #[(.long x0), (.long x1), (.int x2), (.int x3)] maxLocals)) t := by
            intro t k
            refine pre57 _ ?_
            show Steps p.tables e below (T56.setTop (mkF m 139 #[.val (.long x0), .second, .val (.long x1), .second, .val (.int x2), .val (.int x3), .val (.long (f0_j6 x0 x1 x2 x3)), .second, .val (.int (f0_v10 x0 x1 x2 x3)), .val (.int (f0_j13 x0 x1 x2 x3)), .val (.ref b17), .val (.long (f0_j37 x0 x1 x2 x3)), .second, .val (.long (f0_j38 x0 x1 x2 x3)), .second, .val (.long (f0_j52 x0 x1 x2 x3)), .second, .unset, .unset, .unset, .unset, .unset, .unset] [(.int (f6 (f0_j52 x0 x1 x2 x3) (f0_j6 x0 x1 x2 x3)))])) _
            refine XS.ifYes X56.here hx rfl (pc0 := 139) (pc' := 144) rfl (hb hby at_139) rfl hc58 (by decide) (by decide) ?_
            show Steps p.tables e below (T56.setTop (mkF m 144 #[.val (.long x0), .second, .val (.long x1), .second, .val (.int x2), .val (.int x3), .val (.long (f0_j6 x0 x1 x2 x3)), .second, .val (.int (f0_v10 x0 x1 x2 x3)), .val (.int (f0_j13 x0 x1 x2 x3)), .val (.ref b17), .val (.long (f0_j37 x0 x1 x2 x3)), .second, .val (.long (f0_j38 x0 x1 x2 x3)), .second, .val (.long (f0_j52 x0 x1 x2 x3)), .second, .unset, .unset, .unset, .unset, .unset, .unset] [])) _
            refine XS.lload X56.here hx rfl (hb hby at_144) rfl ?_
            show Steps p.tables e below (T56.setTop (mkF m 146 #[.val (.long x0), .second, .val (.long x1), .second, .val (.int x2), .val (.int x3), .val (.long (f0_j6 x0 x1 x2 x3)), .second, .val (.int (f0_v10 x0 x1 x2 x3)), .val (.int (f0_j13 x0 x1 x2 x3)), .val (.ref b17), .val (.long (f0_j37 x0 x1 x2 x3)), .second, .val (.long (f0_j38 x0 x1 x2 x3)), .second, .val (.long (f0_j52 x0 x1 x2 x3)), .second, .unset, .unset, .unset, .unset, .unset, .unset] [(.long (f0_j52 x0 x1 x2 x3))])) _
            refine XS.lload X56.here hx rfl (hb hby at_146) rfl ?_
            show Steps p.tables e below (T56.setTop (mkF m 148 #[.val (.long x0), .second, .val (.long x1), .second, .val (.int x2), .val (.int x3), .val (.long (f0_j6 x0 x1 x2 x3)), .second, .val (.int (f0_v10 x0 x1 x2 x3)), .val (.int (f0_j13 x0 x1 x2 x3)), .val (.ref b17), .val (.long (f0_j37 x0 x1 x2 x3)), .second, .val (.long (f0_j38 x0 x1 x2 x3)), .second, .val (.long (f0_j52 x0 x1 x2 x3)), .second, .unset, .unset, .unset, .unset, .unset, .unset] [(.long (f0_j6 x0 x1 x2 x3)), (.long (f0_j52 x0 x1 x2 x3))])) _
            refine XS.lsub X56.here hx rfl (hb hby at_148) rfl ?_
            show Steps p.tables e below (T56.setTop (mkF m 149 #[.val (.long x0), .second, .val (.long x1), .second, .val (.int x2), .val (.int x3), .val (.long (f0_j6 x0 x1 x2 x3)), .second, .val (.int (f0_v10 x0 x1 x2 x3)), .val (.int (f0_j13 x0 x1 x2 x3)), .val (.ref b17), .val (.long (f0_j37 x0 x1 x2 x3)), .second, .val (.long (f0_j38 x0 x1 x2 x3)), .second, .val (.long (f0_j52 x0 x1 x2 x3)), .second, .unset, .unset, .unset, .unset, .unset, .unset] [(.long ((f0_j52 x0 x1 x2 x3) - (f0_j6 x0 x1 x2 x3)))])) _
            refine XS.lstore X56.here hx rfl (hb hby at_149) rfl (l' := #[.val (.long x0), .second, .val (.long x1), .second, .val (.int x2), .val (.int x3), .val (.long (f0_j6 x0 x1 x2 x3)), .second, .val (.int (f0_v10 x0 x1 x2 x3)), .val (.int (f0_j13 x0 x1 x2 x3)), .val (.ref b17), .val (.long (f0_j37 x0 x1 x2 x3)), .second, .val (.long (f0_j38 x0 x1 x2 x3)), .second, .val (.long (f0_v59 x0 x1 x2 x3)), .second, .unset, .unset, .unset, .unset, .unset, .unset]) rfl ?_
            exact k
          have qj0 : (f0_j62 x0 x1 x2 x3) = (f0_v59 x0 x1 x2 x3) := if_neg (own_nt hc54)
          exact cont55 T56 _ X56 N56 e56 (Eq.trans (hres45) (Eq.trans (if_neg (own_nt hc54)) (if_pos hc58))) (fun t k => pre60 _ (by rw [qj0] at k; exact k))
        · obtain ⟨fs, hr, hrun, hended, hW, hsame⟩ := X56.leave (v := some (.int (1 : Int32))) (fun h => by rw [hret] at h; cases h)
          refine ⟨_, _, pre57 _ ?_, hrun, hended, _, _, rfl, ?_, ⟨_, rfl⟩, hW, hsame.mono (by decide) (by decide)⟩
          · show Steps p.tables e below (T56.setTop (mkF m 139 #[.val (.long x0), .second, .val (.long x1), .second, .val (.int x2), .val (.int x3), .val (.long (f0_j6 x0 x1 x2 x3)), .second, .val (.int (f0_v10 x0 x1 x2 x3)), .val (.int (f0_j13 x0 x1 x2 x3)), .val (.ref b17), .val (.long (f0_j37 x0 x1 x2 x3)), .second, .val (.long (f0_j38 x0 x1 x2 x3)), .second, .val (.long (f0_j52 x0 x1 x2 x3)), .second, .unset, .unset, .unset, .unset, .unset, .unset] [(.int (f6 (f0_j52 x0 x1 x2 x3) (f0_j6 x0 x1 x2 x3)))])) _
            refine XS.ifNo X56.here hx rfl (hb hby at_139) rfl hc58 ?_
            show Steps p.tables e below (T56.setTop (mkF m 142 #[.val (.long x0), .second, .val (.long x1), .second, .val (.int x2), .val (.int x3), .val (.long (f0_j6 x0 x1 x2 x3)), .second, .val (.int (f0_v10 x0 x1 x2 x3)), .val (.int (f0_j13 x0 x1 x2 x3)), .val (.ref b17), .val (.long (f0_j37 x0 x1 x2 x3)), .second, .val (.long (f0_j38 x0 x1 x2 x3)), .second, .val (.long (f0_j52 x0 x1 x2 x3)), .second, .unset, .unset, .unset, .unset, .unset, .unset] [])) _
            refine XS.iconst X56.here hx rfl (hb hby at_142) ?_
            show Steps p.tables e below (T56.setTop (mkF m 143 #[.val (.long x0), .second, .val (.long x1), .second, .val (.int x2), .val (.int x3), .val (.long (f0_j6 x0 x1 x2 x3)), .second, .val (.int (f0_v10 x0 x1 x2 x3)), .val (.int (f0_j13 x0 x1 x2 x3)), .val (.ref b17), .val (.long (f0_j37 x0 x1 x2 x3)), .second, .val (.long (f0_j38 x0 x1 x2 x3)), .second, .val (.long (f0_j52 x0 x1 x2 x3)), .second, .unset, .unset, .unset, .unset, .unset, .unset] [(.int (1 : Int32))])) _
            exact retN X56 hx (t := .boolean) hret (by simp) (hb hby at_143) hr
          · show Q0 Z x0 x1 x2 x3 h0 n0 _ T56.heap _
            rw [e56]
            have rr : f0 x0 x1 x2 x3 = (1 : Int32) := Eq.trans (hres45) (Eq.trans (if_neg (own_nt hc54)) (if_neg (own_nt hc58)))
            exact ⟨congrArg (fun z => some (Value.int z)) rr.symm, N56⟩
    rcases Bool.eq_false_or_eq_true (if_icmp.holds .lt (f0_v10 x0 x1 x2 x3) (1 : Int32)) with hc44 | hc44
    · have pre51 : ∀ t, Steps p.tables e below (T40.setTop (mkF m 126 #[.val (.long x0), .second, .val (.long x1), .second, .val (.int x2), .val (.int x3), .val (.long (f0_j6 x0 x1 x2 x3)), .second, .val (.int (f0_v10 x0 x1 x2 x3)), .val (.int (f0_j13 x0 x1 x2 x3)), .val (.ref b17), .val (.long (f0_j37 x0 x1 x2 x3)), .second, .val (.long (f0_j38 x0 x1 x2 x3)), .second, .val (.long (f0_j39 x0 x1 x2 x3)), .second, .unset, .unset, .unset, .unset, .unset, .unset] [])) t → Steps p.tables e below (s₁.setTop (entryFrame m #[(.long x0), (.long x1), (.int x2), (.int x3)] maxLocals)) t := by
        intro t k
        refine pre43 _ ?_
        show Steps p.tables e below (T40.setTop (mkF m 104 #[.val (.long x0), .second, .val (.long x1), .second, .val (.int x2), .val (.int x3), .val (.long (f0_j6 x0 x1 x2 x3)), .second, .val (.int (f0_v10 x0 x1 x2 x3)), .val (.int (f0_j13 x0 x1 x2 x3)), .val (.ref b17), .val (.long (f0_j37 x0 x1 x2 x3)), .second, .val (.long (f0_j38 x0 x1 x2 x3)), .second, .val (.long (f0_j39 x0 x1 x2 x3)), .second, .unset, .unset, .unset, .unset, .unset, .unset] [(.int (1 : Int32)), (.int (f0_v10 x0 x1 x2 x3))])) _
        refine XS.icmpYes X40.here hx rfl (pc0 := 104) (pc' := 126) rfl (hb hby at_104) rfl hc44 (by decide) (by decide) ?_
        exact k
      have qj0 : (f0_j52 x0 x1 x2 x3) = (f0_j39 x0 x1 x2 x3) := if_pos hc44
      exact cont45 T40 _ X40 N40 e40 (Eq.trans (if_pos hc2) (if_pos hc44)) (fun t k => pre51 _ (by rw [qj0] at k; exact k))
    · obtain ⟨_, _, ⟨T46, L46, k46, n46⟩, -, X46, ⟨Lc46, hQ46, l46, y46, z46⟩, st46⟩ := Jvm.LawKit.callS X40 hx (y := (⟨"com/example/tick_wheel/tickwheel/wheel/TickGridBoundaryAfterPinLaw", "uge", "(JJ)Z"⟩ : MethodName)) hown (mvT hZ (hw _ (List.mem_of_getElem? (i := 32) rfl))) (mvT hZ (hw _ (List.mem_of_getElem? (i := 33) rfl))) (mvT hZ (hw _ (List.mem_of_getElem? (i := 34) rfl))) (mvT hZ (hw _ (List.mem_of_getElem? (i := 35) rfl))) (by decide) (backOf (W := 0) (rm6 l Z a0 hw [] (f0_j39 x0 x1 x2 x3) (f0_j6 x0 x1 x2 x3) h21 n0 Z21) hZ (hw _ (List.mem_of_getElem? (i := 35) rfl)) (hw _ (List.mem_of_getElem? (i := 34) rfl)) (by decide) (by decide)) (g := (mkF m 111 #[.val (.long x0), .second, .val (.long x1), .second, .val (.int x2), .val (.int x3), .val (.long (f0_j6 x0 x1 x2 x3)), .second, .val (.int (f0_v10 x0 x1 x2 x3)), .val (.int (f0_j13 x0 x1 x2 x3)), .val (.ref b17), .val (.long (f0_j37 x0 x1 x2 x3)), .second, .val (.long (f0_j38 x0 x1 x2 x3)), .second, .val (.long (f0_j39 x0 x1 x2 x3)), .second, .unset, .unset, .unset, .unset, .unset, .unset] [(.long (f0_j6 x0 x1 x2 x3)), (.long (f0_j39 x0 x1 x2 x3))])) rfl (by rw [hml]; rfl) (argsL := [(.long (f0_j39 x0 x1 x2 x3)), (.long (f0_j6 x0 x1 x2 x3))]) (rest := []) (lenOf pd_4 rfl) rfl (by show 2 * 0 + _ ≤ _; exact Nat.le_of_eq rfl) (hb hby at_111) (fun _ _ => ⟨rfl, e40, (by decide : 1 + 0 ≤ _), (by decide : 3 + 0 ≤ _)⟩)
      dsimp only [Pt.U, Pt.locs, Pt.cells, Pt.slots] at X46 l46 y46 z46 st46 hQ46
      subst l46 y46 z46
      obtain ⟨rfl, Nq46, e46⟩ := hQ46
      have N46 := Fr.app N40 Nq46
      have pre47 : ∀ t, Steps p.tables e below (T46.setTop (mkF m 114 #[.val (.long x0), .second, .val (.long x1), .second, .val (.int x2), .val (.int x3), .val (.long (f0_j6 x0 x1 x2 x3)), .second, .val (.int (f0_v10 x0 x1 x2 x3)), .val (.int (f0_j13 x0 x1 x2 x3)), .val (.ref b17), .val (.long (f0_j37 x0 x1 x2 x3)), .second, .val (.long (f0_j38 x0 x1 x2 x3)), .second, .val (.long (f0_j39 x0 x1 x2 x3)), .second, .unset, .unset, .unset, .unset, .unset, .unset] [(.int (f6 (f0_j39 x0 x1 x2 x3) (f0_j6 x0 x1 x2 x3)))])) t → Steps p.tables e below (s₁.setTop (entryFrame m #[(.long x0), (.long x1), (.int x2), (.int x3)] maxLocals)) t := by
        intro t k
        refine pre43 _ ?_
        show Steps p.tables e below (T40.setTop (mkF m 104 #[.val (.long x0), .second, .val (.long x1), .second, .val (.int x2), .val (.int x3), .val (.long (f0_j6 x0 x1 x2 x3)), .second, .val (.int (f0_v10 x0 x1 x2 x3)), .val (.int (f0_j13 x0 x1 x2 x3)), .val (.ref b17), .val (.long (f0_j37 x0 x1 x2 x3)), .second, .val (.long (f0_j38 x0 x1 x2 x3)), .second, .val (.long (f0_j39 x0 x1 x2 x3)), .second, .unset, .unset, .unset, .unset, .unset, .unset] [(.int (1 : Int32)), (.int (f0_v10 x0 x1 x2 x3))])) _
        refine XS.icmpNo X40.here hx rfl (hb hby at_104) rfl hc44 ?_
        show Steps p.tables e below (T40.setTop (mkF m 107 #[.val (.long x0), .second, .val (.long x1), .second, .val (.int x2), .val (.int x3), .val (.long (f0_j6 x0 x1 x2 x3)), .second, .val (.int (f0_v10 x0 x1 x2 x3)), .val (.int (f0_j13 x0 x1 x2 x3)), .val (.ref b17), .val (.long (f0_j37 x0 x1 x2 x3)), .second, .val (.long (f0_j38 x0 x1 x2 x3)), .second, .val (.long (f0_j39 x0 x1 x2 x3)), .second, .unset, .unset, .unset, .unset, .unset, .unset] [])) _
        refine XS.lload X40.here hx rfl (hb hby at_107) rfl ?_
        show Steps p.tables e below (T40.setTop (mkF m 109 #[.val (.long x0), .second, .val (.long x1), .second, .val (.int x2), .val (.int x3), .val (.long (f0_j6 x0 x1 x2 x3)), .second, .val (.int (f0_v10 x0 x1 x2 x3)), .val (.int (f0_j13 x0 x1 x2 x3)), .val (.ref b17), .val (.long (f0_j37 x0 x1 x2 x3)), .second, .val (.long (f0_j38 x0 x1 x2 x3)), .second, .val (.long (f0_j39 x0 x1 x2 x3)), .second, .unset, .unset, .unset, .unset, .unset, .unset] [(.long (f0_j39 x0 x1 x2 x3))])) _
        refine XS.lload X40.here hx rfl (hb hby at_109) rfl ?_
        show Steps p.tables e below (T40.setTop (mkF m 111 #[.val (.long x0), .second, .val (.long x1), .second, .val (.int x2), .val (.int x3), .val (.long (f0_j6 x0 x1 x2 x3)), .second, .val (.int (f0_v10 x0 x1 x2 x3)), .val (.int (f0_j13 x0 x1 x2 x3)), .val (.ref b17), .val (.long (f0_j37 x0 x1 x2 x3)), .second, .val (.long (f0_j38 x0 x1 x2 x3)), .second, .val (.long (f0_j39 x0 x1 x2 x3)), .second, .unset, .unset, .unset, .unset, .unset, .unset] [(.long (f0_j6 x0 x1 x2 x3)), (.long (f0_j39 x0 x1 x2 x3))])) _
        refine st46 _ ?_
        exact k
      rcases Bool.eq_false_or_eq_true (ifCond.holds .ne (f6 (f0_j39 x0 x1 x2 x3) (f0_j6 x0 x1 x2 x3))) with hc48 | hc48
      · have pre50 : ∀ t, Steps p.tables e below (T46.setTop (mkF m 126 #[.val (.long x0), .second, .val (.long x1), .second, .val (.int x2), .val (.int x3), .val (.long (f0_j6 x0 x1 x2 x3)), .second, .val (.int (f0_v10 x0 x1 x2 x3)), .val (.int (f0_j13 x0 x1 x2 x3)), .val (.ref b17), .val (.long (f0_j37 x0 x1 x2 x3)), .second, .val (.long (f0_j38 x0 x1 x2 x3)), .second, .val (.long (f0_v49 x0 x1 x2 x3)), .second, .unset, .unset, .unset, .unset, .unset, .unset] [])) t → Steps p.tables e below (s₁.setTop (entryFrame m #[(.long x0), (.long x1), (.int x2), (.int x3)] maxLocals)) t := by
          intro t k
          refine pre47 _ ?_
          show Steps p.tables e below (T46.setTop (mkF m 114 #[.val (.long x0), .second, .val (.long x1), .second, .val (.int x2), .val (.int x3), .val (.long (f0_j6 x0 x1 x2 x3)), .second, .val (.int (f0_v10 x0 x1 x2 x3)), .val (.int (f0_j13 x0 x1 x2 x3)), .val (.ref b17), .val (.long (f0_j37 x0 x1 x2 x3)), .second, .val (.long (f0_j38 x0 x1 x2 x3)), .second, .val (.long (f0_j39 x0 x1 x2 x3)), .second, .unset, .unset, .unset, .unset, .unset, .unset] [(.int (f6 (f0_j39 x0 x1 x2 x3) (f0_j6 x0 x1 x2 x3)))])) _
          refine XS.ifYes X46.here hx rfl (pc0 := 114) (pc' := 119) rfl (hb hby at_114) rfl hc48 (by decide) (by decide) ?_
          show Steps p.tables e below (T46.setTop (mkF m 119 #[.val (.long x0), .second, .val (.long x1), .second, .val (.int x2), .val (.int x3), .val (.long (f0_j6 x0 x1 x2 x3)), .second, .val (.int (f0_v10 x0 x1 x2 x3)), .val (.int (f0_j13 x0 x1 x2 x3)), .val (.ref b17), .val (.long (f0_j37 x0 x1 x2 x3)), .second, .val (.long (f0_j38 x0 x1 x2 x3)), .second, .val (.long (f0_j39 x0 x1 x2 x3)), .second, .unset, .unset, .unset, .unset, .unset, .unset] [])) _
          refine XS.lload X46.here hx rfl (hb hby at_119) rfl ?_
          show Steps p.tables e below (T46.setTop (mkF m 121 #[.val (.long x0), .second, .val (.long x1), .second, .val (.int x2), .val (.int x3), .val (.long (f0_j6 x0 x1 x2 x3)), .second, .val (.int (f0_v10 x0 x1 x2 x3)), .val (.int (f0_j13 x0 x1 x2 x3)), .val (.ref b17), .val (.long (f0_j37 x0 x1 x2 x3)), .second, .val (.long (f0_j38 x0 x1 x2 x3)), .second, .val (.long (f0_j39 x0 x1 x2 x3)), .second, .unset, .unset, .unset, .unset, .unset, .unset] [(.long (f0_j39 x0 x1 x2 x3))])) _
          refine XS.lload X46.here hx rfl (hb hby at_121) rfl ?_
          show Steps p.tables e below (T46.setTop (mkF m 123 #[.val (.long x0), .second, .val (.long x1), .second, .val (.int x2), .val (.int x3), .val (.long (f0_j6 x0 x1 x2 x3)), .second, .val (.int (f0_v10 x0 x1 x2 x3)), .val (.int (f0_j13 x0 x1 x2 x3)), .val (.ref b17), .val (.long (f0_j37 x0 x1 x2 x3)), .second, .val (.long (f0_j38 x0 x1 x2 x3)), .second, .val (.long (f0_j39 x0 x1 x2 x3)), .second, .unset, .unset, .unset, .unset, .unset, .unset] [(.long (f0_j6 x0 x1 x2 x3)), (.long (f0_j39 x0 x1 x2 x3))])) _
          refine XS.lsub X46.here hx rfl (hb hby at_123) rfl ?_
          show Steps p.tables e below (T46.setTop (mkF m 124 #[.val (.long x0), .second, .val (.long x1), .second, .val (.int x2), .val (.int x3), .val (.long (f0_j6 x0 x1 x2 x3)), .second, .val (.int (f0_v10 x0 x1 x2 x3)), .val (.int (f0_j13 x0 x1 x2 x3)), .val (.ref b17), .val (.long (f0_j37 x0 x1 x2 x3)), .second, .val (.long (f0_j38 x0 x1 x2 x3)), .second, .val (.long (f0_j39 x0 x1 x2 x3)), .second, .unset, .unset, .unset, .unset, .unset, .unset] [(.long ((f0_j39 x0 x1 x2 x3) - (f0_j6 x0 x1 x2 x3)))])) _
          refine XS.lstore X46.here hx rfl (hb hby at_124) rfl (l' := #[.val (.long x0), .second, .val (.long x1), .second, .val (.int x2), .val (.int x3), .val (.long (f0_j6 x0 x1 x2 x3)), .second, .val (.int (f0_v10 x0 x1 x2 x3)), .val (.int (f0_j13 x0 x1 x2 x3)), .val (.ref b17), .val (.long (f0_j37 x0 x1 x2 x3)), .second, .val (.long (f0_j38 x0 x1 x2 x3)), .second, .val (.long (f0_v49 x0 x1 x2 x3)), .second, .unset, .unset, .unset, .unset, .unset, .unset]) rfl ?_
          exact k
        have qj0 : (f0_j52 x0 x1 x2 x3) = (f0_v49 x0 x1 x2 x3) := if_neg (own_nt hc44)
        exact cont45 T46 _ X46 N46 e46 (Eq.trans (if_pos hc2) (Eq.trans (if_neg (own_nt hc44)) (if_pos hc48))) (fun t k => pre50 _ (by rw [qj0] at k; exact k))
      · obtain ⟨fs, hr, hrun, hended, hW, hsame⟩ := X46.leave (v := some (.int (1 : Int32))) (fun h => by rw [hret] at h; cases h)
        refine ⟨_, _, pre47 _ ?_, hrun, hended, _, _, rfl, ?_, ⟨_, rfl⟩, hW, hsame.mono (by decide) (by decide)⟩
        · show Steps p.tables e below (T46.setTop (mkF m 114 #[.val (.long x0), .second, .val (.long x1), .second, .val (.int x2), .val (.int x3), .val (.long (f0_j6 x0 x1 x2 x3)), .second, .val (.int (f0_v10 x0 x1 x2 x3)), .val (.int (f0_j13 x0 x1 x2 x3)), .val (.ref b17), .val (.long (f0_j37 x0 x1 x2 x3)), .second, .val (.long (f0_j38 x0 x1 x2 x3)), .second, .val (.long (f0_j39 x0 x1 x2 x3)), .second, .unset, .unset, .unset, .unset, .unset, .unset] [(.int (f6 (f0_j39 x0 x1 x2 x3) (f0_j6 x0 x1 x2 x3)))])) _
          refine XS.ifNo X46.here hx rfl (hb hby at_114) rfl hc48 ?_
          show Steps p.tables e below (T46.setTop (mkF m 117 #[.val (.long x0), .second, .val (.long x1), .second, .val (.int x2), .val (.int x3), .val (.long (f0_j6 x0 x1 x2 x3)), .second, .val (.int (f0_v10 x0 x1 x2 x3)), .val (.int (f0_j13 x0 x1 x2 x3)), .val (.ref b17), .val (.long (f0_j37 x0 x1 x2 x3)), .second, .val (.long (f0_j38 x0 x1 x2 x3)), .second, .val (.long (f0_j39 x0 x1 x2 x3)), .second, .unset, .unset, .unset, .unset, .unset, .unset] [])) _
          refine XS.iconst X46.here hx rfl (hb hby at_117) ?_
          show Steps p.tables e below (T46.setTop (mkF m 118 #[.val (.long x0), .second, .val (.long x1), .second, .val (.int x2), .val (.int x3), .val (.long (f0_j6 x0 x1 x2 x3)), .second, .val (.int (f0_v10 x0 x1 x2 x3)), .val (.int (f0_j13 x0 x1 x2 x3)), .val (.ref b17), .val (.long (f0_j37 x0 x1 x2 x3)), .second, .val (.long (f0_j38 x0 x1 x2 x3)), .second, .val (.long (f0_j39 x0 x1 x2 x3)), .second, .unset, .unset, .unset, .unset, .unset, .unset] [(.int (1 : Int32))])) _
          exact retN X46 hx (t := .boolean) hret (by simp) (hb hby at_118) hr
        · show Q0 Z x0 x1 x2 x3 h0 n0 _ T46.heap _
          rw [e46]
          have rr : f0 x0 x1 x2 x3 = (1 : Int32) := Eq.trans (if_pos hc2) (Eq.trans (if_neg (own_nt hc44)) (if_neg (own_nt hc48)))
          exact ⟨congrArg (fun z => some (Value.int z)) rr.symm, N46⟩
  · obtain ⟨fs, hr, hrun, hended, hW, hsame⟩ := X0.leave (v := some (.int (1 : Int32))) (fun h => by rw [hret] at h; cases h)
    refine ⟨_, _, pre1 _ ?_, hrun, hended, _, _, rfl, ?_, ⟨_, rfl⟩, hW, hsame.mono (by decide) (by decide)⟩
    · show Steps p.tables e below (s₁.setTop (mkF m 5 #[.val (.long x0), .second, .val (.long x1), .second, .val (.int x2), .val (.int x3), .unset, .unset, .unset, .unset, .unset, .unset, .unset, .unset, .unset, .unset, .unset, .unset, .unset, .unset, .unset, .unset, .unset] [(.int (own_cmp x0 (9223372036854775807 : Int64)))])) _
      refine XS.ifNo X0.here hx rfl (hb hby at_5) rfl hc2 ?_
      show Steps p.tables e below (s₁.setTop (mkF m 8 #[.val (.long x0), .second, .val (.long x1), .second, .val (.int x2), .val (.int x3), .unset, .unset, .unset, .unset, .unset, .unset, .unset, .unset, .unset, .unset, .unset, .unset, .unset, .unset, .unset, .unset, .unset] [])) _
      refine XS.iconst X0.here hx rfl (hb hby at_8) ?_
      show Steps p.tables e below (s₁.setTop (mkF m 9 #[.val (.long x0), .second, .val (.long x1), .second, .val (.int x2), .val (.int x3), .unset, .unset, .unset, .unset, .unset, .unset, .unset, .unset, .unset, .unset, .unset, .unset, .unset, .unset, .unset, .unset, .unset] [(.int (1 : Int32))])) _
      exact retN X0 hx (t := .boolean) hret (by simp) (hb hby at_9) hr
    · show Q0 Z x0 x1 x2 x3 h0 n0 _ s₁.heap _
      rw [e0]
      have rr : f0 x0 x1 x2 x3 = (1 : Int32) := if_neg (own_nt hc2)
      exact ⟨congrArg (fun z => some (Value.int z)) rr.symm, N0⟩
theorem own_sgn (x : Int64) : (x.toInt < 0) ↔ x.toBitVec.msb = true := by
  show x.toBitVec.toInt < 0 ↔ _
  rw [BitVec.msb_eq_toInt]
  exact decide_eq_true_iff.symm
theorem own_sgn_or (a b : Int64) : (a ||| b).toInt < 0 ↔ (a.toInt < 0 ∨ b.toInt < 0) := by
  rw [own_sgn, own_sgn, own_sgn]
  show (a.toBitVec ||| b.toBitVec).msb = true ↔ _
  rw [BitVec.msb_or, Bool.or_eq_true]
theorem own_sgn_not (a : Int64) : (a ^^^ (-1 : Int64)).toInt < 0 ↔ ¬ a.toInt < 0 := by
  rw [own_sgn, own_sgn]
  show (a.toBitVec ^^^ (-1 : Int64).toBitVec).msb = true ↔ _
  rw [BitVec.msb_xor, show (-1 : Int64).toBitVec.msb = true from by decide]
  cases a.toBitVec.msb <;> decide
/-- x / d on unsigned longs, d positive: what both of the JDK's methods reckon first -/
theorem own_half (x d : Int64) (hd : 0 < d.toInt) : ∃ Q R : Int, 0 ≤ Q ∧ 0 ≤ R ∧ R < 2 * d.toInt ∧ x.toInt % 18446744073709551616 = 2 * (Q * d.toInt) + R ∧ (f4_v1 x d).toInt % 18446744073709551616 = 2 * Q ∧ (f4_v2 x d).toInt % 18446744073709551616 = R := by
  have hx := rng64 x
  have hdr := rng64 d
  have a1 : (own_lushr x 1).toInt = (x.toInt % 18446744073709551616) / 2 := c_lushr x 1 1 (by decide) (by decide)
  have a2 := (c_ldiv (own_lushr x 1) d d.toInt rfl (fun q => by rw [q] at hd; exact absurd hd (by decide))).1 (by omega)
  obtain ⟨q, hq⟩ : ∃ q, q = own_lushr x 1 / d := ⟨_, rfl⟩
  rw [← hq] at a2
  have a3 : ((own_lshl q 1).toInt - q.toInt * 2) % 18446744073709551616 = 0 := c_lshl q 1 1 (by decide)
  have v1 : f4_v1 x d = own_lshl q 1 := by rw [hq]; rfl
  rw [a1] at a2
  obtain ⟨D, hD⟩ : ∃ D, D = d.toInt := ⟨_, rfl⟩
  obtain ⟨H, hH⟩ : ∃ H, H = (x.toInt % 18446744073709551616) / 2 := ⟨_, rfl⟩
  rw [← hD] at hd a2 hdr
  rw [← hH] at a2
  have b1 : H / D * D ≤ H := Int.ediv_mul_le H (by omega)
  have b2 : H < (H / D + 1) * D := Int.lt_ediv_add_one_mul_self H hd
  have b3 : 0 ≤ H / D := Int.ediv_nonneg (by omega) (by omega)
  have b4 : H / D ≤ H := Int.ediv_le_self _ (by omega)
  rw [Int.add_mul, Int.one_mul] at b2
  obtain ⟨Q, hQ⟩ : ∃ Q, Q = H / D := ⟨_, rfl⟩
  rw [← hQ] at a2 b1 b2 b3 b4
  have c1 := rng64 (own_lshl q 1)
  obtain ⟨k, hk⟩ : ∃ k : Int, (own_lshl q 1).toInt = 2 * Q + 18446744073709551616 * k := ⟨((own_lshl q 1).toInt - q.toInt * 2) / 18446744073709551616, by omega⟩
  have c2 := c_lmul (own_lshl q 1) d
  rw [← hD, hk, Int.add_mul, Int.mul_assoc, Int.mul_assoc] at c2
  have c3 := c_lsub x (own_lshl q 1 * d)
  have c4 := rng64 (own_lshl q 1 * d)
  have c5 := rng64 (x - own_lshl q 1 * d)
  have v2 : f4_v2 x d = x - own_lshl q 1 * d := by rw [hq]; rfl
  rw [← hD, v1, v2]
  exact ⟨Q, x.toInt % 18446744073709551616 - 2 * (Q * D), by omega, by omega, by omega, by omega, by omega, by omega⟩
theorem own_f4 (x d : Int64) (hd : 0 < d.toInt) : ∃ N : Int, 0 ≤ N ∧ N * d.toInt ≤ x.toInt % 18446744073709551616 ∧ x.toInt % 18446744073709551616 < N * d.toInt + d.toInt ∧ (f4 x d).toInt % 18446744073709551616 = N := by
  obtain ⟨Q, R, h1, h2, h3, h4, h5, h6⟩ := own_half x d hd
  have hx := rng64 x
  have hdr := rng64 d
  obtain ⟨r, hr⟩ : ∃ r, r = f4_v2 x d := ⟨_, rfl⟩
  obtain ⟨v, hv⟩ : ∃ v, v = f4_v1 x d := ⟨_, rfl⟩
  rw [← hr] at h6
  rw [← hv] at h5
  have a1 := rng64 r
  have a2 := c_lsub r d
  have a3 := rng64 (r - d)
  have a4 := own_sgn_or r ((r - d) ^^^ (-1 : Int64))
  have a5 := own_sgn_not (r - d)
  obtain ⟨z, hz⟩ : ∃ z, z = r ||| ((r - d) ^^^ (-1 : Int64)) := ⟨_, rfl⟩
  rw [← hz] at a4
  have a6 : (own_lushr z 63).toInt = (z.toInt % 18446744073709551616) / 9223372036854775808 := c_lushr z 63 63 (by decide) (by decide)
  have a7 := rng64 z
  have a8 := c_ladd v (own_lushr z 63)
  have a9 := rng64 (v + own_lushr z 63)
  have e : f4 x d = v + own_lushr z 63 := by rw [hz, hr, hv]; rfl
  rw [e]
  by_cases hR : R < d.toInt
  · refine ⟨2 * Q, by omega, ?_, ?_, ?_⟩
    · rw [Int.mul_assoc]; omega
    · rw [Int.mul_assoc]; omega
    · have hz0 : ¬ z.toInt < 0 := by rw [a4, a5]; omega
      have hQ : 2 * Q < 18446744073709551616 := by omega
      omega
  · refine ⟨2 * Q + 1, by omega, ?_, ?_, ?_⟩
    · rw [Int.add_mul, Int.mul_assoc, Int.one_mul]; omega
    · rw [Int.add_mul, Int.mul_assoc, Int.one_mul]; omega
    · have hz0 : z.toInt < 0 := by rw [a4, a5]; omega
      have hQ : 2 * Q + 1 < 18446744073709551616 := by
        have : (2 * Q + 1) * 1 ≤ (2 * Q + 1) * d.toInt := Int.mul_le_mul_of_nonneg_left (by omega) (by omega)
        rw [Int.mul_one, Int.add_mul, Int.mul_assoc, Int.one_mul] at this
        omega
      omega
/-- the last boundary: S + M, M the greatest multiple of the tick that fits -/
theorem own_lastb (s d : Int64) (hd : 0 < d.toInt) (hs : s.toInt < 9223372036854775807) : ∃ N : Int, 0 ≤ N ∧ N * d.toInt ≤ 9223372036854775806 - s.toInt ∧ 9223372036854775806 - s.toInt < N * d.toInt + d.toInt ∧ (f1_v14 s d).toInt % 18446744073709551616 = N ∧ (s + f1_v14 s d * d).toInt = s.toInt + N * d.toInt := by
  have hsr := rng64 s
  have hdr := rng64 d
  have e : (9223372036854775806 : Int64).toInt = 9223372036854775806 := rfl
  have a1 := c_lsub (9223372036854775806 : Int64) s
  have a2 := rng64 ((9223372036854775806 : Int64) - s)
  obtain ⟨N, h1, h2, h3, h4⟩ := own_f4 ((9223372036854775806 : Int64) - s) d hd
  have hU : ((9223372036854775806 : Int64) - s).toInt % 18446744073709551616 = 9223372036854775806 - s.toInt := by omega
  rw [hU] at h2 h3
  have ev : f1_v14 s d = f4 ((9223372036854775806 : Int64) - s) d := rfl
  rw [← ev] at h4
  obtain ⟨n, hn⟩ : ∃ n, n = f1_v14 s d := ⟨_, rfl⟩
  rw [← hn] at h4 ⊢
  obtain ⟨k, hk⟩ : ∃ k : Int, n.toInt = N + 18446744073709551616 * k := ⟨n.toInt / 18446744073709551616, by omega⟩
  have c1 := c_lmul n d
  rw [hk, Int.add_mul, Int.mul_assoc] at c1
  have c2 := rng64 (n * d)
  have c3 := c_ladd s (n * d)
  have c4 := rng64 (s + n * d)
  exact ⟨N, h1, by omega, by omega, h4, by omega⟩
theorem own_steps (N D j : Int) (hD : 0 < D) (h : j * D < N * D) : j * D + D ≤ N * D := by
  have h1 : j < N := Int.lt_of_mul_lt_mul_right h (by omega)
  have h2 : (j + 1) * D ≤ N * D := Int.mul_le_mul_of_nonneg_right (by omega) (by omega)
  rw [Int.add_mul, Int.one_mul] at h2
  exact h2

/-- uge: the unsigned comparison -/
theorem own_f6 (x y : Int64) : (x.toInt % 18446744073709551616 < y.toInt % 18446744073709551616 ∧ f6 x y = 0) ∨ (¬ x.toInt % 18446744073709551616 < y.toInt % 18446744073709551616 ∧ f6 x y = 1) := by
  have e : (-9223372036854775808 : Int64).toInt = -9223372036854775808 := rfl
  have a1 := c_ladd x (-9223372036854775808)
  have a2 := c_ladd y (-9223372036854775808)
  have a3 := rng64 (x + (-9223372036854775808))
  have a4 := rng64 (y + (-9223372036854775808))
  have a5 := rng64 x
  have a6 := rng64 y
  unfold f6 f6_j3
  by_cases h : (x + (-9223372036854775808)).toInt < (y + (-9223372036854775808)).toInt
  · rw [if_pos (by rw [own_clt]; exact h)]
    exact Or.inl ⟨by omega, rfl⟩
  · rw [if_neg (by rw [own_clt]; exact h)]
    exact Or.inr ⟨by omega, rfl⟩
/-- the last comparison: b + tick where that still fits, else never; T, L: the tick, the last boundary -/
theorem own_end (b T L : Int64) (hT : 0 < T.toInt) (hb : b.toInt < 9223372036854775807) (h : b.toInt < L.toInt ↔ T.toInt ≤ 9223372036854775806 - b.toInt) : f7 b L T = (if ifCond.holds .eq (f6 ((9223372036854775806 : Int64) - b) T) = true then (9223372036854775807 : Int64) else b + T) := by
  have e : (9223372036854775806 : Int64).toInt = 9223372036854775806 := rfl
  have r1 := rng64 b
  have r2 := rng64 T
  have a1 := c_lsub (9223372036854775806 : Int64) b
  have a2 := rng64 ((9223372036854775806 : Int64) - b)
  unfold f7
  rcases own_f6 ((9223372036854775806 : Int64) - b) T with ⟨k1, k2⟩ | ⟨k1, k2⟩
  · rw [k2, if_neg (by rw [own_clt]; omega)]
    rfl
  · rw [k2, if_pos (by rw [own_clt]; omega)]
    rfl
theorem own_f6b (x y : Int64) : f6 x y = 0 ∨ f6 x y = 1 := by
  rcases own_f6 x y with ⟨-, h⟩ | ⟨-, h⟩
  · exact Or.inl h
  · exact Or.inr h
theorem own_f6y {x y : Int64} (h : f6 x y = 1) : y.toInt % 18446744073709551616 ≤ x.toInt % 18446744073709551616 := by
  rcases own_f6 x y with ⟨-, k⟩ | ⟨k, -⟩
  · rw [k] at h
    exact absurd h (by decide)
  · omega
theorem own_stage {j k g C : Int32} (hC : (j.toInt < k.toInt ∨ g = 1) → C = 1) (hg : g = 0 ∨ g = 1) : (if if_icmp.holds .lt j k = true then C else (if ifCond.holds .ne g = true then C else (1 : Int32))) = 1 := by
  by_cases h : j.toInt < k.toInt
  · rw [if_pos (by rw [own_ilt]; exact h)]
    exact hC (Or.inl h)
  · rw [if_neg (by rw [own_ilt]; exact h)]
    rcases hg with hg | hg
    · rw [hg]
      rfl
    · rw [if_pos (by rw [hg]; rfl)]
      exact hC (Or.inr hg)
theorem own_law (x0 x1 : Int64) (x2 x3 : Int32) : f0 x0 x1 x2 x3 = 1 := by
  have eM : (9223372036854775807 : Int64).toInt = 9223372036854775807 := rfl
  have eN : (9223372036854775806 : Int64).toInt = 9223372036854775806 := rfl
  have i0 : (0 : Int32).toInt = 0 := rfl
  have i1 : (1 : Int32).toInt = 1 := rfl
  have i2 : (2 : Int32).toInt = 2 := rfl
  have i3 : (3 : Int32).toInt = 3 := rfl
  have hx0 := rng64 x0
  unfold f0
  by_cases hM : x0.toInt = 9223372036854775807
  · exact if_neg (by rw [own_cne, eM]; exact fun q => q hM)
  rw [if_pos (by rw [own_cne, eM]; exact hM)]
  have hT0 := own_tick x0 x1 x2 x3
  obtain ⟨T, hT⟩ : ∃ T, T = f0_j6 x0 x1 x2 x3 := ⟨_, rfl⟩
  have hTp : 0 < T.toInt := by rw [hT]; exact hT0
  have hTr := rng64 T
  obtain ⟨N, n1, n2, n3, -, n5⟩ := own_lastb x0 T hTp (by omega)
  obtain ⟨L, hL⟩ : ∃ L, L = x0 + f1_v14 x0 T * T := ⟨_, rfl⟩
  rw [← hL] at n5
  have hj : (f0_v10 x0 x1 x2 x3).toInt = x2.toInt % 4 := c_mask x2 3 2 (by decide) (by decide)
  obtain ⟨j, hj'⟩ : ∃ j, j = f0_v10 x0 x1 x2 x3 := ⟨_, rfl⟩
  have st0 := own_steps N T.toInt 0 hTp
  have st1 := own_steps N T.toInt 1 hTp
  have st2 := own_steps N T.toInt 2 hTp
  have st3 := own_steps N T.toInt 3 hTp
  have hM0 : 0 ≤ N * T.toInt := Int.mul_nonneg n1 (by omega)
  generalize N * T.toInt = M at *
  have hu : f0_j13 x0 x1 x2 x3 = 0 ∨ f0_j13 x0 x1 x2 x3 = 1 := by
    unfold f0_j13
    split
    · exact Or.inl rfl
    · exact Or.inr rfl
  -- the span, as an unsigned number
  have hspan : ∃ R0 : Int, (f0_j39 x0 x1 x2 x3).toInt % 18446744073709551616 = R0 ∧ ((f0_j13 x0 x1 x2 x3 = 0 ∧ R0 = M) ∨ (f0_j13 x0 x1 x2 x3 = 1 ∧ R0 = 9223372036854775806 - x0.toInt)) := by
    rcases hu with hu | hu
    · refine ⟨M, ?_, Or.inl ⟨hu, rfl⟩⟩
      have e1 : f0_j39 x0 x1 x2 x3 = L - x0 := by
        unfold f0_j39
        rw [hu, if_pos (by rfl), hL, hT]
        rfl
      rw [e1, own_subM, n5]
      omega
    · refine ⟨9223372036854775806 - x0.toInt, ?_, Or.inr ⟨hu, rfl⟩⟩
      have e1 : f0_j39 x0 x1 x2 x3 = (9223372036854775806 : Int64) - x0 := by
        unfold f0_j39
        rw [hu, if_neg (by decide)]
        rfl
      rw [e1, own_subM, eN]
      omega
  obtain ⟨R0, hR, hR0⟩ := hspan
  have hR64 : 0 ≤ R0 ∧ R0 < 18446744073709551616 := by
    rw [← hR]
    exact ⟨Int.emod_nonneg _ (by decide), Int.emod_lt_of_pos _ (by decide)⟩
  have hc : j.toInt = 0 ∨ j.toInt = 1 ∨ j.toInt = 2 ∨ j.toInt = 3 := by
    rw [hj', hj]
    omega
  -- the end, where j ticks fit into the span
  have key : j.toInt * T.toInt ≤ R0 → f0_c65 x0 x1 x2 x3 = 1 := by
    intro hfit
    have b73 : f0_v73 x0 x1 x2 x3 = T * j.toInt64 := by rw [hT, hj']; rfl
    have m1 : (T * j.toInt64).toInt % 18446744073709551616 = (j.toInt * T.toInt) % 18446744073709551616 := by rw [own_mulM, c_i2l, Int.mul_comm]
    obtain ⟨y, hy⟩ : ∃ y, y = T * j.toInt64 := ⟨_, rfl⟩
    rw [← hy] at m1 b73
    have hb : (f0_j76 x0 x1 x2 x3).toInt < 9223372036854775807 ∧ ((f0_j76 x0 x1 x2 x3).toInt < L.toInt ↔ T.toInt ≤ 9223372036854775806 - (f0_j76 x0 x1 x2 x3).toInt) := by
      rcases hR0 with ⟨hu, hr⟩ | ⟨hu, hr⟩
      · have e1 : f0_j76 x0 x1 x2 x3 = L - y := by
          unfold f0_j76 f0_j38
          rw [hu, b73, if_pos (by rfl), if_pos (by rfl), hL, hT]
          rfl
        have a1 := (own_subM L y).trans (own_sm _ _ _ m1)
        have a2 := rng64 (L - y)
        rw [e1]
        generalize L - y = b at *
        have hbv : b.toInt = L.toInt - j.toInt * T.toInt := own_me _ _ a2 (by clear a1 a2 m1 hR hj st0 st1 st2 st3; rcases hc with hc | hc | hc | hc <;> rw [hc] at hfit ⊢ <;> constructor <;> omega) a1
        clear a1 a2 m1 hR hj st0 st1 st2 st3
        rcases hc with hc | hc | hc | hc <;> rw [hc] at hbv hfit <;> exact ⟨by omega, by omega⟩
      · have e1 : f0_j76 x0 x1 x2 x3 = x0 + y := by
          unfold f0_j76 f0_j38
          rw [hu, b73, if_neg (by decide), if_neg (by decide)]
        have a1 := (own_addM x0 y).trans (own_am _ _ _ m1)
        have a2 := rng64 (x0 + y)
        rw [e1]
        generalize x0 + y = b at *
        have hbv : b.toInt = x0.toInt + j.toInt * T.toInt := own_me _ _ a2 (by clear a1 a2 m1 hR hj st0 st1 st2 st3; rcases hc with hc | hc | hc | hc <;> rw [hc] at hfit ⊢ <;> constructor <;> omega) a1
        clear a1 a2 m1 hR hj
        rcases hc with hc | hc | hc | hc <;> rw [hc] at hbv hfit <;> exact ⟨by omega, by omega⟩
    have hE := own_end (f0_j76 x0 x1 x2 x3) T L hTp hb.1 hb.2
    unfold f0_c65 f0_j90
    refine own_last ?_
    rw [own_cne]
    unfold f0_j83
    rw [← hT, ← hL, hE]
    exact fun q => q rfl
  -- the stages
  obtain ⟨r0, hr0⟩ : ∃ r, r = f0_j39 x0 x1 x2 x3 := ⟨_, rfl⟩
  obtain ⟨r1, hr1⟩ : ∃ r, r = f0_j52 x0 x1 x2 x3 := ⟨_, rfl⟩
  obtain ⟨r2, hr2⟩ : ∃ r, r = f0_j62 x0 x1 x2 x3 := ⟨_, rfl⟩
  have w1 : r1.toInt % 18446744073709551616 = if j.toInt < 1 then r0.toInt % 18446744073709551616 else (r0.toInt - T.toInt) % 18446744073709551616 := by
    rw [hr1]
    unfold f0_j52 f0_v49
    rw [← hj', ← hT, ← hr0]
    by_cases q : j.toInt < 1
    · rw [if_pos (by rw [own_ilt]; exact q), if_pos q]
    · rw [if_neg (by rw [own_ilt]; exact q), if_neg q, own_subM]
  have w2 : r2.toInt % 18446744073709551616 = if j.toInt < 2 then r1.toInt % 18446744073709551616 else (r1.toInt - T.toInt) % 18446744073709551616 := by
    rw [hr2]
    unfold f0_j62 f0_v59
    rw [← hj', ← hT, ← hr1]
    by_cases q : j.toInt < 2
    · rw [if_pos (by rw [own_ilt]; exact q), if_pos q]
    · rw [if_neg (by rw [own_ilt]; exact q), if_neg q, own_subM]
  rw [← hr0] at hR
  refine own_stage (fun h1 => ?_) (own_f6b _ _)
  unfold f0_c45
  refine own_stage (fun h2 => ?_) (own_f6b _ _)
  unfold f0_c55
  refine own_stage (fun h3 => ?_) (own_f6b _ _)
  apply key
  rw [← hj', ← hT, ← hr0] at h1
  rw [← hj', ← hT, ← hr1] at h2
  rw [← hj', ← hT, ← hr2] at h3
  have g1 : j.toInt < 1 ∨ T.toInt % 18446744073709551616 ≤ r0.toInt % 18446744073709551616 := h1.elim (fun q => Or.inl q) (fun q => Or.inr (own_f6y q))
  have g2 : j.toInt < 2 ∨ T.toInt % 18446744073709551616 ≤ r1.toInt % 18446744073709551616 := h2.elim (fun q => Or.inl q) (fun q => Or.inr (own_f6y q))
  have g3 : j.toInt < 3 ∨ T.toInt % 18446744073709551616 ≤ r2.toInt % 18446744073709551616 := h3.elim (fun q => Or.inl q) (fun q => Or.inr (own_f6y q))
  have hTm : T.toInt % 18446744073709551616 = T.toInt := Int.emod_eq_of_lt (by omega) (by omega)
  rw [hTm, hR] at g1
  rw [hTm] at g2 g3
  clear hj hR0 key st0 st1 st2 st3 n1 n2 n3 n5 hT0 h1 h2 h3
  rcases hc with hc | hc | hc | hc
  · rw [hc]; omega
  · rw [hc] at g1 ⊢; omega
  · rw [hc] at g1 g2 w1 ⊢
    have t1 : T.toInt ≤ R0 := by omega
    rw [if_neg (by decide), own_dm _ _ _ hR ⟨by omega, t1⟩] at w1
    rw [w1] at g2
    clear w1 w2 g3 hR
    omega
  · rw [hc] at g1 g2 g3 w1 w2 ⊢
    have t1 : T.toInt ≤ R0 := by clear w1 w2 g2 g3 hR; omega
    rw [if_neg (by decide), own_dm _ _ _ hR ⟨by clear w1 w2 g2 g3 hR; omega, t1⟩] at w1
    rw [w1] at g2
    have t2 : T.toInt ≤ R0 - T.toInt := by clear w1 w2 g3 hR; omega
    rw [if_neg (by decide), own_dm _ _ _ w1 ⟨by clear w1 w2 g2 g3 hR; omega, t2⟩] at w2
    rw [w2] at g3
    clear w1 w2 hR
    omega
set_option maxRecDepth 65536 in
set_option maxHeartbeats 40000000 in
theorem comes_1 {Post : Tables → Env → Array Value → State → Outcome → State → Prop} (hpost : ∀ tb e args s v u, (limb_1_1.after args s (.returned v) u = true ∧ limb_1_2.after args s (.returned v) u = true ∧ True) → FrameEnd s (.returned v) u (Jvm.fieldLocs frame_1_writes args s ++ Jvm.arrayLocs frame_1_arrays args s ++ Jvm.staticLocs frame_1_statics s) 16 128 → Post tb e args s (.returned v) u) :
    ArmFor flags0 classFile x code maxLocals ret World_1 tables_1 room_1 Calls_1 rest_1 Pre_1 Post := by
  intro l hfl _ _ p e ha hc hk s m args below hf hA hF happ hP
  obtain ⟨hcalls, hrest, hpre⟩ := hP
  obtain ⟨-, -, -, hnamed, -, -, -, hat⟩ := (Spec.applies_iff hf).mp happ
  obtain ⟨hg, hn⟩ := and_e (Cond.before_iff.mp (show (Jvm.Cond.and given_1 narrow_1).before args s = true from hpre))
  obtain ⟨g1, g2⟩ := and_e hg
  obtain ⟨g3, g4⟩ := and_e g2
  obtain ⟨g5, g6⟩ := and_e g4
  obtain ⟨g7, g8⟩ := and_e g6
  obtain ⟨w0, w1, w2, w3, rfl⟩ : ∃ w0 w1 w2 w3 : Value, args = #[w0, w1, w2, w3] := by
    have hs : args.size = 4 := by simpa [Cond.value, given_1] using g1
    obtain ⟨L⟩ := args
    match L, hs with
    | [w0, w1, w2, w3], _ => exact ⟨w0, w1, w2, w3, rfl⟩
  have hw := fun d (hd : d ∈ tables_1) => atoms_spec (ws := Jvm.Cond.code x code maxLocals ret :: tables_1) hat d (List.mem_cons_of_mem _ hd)
  obtain ⟨i0, ei0⟩ := isL_v g3
  obtain rfl : w0 = (.long i0) := Option.some.inj ei0
  obtain ⟨i1, ei1⟩ := isL_v g5
  obtain rfl : w1 = (.long i1) := Option.some.inj ei1
  obtain ⟨i2, ei2⟩ := is_v g7
  obtain rfl : w2 = (.int i2) := Option.some.inj ei2
  obtain ⟨i3, ei3⟩ := is_v g8
  obtain rfl : w3 = (.int i3) := Option.some.inj ei3
  obtain ⟨n, o, h1, h2, h3, v, L, rfl, ⟨hv, N⟩, hq⟩ := rm0 l s _ hw tables_1 i0 i1 i2 i3 s.heap s.heap.size (Nat.le_refl _) p e ha hc hk s m _ below hf ((Spec.applies_iff_loose hf).mp happ).1 ⟨rfl, State.Warmed39.refl s, rfl⟩ trivial
  rw [own_law] at hv
  subst hv
  refine ⟨n, _, h1, h2, h3, hpost _ _ _ _ _ _ ⟨Cond.after_iff.mpr rfl, Cond.after_iff.mpr (eq_i res_at (Term.int_eval (1)) rfl), trivial⟩ ⟨hq.1, hq.2.1, (hq.2.2.sift fun y hy => Or.inr (N y hy)).mono (by decide) (by decide)⟩⟩
theorem main_1_1 : Claimed_1_1 := comes_1 fun _ _ _ _ _ _ h hF => ⟨h.1, hF⟩
theorem main_1_2 : Claimed_1_2 := comes_1 fun _ _ _ _ _ _ h hF => ⟨h.2.1, hF⟩
end Jvm.Pilot.@@N@@
namespace Jvm.Pilot.@@N@@
open Jvm Jvm.ClassFile Sem Op Lib Jvm.Free Jvm.Stand Jvm.Pilot.@@N@@.Jvm.D
/-! MADE BY PROGRAM (witnessworld.py) out of the Statement's table words and the real class files: 14 classes; the members and pool entries that the words name. The judged class is class 1, her method 2. -/
namespace start1
open Jvm.ClassFile
def u (s : String) : CpInfo := .utf8 (stringToUtf16 s)
/-- a pool by its gaps: so many unusable entries, then the entry; so many at the end -/
def gap : Nat → List CpInfo → List CpInfo
  | 0, r => r
  | n + 1, r => .unusable :: gap n r
def poolList (es : List (Nat × CpInfo)) (last : Nat) : List CpInfo := es.foldr (fun e r => gap e.1 (e.2 :: r)) (gap last [])
def pool (es : List (Nat × CpInfo)) (last : Nat) : Array CpInfo := ⟨poolList es last⟩
def fileOf (pool : Array CpInfo) (this : Nat) (attrs : Array Attribute := #[]) (ms : Array MethodInfo := #[]) (fl : Nat := 33) (sup : Nat := 0) (ifs : Array Nat := #[]) (fds : Array FieldInfo := #[]) : ClassFile where
  minorVersion := 0
  majorVersion := 65
  constantPool := pool
  accessFlags := fl
  thisClass := this
  superClass := sup
  interfaces := ifs
  fields := fds
  methods := ms
  attributes := attrs
def plain (name : String) (sup : Option ClassId) : Class where
  name := name
  kind := .ordinary
  loader := none
  accessFlags := 33
  super := sup
  interfaces := #[]
  cf := none
  fields := #[]
  methods := #[]
  instanceTypes := #[]
  staticTypes := #[]
  resolved := #[]
  callSites := []
  init := .initialized
  statics := none
  mirror := none

def pool0 : Array CpInfo := pool [(5, u "<init>"), (0, u "()V"), (1, .class_ 10), (1, u "java/lang/Object")] 113

def k0c0 : Code := { maxStack := 0, maxLocals := 1, code := object_method_1_code, exceptionTable := #[], attributes := #[] }
def k0m0 : Method := { name := "<init>", desc := "()V", sig := { parameters := [], returnType := none }, accessFlags := 1, code := some k0c0 }
/-- java/lang/Object -/
def k0 : Class := { plain "java/lang/Object" none with
  accessFlags := 33
  interfaces := #[]
  cf := some (fileOf pool0 8 #[] #[{ accessFlags := 1, nameIndex := 5, descriptorIndex := 6, attributes := #[] }] 33 0 #[] #[])
  fields := #[]
  methods := #[k0m0]
  instanceTypes := #[]
  staticTypes := #[]
  resolved := Array.replicate 124 none
  statics := none }

def pool1 : Array CpInfo := pool [(2, .class_ 4), (1, u "java/lang/Object"), (0, u "<init>"), (0, u "()V"), (2, .long 9223372036854775808), (1, .long 9223372036854775807), (1, .class_ 14), (0, u "com/example/tick_wheel/tickwheel/wheel/TickGrid"), (0, .methodref 13 16), (0, .nameAndType 5 17), (0, u "(JJ)V"), (0, .long 9223372036854775806), (1, .methodref 13 21), (0, .nameAndType 22 23), (0, u "boundaryAtOrBefore"), (0, u "(J)J"), (0, .methodref 25 26), (0, .class_ 27), (0, .nameAndType 28 29), (0, u "com/example/tick_wheel/tickwheel/wheel/TickGridBoundaryAfterPinLaw"), (0, u "uge"), (0, u "(JJ)Z"), (0, .methodref 13 31), (0, .nameAndType 32 23), (0, u "boundaryAfter"), (3, u "law"), (0, u "(JJII)Z")] 2

def k1m0 : Method := { name := "<init>", desc := "()V", sig := { parameters := [], returnType := none }, accessFlags := 1, code := none }
def k1c1 : Code := { maxStack := 6, maxLocals := 4, code := method_2_code, exceptionTable := #[], attributes := #[] }
def k1m1 : Method := { name := "uge", desc := "(JJ)Z", sig := { parameters := [.long, .long], returnType := some .boolean }, accessFlags := 10, code := some k1c1 }
def k1c2 : Code := { maxStack := 6, maxLocals := 23, code := code, exceptionTable := #[], attributes := #[] }
def k1m2 : Method := { name := "law", desc := "(JJII)Z", sig := { parameters := [.long, .long, .int, .int], returnType := some .boolean }, accessFlags := 9, code := some k1c2 }
/-- com/example/tick_wheel/tickwheel/wheel/TickGridBoundaryAfterPinLaw -/
def k1 : Class := { plain "com/example/tick_wheel/tickwheel/wheel/TickGridBoundaryAfterPinLaw" (some 0) with
  accessFlags := 49
  interfaces := #[]
  cf := some (fileOf pool1 25 #[] #[{ accessFlags := 1, nameIndex := 5, descriptorIndex := 6, attributes := #[] }, { accessFlags := 10, nameIndex := 28, descriptorIndex := 29, attributes := #[] }, { accessFlags := 9, nameIndex := 36, descriptorIndex := 37, attributes := #[] }] 49 2 #[] #[])
  fields := #[]
  methods := #[k1m0, k1m1, k1m2]
  instanceTypes := #[]
  staticTypes := #[]
  resolved := Array.replicate 40 none
  statics := none }

def pool2 : Array CpInfo := pool [(1, .class_ 2), (0, u "java/lang/Long"), (0, .methodref 4 5), (0, .class_ 6), (0, .nameAndType 7 8), (0, u "java/lang/Object"), (0, u "<init>"), (0, u "()V"), (0, .methodref 10 11), (0, .class_ 12), (0, .nameAndType 13 14), (0, u "com/example/tick_wheel/tickwheel/wheel/TickGrid"), (0, u "checkTick"), (0, u "(J)V"), (0, .long 9223372036854775807), (8, .fieldref 10 25), (0, .nameAndType 26 27), (0, u "startNanos"), (0, u "J"), (0, .fieldref 10 29), (0, .nameAndType 30 27), (0, u "tickNanos"), (0, .long 9223372036854775806), (1, .methodref 1 34), (0, .nameAndType 35 36), (0, u "divideUnsigned"), (0, u "(JJ)J"), (0, .fieldref 10 38), (0, .nameAndType 39 27), (0, u "lastBoundaryNanos"), (10, u "NEVER"), (1, u "(JJ)V"), (4, u "(J)J"), (0, u "boundaryAtOrBefore"), (0, u "boundaryAfter")] 21

def k2c0 : Code := { maxStack := 7, maxLocals := 7, code := prog_3_method_1_code, exceptionTable := #[], attributes := #[] }
def k2m0 : Method := { name := "<init>", desc := "(JJ)V", sig := { parameters := [.long, .long], returnType := none }, accessFlags := 0, code := some k2c0 }
def k2c1 : Code := { maxStack := 4, maxLocals := 2, code := prog_3_method_2_code, exceptionTable := #[], attributes := #[] }
def k2m1 : Method := { name := "checkTick", desc := "(J)V", sig := { parameters := [.long], returnType := none }, accessFlags := 8, code := some k2c1 }
def k2c2 : Code := { maxStack := 6, maxLocals := 5, code := prog_3_method_4_code, exceptionTable := #[], attributes := #[] }
def k2m2 : Method := { name := "boundaryAtOrBefore", desc := "(J)J", sig := { parameters := [.long], returnType := some .long }, accessFlags := 0, code := some k2c2 }
def k2c3 : Code := { maxStack := 4, maxLocals := 3, code := prog_3_method_5_code, exceptionTable := #[], attributes := #[] }
def k2m3 : Method := { name := "boundaryAfter", desc := "(J)J", sig := { parameters := [.long], returnType := some .long }, accessFlags := 0, code := some k2c3 }
/-- com/example/tick_wheel/tickwheel/wheel/TickGrid -/
def k2 : Class := { plain "com/example/tick_wheel/tickwheel/wheel/TickGrid" (some 0) with
  accessFlags := 48
  interfaces := #[]
  cf := some (fileOf pool2 10 #[] #[{ accessFlags := 0, nameIndex := 7, descriptorIndex := 52, attributes := #[] }, { accessFlags := 8, nameIndex := 13, descriptorIndex := 14, attributes := #[] }, { accessFlags := 0, nameIndex := 58, descriptorIndex := 57, attributes := #[] }, { accessFlags := 0, nameIndex := 59, descriptorIndex := 57, attributes := #[] }] 48 4 #[] #[{ accessFlags := 24, nameIndex := 50, descriptorIndex := 27, attributes := #[] }, { accessFlags := 18, nameIndex := 26, descriptorIndex := 27, attributes := #[] }, { accessFlags := 18, nameIndex := 30, descriptorIndex := 27, attributes := #[] }, { accessFlags := 18, nameIndex := 39, descriptorIndex := 27, attributes := #[] }])
  fields := #[{ name := "NEVER", type := .long, accessFlags := 24, slot := 0, constantValue := 0 }, { name := "startNanos", type := .long, accessFlags := 18, slot := 0, constantValue := 0 }, { name := "tickNanos", type := .long, accessFlags := 18, slot := 1, constantValue := 0 }, { name := "lastBoundaryNanos", type := .long, accessFlags := 18, slot := 2, constantValue := 0 }]
  methods := #[k2m0, k2m1, k2m2, k2m3]
  instanceTypes := #[.long, .long, .long]
  staticTypes := #[.long]
  resolved := Array.replicate 81 none
  statics := none }

def pool3 : Array CpInfo := pool [(1, .class_ 2), (0, u "java/io/Serializable"), (0, .class_ 4), (0, u "java/lang/Object")] 2

/-- java/io/Serializable -/
def k3 : Class := { plain "java/io/Serializable" (some 0) with
  accessFlags := 1537
  interfaces := #[]
  cf := some (fileOf pool3 1 #[] #[] 1537 3 #[] #[])
  fields := #[]
  methods := #[]
  instanceTypes := #[]
  staticTypes := #[]
  resolved := Array.replicate 7 none
  statics := none }

def pool4 : Array CpInfo := pool [(2, .class_ 4), (1, u "java/lang/Object"), (0, u "<init>"), (0, u "()V"), (1, .class_ 10), (1, u "java/lang/Number"), (2, .class_ 14), (0, u "java/io/Serializable"), (0, u "serialVersionUID"), (0, u "J")] 20

def k4m0 : Method := { name := "<init>", desc := "()V", sig := { parameters := [], returnType := none }, accessFlags := 1, code := none }
/-- java/lang/Number -/
def k4 : Class := { plain "java/lang/Number" (some 0) with
  accessFlags := 1057
  interfaces := #[3]
  cf := some (fileOf pool4 8 #[] #[{ accessFlags := 1, nameIndex := 5, descriptorIndex := 6, attributes := #[] }] 1057 2 #[13] #[{ accessFlags := 26, nameIndex := 15, descriptorIndex := 16, attributes := #[] }])
  fields := #[{ name := "serialVersionUID", type := .long, accessFlags := 26, slot := 0, constantValue := 0 }]
  methods := #[k4m0]
  instanceTypes := #[]
  staticTypes := #[.long]
  resolved := Array.replicate 37 none
  statics := none }

def pool5 : Array CpInfo := pool [(1, .class_ 2), (0, u "java/lang/Comparable"), (0, .class_ 4), (0, u "java/lang/Object")] 7

/-- java/lang/Comparable -/
def k5 : Class := { plain "java/lang/Comparable" (some 0) with
  accessFlags := 1537
  interfaces := #[]
  cf := some (fileOf pool5 1 #[] #[] 1537 3 #[] #[])
  fields := #[]
  methods := #[]
  instanceTypes := #[]
  staticTypes := #[]
  resolved := Array.replicate 12 none
  statics := none }

def pool6 : Array CpInfo := pool [(1, .class_ 2), (0, u "java/lang/constant/Constable"), (0, .class_ 4), (0, u "java/lang/Object")] 6

/-- java/lang/constant/Constable -/
def k6 : Class := { plain "java/lang/constant/Constable" (some 0) with
  accessFlags := 1537
  interfaces := #[]
  cf := some (fileOf pool6 1 #[] #[] 1537 3 #[] #[])
  fields := #[]
  methods := #[]
  instanceTypes := #[]
  staticTypes := #[]
  resolved := Array.replicate 11 none
  statics := none }

def pool7 : Array CpInfo := pool [(1, .class_ 2), (0, u "java/lang/constant/ConstantDesc"), (0, .class_ 4), (0, u "java/lang/Object")] 32

/-- java/lang/constant/ConstantDesc -/
def k7 : Class := { plain "java/lang/constant/ConstantDesc" (some 0) with
  accessFlags := 1537
  interfaces := #[]
  cf := some (fileOf pool7 1 #[] #[] 1537 3 #[] #[])
  fields := #[]
  methods := #[]
  instanceTypes := #[]
  staticTypes := #[]
  resolved := Array.replicate 37 none
  statics := none }

def pool8 : Array CpInfo := pool [(1, .class_ 2), (0, u "java/lang/Long"), (232, .class_ 237), (1, u "java/lang/Long$LongCache"), (33, .class_ 272), (0, u "java/lang/Number"), (2, u "value"), (0, u "J"), (29, .long 18446744073709551615), (26, u "(JJ)J"), (27, u "TYPE"), (0, u "Ljava/lang/Class;"), (0, .class_ 364), (0, u "java/lang/Comparable"), (0, .class_ 366), (0, u "java/lang/constant/Constable"), (0, .class_ 368), (0, u "java/lang/constant/ConstantDesc"), (0, u "MIN_VALUE"), (1, u "MAX_VALUE"), (4, u "SIZE"), (0, u "I"), (1, u "BYTES"), (1, u "serialVersionUID"), (88, u "divideUnsigned")] 53

def k8c0 : Code := { maxStack := 8, maxLocals := 8, code := jdk_35_method_44_code, exceptionTable := #[], attributes := #[] }
def k8m0 : Method := { name := "divideUnsigned", desc := "(JJ)J", sig := { parameters := [.long, .long], returnType := some .long }, accessFlags := 9, code := some k8c0 }
/-- java/lang/Long -/
def k8 : Class := { plain "java/lang/Long" (some 4) with
  accessFlags := 49
  interfaces := #[5, 6, 7]
  cf := some (fileOf pool8 1 #[.nestMembers #[235]] #[{ accessFlags := 9, nameIndex := 470, descriptorIndex := 333, attributes := #[] }] 49 271 #[363, 365, 367] #[{ accessFlags := 25, nameIndex := 369, descriptorIndex := 276, attributes := #[] }, { accessFlags := 25, nameIndex := 371, descriptorIndex := 276, attributes := #[] }, { accessFlags := 25, nameIndex := 361, descriptorIndex := 362, attributes := #[] }, { accessFlags := 18, nameIndex := 275, descriptorIndex := 276, attributes := #[] }, { accessFlags := 25, nameIndex := 376, descriptorIndex := 377, attributes := #[] }, { accessFlags := 25, nameIndex := 379, descriptorIndex := 377, attributes := #[] }, { accessFlags := 26, nameIndex := 381, descriptorIndex := 276, attributes := #[] }])
  fields := #[{ name := "MIN_VALUE", type := .long, accessFlags := 25, slot := 0, constantValue := 0 }, { name := "MAX_VALUE", type := .long, accessFlags := 25, slot := 1, constantValue := 0 }, { name := "TYPE", type := (.object "java/lang/Class"), accessFlags := 25, slot := 2, constantValue := 0 }, { name := "value", type := .long, accessFlags := 18, slot := 0, constantValue := 0 }, { name := "SIZE", type := .int, accessFlags := 25, slot := 3, constantValue := 0 }, { name := "BYTES", type := .int, accessFlags := 25, slot := 4, constantValue := 0 }, { name := "serialVersionUID", type := .long, accessFlags := 26, slot := 5, constantValue := 0 }]
  methods := #[k8m0]
  instanceTypes := #[.long]
  staticTypes := #[.long, .long, (.object "java/lang/Class"), .int, .int, .long]
  resolved := Array.replicate 524 none
  statics := none }

def pool9 : Array CpInfo := pool [(1, u "java/lang/Cloneable"), (0, .class_ 1), (0, u "java/lang/Object"), (0, .class_ 3)] 3

/-- java/lang/Cloneable -/
def k9 : Class := { plain "java/lang/Cloneable" (some 0) with
  accessFlags := 1537
  interfaces := #[]
  cf := some (fileOf pool9 2 #[] #[] 1537 4 #[] #[])
  fields := #[]
  methods := #[]
  instanceTypes := #[]
  staticTypes := #[]
  resolved := Array.replicate 8 none
  statics := none }

/-- the primitive byte -/
def k10 : Class := { plain "byte" none with kind := .primitive 'B', accessFlags := 0x411 }
/-- [B -/
def k11 : Class := { plain "[B" (some 0) with kind := .array 10 .byte, interfaces := #[9, 3], accessFlags := 1041 }

/-- the primitive int -/
def k12 : Class := { plain "int" none with kind := .primitive 'I', accessFlags := 0x411 }
/-- [I -/
def k13 : Class := { plain "[I" (some 0) with kind := .array 12 .int, interfaces := #[9, 3], accessFlags := 1041 }

def heap : Heap := #[]
def classes : Array Class := #[k0, k1, k2, k3, k4, k5, k6, k7, k8, k9, k10, k11, k12, k13]
def interned : List (Array UInt16 × Addr) := []
def slotsUsed : Nat := 0
def theMethod : MethodId := ⟨1, 2⟩
def args0 : Array Value := #[.long 5, .long 7, .int 1, .int 2]
def aboutOver (below : List Frame) : State where
  vm := { classes := classes, interned := interned.toArray }
  heap := heap
  slotsUsed := slotsUsed
  threads := #[{ frames := .invoking theMethod args0 :: below }]
def below0 : List Frame := [.native { method := ⟨0, 0⟩, args := #[] }]
def about1 : State := aboutOver below0
def p0 : Program := .bare "" "" ""
def e0 : Env := launch0.env 0 0 0
theorem w_frames : about1.frames = Frame.invoking theMethod args0 :: below0 := rfl
set_option maxRecDepth 65536 in
theorem w_args : argsFit about1.vm theMethod args0 = true := by decide +kernel
set_option maxRecDepth 65536 in
theorem w_heap : heapFits about1 = true := by decide +kernel
set_option maxRecDepth 65536 in
theorem w_runnable : about1.curStatus? = some .runnable := by decide +kernel
set_option maxRecDepth 65536 in
theorem w_alone : about1.alone = true := by decide +kernel
set_option maxRecDepth 65536 in
theorem w_named : about1.methodNamed? x = some theMethod := by decide +kernel
set_option maxRecDepth 65536 in
theorem w_hears : about1.hears theMethod below0 = true := by decide +kernel
set_option maxRecDepth 65536 in
theorem w_ripe : about1.ripe theMethod args0 below0 = true := by decide +kernel
theorem w_running : about1.status = .running := rfl
set_option maxRecDepth 65536 in
theorem w_room : about1.hasRoom e0.platform room_1 = true :=
  launch0.hasRoom_least _ room_1 (by decide +kernel) (by decide +kernel) (by decide +kernel) (by decide +kernel) (by decide +kernel) (by decide +kernel)
theorem allAtoms_all (ts : List Jvm.Cond) (a : Array Jvm.Value) (st : Jvm.State) : (allAtoms ts).before a st = ts.all (fun c => c.before a st) := by
  induction ts with
  | nil => rfl
  | cons c t ih =>
    show (Jvm.Cond.and c (allAtoms t)).before a st = _
    rw [Jvm.Cond.before_and, ih, List.all_cons]
def words1 : List Jvm.Cond := Jvm.Cond.code x code maxLocals ret :: tables_1
/-- a 'code' word, met by the world's own term for the bytes: nothing is compared byte by byte -/
theorem code_word {y : MethodName} {bytes : ByteArray} {mx : Nat} {rt : Option FieldType} {a : Array Value} {s : State} {m : MethodId} {meth : Method} {c : Code} (h1 : s.methodNamed? y = some m) (h2 : s.vm.method? m = some meth) (h3 : meth.code = some c) (h4 : c.code = bytes)
    (h5 : (c.maxLocals == mx && c.exceptionTable.isEmpty && decide (c.maxStack ≤ mostOperands) && decide (meth.sig.returnType = rt) && !meth.locks && decide (parseMethodDescriptor y.desc = some meth.sig)) = true) : (Jvm.Cond.code y bytes mx rt).before a s = true := by
  simp only [Bool.and_eq_true, beq_iff_eq, Bool.not_eq_true', decide_eq_true_eq] at h5
  obtain ⟨⟨⟨⟨⟨g1, g2⟩, g3⟩, g4⟩, g5⟩, g6⟩ := h5
  simp [Cond.before, Cond.holds, Cond.value, h1, h2, h3, h4, g1, g2, g3, g4, g5, g6]
def isCode : Jvm.Cond → Bool
  | .code _ _ _ _ => true
  | _ => false
theorem all_split {L : List Jvm.Cond} {P : Jvm.Cond → Bool} (h1 : L.all (fun c => isCode c || P c) = true) (h2 : ∀ c ∈ L.filter isCode, P c = true) : L.all P = true := by
  refine List.all_eq_true.mpr fun c hc => ?_
  have h := List.all_eq_true.mp h1 c hc
  rcases Bool.eq_false_or_eq_true (isCode c) with hi | hi
  · exact h2 c (List.mem_filter.mpr ⟨hc, hi⟩)
  · simpa [hi] using h
set_option maxRecDepth 65536 in
theorem w_c0 : (Jvm.Cond.code x code maxLocals ret).before args0 about1 = true := code_word (m := ⟨1, 2⟩) (meth := k1m2) (c := k1c2) (by decide +kernel) rfl rfl rfl (by decide +kernel)
set_option maxRecDepth 65536 in
theorem w_c1 : (Jvm.Cond.code ({ cls := "com/example/tick_wheel/tickwheel/wheel/TickGrid", name := "<init>", desc := "(JJ)V" } : Jvm.MethodName) prog_3_method_1_code (7 : Nat) (Option.none : Option Jvm.ClassFile.FieldType)).before args0 about1 = true := code_word (m := ⟨2, 0⟩) (meth := k2m0) (c := k2c0) (by decide +kernel) rfl rfl rfl (by decide +kernel)
set_option maxRecDepth 65536 in
theorem w_c2 : (Jvm.Cond.code ({ cls := "java/lang/Object", name := "<init>", desc := "()V" } : Jvm.MethodName) object_method_1_code (1 : Nat) (Option.none : Option Jvm.ClassFile.FieldType)).before args0 about1 = true := code_word (m := ⟨0, 0⟩) (meth := k0m0) (c := k0c0) (by decide +kernel) rfl rfl rfl (by decide +kernel)
set_option maxRecDepth 65536 in
theorem w_c3 : (Jvm.Cond.code ({ cls := "com/example/tick_wheel/tickwheel/wheel/TickGrid", name := "checkTick", desc := "(J)V" } : Jvm.MethodName) prog_3_method_2_code (2 : Nat) (Option.none : Option Jvm.ClassFile.FieldType)).before args0 about1 = true := code_word (m := ⟨2, 1⟩) (meth := k2m1) (c := k2c1) (by decide +kernel) rfl rfl rfl (by decide +kernel)
set_option maxRecDepth 65536 in
theorem w_c4 : (Jvm.Cond.code ({ cls := "java/lang/Long", name := "divideUnsigned", desc := "(JJ)J" } : Jvm.MethodName) jdk_35_method_44_code (8 : Nat) (Option.some Jvm.ClassFile.FieldType.long)).before args0 about1 = true := code_word (m := ⟨8, 0⟩) (meth := k8m0) (c := k8c0) (by decide +kernel) rfl rfl rfl (by decide +kernel)
set_option maxRecDepth 65536 in
theorem w_c5 : (Jvm.Cond.code ({ cls := "com/example/tick_wheel/tickwheel/wheel/TickGrid", name := "boundaryAtOrBefore", desc := "(J)J" } : Jvm.MethodName) prog_3_method_4_code (5 : Nat) (Option.some Jvm.ClassFile.FieldType.long)).before args0 about1 = true := code_word (m := ⟨2, 2⟩) (meth := k2m2) (c := k2c2) (by decide +kernel) rfl rfl rfl (by decide +kernel)
set_option maxRecDepth 65536 in
theorem w_c6 : (Jvm.Cond.code ({ cls := "com/example/tick_wheel/tickwheel/wheel/TickGridBoundaryAfterPinLaw", name := "uge", desc := "(JJ)Z" } : Jvm.MethodName) method_2_code (4 : Nat) (Option.some Jvm.ClassFile.FieldType.boolean)).before args0 about1 = true := code_word (m := ⟨1, 1⟩) (meth := k1m1) (c := k1c1) (by decide +kernel) rfl rfl rfl (by decide +kernel)
set_option maxRecDepth 65536 in
theorem w_c7 : (Jvm.Cond.code ({ cls := "com/example/tick_wheel/tickwheel/wheel/TickGrid", name := "boundaryAfter", desc := "(J)J" } : Jvm.MethodName) prog_3_method_5_code (3 : Nat) (Option.some Jvm.ClassFile.FieldType.long)).before args0 about1 = true := code_word (m := ⟨2, 3⟩) (meth := k2m3) (c := k2c3) (by decide +kernel) rfl rfl rfl (by decide +kernel)
def codes1 : List Jvm.Cond := [Jvm.Cond.code x code maxLocals ret, Jvm.Cond.code ({ cls := "com/example/tick_wheel/tickwheel/wheel/TickGrid", name := "<init>", desc := "(JJ)V" } : Jvm.MethodName) prog_3_method_1_code (7 : Nat) (Option.none : Option Jvm.ClassFile.FieldType), Jvm.Cond.code ({ cls := "java/lang/Object", name := "<init>", desc := "()V" } : Jvm.MethodName) object_method_1_code (1 : Nat) (Option.none : Option Jvm.ClassFile.FieldType), Jvm.Cond.code ({ cls := "com/example/tick_wheel/tickwheel/wheel/TickGrid", name := "checkTick", desc := "(J)V" } : Jvm.MethodName) prog_3_method_2_code (2 : Nat) (Option.none : Option Jvm.ClassFile.FieldType), Jvm.Cond.code ({ cls := "java/lang/Long", name := "divideUnsigned", desc := "(JJ)J" } : Jvm.MethodName) jdk_35_method_44_code (8 : Nat) (Option.some Jvm.ClassFile.FieldType.long), Jvm.Cond.code ({ cls := "com/example/tick_wheel/tickwheel/wheel/TickGrid", name := "boundaryAtOrBefore", desc := "(J)J" } : Jvm.MethodName) prog_3_method_4_code (5 : Nat) (Option.some Jvm.ClassFile.FieldType.long), Jvm.Cond.code ({ cls := "com/example/tick_wheel/tickwheel/wheel/TickGridBoundaryAfterPinLaw", name := "uge", desc := "(JJ)Z" } : Jvm.MethodName) method_2_code (4 : Nat) (Option.some Jvm.ClassFile.FieldType.boolean), Jvm.Cond.code ({ cls := "com/example/tick_wheel/tickwheel/wheel/TickGrid", name := "boundaryAfter", desc := "(J)J" } : Jvm.MethodName) prog_3_method_5_code (3 : Nat) (Option.some Jvm.ClassFile.FieldType.long)]
set_option maxRecDepth 65536 in
theorem codes_eq : words1.filter isCode = codes1 := rfl
theorem w_codes : ∀ c ∈ words1.filter isCode, c.before args0 about1 = true := by
  rw [codes_eq]
  intro c hc
  simp only [codes1, List.mem_cons, List.not_mem_nil, or_false] at hc
  rcases hc with rfl | rfl | rfl | rfl | rfl | rfl | rfl | rfl
  · exact w_c0
  · exact w_c1
  · exact w_c2
  · exact w_c3
  · exact w_c4
  · exact w_c5
  · exact w_c6
  · exact w_c7
set_option maxRecDepth 65536 in
theorem w_t1 : (words1.take 24).all (fun c => isCode c || c.before args0 about1) = true := by decide +kernel
set_option maxRecDepth 65536 in
theorem w_t2 : (words1.drop 24).all (fun c => isCode c || c.before args0 about1) = true := by decide +kernel
theorem w_tables : (allAtoms (Jvm.Cond.code x code maxLocals ret :: tables_1)).before args0 about1 = true := by
  rw [allAtoms_all]
  show words1.all (fun c => c.before args0 about1) = true
  refine all_split ?_ w_codes
  rw [← List.take_append_drop 24 words1, List.all_append, w_t1, w_t2]
  rfl
set_option maxRecDepth 65536 in
theorem w_case : (Jvm.Cond.and given_1 narrow_1).before args0 about1 = true := by decide +kernel
theorem w_applies : (headSpec (Jvm.Cond.code x code maxLocals ret :: tables_1) room_1).applies x e0.platform about1 = true :=
  (Spec.applies_iff w_frames).mpr ⟨w_running, w_runnable, w_alone, w_named, w_hears, w_ripe, w_room, w_tables⟩
theorem atStart : AtStart classFile x code maxLocals ret World_1 tables_1 room_1 Calls_1 rest_1 Pre_1 launch0 p0 e0 about1 theMethod args0 below0 :=
  ⟨lists_1, trivial, launch0.admits_env _ _ _, launch0.least_env, fairChoices_fair.cas, fairChoices_fair.clock, w_frames, w_args, w_heap, w_applies, trivial, trivial, w_case⟩
end start1
theorem witness_1 : WitnessClaimed_1 := ⟨start1.p0, start1.e0, start1.about1, start1.theMethod, start1.args0, start1.below0, start1.atStart⟩
end Jvm.Pilot.@@N@@
