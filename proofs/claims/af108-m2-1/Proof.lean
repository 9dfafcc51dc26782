import JvmDerived
import JvmDerived.Pilot.@@N@@Statement
import JvmDerived.Pilot.@@N@@Code
set_option linter.unusedVariables false
set_option linter.unusedSimpArgs false
@@BLOCK:NumsL.lean.txt@@
namespace Jvm.RoadKit
open Sem ClassFile Op Lib Jvm.Stand Jvm.Free Jvm.LawKit
section New
variable {p : Program} {l : Launch} {e : Env} {R : Room} {s : State} {m : MethodId} {args : Array Value} {below : List Frame} {meth : Method} {c : Code} {T : State} {locs : List Loc} {cells slots : Nat}
theorem retI (X : Stand p l e R s m args below meth c T locs cells slots) (hx : p.tables.exec = Jvm.exec) {pc : Nat} {Ls : Array Slot} {z : Int32} {rest : List Value} (hret : meth.sig.returnType = some .int) (hd : decode c.code pc = .ok (.ireturn, 1)) {fs : List Frame}
    (hl : ∀ (f : JFrame) (acts : List Action), f.method = m → f.locked = none → f.entered = [] → (doReturn e (T.setTop f) acts (some (.int z))).1 = T.setFrames fs) : Steps p.tables e below (T.setTop (mkF m pc Ls (.int z :: rest))) (T.setFrames fs) := by
  have hm' : T.vm.method? m = some meth := X.method'
  have hn : narrow .int (.int z) = .int z := rfl
  show Steps p.tables e below (T.setTop { method := m, pc := pc, locals := Ls, stack := _ :: rest, locked := none }) _
  jvm_step X.here [X.here.top, hx, hd, hm', hret, hn]
  first | (intro acts; rw [hl _ acts rfl rfl rfl]) | rw [hl _ _ rfl rfl rfl]
  exact Steps.refl _
end New
end Jvm.RoadKit
namespace Jvm.Pilot.@@N@@
open Jvm Jvm.ClassFile Sem Op Lib Jvm.Free Jvm.Stand Jvm.LawKit Jvm.RoadKit Bundle Jvm.Pilot.@@N@@.Jvm.D
theorem own_nt {b : Bool} (h : b = false) : ¬ b = true := fun q => by rw [h] at q; cases q
theorem own_ts_ne {α : Type} {o : Option α} {a b : α} (h : o = some b) (ne : b ≠ a) : ¬ o = some a := fun q => ne (Option.some.inj (h.symm.trans q))
/-- what lcmp pushes; Java's shifts and the remainder of longs -/
def own_cmp (x y : Int64) : Int32 := lcmpW x y
def own_iushr (x y : Int32) : Int32 := (x.toUInt32 >>> (y &&& 31).toUInt32).toInt32
def own_lushr (x : Int64) (y : Int32) : Int64 := (x.toUInt64 >>> (y &&& 0x3f).toInt64.toUInt64).toInt64
def own_lshl (x : Int64) (y : Int32) : Int64 := x <<< (y &&& 0x3f).toInt64
def own_lshr (x : Int64) (y : Int32) : Int64 := x >>> (y &&& 0x3f).toInt64
def own_lrem (x y : Int64) : Int64 := x - (x / y) * y
theorem own_xlcmp {tb : Tables} [Ours tb] {e : Env} {below : List Frame} {T target : State} {m : MethodId} {c : Code} {g : JFrame} (h : At T m c below) (hx : tb.exec = Jvm.exec) (hg : g.method = m) {x : Int64} {y : Int64} {rest : List Value} (hd : decode c.code g.pc = .ok (.lcmp, 1)) (hs : g.stack = .long y :: .long x :: rest) (hr : Steps tb e below (T.setTop { g with pc := g.pc + 1, stack := .int (own_cmp x y) :: rest }) target) : Steps tb e below (T.setTop g) target := XS.lcmp h hx hg hd hs hr
theorem own_xiushr {tb : Tables} [Ours tb] {e : Env} {below : List Frame} {T target : State} {m : MethodId} {c : Code} {g : JFrame} (h : At T m c below) (hx : tb.exec = Jvm.exec) (hg : g.method = m) {x : Int32} {y : Int32} {rest : List Value} (hd : decode c.code g.pc = .ok (.iushr, 1)) (hs : g.stack = .int y :: .int x :: rest) (hr : Steps tb e below (T.setTop { g with pc := g.pc + 1, stack := .int (own_iushr x y) :: rest }) target) : Steps tb e below (T.setTop g) target := XS.iushr h hx hg hd hs hr
theorem own_xlushr {tb : Tables} [Ours tb] {e : Env} {below : List Frame} {T target : State} {m : MethodId} {c : Code} {g : JFrame} (h : At T m c below) (hx : tb.exec = Jvm.exec) (hg : g.method = m) {x : Int64} {y : Int32} {rest : List Value} (hd : decode c.code g.pc = .ok (.lushr, 1)) (hs : g.stack = .int y :: .long x :: rest) (hr : Steps tb e below (T.setTop { g with pc := g.pc + 1, stack := .long (own_lushr x y) :: rest }) target) : Steps tb e below (T.setTop g) target := XS.lushr h hx hg hd hs hr
theorem own_xlshl {tb : Tables} [Ours tb] {e : Env} {below : List Frame} {T target : State} {m : MethodId} {c : Code} {g : JFrame} (h : At T m c below) (hx : tb.exec = Jvm.exec) (hg : g.method = m) {x : Int64} {y : Int32} {rest : List Value} (hd : decode c.code g.pc = .ok (.lshl, 1)) (hs : g.stack = .int y :: .long x :: rest) (hr : Steps tb e below (T.setTop { g with pc := g.pc + 1, stack := .long (own_lshl x y) :: rest }) target) : Steps tb e below (T.setTop g) target := XS.lshl h hx hg hd hs hr
theorem own_xlshr {tb : Tables} [Ours tb] {e : Env} {below : List Frame} {T target : State} {m : MethodId} {c : Code} {g : JFrame} (h : At T m c below) (hx : tb.exec = Jvm.exec) (hg : g.method = m) {x : Int64} {y : Int32} {rest : List Value} (hd : decode c.code g.pc = .ok (.lshr, 1)) (hs : g.stack = .int y :: .long x :: rest) (hr : Steps tb e below (T.setTop { g with pc := g.pc + 1, stack := .long (own_lshr x y) :: rest }) target) : Steps tb e below (T.setTop g) target := XS.lshr h hx hg hd hs hr
theorem own_xlrem {tb : Tables} [Ours tb] {e : Env} {below : List Frame} {T target : State} {m : MethodId} {c : Code} {g : JFrame} (h : At T m c below) (hx : tb.exec = Jvm.exec) (hg : g.method = m) {x : Int64} {y : Int64} {rest : List Value} (hd : decode c.code g.pc = .ok (.lrem, 1)) (hs : g.stack = .long y :: .long x :: rest) (hy : y ≠ 0) (hr : Steps tb e below (T.setTop { g with pc := g.pc + 1, stack := .long (own_lrem x y) :: rest }) target) : Steps tb e below (T.setTop g) target := XS.lrem h hx hg hd hs hy hr
theorem own_ieq (x y : Int32) : (if_icmp.holds .eq x y = true) = (x.toInt = y.toInt) := by
  rw [show if_icmp.holds .eq x y = (x == y) from rfl, beq_iff_eq, Int32.toInt_inj]
theorem own_ine (x y : Int32) : (if_icmp.holds .ne x y = true) = (x.toInt ≠ y.toInt) := by
  rw [show if_icmp.holds .ne x y = (x != y) from rfl, bne_iff_ne, ne_eq, ne_eq, Int32.toInt_inj]
theorem own_ilt (x y : Int32) : (if_icmp.holds .lt x y = true) = (x.toInt < y.toInt) := by
  rw [show if_icmp.holds .lt x y = decide (x < y) from rfl, decide_eq_true_eq, Int32.lt_iff_toInt_lt]
theorem own_ige (x y : Int32) : (if_icmp.holds .ge x y = true) = (y.toInt ≤ x.toInt) := by
  rw [show if_icmp.holds .ge x y = decide (y ≤ x) from rfl, decide_eq_true_eq, Int32.le_iff_toInt_le]
theorem own_igt (x y : Int32) : (if_icmp.holds .gt x y = true) = (y.toInt < x.toInt) := by
  rw [show if_icmp.holds .gt x y = decide (y < x) from rfl, decide_eq_true_eq, Int32.lt_iff_toInt_lt]
theorem own_ile (x y : Int32) : (if_icmp.holds .le x y = true) = (x.toInt ≤ y.toInt) := by
  rw [show if_icmp.holds .le x y = decide (x ≤ y) from rfl, decide_eq_true_eq, Int32.le_iff_toInt_le]
theorem own_z32 : (0 : Int32).toInt = 0 := rfl
theorem own_eq0 (x : Int32) : (ifCond.holds .eq x = true) = (x.toInt = 0) := by rw [if0, own_ieq, own_z32]
theorem own_ne0 (x : Int32) : (ifCond.holds .ne x = true) = (x.toInt ≠ 0) := by rw [if0, own_ine, own_z32]
theorem own_lt0 (x : Int32) : (ifCond.holds .lt x = true) = (x.toInt < 0) := by rw [if0, own_ilt, own_z32]
theorem own_ge0 (x : Int32) : (ifCond.holds .ge x = true) = (0 ≤ x.toInt) := by rw [if0, own_ige, own_z32]
theorem own_gt0 (x : Int32) : (ifCond.holds .gt x = true) = (0 < x.toInt) := by rw [if0, own_igt, own_z32]
theorem own_le0 (x : Int32) : (ifCond.holds .le x = true) = (x.toInt ≤ 0) := by rw [if0, own_ile, own_z32]
theorem own_cmp3 (x y : Int64) : (x.toInt < y.toInt ∧ (own_cmp x y).toInt = -1) ∨ (x.toInt = y.toInt ∧ (own_cmp x y).toInt = 0) ∨ (y.toInt < x.toInt ∧ (own_cmp x y).toInt = 1) := by
  obtain ⟨h1, h2, h3⟩ := c_lcmp x y
  have e : own_cmp x y = lcmpW x y := rfl
  rw [e]
  rcases Int.lt_trichotomy x.toInt y.toInt with h | h | h
  · exact Or.inl ⟨h, h1 h⟩
  · exact Or.inr (Or.inl ⟨h, h2 h⟩)
  · exact Or.inr (Or.inr ⟨h, h3 h⟩)
theorem own_ceq (x y : Int64) : (ifCond.holds .eq (own_cmp x y) = true) = (x.toInt = y.toInt) := by
  rw [own_eq0]; have := own_cmp3 x y; exact propext ⟨fun h => by omega, fun h => by omega⟩
theorem own_cne (x y : Int64) : (ifCond.holds .ne (own_cmp x y) = true) = (x.toInt ≠ y.toInt) := by
  rw [own_ne0]; have := own_cmp3 x y; exact propext ⟨fun h => by omega, fun h => by omega⟩
theorem own_clt (x y : Int64) : (ifCond.holds .lt (own_cmp x y) = true) = (x.toInt < y.toInt) := by
  rw [own_lt0]; have := own_cmp3 x y; exact propext ⟨fun h => by omega, fun h => by omega⟩
theorem own_cge (x y : Int64) : (ifCond.holds .ge (own_cmp x y) = true) = (y.toInt ≤ x.toInt) := by
  rw [own_ge0]; have := own_cmp3 x y; exact propext ⟨fun h => by omega, fun h => by omega⟩
theorem own_cgt (x y : Int64) : (ifCond.holds .gt (own_cmp x y) = true) = (y.toInt < x.toInt) := by
  rw [own_gt0]; have := own_cmp3 x y; exact propext ⟨fun h => by omega, fun h => by omega⟩
theorem own_cle (x y : Int64) : (ifCond.holds .le (own_cmp x y) = true) = (x.toInt ≤ y.toInt) := by
  rw [own_le0]; have := own_cmp3 x y; exact propext ⟨fun h => by omega, fun h => by omega⟩
theorem own_nar1 {x : Int32} (h : x = 1) : nar .boolean x = 1 := by rw [h]; rfl
theorem own_nar0 {x : Int32} (h : x = 0) : nar .boolean x = 0 := by rw [h]; rfl
/-- the last row of a law: a comparison that isn't met gives 0, else 1 -/
theorem own_last {c : Prop} [Decidable c] (h : ¬ c) : nar .boolean (if c then (0 : Int32) else 1) = 1 := by rw [if_neg h]; rfl
theorem own_n32 (x : Int32) : (x.toBitVec.toNat : Int) = x.toInt % 4294967296 := by
  have h := x.toBitVec.isLt
  show _ = x.toBitVec.toInt % _
  rw [BitVec.toInt_eq_toNat_cond]
  split <;> omega
theorem own_n64 (x : Int64) : (x.toBitVec.toNat : Int) = x.toInt % 18446744073709551616 := by
  have h := x.toBitVec.isLt
  show _ = x.toBitVec.toInt % _
  rw [BitVec.toInt_eq_toNat_cond]
  split <;> omega
theorem own_iushr_nat (x y : Int32) : (own_iushr x y).toBitVec.toNat = x.toBitVec.toNat / 2 ^ (y.toBitVec.toNat % 32) := by
  have h1 : (y &&& 31).toBitVec.toNat = y.toBitVec.toNat % 32 := by
    show (y.toBitVec &&& (31 : Int32).toBitVec).toNat = _
    rw [BitVec.toNat_and, show (31 : Int32).toBitVec.toNat = 2 ^ 5 - 1 from by decide, Nat.and_two_pow_sub_one_eq_mod]
  show (x.toBitVec >>> ((y &&& 31).toBitVec % 32)).toNat = _
  rw [BitVec.ushiftRight_eq', BitVec.toNat_ushiftRight, Nat.shiftRight_eq_div_pow, BitVec.toNat_umod, h1, show (32 : BitVec 32).toNat = 32 from rfl, Nat.mod_mod]
theorem own_lushr_nat (x : Int64) (y : Int32) : (own_lushr x y).toBitVec.toNat = x.toBitVec.toNat / 2 ^ (y.toBitVec.toNat % 64) := by
  obtain ⟨h1, h2⟩ := sm64 y _ rfl
  show (x.toBitVec >>> ((y &&& 0x3f).toInt64.toBitVec % 64)).toNat = _
  rw [BitVec.ushiftRight_eq', BitVec.toNat_ushiftRight, Nat.shiftRight_eq_div_pow, BitVec.toNat_umod, h1, BitVec.toNat_ofNat]
  congr 2
  show y.toBitVec.toNat % 64 % 2 ^ 64 % 64 = _
  omega
theorem own_iushr_nn (x y : Int32) (h : 0 ≤ x.toInt) : 0 ≤ (own_iushr x y).toInt ∧ (own_iushr x y).toInt ≤ x.toInt := by
  have a := own_iushr_nat x y
  have b := Nat.div_le_self x.toBitVec.toNat (2 ^ (y.toBitVec.toNat % 32))
  have c := own_n32 x
  have d := own_n32 (own_iushr x y)
  have r := rng32 x
  have r2 := rng32 (own_iushr x y)
  omega
theorem own_lushr_nn (x : Int64) (y : Int32) (h : 0 ≤ x.toInt) : 0 ≤ (own_lushr x y).toInt ∧ (own_lushr x y).toInt ≤ x.toInt := by
  have a := own_lushr_nat x y
  have b := Nat.div_le_self x.toBitVec.toNat (2 ^ (y.toBitVec.toNat % 64))
  have c := own_n64 x
  have d := own_n64 (own_lushr x y)
  have r := rng64 x
  have r2 := rng64 (own_lushr x y)
  omega
theorem own_ff {b : Bool} (h : ¬ b = true) : b = false := by cases b <;> first | rfl | exact absurd rfl h
theorem own_clt_f {x y : Int64} (h : ¬ x.toInt < y.toInt) : ifCond.holds .lt (own_cmp x y) = false := own_ff fun q => h ((own_clt x y).mp q)
theorem own_nz {x : Int64} (h : (0 : Int64).toInt < x.toInt) : x ≠ 0 := fun q => by rw [q] at h; exact absurd h (Int.lt_irrefl _)
theorem own_max (x : Int64) : x.toInt ≤ (9223372036854775807 : Int64).toInt := by
  have r := rng64 x
  have e : (9223372036854775807 : Int64).toInt = 9223372036854775807 := rfl
  omega
theorem own_addE {x y : Int64} {a b : Int} (hx : x.toInt = a) (hy : y.toInt = b) (h : -9223372036854775808 ≤ a + b ∧ a + b < 9223372036854775808) : (x + y).toInt = a + b := by subst hx hy; exact Kit.i64_add (by omega) (by omega)
theorem own_subE {x y : Int64} {a b : Int} (hx : x.toInt = a) (hy : y.toInt = b) (h : -9223372036854775808 ≤ a - b ∧ a - b < 9223372036854775808) : (x - y).toInt = a - b := by subst hx hy; exact Kit.i64_sub (by omega) (by omega)
theorem own_mulE {x y : Int64} {a b : Int} (hx : x.toInt = a) (hy : y.toInt = b) (h : -9223372036854775808 ≤ a * b ∧ a * b < 9223372036854775808) : (x * y).toInt = a * b := by subst hx hy; exact Kit.i64_mul (by omega) (by omega)
theorem own_i2lE {x : Int32} {a : Int} (hx : x.toInt = a) : x.toInt64.toInt = a := (c_i2l x).trans hx
theorem own_l2iE {x : Int64} {a : Int} (hx : x.toInt = a) (h : -2147483648 ≤ a ∧ a < 2147483648) : x.toInt32.toInt = a := by subst hx; exact Kit.i32_of_i64 (by omega) (by omega)
theorem own_iaddE {x y : Int32} {a b : Int} (hx : x.toInt = a) (hy : y.toInt = b) (h : -2147483648 ≤ a + b ∧ a + b < 2147483648) : (x + y).toInt = a + b := by subst hx hy; exact Kit.i32_add (by omega) (by omega)
theorem own_isubE {x y : Int32} {a b : Int} (hx : x.toInt = a) (hy : y.toInt = b) (h : -2147483648 ≤ a - b ∧ a - b < 2147483648) : (x - y).toInt = a - b := by subst hx hy; exact Kit.i32_sub (by omega) (by omega)
theorem own_divE {x y : Int64} {a b : Int} (hx : x.toInt = a) (hy : y.toInt = b) (h : 0 ≤ a) (hb : 0 < b) : (x / y).toInt = a / b := by
  subst hx hy
  exact (c_ldiv x y y.toInt rfl (fun q => by rw [q] at hb; exact absurd hb (by decide))).1 h
theorem own_remE {x y : Int64} {a b : Int} (hx : x.toInt = a) (hy : y.toInt = b) (h : 0 ≤ a) : (own_lrem x y).toInt = a % b := by
  subst hx hy
  exact (c_lrem x y y.toInt rfl).1 h
theorem own_ushrE {x : Int64} {a : Int} (q : Int32) (k : Nat) (P : Int) (hx : x.toInt = a) (hk : q.toBitVec.toNat % 64 = k) (h0 : 0 < k) (hP : ((2 ^ k : Nat) : Int) = P) : (own_lushr x q).toInt = a % 18446744073709551616 / P := by
  subst hx hP
  exact c_lushr x q k hk h0
theorem own_shrE {x : Int64} {a : Int} (q : Int32) (k : Nat) (P : Int) (hx : x.toInt = a) (hk : q.toBitVec.toNat % 64 = k) (hP : ((2 ^ k : Nat) : Int) = P) : (own_lshr x q).toInt = a / P := by
  subst hx hP
  exact c_lshr x q k hk
theorem own_addM (x y : Int64) : (x + y).toInt % 18446744073709551616 = (x.toInt + y.toInt) % 18446744073709551616 := by have := c_ladd x y; omega
theorem own_subM (x y : Int64) : (x - y).toInt % 18446744073709551616 = (x.toInt - y.toInt) % 18446744073709551616 := by have := c_lsub x y; omega
theorem own_mulM (x y : Int64) : (x * y).toInt % 18446744073709551616 = (x.toInt * y.toInt) % 18446744073709551616 := by have := c_lmul x y; omega
theorem own_am (a y z : Int) (h : y % 18446744073709551616 = z % 18446744073709551616) : (a + y) % 18446744073709551616 = (a + z) % 18446744073709551616 := by omega
theorem own_sm (a y z : Int) (h : y % 18446744073709551616 = z % 18446744073709551616) : (a - y) % 18446744073709551616 = (a - z) % 18446744073709551616 := by omega
theorem own_me (b c : Int) (hb : -9223372036854775808 ≤ b ∧ b < 9223372036854775808) (hc : -9223372036854775808 ≤ c ∧ c < 9223372036854775808) (h : b % 18446744073709551616 = c % 18446744073709551616) : b = c := by omega
theorem own_dm (r T R : Int) (h : r % 18446744073709551616 = R) (hT : 0 ≤ T ∧ T ≤ R) : (r - T) % 18446744073709551616 = R - T := by omega

-- body 3: com/example/tick_wheel/tickwheel/wheel/TickGrid.checkTick:(J)V
theorem d3_0 : decode prog_3_method_2_code 0 = .ok (.lload_n 0, 1) := by decide +kernel
theorem d3_1 : decode prog_3_method_2_code 1 = .ok (.lconst 0, 1) := by decide +kernel
theorem d3_2 : decode prog_3_method_2_code 2 = .ok (.lcmp, 1) := by decide +kernel
theorem d3_3 : decode prog_3_method_2_code 3 = .ok (.ifCond .gt 17, 3) := by decide +kernel
theorem d3_20 : decode prog_3_method_2_code 20 = .ok (.return_, 1) := by decide +kernel
theorem pn_0 : plainName "com/example/tick_wheel/tickwheel/wheel/TickGrid" = true := by first | (simp [plainName, overriddenIn]; done) | decide +kernel
theorem ef_3 (m : MethodId) (x0 : Int64) : entryFrame m #[(.long x0)] 2 = mkF m 0 #[.val (.long x0), .second] [] := by first | (simp [entryFrame, mkF, argsToLocals, Value.category]; done) | rfl
def Q3 (Z : State) (x0 : Int64) (h0 : Heap) (n0 : Nat) (v : Option Value) (h : Heap) (L : List Loc) : Prop := v = none ∧ Fr n0 L ∧ h = h0
set_option maxRecDepth 65536 in
set_option maxHeartbeats 40000000 in
theorem rm3 (l : Launch) (Z : State) (a0 : Array Value) (hw : ∀ d ∈ tables_1, d.before a0 Z = true) (ws : List Jvm.Cond) (x0 : Int64) (h0 : Heap) (n0 : Nat) (Z0 : n0 ≤ h0.size) (hpos : (0 : Int64).toInt < x0.toInt) :
    MetFree l (⟨"com/example/tick_wheel/tickwheel/wheel/TickGrid", "checkTick", "(J)V"⟩ : MethodName) (head1 (Jvm.Cond.code (⟨"com/example/tick_wheel/tickwheel/wheel/TickGrid", "checkTick", "(J)V"⟩ : MethodName) prog_3_method_2_code 2 (none) :: ws) ({ frames := 0, cells := 0, slots := 0, locals := 0 } : Room)) (fun a U => a = #[(.long x0)] ∧ Z.Warmed39 U.vm ∧ U.heap = h0) (fun _ _ _ _ _ => True) (fun _ U o U' => ∃ v L, o = .returned v ∧ Q3 Z x0 h0 n0 v U'.heap L ∧ FrameEnd U o U' L ({ frames := 0, cells := 0, slots := 0, locals := 0 } : Room).cells ({ frames := 0, cells := 0, slots := 0, locals := 0 } : Room).slots) := by
  refine MetFree.of_bodySF (plainFor_of_name pn_0) hisR ?_
  intro p e s m args below meth c s₁ Bd hml0 hP hK0
  obtain ⟨rfl, hZ, hh⟩ := hP
  have hx := Bd.exec
  have hby := Bd.bytes
  have hml : c.maxLocals = 2 := hml0
  have hown : s.vm.findClass "com/example/tick_wheel/tickwheel/wheel/TickGrid" = some m.cls := findClass_of_methodNamed Bd.named
  have hnm := (name_of_methodNamed Bd.named Bd.method).1
  have hret : meth.sig.returnType = none := Bd.returns
  have hlk : meth.locks = false := Bd.notSynchronized
  have X0 : Stand p l e ({ frames := 0, cells := 0, slots := 0, locals := 0 } : Room) s m #[(.long x0)] below meth c s₁ [] 0 0 := Stand.of_body Bd
  have e0 : s₁.heap = h0 := by rw [← hh, Bd.state]; rfl
  have N0 := Fr.nil n0
  have pre0 : ∀ t, Steps p.tables e below (s₁.setTop (mkF m 0 #[.val (.long x0), .second] [])) t → Steps p.tables e below (s₁.setTop (entryFrame m #[(.long x0)] 2)) t := fun t k => castTop (ef_3 m x0) k
  obtain ⟨fs, hr, hrun, hended, hW, hsame⟩ := X0.leave (v := none) (fun _ => rfl)
  refine ⟨_, _, pre0 _ ?_, hrun, hended, _, _, rfl, ?_, ⟨_, rfl⟩, hW, hsame.mono (by decide) (by decide)⟩
  · show Steps p.tables e below (s₁.setTop (mkF m 0 #[.val (.long x0), .second] [])) _
    refine XS.lloadN X0.here hx rfl (hb hby d3_0) rfl ?_
    show Steps p.tables e below (s₁.setTop (mkF m 1 #[.val (.long x0), .second] [(.long x0)])) _
    refine XS.lconst X0.here hx rfl (hb hby d3_1) ?_
    show Steps p.tables e below (s₁.setTop (mkF m 2 #[.val (.long x0), .second] [(.long (0 : Int64)), (.long x0)])) _
    refine own_xlcmp X0.here hx rfl (hb hby d3_2) rfl ?_
    show Steps p.tables e below (s₁.setTop (mkF m 3 #[.val (.long x0), .second] [(.int (own_cmp x0 (0 : Int64)))])) _
    refine XS.ifYes X0.here hx rfl (pc0 := 3) (pc' := 20) rfl (hb hby d3_3) rfl (show ifCond.holds .gt (own_cmp x0 (0 : Int64)) = true from (own_cgt _ _).mpr hpos) (by decide) (by decide) ?_
    show Steps p.tables e below (s₁.setTop (mkF m 20 #[.val (.long x0), .second] [])) _
    exact X0.returnOut hx hret (hb hby d3_20) hr
  · show Q3 Z x0 h0 n0 _ s₁.heap _
    rw [e0]
    exact ⟨rfl, N0, rfl⟩
-- body 4: java/lang/Long.divideUnsigned:(JJ)J
theorem d4_0 : decode jdk_35_method_44_code 0 = .ok (.lload_n 2, 1) := by decide +kernel
theorem d4_1 : decode jdk_35_method_44_code 1 = .ok (.lconst 0, 1) := by decide +kernel
theorem d4_2 : decode jdk_35_method_44_code 2 = .ok (.lcmp, 1) := by decide +kernel
theorem d4_3 : decode jdk_35_method_44_code 3 = .ok (.ifCond .lt 38, 3) := by decide +kernel
theorem d4_6 : decode jdk_35_method_44_code 6 = .ok (.lload_n 0, 1) := by decide +kernel
theorem d4_7 : decode jdk_35_method_44_code 7 = .ok (.iconst 1, 1) := by decide +kernel
theorem d4_8 : decode jdk_35_method_44_code 8 = .ok (.lushr, 1) := by decide +kernel
theorem d4_9 : decode jdk_35_method_44_code 9 = .ok (.lload_n 2, 1) := by decide +kernel
theorem d4_10 : decode jdk_35_method_44_code 10 = .ok (.ldiv, 1) := by decide +kernel
theorem d4_11 : decode jdk_35_method_44_code 11 = .ok (.iconst 1, 1) := by decide +kernel
theorem d4_12 : decode jdk_35_method_44_code 12 = .ok (.lshl, 1) := by decide +kernel
theorem d4_13 : decode jdk_35_method_44_code 13 = .ok (.lstore 4, 2) := by decide +kernel
theorem d4_15 : decode jdk_35_method_44_code 15 = .ok (.lload_n 0, 1) := by decide +kernel
theorem d4_16 : decode jdk_35_method_44_code 16 = .ok (.lload 4, 2) := by decide +kernel
theorem d4_18 : decode jdk_35_method_44_code 18 = .ok (.lload_n 2, 1) := by decide +kernel
theorem d4_19 : decode jdk_35_method_44_code 19 = .ok (.lmul, 1) := by decide +kernel
theorem d4_20 : decode jdk_35_method_44_code 20 = .ok (.lsub, 1) := by decide +kernel
theorem d4_21 : decode jdk_35_method_44_code 21 = .ok (.lstore 6, 2) := by decide +kernel
theorem d4_23 : decode jdk_35_method_44_code 23 = .ok (.lload 4, 2) := by decide +kernel
theorem d4_25 : decode jdk_35_method_44_code 25 = .ok (.lload 6, 2) := by decide +kernel
theorem d4_27 : decode jdk_35_method_44_code 27 = .ok (.lload 6, 2) := by decide +kernel
theorem d4_29 : decode jdk_35_method_44_code 29 = .ok (.lload_n 2, 1) := by decide +kernel
theorem d4_30 : decode jdk_35_method_44_code 30 = .ok (.lsub, 1) := by decide +kernel
theorem d4_31 : decode jdk_35_method_44_code 31 = .ok (.ldc2_w 306, 3) := by decide +kernel
theorem d4_34 : decode jdk_35_method_44_code 34 = .ok (.lxor, 1) := by decide +kernel
theorem d4_35 : decode jdk_35_method_44_code 35 = .ok (.lor, 1) := by decide +kernel
theorem d4_36 : decode jdk_35_method_44_code 36 = .ok (.bipush 63, 2) := by decide +kernel
theorem d4_38 : decode jdk_35_method_44_code 38 = .ok (.lushr, 1) := by decide +kernel
theorem d4_39 : decode jdk_35_method_44_code 39 = .ok (.ladd, 1) := by decide +kernel
theorem d4_40 : decode jdk_35_method_44_code 40 = .ok (.lreturn, 1) := by decide +kernel
theorem pn_1 : plainName "java/lang/Long" = true := by first | (simp [plainName, overriddenIn]; done) | decide +kernel
theorem ef_4 (m : MethodId) (x0 : Int64) (x1 : Int64) : entryFrame m #[(.long x0), (.long x1)] 8 = mkF m 0 #[.val (.long x0), .second, .val (.long x1), .second, .unset, .unset, .unset, .unset] [] := by first | (simp [entryFrame, mkF, argsToLocals, Value.category]; done) | rfl
def f4_v1 (x0 : Int64) (x1 : Int64) : Int64 := (own_lshl ((own_lushr x0 (1 : Int32)) / x1) (1 : Int32))
def f4_v2 (x0 : Int64) (x1 : Int64) : Int64 := (x0 - ((f4_v1 x0 x1) * x1))
def f4 (x0 : Int64) (x1 : Int64) : Int64 := ((f4_v1 x0 x1) + (own_lushr ((f4_v2 x0 x1) ||| (((f4_v2 x0 x1) - x1) ^^^ (-1 : Int64))) (63 : Int32)))
def Q4 (Z : State) (x0 : Int64) (x1 : Int64) (h0 : Heap) (n0 : Nat) (v : Option Value) (h : Heap) (L : List Loc) : Prop := v = some (.long (f4 x0 x1)) ∧ Fr n0 L ∧ h = h0
set_option maxRecDepth 65536 in
set_option maxHeartbeats 40000000 in
theorem rm4 (l : Launch) (Z : State) (a0 : Array Value) (hw : ∀ d ∈ tables_1, d.before a0 Z = true) (ws : List Jvm.Cond) (x0 : Int64) (x1 : Int64) (h0 : Heap) (n0 : Nat) (Z0 : n0 ≤ h0.size) (hpos : (0 : Int64).toInt < x1.toInt) :
    MetFree l (⟨"java/lang/Long", "divideUnsigned", "(JJ)J"⟩ : MethodName) (head1 (Jvm.Cond.code (⟨"java/lang/Long", "divideUnsigned", "(JJ)J"⟩ : MethodName) jdk_35_method_44_code 8 (some .long) :: ws) ({ frames := 0, cells := 0, slots := 0, locals := 0 } : Room)) (fun a U => a = #[(.long x0), (.long x1)] ∧ Z.Warmed39 U.vm ∧ U.heap = h0) (fun _ _ _ _ _ => True) (fun _ U o U' => ∃ v L, o = .returned v ∧ Q4 Z x0 x1 h0 n0 v U'.heap L ∧ FrameEnd U o U' L ({ frames := 0, cells := 0, slots := 0, locals := 0 } : Room).cells ({ frames := 0, cells := 0, slots := 0, locals := 0 } : Room).slots) := by
  refine MetFree.of_bodySF (plainFor_of_name pn_1) hisR ?_
  intro p e s m args below meth c s₁ Bd hml0 hP hK0
  obtain ⟨rfl, hZ, hh⟩ := hP
  have hx := Bd.exec
  have hby := Bd.bytes
  have hml : c.maxLocals = 8 := hml0
  have hown : s.vm.findClass "java/lang/Long" = some m.cls := findClass_of_methodNamed Bd.named
  have hnm := (name_of_methodNamed Bd.named Bd.method).1
  have hret : meth.sig.returnType = some .long := Bd.returns
  have hlk : meth.locks = false := Bd.notSynchronized
  have X0 : Stand p l e ({ frames := 0, cells := 0, slots := 0, locals := 0 } : Room) s m #[(.long x0), (.long x1)] below meth c s₁ [] 0 0 := Stand.of_body Bd
  have e0 : s₁.heap = h0 := by rw [← hh, Bd.state]; rfl
  have N0 := Fr.nil n0
  have pre0 : ∀ t, Steps p.tables e below (s₁.setTop (mkF m 0 #[.val (.long x0), .second, .val (.long x1), .second, .unset, .unset, .unset, .unset] [])) t → Steps p.tables e below (s₁.setTop (entryFrame m #[(.long x0), (.long x1)] 8)) t := fun t k => castTop (ef_4 m x0 x1) k
  obtain ⟨fs, hr, hrun, hended, hW, hsame⟩ := X0.leave (v := some (.long ((f4_v1 x0 x1) + (own_lushr ((f4_v2 x0 x1) ||| (((f4_v2 x0 x1) - x1) ^^^ (-1 : Int64))) (63 : Int32))))) (fun h => by rw [hret] at h; cases h)
  refine ⟨_, _, pre0 _ ?_, hrun, hended, _, _, rfl, ?_, ⟨_, rfl⟩, hW, hsame.mono (by decide) (by decide)⟩
  · show Steps p.tables e below (s₁.setTop (mkF m 0 #[.val (.long x0), .second, .val (.long x1), .second, .unset, .unset, .unset, .unset] [])) _
    refine XS.lloadN X0.here hx rfl (hb hby d4_0) rfl ?_
    show Steps p.tables e below (s₁.setTop (mkF m 1 #[.val (.long x0), .second, .val (.long x1), .second, .unset, .unset, .unset, .unset] [(.long x1)])) _
    refine XS.lconst X0.here hx rfl (hb hby d4_1) ?_
    show Steps p.tables e below (s₁.setTop (mkF m 2 #[.val (.long x0), .second, .val (.long x1), .second, .unset, .unset, .unset, .unset] [(.long (0 : Int64)), (.long x1)])) _
    refine own_xlcmp X0.here hx rfl (hb hby d4_2) rfl ?_
    show Steps p.tables e below (s₁.setTop (mkF m 3 #[.val (.long x0), .second, .val (.long x1), .second, .unset, .unset, .unset, .unset] [(.int (own_cmp x1 (0 : Int64)))])) _
    refine XS.ifNo X0.here hx rfl (hb hby d4_3) rfl (show ifCond.holds .lt (own_cmp x1 (0 : Int64)) = false from own_clt_f (by omega)) ?_
    show Steps p.tables e below (s₁.setTop (mkF m 6 #[.val (.long x0), .second, .val (.long x1), .second, .unset, .unset, .unset, .unset] [])) _
    refine XS.lloadN X0.here hx rfl (hb hby d4_6) rfl ?_
    show Steps p.tables e below (s₁.setTop (mkF m 7 #[.val (.long x0), .second, .val (.long x1), .second, .unset, .unset, .unset, .unset] [(.long x0)])) _
    refine XS.iconst X0.here hx rfl (hb hby d4_7) ?_
    show Steps p.tables e below (s₁.setTop (mkF m 8 #[.val (.long x0), .second, .val (.long x1), .second, .unset, .unset, .unset, .unset] [(.int (1 : Int32)), (.long x0)])) _
    refine own_xlushr X0.here hx rfl (hb hby d4_8) rfl ?_
    show Steps p.tables e below (s₁.setTop (mkF m 9 #[.val (.long x0), .second, .val (.long x1), .second, .unset, .unset, .unset, .unset] [(.long (own_lushr x0 (1 : Int32)))])) _
    refine XS.lloadN X0.here hx rfl (hb hby d4_9) rfl ?_
    show Steps p.tables e below (s₁.setTop (mkF m 10 #[.val (.long x0), .second, .val (.long x1), .second, .unset, .unset, .unset, .unset] [(.long x1), (.long (own_lushr x0 (1 : Int32)))])) _
    refine XS.ldiv X0.here hx rfl (hb hby d4_10) rfl (own_nz hpos) ?_
    show Steps p.tables e below (s₁.setTop (mkF m 11 #[.val (.long x0), .second, .val (.long x1), .second, .unset, .unset, .unset, .unset] [(.long ((own_lushr x0 (1 : Int32)) / x1))])) _
    refine XS.iconst X0.here hx rfl (hb hby d4_11) ?_
    show Steps p.tables e below (s₁.setTop (mkF m 12 #[.val (.long x0), .second, .val (.long x1), .second, .unset, .unset, .unset, .unset] [(.int (1 : Int32)), (.long ((own_lushr x0 (1 : Int32)) / x1))])) _
    refine own_xlshl X0.here hx rfl (hb hby d4_12) rfl ?_
    show Steps p.tables e below (s₁.setTop (mkF m 13 #[.val (.long x0), .second, .val (.long x1), .second, .unset, .unset, .unset, .unset] [(.long (own_lshl ((own_lushr x0 (1 : Int32)) / x1) (1 : Int32)))])) _
    refine XS.lstore X0.here hx rfl (hb hby d4_13) rfl (l' := #[.val (.long x0), .second, .val (.long x1), .second, .val (.long (f4_v1 x0 x1)), .second, .unset, .unset]) rfl ?_
    show Steps p.tables e below (s₁.setTop (mkF m 15 #[.val (.long x0), .second, .val (.long x1), .second, .val (.long (f4_v1 x0 x1)), .second, .unset, .unset] [])) _
    refine XS.lloadN X0.here hx rfl (hb hby d4_15) rfl ?_
    show Steps p.tables e below (s₁.setTop (mkF m 16 #[.val (.long x0), .second, .val (.long x1), .second, .val (.long (f4_v1 x0 x1)), .second, .unset, .unset] [(.long x0)])) _
    refine XS.lload X0.here hx rfl (hb hby d4_16) rfl ?_
    show Steps p.tables e below (s₁.setTop (mkF m 18 #[.val (.long x0), .second, .val (.long x1), .second, .val (.long (f4_v1 x0 x1)), .second, .unset, .unset] [(.long (f4_v1 x0 x1)), (.long x0)])) _
    refine XS.lloadN X0.here hx rfl (hb hby d4_18) rfl ?_
    show Steps p.tables e below (s₁.setTop (mkF m 19 #[.val (.long x0), .second, .val (.long x1), .second, .val (.long (f4_v1 x0 x1)), .second, .unset, .unset] [(.long x1), (.long (f4_v1 x0 x1)), (.long x0)])) _
    refine XS.lmul X0.here hx rfl (hb hby d4_19) rfl ?_
    show Steps p.tables e below (s₁.setTop (mkF m 20 #[.val (.long x0), .second, .val (.long x1), .second, .val (.long (f4_v1 x0 x1)), .second, .unset, .unset] [(.long ((f4_v1 x0 x1) * x1)), (.long x0)])) _
    refine XS.lsub X0.here hx rfl (hb hby d4_20) rfl ?_
    show Steps p.tables e below (s₁.setTop (mkF m 21 #[.val (.long x0), .second, .val (.long x1), .second, .val (.long (f4_v1 x0 x1)), .second, .unset, .unset] [(.long (x0 - ((f4_v1 x0 x1) * x1)))])) _
    refine XS.lstore X0.here hx rfl (hb hby d4_21) rfl (l' := #[.val (.long x0), .second, .val (.long x1), .second, .val (.long (f4_v1 x0 x1)), .second, .val (.long (f4_v2 x0 x1)), .second]) rfl ?_
    show Steps p.tables e below (s₁.setTop (mkF m 23 #[.val (.long x0), .second, .val (.long x1), .second, .val (.long (f4_v1 x0 x1)), .second, .val (.long (f4_v2 x0 x1)), .second] [])) _
    refine XS.lload X0.here hx rfl (hb hby d4_23) rfl ?_
    show Steps p.tables e below (s₁.setTop (mkF m 25 #[.val (.long x0), .second, .val (.long x1), .second, .val (.long (f4_v1 x0 x1)), .second, .val (.long (f4_v2 x0 x1)), .second] [(.long (f4_v1 x0 x1))])) _
    refine XS.lload X0.here hx rfl (hb hby d4_25) rfl ?_
    show Steps p.tables e below (s₁.setTop (mkF m 27 #[.val (.long x0), .second, .val (.long x1), .second, .val (.long (f4_v1 x0 x1)), .second, .val (.long (f4_v2 x0 x1)), .second] [(.long (f4_v2 x0 x1)), (.long (f4_v1 x0 x1))])) _
    refine XS.lload X0.here hx rfl (hb hby d4_27) rfl ?_
    show Steps p.tables e below (s₁.setTop (mkF m 29 #[.val (.long x0), .second, .val (.long x1), .second, .val (.long (f4_v1 x0 x1)), .second, .val (.long (f4_v2 x0 x1)), .second] [(.long (f4_v2 x0 x1)), (.long (f4_v2 x0 x1)), (.long (f4_v1 x0 x1))])) _
    refine XS.lloadN X0.here hx rfl (hb hby d4_29) rfl ?_
    show Steps p.tables e below (s₁.setTop (mkF m 30 #[.val (.long x0), .second, .val (.long x1), .second, .val (.long (f4_v1 x0 x1)), .second, .val (.long (f4_v2 x0 x1)), .second] [(.long x1), (.long (f4_v2 x0 x1)), (.long (f4_v2 x0 x1)), (.long (f4_v1 x0 x1))])) _
    refine XS.lsub X0.here hx rfl (hb hby d4_30) rfl ?_
    show Steps p.tables e below (s₁.setTop (mkF m 31 #[.val (.long x0), .second, .val (.long x1), .second, .val (.long (f4_v1 x0 x1)), .second, .val (.long (f4_v2 x0 x1)), .second] [(.long ((f4_v2 x0 x1) - x1)), (.long (f4_v2 x0 x1)), (.long (f4_v1 x0 x1))])) _
    refine X0.ldc2Long hx hown (mvT hZ (hw _ (List.mem_of_getElem? (i := 23) rfl))) (g := (mkF m 31 #[.val (.long x0), .second, .val (.long x1), .second, .val (.long (f4_v1 x0 x1)), .second, .val (.long (f4_v2 x0 x1)), .second] [(.long ((f4_v2 x0 x1) - x1)), (.long (f4_v2 x0 x1)), (.long (f4_v1 x0 x1))])) rfl (hb hby d4_31) _ ?_
    show Steps p.tables e below (s₁.setTop (mkF m 34 #[.val (.long x0), .second, .val (.long x1), .second, .val (.long (f4_v1 x0 x1)), .second, .val (.long (f4_v2 x0 x1)), .second] [(.long (-1 : Int64)), (.long ((f4_v2 x0 x1) - x1)), (.long (f4_v2 x0 x1)), (.long (f4_v1 x0 x1))])) _
    refine XS.lxor X0.here hx rfl (hb hby d4_34) rfl ?_
    show Steps p.tables e below (s₁.setTop (mkF m 35 #[.val (.long x0), .second, .val (.long x1), .second, .val (.long (f4_v1 x0 x1)), .second, .val (.long (f4_v2 x0 x1)), .second] [(.long (((f4_v2 x0 x1) - x1) ^^^ (-1 : Int64))), (.long (f4_v2 x0 x1)), (.long (f4_v1 x0 x1))])) _
    refine XS.lor X0.here hx rfl (hb hby d4_35) rfl ?_
    show Steps p.tables e below (s₁.setTop (mkF m 36 #[.val (.long x0), .second, .val (.long x1), .second, .val (.long (f4_v1 x0 x1)), .second, .val (.long (f4_v2 x0 x1)), .second] [(.long ((f4_v2 x0 x1) ||| (((f4_v2 x0 x1) - x1) ^^^ (-1 : Int64)))), (.long (f4_v1 x0 x1))])) _
    refine XS.bipush X0.here hx rfl (hb hby d4_36) ?_
    show Steps p.tables e below (s₁.setTop (mkF m 38 #[.val (.long x0), .second, .val (.long x1), .second, .val (.long (f4_v1 x0 x1)), .second, .val (.long (f4_v2 x0 x1)), .second] [(.int (63 : Int32)), (.long ((f4_v2 x0 x1) ||| (((f4_v2 x0 x1) - x1) ^^^ (-1 : Int64)))), (.long (f4_v1 x0 x1))])) _
    refine own_xlushr X0.here hx rfl (hb hby d4_38) rfl ?_
    show Steps p.tables e below (s₁.setTop (mkF m 39 #[.val (.long x0), .second, .val (.long x1), .second, .val (.long (f4_v1 x0 x1)), .second, .val (.long (f4_v2 x0 x1)), .second] [(.long (own_lushr ((f4_v2 x0 x1) ||| (((f4_v2 x0 x1) - x1) ^^^ (-1 : Int64))) (63 : Int32))), (.long (f4_v1 x0 x1))])) _
    refine XS.ladd X0.here hx rfl (hb hby d4_39) rfl ?_
    show Steps p.tables e below (s₁.setTop (mkF m 40 #[.val (.long x0), .second, .val (.long x1), .second, .val (.long (f4_v1 x0 x1)), .second, .val (.long (f4_v2 x0 x1)), .second] [(.long ((f4_v1 x0 x1) + (own_lushr ((f4_v2 x0 x1) ||| (((f4_v2 x0 x1) - x1) ^^^ (-1 : Int64))) (63 : Int32))))])) _
    exact X0.lreturnOut hx hret (hb hby d4_40) hr
  · show Q4 Z x0 x1 h0 n0 _ s₁.heap _
    rw [e0]
    have rr : f4 x0 x1 = ((f4_v1 x0 x1) + (own_lushr ((f4_v2 x0 x1) ||| (((f4_v2 x0 x1) - x1) ^^^ (-1 : Int64))) (63 : Int32))) := rfl
    exact ⟨congrArg (fun z => some (Value.long z)) rr.symm, N0, rfl⟩
theorem pd_0 : parseMethodDescriptor "(J)V" = some ⟨[.long], none⟩ := by decide +kernel
theorem pd_1 : parseMethodDescriptor "(JJ)J" = some ⟨[.long, .long], some .long⟩ := by decide +kernel
-- body 1: com/example/tick_wheel/tickwheel/wheel/TickGrid.<init>:(JJ)V
theorem d1_0 : decode prog_3_method_1_code 0 = .ok (.aload_n 0, 1) := by decide +kernel
theorem d1_1 : decode prog_3_method_1_code 1 = .ok (.invokespecial 3, 3) := by decide +kernel
theorem d1_4 : decode prog_3_method_1_code 4 = .ok (.lload_n 3, 1) := by decide +kernel
theorem d1_5 : decode prog_3_method_1_code 5 = .ok (.invokestatic 9, 3) := by decide +kernel
theorem d1_8 : decode prog_3_method_1_code 8 = .ok (.lload_n 1, 1) := by decide +kernel
theorem d1_9 : decode prog_3_method_1_code 9 = .ok (.ldc2_w 15, 3) := by decide +kernel
theorem d1_12 : decode prog_3_method_1_code 12 = .ok (.lcmp, 1) := by decide +kernel
theorem d1_13 : decode prog_3_method_1_code 13 = .ok (.ifCond .ne 13, 3) := by decide +kernel
theorem d1_26 : decode prog_3_method_1_code 26 = .ok (.aload_n 0, 1) := by decide +kernel
theorem d1_27 : decode prog_3_method_1_code 27 = .ok (.lload_n 1, 1) := by decide +kernel
theorem d1_28 : decode prog_3_method_1_code 28 = .ok (.putfield 24, 3) := by decide +kernel
theorem d1_31 : decode prog_3_method_1_code 31 = .ok (.aload_n 0, 1) := by decide +kernel
theorem d1_32 : decode prog_3_method_1_code 32 = .ok (.lload_n 3, 1) := by decide +kernel
theorem d1_33 : decode prog_3_method_1_code 33 = .ok (.putfield 28, 3) := by decide +kernel
theorem d1_36 : decode prog_3_method_1_code 36 = .ok (.ldc2_w 31, 3) := by decide +kernel
theorem d1_39 : decode prog_3_method_1_code 39 = .ok (.lload_n 1, 1) := by decide +kernel
theorem d1_40 : decode prog_3_method_1_code 40 = .ok (.lsub, 1) := by decide +kernel
theorem d1_41 : decode prog_3_method_1_code 41 = .ok (.lload_n 3, 1) := by decide +kernel
theorem d1_42 : decode prog_3_method_1_code 42 = .ok (.invokestatic 33, 3) := by decide +kernel
theorem d1_45 : decode prog_3_method_1_code 45 = .ok (.lstore 5, 2) := by decide +kernel
theorem d1_47 : decode prog_3_method_1_code 47 = .ok (.aload_n 0, 1) := by decide +kernel
theorem d1_48 : decode prog_3_method_1_code 48 = .ok (.lload_n 1, 1) := by decide +kernel
theorem d1_49 : decode prog_3_method_1_code 49 = .ok (.lload 5, 2) := by decide +kernel
theorem d1_51 : decode prog_3_method_1_code 51 = .ok (.lload_n 3, 1) := by decide +kernel
theorem d1_52 : decode prog_3_method_1_code 52 = .ok (.lmul, 1) := by decide +kernel
theorem d1_53 : decode prog_3_method_1_code 53 = .ok (.ladd, 1) := by decide +kernel
theorem d1_54 : decode prog_3_method_1_code 54 = .ok (.putfield 37, 3) := by decide +kernel
theorem d1_57 : decode prog_3_method_1_code 57 = .ok (.return_, 1) := by decide +kernel
theorem ef_1 (m : MethodId) (x0 : Addr) (x1 : Int64) (x2 : Int64) : entryFrame m #[(.ref x0), (.long x1), (.long x2)] 7 = mkF m 0 #[.val (.ref x0), .val (.long x1), .second, .val (.long x2), .second, .unset, .unset] [] := by first | (simp [entryFrame, mkF, argsToLocals, Value.category]; done) | rfl
def f1_v14 (x1 : Int64) (x2 : Int64) : Int64 := (f4 ((9223372036854775806 : Int64) - x1) x2)
def Q1 (Z : State) (x0 : Addr) (x1 : Int64) (x2 : Int64) (u_startNanos_x0 : Value) (u_tickNanos_x0 : Value) (u_lastBoundaryNanos_x0 : Value) (h0 : Heap) (n0 : Nat) (v : Option Value) (h : Heap) (L : List Loc) : Prop := v = none ∧ Fr n0 L ∧ Keep h0 h [x0] ∧ Exa Z h x0 "com/example/tick_wheel/tickwheel/wheel/TickGrid" ∧ Fld Z h x0 "com/example/tick_wheel/tickwheel/wheel/TickGrid" "startNanos" "J" (.long x1) ∧ Fld Z h x0 "com/example/tick_wheel/tickwheel/wheel/TickGrid" "tickNanos" "J" (.long x2) ∧ Fld Z h x0 "com/example/tick_wheel/tickwheel/wheel/TickGrid" "lastBoundaryNanos" "J" (.long (x1 + ((f1_v14 x1 x2) * x2)))
set_option maxRecDepth 65536 in
set_option maxHeartbeats 40000000 in
theorem rm1 (l : Launch) (Z : State) (a0 : Array Value) (hw : ∀ d ∈ tables_1, d.before a0 Z = true) (ws : List Jvm.Cond) (x0 : Addr) (x1 : Int64) (x2 : Int64) (u_startNanos_x0 : Value) (u_tickNanos_x0 : Value) (u_lastBoundaryNanos_x0 : Value) (h0 : Heap) (n0 : Nat) (Z0 : n0 ≤ h0.size) (E_x0 : Exa Z h0 x0 "com/example/tick_wheel/tickwheel/wheel/TickGrid") (g_x0 : n0 ≤ x0) (F_x0_startNanos : Fld Z h0 x0 "com/example/tick_wheel/tickwheel/wheel/TickGrid" "startNanos" "J" u_startNanos_x0) (F_x0_tickNanos : Fld Z h0 x0 "com/example/tick_wheel/tickwheel/wheel/TickGrid" "tickNanos" "J" u_tickNanos_x0) (F_x0_lastBoundaryNanos : Fld Z h0 x0 "com/example/tick_wheel/tickwheel/wheel/TickGrid" "lastBoundaryNanos" "J" u_lastBoundaryNanos_x0) (hpos : (0 : Int64).toInt < x2.toInt) (hne : x1.toInt ≠ (9223372036854775807 : Int64).toInt) :
    MetFree l (⟨"com/example/tick_wheel/tickwheel/wheel/TickGrid", "<init>", "(JJ)V"⟩ : MethodName) (head1 (Jvm.Cond.code (⟨"com/example/tick_wheel/tickwheel/wheel/TickGrid", "<init>", "(JJ)V"⟩ : MethodName) prog_3_method_1_code 7 (none) :: ws) ({ frames := 1, cells := 0, slots := 0, locals := 19 } : Room)) (fun a U => a = #[(.ref x0), (.long x1), (.long x2)] ∧ Z.Warmed39 U.vm ∧ U.heap = h0) (fun _ _ _ _ _ => True) (fun _ U o U' => ∃ v L, o = .returned v ∧ Q1 Z x0 x1 x2 u_startNanos_x0 u_tickNanos_x0 u_lastBoundaryNanos_x0 h0 n0 v U'.heap L ∧ FrameEnd U o U' L ({ frames := 1, cells := 0, slots := 0, locals := 19 } : Room).cells ({ frames := 1, cells := 0, slots := 0, locals := 19 } : Room).slots) := by
  refine MetFree.of_bodySF (plainFor_of_name pn_0) hisR ?_
  intro p e s m args below meth c s₁ Bd hml0 hP hK0
  obtain ⟨rfl, hZ, hh⟩ := hP
  have hx := Bd.exec
  have hby := Bd.bytes
  have hml : c.maxLocals = 7 := hml0
  have hown : s.vm.findClass "com/example/tick_wheel/tickwheel/wheel/TickGrid" = some m.cls := findClass_of_methodNamed Bd.named
  have hnm := (name_of_methodNamed Bd.named Bd.method).1
  have hret : meth.sig.returnType = none := Bd.returns
  have hlk : meth.locks = false := Bd.notSynchronized
  have X0 : Stand p l e ({ frames := 1, cells := 0, slots := 0, locals := 19 } : Room) s m #[(.ref x0), (.long x1), (.long x2)] below meth c s₁ [] 0 0 := Stand.of_body Bd
  have e0 : s₁.heap = h0 := by rw [← hh, Bd.state]; rfl
  have N0 := Fr.nil n0
  have pre0 : ∀ t, Steps p.tables e below (s₁.setTop (mkF m 0 #[.val (.ref x0), .val (.long x1), .second, .val (.long x2), .second, .unset, .unset] [])) t → Steps p.tables e below (s₁.setTop (entryFrame m #[(.ref x0), (.long x1), (.long x2)] 7)) t := fun t k => castTop (ef_1 m x0 x1 x2) k
  obtain ⟨T1, X1, e1, st1⟩ := initO X0 hx hZ hown (hw _ (List.mem_of_getElem? (i := 7) rfl)) (hw _ (List.mem_of_getElem? (i := 8) rfl)) (hw _ (List.mem_of_getElem? (i := 9) rfl)) e0 (g := (mkF m 1 #[.val (.ref x0), .val (.long x1), .second, .val (.long x2), .second, .unset, .unset] [(.ref x0)])) rfl (by rw [hml]; rfl) rfl (hb hby d1_1) (by decide) (W := 0) (by show 2 * 0 + _ ≤ _; exact Nat.le_of_eq rfl) (by decide)
  obtain ⟨_, _, ⟨T2, L2, k2, n2⟩, -, X2, ⟨Lc2, hQ2, l2, y2, z2⟩, st2⟩ := Jvm.LawKit.callS X1 hx (y := (⟨"com/example/tick_wheel/tickwheel/wheel/TickGrid", "checkTick", "(J)V"⟩ : MethodName)) hown (mvT hZ (hw _ (List.mem_of_getElem? (i := 10) rfl))) (mvT hZ (hw _ (List.mem_of_getElem? (i := 11) rfl))) (mvT hZ (hw _ (List.mem_of_getElem? (i := 3) rfl))) (mvT hZ (hw _ (List.mem_of_getElem? (i := 12) rfl))) (by decide) (backOf (W := 0) (rm3 l Z a0 hw [] x2 h0 n0 Z0 hpos) hZ (hw _ (List.mem_of_getElem? (i := 12) rfl)) (hw _ (List.mem_of_getElem? (i := 3) rfl)) (by decide) (by decide)) (g := (mkF m 5 #[.val (.ref x0), .val (.long x1), .second, .val (.long x2), .second, .unset, .unset] [(.long x2)])) rfl (by rw [hml]; rfl) (argsL := [(.long x2)]) (rest := []) (lenOf pd_0 rfl) rfl (by show 2 * 0 + _ ≤ _; exact Nat.le_of_eq rfl) (hb hby d1_5) (fun _ _ => ⟨rfl, e1, (by decide : 0 + 0 ≤ _), (by decide : 0 + 0 ≤ _)⟩)
  dsimp only [Pt.U, Pt.locs, Pt.cells, Pt.slots] at X2 l2 y2 z2 st2 hQ2
  subst l2 y2 z2
  obtain ⟨rfl, Nq2, e2⟩ := hQ2
  have N2 := Fr.app N0 Nq2
  obtain ⟨T3, h3, X3, e3, W3, st3⟩ := putF X2 hx hZ hown (host := "") (Or.inl (hw _ (List.mem_of_getElem? (i := 14) rfl))) Via.refl e2 F_x0_startNanos E_x0 (Or.inr ⟨(hw _ (List.mem_of_getElem? (i := 15) rfl)), rfl, hnm⟩) (hw _ (List.mem_of_getElem? (i := 2) rfl)) (ty := .long) (by decide) rfl rfl (g := (mkF m 28 #[.val (.ref x0), .val (.long x1), .second, .val (.long x2), .second, .unset, .unset] [(.long x1), (.ref x0)])) rfl rfl (hb hby d1_28)
  have N3 := Fr.snoc X3 N2 g_x0
  have Z3 : n0 ≤ h3.size := Nat.le_trans Z0 (Keep.of_wr W3).1
  have K3 : Keep h0 h3 [x0] := Keep.wr (Keep.refl h0 [x0]) W3 (Or.inl (List.mem_of_getElem? (i := 0) rfl))
  have P4 := E_x0.wr W3
  have P5 := F_x0_startNanos.same W3
  have P6 := F_x0_tickNanos.other W3 (Or.inr (slot_ne (Or.inr (hw _ (List.mem_of_getElem? (i := 17) rfl))) (Or.inr (hw _ (List.mem_of_getElem? (i := 15) rfl))) (by decide) (t := .long) (t' := .long) (by decide) (by decide)))
  have P7 := F_x0_lastBoundaryNanos.other W3 (Or.inr (slot_ne (Or.inr (hw _ (List.mem_of_getElem? (i := 25) rfl))) (Or.inr (hw _ (List.mem_of_getElem? (i := 15) rfl))) (by decide) (t := .long) (t' := .long) (by decide) (by decide)))
  obtain ⟨T8, h8, X8, e8, W8, st8⟩ := putF X3 hx hZ hown (host := "") (Or.inl (hw _ (List.mem_of_getElem? (i := 16) rfl))) Via.refl e3 P6 P4 (Or.inr ⟨(hw _ (List.mem_of_getElem? (i := 17) rfl)), rfl, hnm⟩) (hw _ (List.mem_of_getElem? (i := 2) rfl)) (ty := .long) (by decide) rfl rfl (g := (mkF m 33 #[.val (.ref x0), .val (.long x1), .second, .val (.long x2), .second, .unset, .unset] [(.long x2), (.ref x0)])) rfl rfl (hb hby d1_33)
  have N8 := Fr.snoc X8 N3 g_x0
  have Z8 : n0 ≤ h8.size := Nat.le_trans Z3 (Keep.of_wr W8).1
  have K8 : Keep h0 h8 [x0] := Keep.wr K3 W8 (Or.inl (List.mem_of_getElem? (i := 0) rfl))
  have P9 := P4.wr W8
  have P10 := P5.other W8 (Or.inr (slot_ne (Or.inr (hw _ (List.mem_of_getElem? (i := 15) rfl))) (Or.inr (hw _ (List.mem_of_getElem? (i := 17) rfl))) (by decide) (t := .long) (t' := .long) (by decide) (by decide)))
  have P11 := P6.same W8
  have P12 := P7.other W8 (Or.inr (slot_ne (Or.inr (hw _ (List.mem_of_getElem? (i := 25) rfl))) (Or.inr (hw _ (List.mem_of_getElem? (i := 17) rfl))) (by decide) (t := .long) (t' := .long) (by decide) (by decide)))
  obtain ⟨_, _, ⟨T13, L13, k13, n13⟩, -, X13, ⟨Lc13, hQ13, l13, y13, z13⟩, st13⟩ := Jvm.LawKit.callS X8 hx (y := (⟨"java/lang/Long", "divideUnsigned", "(JJ)J"⟩ : MethodName)) hown (mvT hZ (hw _ (List.mem_of_getElem? (i := 19) rfl))) (mvT hZ (hw _ (List.mem_of_getElem? (i := 20) rfl))) (mvT hZ (hw _ (List.mem_of_getElem? (i := 21) rfl))) (mvT hZ (hw _ (List.mem_of_getElem? (i := 22) rfl))) (by decide) (backOf (W := 0) (rm4 l Z a0 hw [] ((9223372036854775806 : Int64) - x1) x2 h8 n0 Z8 hpos) hZ (hw _ (List.mem_of_getElem? (i := 22) rfl)) (hw _ (List.mem_of_getElem? (i := 21) rfl)) (by decide) (by decide)) (g := (mkF m 42 #[.val (.ref x0), .val (.long x1), .second, .val (.long x2), .second, .unset, .unset] [(.long x2), (.long ((9223372036854775806 : Int64) - x1))])) rfl (by rw [hml]; rfl) (argsL := [(.long ((9223372036854775806 : Int64) - x1)), (.long x2)]) (rest := []) (lenOf pd_1 rfl) rfl (by show 2 * 0 + _ ≤ _; exact Nat.le_of_eq rfl) (hb hby d1_42) (fun _ _ => ⟨rfl, e8, (by decide : 0 + 0 ≤ _), (by decide : 0 + 0 ≤ _)⟩)
  dsimp only [Pt.U, Pt.locs, Pt.cells, Pt.slots] at X13 l13 y13 z13 st13 hQ13
  subst l13 y13 z13
  obtain ⟨rfl, Nq13, e13⟩ := hQ13
  have N13 := Fr.app N8 Nq13
  obtain ⟨T15, h15, X15, e15, W15, st15⟩ := putF X13 hx hZ hown (host := "") (Or.inl (hw _ (List.mem_of_getElem? (i := 24) rfl))) Via.refl e13 P12 P9 (Or.inr ⟨(hw _ (List.mem_of_getElem? (i := 25) rfl)), rfl, hnm⟩) (hw _ (List.mem_of_getElem? (i := 2) rfl)) (ty := .long) (by decide) rfl rfl (g := (mkF m 54 #[.val (.ref x0), .val (.long x1), .second, .val (.long x2), .second, .val (.long (f1_v14 x1 x2)), .second] [(.long (x1 + ((f1_v14 x1 x2) * x2))), (.ref x0)])) rfl rfl (hb hby d1_54)
  have N15 := Fr.snoc X15 N13 g_x0
  have Z15 : n0 ≤ h15.size := Nat.le_trans Z8 (Keep.of_wr W15).1
  have K15 : Keep h0 h15 [x0] := Keep.wr K8 W15 (Or.inl (List.mem_of_getElem? (i := 0) rfl))
  have P16 := P9.wr W15
  have P17 := P10.other W15 (Or.inr (slot_ne (Or.inr (hw _ (List.mem_of_getElem? (i := 15) rfl))) (Or.inr (hw _ (List.mem_of_getElem? (i := 25) rfl))) (by decide) (t := .long) (t' := .long) (by decide) (by decide)))
  have P18 := P11.other W15 (Or.inr (slot_ne (Or.inr (hw _ (List.mem_of_getElem? (i := 17) rfl))) (Or.inr (hw _ (List.mem_of_getElem? (i := 25) rfl))) (by decide) (t := .long) (t' := .long) (by decide) (by decide)))
  have P19 := P12.same W15
  obtain ⟨fs, hr, hrun, hended, hW, hsame⟩ := X15.leave (v := none) (fun _ => rfl)
  refine ⟨_, _, pre0 _ ?_, hrun, hended, _, _, rfl, ?_, ⟨_, rfl⟩, hW, hsame.mono (by decide) (by decide)⟩
  · show Steps p.tables e below (s₁.setTop (mkF m 0 #[.val (.ref x0), .val (.long x1), .second, .val (.long x2), .second, .unset, .unset] [])) _
    refine XS.aloadN X0.here hx rfl (hb hby d1_0) rfl rfl ?_
    show Steps p.tables e below (s₁.setTop (mkF m 1 #[.val (.ref x0), .val (.long x1), .second, .val (.long x2), .second, .unset, .unset] [(.ref x0)])) _
    refine st1 _ ?_
    show Steps p.tables e below (T1.setTop (mkF m 4 #[.val (.ref x0), .val (.long x1), .second, .val (.long x2), .second, .unset, .unset] [])) _
    refine XS.lloadN X1.here hx rfl (hb hby d1_4) rfl ?_
    show Steps p.tables e below (T1.setTop (mkF m 5 #[.val (.ref x0), .val (.long x1), .second, .val (.long x2), .second, .unset, .unset] [(.long x2)])) _
    refine st2 _ ?_
    show Steps p.tables e below (T2.setTop (mkF m 8 #[.val (.ref x0), .val (.long x1), .second, .val (.long x2), .second, .unset, .unset] [])) _
    refine XS.lloadN X2.here hx rfl (hb hby d1_8) rfl ?_
    show Steps p.tables e below (T2.setTop (mkF m 9 #[.val (.ref x0), .val (.long x1), .second, .val (.long x2), .second, .unset, .unset] [(.long x1)])) _
    refine X2.ldc2Long hx hown (mvT hZ (hw _ (List.mem_of_getElem? (i := 13) rfl))) (g := (mkF m 9 #[.val (.ref x0), .val (.long x1), .second, .val (.long x2), .second, .unset, .unset] [(.long x1)])) rfl (hb hby d1_9) _ ?_
    show Steps p.tables e below (T2.setTop (mkF m 12 #[.val (.ref x0), .val (.long x1), .second, .val (.long x2), .second, .unset, .unset] [(.long (9223372036854775807 : Int64)), (.long x1)])) _
    refine own_xlcmp X2.here hx rfl (hb hby d1_12) rfl ?_
    show Steps p.tables e below (T2.setTop (mkF m 13 #[.val (.ref x0), .val (.long x1), .second, .val (.long x2), .second, .unset, .unset] [(.int (own_cmp x1 (9223372036854775807 : Int64)))])) _
    refine XS.ifYes X2.here hx rfl (pc0 := 13) (pc' := 26) rfl (hb hby d1_13) rfl (show ifCond.holds .ne (own_cmp x1 (9223372036854775807 : Int64)) = true from (own_cne _ _).mpr hne) (by decide) (by decide) ?_
    show Steps p.tables e below (T2.setTop (mkF m 26 #[.val (.ref x0), .val (.long x1), .second, .val (.long x2), .second, .unset, .unset] [])) _
    refine XS.aloadN X2.here hx rfl (hb hby d1_26) rfl rfl ?_
    show Steps p.tables e below (T2.setTop (mkF m 27 #[.val (.ref x0), .val (.long x1), .second, .val (.long x2), .second, .unset, .unset] [(.ref x0)])) _
    refine XS.lloadN X2.here hx rfl (hb hby d1_27) rfl ?_
    show Steps p.tables e below (T2.setTop (mkF m 28 #[.val (.ref x0), .val (.long x1), .second, .val (.long x2), .second, .unset, .unset] [(.long x1), (.ref x0)])) _
    refine st3 _ ?_
    show Steps p.tables e below (T3.setTop (mkF m 31 #[.val (.ref x0), .val (.long x1), .second, .val (.long x2), .second, .unset, .unset] [])) _
    refine XS.aloadN X3.here hx rfl (hb hby d1_31) rfl rfl ?_
    show Steps p.tables e below (T3.setTop (mkF m 32 #[.val (.ref x0), .val (.long x1), .second, .val (.long x2), .second, .unset, .unset] [(.ref x0)])) _
    refine XS.lloadN X3.here hx rfl (hb hby d1_32) rfl ?_
    show Steps p.tables e below (T3.setTop (mkF m 33 #[.val (.ref x0), .val (.long x1), .second, .val (.long x2), .second, .unset, .unset] [(.long x2), (.ref x0)])) _
    refine st8 _ ?_
    show Steps p.tables e below (T8.setTop (mkF m 36 #[.val (.ref x0), .val (.long x1), .second, .val (.long x2), .second, .unset, .unset] [])) _
    refine X8.ldc2Long hx hown (mvT hZ (hw _ (List.mem_of_getElem? (i := 18) rfl))) (g := (mkF m 36 #[.val (.ref x0), .val (.long x1), .second, .val (.long x2), .second, .unset, .unset] [])) rfl (hb hby d1_36) _ ?_
    show Steps p.tables e below (T8.setTop (mkF m 39 #[.val (.ref x0), .val (.long x1), .second, .val (.long x2), .second, .unset, .unset] [(.long (9223372036854775806 : Int64))])) _
    refine XS.lloadN X8.here hx rfl (hb hby d1_39) rfl ?_
    show Steps p.tables e below (T8.setTop (mkF m 40 #[.val (.ref x0), .val (.long x1), .second, .val (.long x2), .second, .unset, .unset] [(.long x1), (.long (9223372036854775806 : Int64))])) _
    refine XS.lsub X8.here hx rfl (hb hby d1_40) rfl ?_
    show Steps p.tables e below (T8.setTop (mkF m 41 #[.val (.ref x0), .val (.long x1), .second, .val (.long x2), .second, .unset, .unset] [(.long ((9223372036854775806 : Int64) - x1))])) _
    refine XS.lloadN X8.here hx rfl (hb hby d1_41) rfl ?_
    show Steps p.tables e below (T8.setTop (mkF m 42 #[.val (.ref x0), .val (.long x1), .second, .val (.long x2), .second, .unset, .unset] [(.long x2), (.long ((9223372036854775806 : Int64) - x1))])) _
    refine st13 _ ?_
    show Steps p.tables e below (T13.setTop (mkF m 45 #[.val (.ref x0), .val (.long x1), .second, .val (.long x2), .second, .unset, .unset] [(.long (f4 ((9223372036854775806 : Int64) - x1) x2))])) _
    refine XS.lstore X13.here hx rfl (hb hby d1_45) rfl (l' := #[.val (.ref x0), .val (.long x1), .second, .val (.long x2), .second, .val (.long (f1_v14 x1 x2)), .second]) rfl ?_
    show Steps p.tables e below (T13.setTop (mkF m 47 #[.val (.ref x0), .val (.long x1), .second, .val (.long x2), .second, .val (.long (f1_v14 x1 x2)), .second] [])) _
    refine XS.aloadN X13.here hx rfl (hb hby d1_47) rfl rfl ?_
    show Steps p.tables e below (T13.setTop (mkF m 48 #[.val (.ref x0), .val (.long x1), .second, .val (.long x2), .second, .val (.long (f1_v14 x1 x2)), .second] [(.ref x0)])) _
    refine XS.lloadN X13.here hx rfl (hb hby d1_48) rfl ?_
    show Steps p.tables e below (T13.setTop (mkF m 49 #[.val (.ref x0), .val (.long x1), .second, .val (.long x2), .second, .val (.long (f1_v14 x1 x2)), .second] [(.long x1), (.ref x0)])) _
    refine XS.lload X13.here hx rfl (hb hby d1_49) rfl ?_
    show Steps p.tables e below (T13.setTop (mkF m 51 #[.val (.ref x0), .val (.long x1), .second, .val (.long x2), .second, .val (.long (f1_v14 x1 x2)), .second] [(.long (f1_v14 x1 x2)), (.long x1), (.ref x0)])) _
    refine XS.lloadN X13.here hx rfl (hb hby d1_51) rfl ?_
    show Steps p.tables e below (T13.setTop (mkF m 52 #[.val (.ref x0), .val (.long x1), .second, .val (.long x2), .second, .val (.long (f1_v14 x1 x2)), .second] [(.long x2), (.long (f1_v14 x1 x2)), (.long x1), (.ref x0)])) _
    refine XS.lmul X13.here hx rfl (hb hby d1_52) rfl ?_
    show Steps p.tables e below (T13.setTop (mkF m 53 #[.val (.ref x0), .val (.long x1), .second, .val (.long x2), .second, .val (.long (f1_v14 x1 x2)), .second] [(.long ((f1_v14 x1 x2) * x2)), (.long x1), (.ref x0)])) _
    refine XS.ladd X13.here hx rfl (hb hby d1_53) rfl ?_
    show Steps p.tables e below (T13.setTop (mkF m 54 #[.val (.ref x0), .val (.long x1), .second, .val (.long x2), .second, .val (.long (f1_v14 x1 x2)), .second] [(.long (x1 + ((f1_v14 x1 x2) * x2))), (.ref x0)])) _
    refine st15 _ ?_
    show Steps p.tables e below (T15.setTop (mkF m 57 #[.val (.ref x0), .val (.long x1), .second, .val (.long x2), .second, .val (.long (f1_v14 x1 x2)), .second] [])) _
    exact X15.returnOut hx hret (hb hby d1_57) hr
  · show Q1 Z x0 x1 x2 u_startNanos_x0 u_tickNanos_x0 u_lastBoundaryNanos_x0 h0 n0 _ T15.heap _
    rw [e15]
    exact ⟨rfl, N15, K15, P16, P17, P18, P19⟩
-- body 9: java/lang/Long.remainderUnsigned:(JJ)J
theorem d9_0 : decode jdk_35_method_45_code 0 = .ok (.lload_n 2, 1) := by decide +kernel
theorem d9_1 : decode jdk_35_method_45_code 1 = .ok (.lconst 0, 1) := by decide +kernel
theorem d9_2 : decode jdk_35_method_45_code 2 = .ok (.lcmp, 1) := by decide +kernel
theorem d9_3 : decode jdk_35_method_45_code 3 = .ok (.ifCond .lt 37, 3) := by decide +kernel
theorem d9_6 : decode jdk_35_method_45_code 6 = .ok (.lload_n 0, 1) := by decide +kernel
theorem d9_7 : decode jdk_35_method_45_code 7 = .ok (.iconst 1, 1) := by decide +kernel
theorem d9_8 : decode jdk_35_method_45_code 8 = .ok (.lushr, 1) := by decide +kernel
theorem d9_9 : decode jdk_35_method_45_code 9 = .ok (.lload_n 2, 1) := by decide +kernel
theorem d9_10 : decode jdk_35_method_45_code 10 = .ok (.ldiv, 1) := by decide +kernel
theorem d9_11 : decode jdk_35_method_45_code 11 = .ok (.iconst 1, 1) := by decide +kernel
theorem d9_12 : decode jdk_35_method_45_code 12 = .ok (.lshl, 1) := by decide +kernel
theorem d9_13 : decode jdk_35_method_45_code 13 = .ok (.lstore 4, 2) := by decide +kernel
theorem d9_15 : decode jdk_35_method_45_code 15 = .ok (.lload_n 0, 1) := by decide +kernel
theorem d9_16 : decode jdk_35_method_45_code 16 = .ok (.lload 4, 2) := by decide +kernel
theorem d9_18 : decode jdk_35_method_45_code 18 = .ok (.lload_n 2, 1) := by decide +kernel
theorem d9_19 : decode jdk_35_method_45_code 19 = .ok (.lmul, 1) := by decide +kernel
theorem d9_20 : decode jdk_35_method_45_code 20 = .ok (.lsub, 1) := by decide +kernel
theorem d9_21 : decode jdk_35_method_45_code 21 = .ok (.lstore 6, 2) := by decide +kernel
theorem d9_23 : decode jdk_35_method_45_code 23 = .ok (.lload 6, 2) := by decide +kernel
theorem d9_25 : decode jdk_35_method_45_code 25 = .ok (.lload 6, 2) := by decide +kernel
theorem d9_27 : decode jdk_35_method_45_code 27 = .ok (.lload_n 2, 1) := by decide +kernel
theorem d9_28 : decode jdk_35_method_45_code 28 = .ok (.lsub, 1) := by decide +kernel
theorem d9_29 : decode jdk_35_method_45_code 29 = .ok (.ldc2_w 306, 3) := by decide +kernel
theorem d9_32 : decode jdk_35_method_45_code 32 = .ok (.lxor, 1) := by decide +kernel
theorem d9_33 : decode jdk_35_method_45_code 33 = .ok (.bipush 63, 2) := by decide +kernel
theorem d9_35 : decode jdk_35_method_45_code 35 = .ok (.lshr, 1) := by decide +kernel
theorem d9_36 : decode jdk_35_method_45_code 36 = .ok (.lload_n 2, 1) := by decide +kernel
theorem d9_37 : decode jdk_35_method_45_code 37 = .ok (.land, 1) := by decide +kernel
theorem d9_38 : decode jdk_35_method_45_code 38 = .ok (.lsub, 1) := by decide +kernel
theorem d9_39 : decode jdk_35_method_45_code 39 = .ok (.lreturn, 1) := by decide +kernel
theorem ef_9 (m : MethodId) (x0 : Int64) (x1 : Int64) : entryFrame m #[(.long x0), (.long x1)] 8 = mkF m 0 #[.val (.long x0), .second, .val (.long x1), .second, .unset, .unset, .unset, .unset] [] := by first | (simp [entryFrame, mkF, argsToLocals, Value.category]; done) | rfl
def f9_v1 (x0 : Int64) (x1 : Int64) : Int64 := (own_lshl ((own_lushr x0 (1 : Int32)) / x1) (1 : Int32))
def f9_v2 (x0 : Int64) (x1 : Int64) : Int64 := (x0 - ((f9_v1 x0 x1) * x1))
def f9 (x0 : Int64) (x1 : Int64) : Int64 := ((f9_v2 x0 x1) - ((own_lshr (((f9_v2 x0 x1) - x1) ^^^ (-1 : Int64)) (63 : Int32)) &&& x1))
def Q9 (Z : State) (x0 : Int64) (x1 : Int64) (h0 : Heap) (n0 : Nat) (v : Option Value) (h : Heap) (L : List Loc) : Prop := v = some (.long (f9 x0 x1)) ∧ Fr n0 L ∧ h = h0
set_option maxRecDepth 65536 in
set_option maxHeartbeats 40000000 in
theorem rm9 (l : Launch) (Z : State) (a0 : Array Value) (hw : ∀ d ∈ tables_1, d.before a0 Z = true) (ws : List Jvm.Cond) (x0 : Int64) (x1 : Int64) (h0 : Heap) (n0 : Nat) (Z0 : n0 ≤ h0.size) (hpos : (0 : Int64).toInt < x1.toInt) :
    MetFree l (⟨"java/lang/Long", "remainderUnsigned", "(JJ)J"⟩ : MethodName) (head1 (Jvm.Cond.code (⟨"java/lang/Long", "remainderUnsigned", "(JJ)J"⟩ : MethodName) jdk_35_method_45_code 8 (some .long) :: ws) ({ frames := 0, cells := 0, slots := 0, locals := 0 } : Room)) (fun a U => a = #[(.long x0), (.long x1)] ∧ Z.Warmed39 U.vm ∧ U.heap = h0) (fun _ _ _ _ _ => True) (fun _ U o U' => ∃ v L, o = .returned v ∧ Q9 Z x0 x1 h0 n0 v U'.heap L ∧ FrameEnd U o U' L ({ frames := 0, cells := 0, slots := 0, locals := 0 } : Room).cells ({ frames := 0, cells := 0, slots := 0, locals := 0 } : Room).slots) := by
  refine MetFree.of_bodySF (plainFor_of_name pn_1) hisR ?_
  intro p e s m args below meth c s₁ Bd hml0 hP hK0
  obtain ⟨rfl, hZ, hh⟩ := hP
  have hx := Bd.exec
  have hby := Bd.bytes
  have hml : c.maxLocals = 8 := hml0
  have hown : s.vm.findClass "java/lang/Long" = some m.cls := findClass_of_methodNamed Bd.named
  have hnm := (name_of_methodNamed Bd.named Bd.method).1
  have hret : meth.sig.returnType = some .long := Bd.returns
  have hlk : meth.locks = false := Bd.notSynchronized
  have X0 : Stand p l e ({ frames := 0, cells := 0, slots := 0, locals := 0 } : Room) s m #[(.long x0), (.long x1)] below meth c s₁ [] 0 0 := Stand.of_body Bd
  have e0 : s₁.heap = h0 := by rw [← hh, Bd.state]; rfl
  have N0 := Fr.nil n0
  have pre0 : ∀ t, Steps p.tables e below (s₁.setTop (mkF m 0 #[.val (.long x0), .second, .val (.long x1), .second, .unset, .unset, .unset, .unset] [])) t → Steps p.tables e below (s₁.setTop (entryFrame m #[(.long x0), (.long x1)] 8)) t := fun t k => castTop (ef_9 m x0 x1) k
  obtain ⟨fs, hr, hrun, hended, hW, hsame⟩ := X0.leave (v := some (.long ((f9_v2 x0 x1) - ((own_lshr (((f9_v2 x0 x1) - x1) ^^^ (-1 : Int64)) (63 : Int32)) &&& x1)))) (fun h => by rw [hret] at h; cases h)
  refine ⟨_, _, pre0 _ ?_, hrun, hended, _, _, rfl, ?_, ⟨_, rfl⟩, hW, hsame.mono (by decide) (by decide)⟩
  · show Steps p.tables e below (s₁.setTop (mkF m 0 #[.val (.long x0), .second, .val (.long x1), .second, .unset, .unset, .unset, .unset] [])) _
    refine XS.lloadN X0.here hx rfl (hb hby d9_0) rfl ?_
    show Steps p.tables e below (s₁.setTop (mkF m 1 #[.val (.long x0), .second, .val (.long x1), .second, .unset, .unset, .unset, .unset] [(.long x1)])) _
    refine XS.lconst X0.here hx rfl (hb hby d9_1) ?_
    show Steps p.tables e below (s₁.setTop (mkF m 2 #[.val (.long x0), .second, .val (.long x1), .second, .unset, .unset, .unset, .unset] [(.long (0 : Int64)), (.long x1)])) _
    refine own_xlcmp X0.here hx rfl (hb hby d9_2) rfl ?_
    show Steps p.tables e below (s₁.setTop (mkF m 3 #[.val (.long x0), .second, .val (.long x1), .second, .unset, .unset, .unset, .unset] [(.int (own_cmp x1 (0 : Int64)))])) _
    refine XS.ifNo X0.here hx rfl (hb hby d9_3) rfl (show ifCond.holds .lt (own_cmp x1 (0 : Int64)) = false from own_clt_f (by omega)) ?_
    show Steps p.tables e below (s₁.setTop (mkF m 6 #[.val (.long x0), .second, .val (.long x1), .second, .unset, .unset, .unset, .unset] [])) _
    refine XS.lloadN X0.here hx rfl (hb hby d9_6) rfl ?_
    show Steps p.tables e below (s₁.setTop (mkF m 7 #[.val (.long x0), .second, .val (.long x1), .second, .unset, .unset, .unset, .unset] [(.long x0)])) _
    refine XS.iconst X0.here hx rfl (hb hby d9_7) ?_
    show Steps p.tables e below (s₁.setTop (mkF m 8 #[.val (.long x0), .second, .val (.long x1), .second, .unset, .unset, .unset, .unset] [(.int (1 : Int32)), (.long x0)])) _
    refine own_xlushr X0.here hx rfl (hb hby d9_8) rfl ?_
    show Steps p.tables e below (s₁.setTop (mkF m 9 #[.val (.long x0), .second, .val (.long x1), .second, .unset, .unset, .unset, .unset] [(.long (own_lushr x0 (1 : Int32)))])) _
    refine XS.lloadN X0.here hx rfl (hb hby d9_9) rfl ?_
    show Steps p.tables e below (s₁.setTop (mkF m 10 #[.val (.long x0), .second, .val (.long x1), .second, .unset, .unset, .unset, .unset] [(.long x1), (.long (own_lushr x0 (1 : Int32)))])) _
    refine XS.ldiv X0.here hx rfl (hb hby d9_10) rfl (own_nz hpos) ?_
    show Steps p.tables e below (s₁.setTop (mkF m 11 #[.val (.long x0), .second, .val (.long x1), .second, .unset, .unset, .unset, .unset] [(.long ((own_lushr x0 (1 : Int32)) / x1))])) _
    refine XS.iconst X0.here hx rfl (hb hby d9_11) ?_
    show Steps p.tables e below (s₁.setTop (mkF m 12 #[.val (.long x0), .second, .val (.long x1), .second, .unset, .unset, .unset, .unset] [(.int (1 : Int32)), (.long ((own_lushr x0 (1 : Int32)) / x1))])) _
    refine own_xlshl X0.here hx rfl (hb hby d9_12) rfl ?_
    show Steps p.tables e below (s₁.setTop (mkF m 13 #[.val (.long x0), .second, .val (.long x1), .second, .unset, .unset, .unset, .unset] [(.long (own_lshl ((own_lushr x0 (1 : Int32)) / x1) (1 : Int32)))])) _
    refine XS.lstore X0.here hx rfl (hb hby d9_13) rfl (l' := #[.val (.long x0), .second, .val (.long x1), .second, .val (.long (f9_v1 x0 x1)), .second, .unset, .unset]) rfl ?_
    show Steps p.tables e below (s₁.setTop (mkF m 15 #[.val (.long x0), .second, .val (.long x1), .second, .val (.long (f9_v1 x0 x1)), .second, .unset, .unset] [])) _
    refine XS.lloadN X0.here hx rfl (hb hby d9_15) rfl ?_
    show Steps p.tables e below (s₁.setTop (mkF m 16 #[.val (.long x0), .second, .val (.long x1), .second, .val (.long (f9_v1 x0 x1)), .second, .unset, .unset] [(.long x0)])) _
    refine XS.lload X0.here hx rfl (hb hby d9_16) rfl ?_
    show Steps p.tables e below (s₁.setTop (mkF m 18 #[.val (.long x0), .second, .val (.long x1), .second, .val (.long (f9_v1 x0 x1)), .second, .unset, .unset] [(.long (f9_v1 x0 x1)), (.long x0)])) _
    refine XS.lloadN X0.here hx rfl (hb hby d9_18) rfl ?_
    show Steps p.tables e below (s₁.setTop (mkF m 19 #[.val (.long x0), .second, .val (.long x1), .second, .val (.long (f9_v1 x0 x1)), .second, .unset, .unset] [(.long x1), (.long (f9_v1 x0 x1)), (.long x0)])) _
    refine XS.lmul X0.here hx rfl (hb hby d9_19) rfl ?_
    show Steps p.tables e below (s₁.setTop (mkF m 20 #[.val (.long x0), .second, .val (.long x1), .second, .val (.long (f9_v1 x0 x1)), .second, .unset, .unset] [(.long ((f9_v1 x0 x1) * x1)), (.long x0)])) _
    refine XS.lsub X0.here hx rfl (hb hby d9_20) rfl ?_
    show Steps p.tables e below (s₁.setTop (mkF m 21 #[.val (.long x0), .second, .val (.long x1), .second, .val (.long (f9_v1 x0 x1)), .second, .unset, .unset] [(.long (x0 - ((f9_v1 x0 x1) * x1)))])) _
    refine XS.lstore X0.here hx rfl (hb hby d9_21) rfl (l' := #[.val (.long x0), .second, .val (.long x1), .second, .val (.long (f9_v1 x0 x1)), .second, .val (.long (f9_v2 x0 x1)), .second]) rfl ?_
    show Steps p.tables e below (s₁.setTop (mkF m 23 #[.val (.long x0), .second, .val (.long x1), .second, .val (.long (f9_v1 x0 x1)), .second, .val (.long (f9_v2 x0 x1)), .second] [])) _
    refine XS.lload X0.here hx rfl (hb hby d9_23) rfl ?_
    show Steps p.tables e below (s₁.setTop (mkF m 25 #[.val (.long x0), .second, .val (.long x1), .second, .val (.long (f9_v1 x0 x1)), .second, .val (.long (f9_v2 x0 x1)), .second] [(.long (f9_v2 x0 x1))])) _
    refine XS.lload X0.here hx rfl (hb hby d9_25) rfl ?_
    show Steps p.tables e below (s₁.setTop (mkF m 27 #[.val (.long x0), .second, .val (.long x1), .second, .val (.long (f9_v1 x0 x1)), .second, .val (.long (f9_v2 x0 x1)), .second] [(.long (f9_v2 x0 x1)), (.long (f9_v2 x0 x1))])) _
    refine XS.lloadN X0.here hx rfl (hb hby d9_27) rfl ?_
    show Steps p.tables e below (s₁.setTop (mkF m 28 #[.val (.long x0), .second, .val (.long x1), .second, .val (.long (f9_v1 x0 x1)), .second, .val (.long (f9_v2 x0 x1)), .second] [(.long x1), (.long (f9_v2 x0 x1)), (.long (f9_v2 x0 x1))])) _
    refine XS.lsub X0.here hx rfl (hb hby d9_28) rfl ?_
    show Steps p.tables e below (s₁.setTop (mkF m 29 #[.val (.long x0), .second, .val (.long x1), .second, .val (.long (f9_v1 x0 x1)), .second, .val (.long (f9_v2 x0 x1)), .second] [(.long ((f9_v2 x0 x1) - x1)), (.long (f9_v2 x0 x1))])) _
    refine X0.ldc2Long hx hown (mvT hZ (hw _ (List.mem_of_getElem? (i := 23) rfl))) (g := (mkF m 29 #[.val (.long x0), .second, .val (.long x1), .second, .val (.long (f9_v1 x0 x1)), .second, .val (.long (f9_v2 x0 x1)), .second] [(.long ((f9_v2 x0 x1) - x1)), (.long (f9_v2 x0 x1))])) rfl (hb hby d9_29) _ ?_
    show Steps p.tables e below (s₁.setTop (mkF m 32 #[.val (.long x0), .second, .val (.long x1), .second, .val (.long (f9_v1 x0 x1)), .second, .val (.long (f9_v2 x0 x1)), .second] [(.long (-1 : Int64)), (.long ((f9_v2 x0 x1) - x1)), (.long (f9_v2 x0 x1))])) _
    refine XS.lxor X0.here hx rfl (hb hby d9_32) rfl ?_
    show Steps p.tables e below (s₁.setTop (mkF m 33 #[.val (.long x0), .second, .val (.long x1), .second, .val (.long (f9_v1 x0 x1)), .second, .val (.long (f9_v2 x0 x1)), .second] [(.long (((f9_v2 x0 x1) - x1) ^^^ (-1 : Int64))), (.long (f9_v2 x0 x1))])) _
    refine XS.bipush X0.here hx rfl (hb hby d9_33) ?_
    show Steps p.tables e below (s₁.setTop (mkF m 35 #[.val (.long x0), .second, .val (.long x1), .second, .val (.long (f9_v1 x0 x1)), .second, .val (.long (f9_v2 x0 x1)), .second] [(.int (63 : Int32)), (.long (((f9_v2 x0 x1) - x1) ^^^ (-1 : Int64))), (.long (f9_v2 x0 x1))])) _
    refine own_xlshr X0.here hx rfl (hb hby d9_35) rfl ?_
    show Steps p.tables e below (s₁.setTop (mkF m 36 #[.val (.long x0), .second, .val (.long x1), .second, .val (.long (f9_v1 x0 x1)), .second, .val (.long (f9_v2 x0 x1)), .second] [(.long (own_lshr (((f9_v2 x0 x1) - x1) ^^^ (-1 : Int64)) (63 : Int32))), (.long (f9_v2 x0 x1))])) _
    refine XS.lloadN X0.here hx rfl (hb hby d9_36) rfl ?_
    show Steps p.tables e below (s₁.setTop (mkF m 37 #[.val (.long x0), .second, .val (.long x1), .second, .val (.long (f9_v1 x0 x1)), .second, .val (.long (f9_v2 x0 x1)), .second] [(.long x1), (.long (own_lshr (((f9_v2 x0 x1) - x1) ^^^ (-1 : Int64)) (63 : Int32))), (.long (f9_v2 x0 x1))])) _
    refine XS.land X0.here hx rfl (hb hby d9_37) rfl ?_
    show Steps p.tables e below (s₁.setTop (mkF m 38 #[.val (.long x0), .second, .val (.long x1), .second, .val (.long (f9_v1 x0 x1)), .second, .val (.long (f9_v2 x0 x1)), .second] [(.long ((own_lshr (((f9_v2 x0 x1) - x1) ^^^ (-1 : Int64)) (63 : Int32)) &&& x1)), (.long (f9_v2 x0 x1))])) _
    refine XS.lsub X0.here hx rfl (hb hby d9_38) rfl ?_
    show Steps p.tables e below (s₁.setTop (mkF m 39 #[.val (.long x0), .second, .val (.long x1), .second, .val (.long (f9_v1 x0 x1)), .second, .val (.long (f9_v2 x0 x1)), .second] [(.long ((f9_v2 x0 x1) - ((own_lshr (((f9_v2 x0 x1) - x1) ^^^ (-1 : Int64)) (63 : Int32)) &&& x1)))])) _
    exact X0.lreturnOut hx hret (hb hby d9_39) hr
  · show Q9 Z x0 x1 h0 n0 _ s₁.heap _
    rw [e0]
    have rr : f9 x0 x1 = ((f9_v2 x0 x1) - ((own_lshr (((f9_v2 x0 x1) - x1) ^^^ (-1 : Int64)) (63 : Int32)) &&& x1)) := rfl
    exact ⟨congrArg (fun z => some (Value.long z)) rr.symm, N0, rfl⟩
-- body 5: com/example/tick_wheel/tickwheel/wheel/TickGrid.boundaryAtOrBefore:(J)J
theorem d5_0 : decode prog_3_method_4_code 0 = .ok (.lload_n 1, 1) := by decide +kernel
theorem d5_1 : decode prog_3_method_4_code 1 = .ok (.aload_n 0, 1) := by decide +kernel
theorem d5_2 : decode prog_3_method_4_code 2 = .ok (.getfield 24, 3) := by decide +kernel
theorem d5_5 : decode prog_3_method_4_code 5 = .ok (.lcmp, 1) := by decide +kernel
theorem d5_6 : decode prog_3_method_4_code 6 = .ok (.ifCond .ge 21, 3) := by decide +kernel
theorem d5_27 : decode prog_3_method_4_code 27 = .ok (.lload_n 1, 1) := by decide +kernel
theorem d5_28 : decode prog_3_method_4_code 28 = .ok (.aload_n 0, 1) := by decide +kernel
theorem d5_29 : decode prog_3_method_4_code 29 = .ok (.getfield 37, 3) := by decide +kernel
theorem d5_32 : decode prog_3_method_4_code 32 = .ok (.lcmp, 1) := by decide +kernel
theorem d5_33 : decode prog_3_method_4_code 33 = .ok (.ifCond .lt 8, 3) := by decide +kernel
theorem d5_36 : decode prog_3_method_4_code 36 = .ok (.aload_n 0, 1) := by decide +kernel
theorem d5_37 : decode prog_3_method_4_code 37 = .ok (.getfield 37, 3) := by decide +kernel
theorem d5_40 : decode prog_3_method_4_code 40 = .ok (.lreturn, 1) := by decide +kernel
theorem d5_41 : decode prog_3_method_4_code 41 = .ok (.lload_n 1, 1) := by decide +kernel
theorem d5_42 : decode prog_3_method_4_code 42 = .ok (.aload_n 0, 1) := by decide +kernel
theorem d5_43 : decode prog_3_method_4_code 43 = .ok (.getfield 24, 3) := by decide +kernel
theorem d5_46 : decode prog_3_method_4_code 46 = .ok (.lsub, 1) := by decide +kernel
theorem d5_47 : decode prog_3_method_4_code 47 = .ok (.aload_n 0, 1) := by decide +kernel
theorem d5_48 : decode prog_3_method_4_code 48 = .ok (.getfield 28, 3) := by decide +kernel
theorem d5_51 : decode prog_3_method_4_code 51 = .ok (.invokestatic 44, 3) := by decide +kernel
theorem d5_54 : decode prog_3_method_4_code 54 = .ok (.lstore_n 3, 1) := by decide +kernel
theorem d5_55 : decode prog_3_method_4_code 55 = .ok (.lload_n 1, 1) := by decide +kernel
theorem d5_56 : decode prog_3_method_4_code 56 = .ok (.lload_n 3, 1) := by decide +kernel
theorem d5_57 : decode prog_3_method_4_code 57 = .ok (.lsub, 1) := by decide +kernel
theorem d5_58 : decode prog_3_method_4_code 58 = .ok (.lreturn, 1) := by decide +kernel
theorem ef_5 (m : MethodId) (x0 : Addr) (x1 : Int64) : entryFrame m #[(.ref x0), (.long x1)] 5 = mkF m 0 #[.val (.ref x0), .val (.long x1), .second, .unset, .unset] [] := by first | (simp [entryFrame, mkF, argsToLocals, Value.category]; done) | rfl
def f5_v8 (x1 : Int64) (w_startNanos_x0 : Int64) (w_lastBoundaryNanos_x0 : Int64) (w_tickNanos_x0 : Int64) : Int64 := (f9 (x1 - w_startNanos_x0) w_tickNanos_x0)
def f5 (x1 : Int64) (w_startNanos_x0 : Int64) (w_lastBoundaryNanos_x0 : Int64) (w_tickNanos_x0 : Int64) : Int64 := (if ifCond.holds .lt (own_cmp x1 w_lastBoundaryNanos_x0) = true then (x1 - (f5_v8 x1 w_startNanos_x0 w_lastBoundaryNanos_x0 w_tickNanos_x0)) else w_lastBoundaryNanos_x0)
def Q5 (Z : State) (x0 : Addr) (x1 : Int64) (w_startNanos_x0 : Int64) (w_lastBoundaryNanos_x0 : Int64) (w_tickNanos_x0 : Int64) (h0 : Heap) (n0 : Nat) (v : Option Value) (h : Heap) (L : List Loc) : Prop := v = some (.long (f5 x1 w_startNanos_x0 w_lastBoundaryNanos_x0 w_tickNanos_x0)) ∧ Fr n0 L ∧ h = h0
set_option maxRecDepth 65536 in
set_option maxHeartbeats 40000000 in
theorem rm5 (l : Launch) (Z : State) (a0 : Array Value) (hw : ∀ d ∈ tables_1, d.before a0 Z = true) (ws : List Jvm.Cond) (x0 : Addr) (x1 : Int64) (w_startNanos_x0 : Int64) (w_lastBoundaryNanos_x0 : Int64) (w_tickNanos_x0 : Int64) (h0 : Heap) (n0 : Nat) (Z0 : n0 ≤ h0.size) (F_x0_startNanos : Fld Z h0 x0 "com/example/tick_wheel/tickwheel/wheel/TickGrid" "startNanos" "J" (.long w_startNanos_x0)) (F_x0_lastBoundaryNanos : Fld Z h0 x0 "com/example/tick_wheel/tickwheel/wheel/TickGrid" "lastBoundaryNanos" "J" (.long w_lastBoundaryNanos_x0)) (F_x0_tickNanos : Fld Z h0 x0 "com/example/tick_wheel/tickwheel/wheel/TickGrid" "tickNanos" "J" (.long w_tickNanos_x0)) (hge : w_startNanos_x0.toInt ≤ x1.toInt) (hpos : (0 : Int64).toInt < w_tickNanos_x0.toInt) :
    MetFree l (⟨"com/example/tick_wheel/tickwheel/wheel/TickGrid", "boundaryAtOrBefore", "(J)J"⟩ : MethodName) (head1 (Jvm.Cond.code (⟨"com/example/tick_wheel/tickwheel/wheel/TickGrid", "boundaryAtOrBefore", "(J)J"⟩ : MethodName) prog_3_method_4_code 5 (some .long) :: ws) ({ frames := 1, cells := 0, slots := 0, locals := 19 } : Room)) (fun a U => a = #[(.ref x0), (.long x1)] ∧ Z.Warmed39 U.vm ∧ U.heap = h0) (fun _ _ _ _ _ => True) (fun _ U o U' => ∃ v L, o = .returned v ∧ Q5 Z x0 x1 w_startNanos_x0 w_lastBoundaryNanos_x0 w_tickNanos_x0 h0 n0 v U'.heap L ∧ FrameEnd U o U' L ({ frames := 1, cells := 0, slots := 0, locals := 19 } : Room).cells ({ frames := 1, cells := 0, slots := 0, locals := 19 } : Room).slots) := by
  refine MetFree.of_bodySF (plainFor_of_name pn_0) hisR ?_
  intro p e s m args below meth c s₁ Bd hml0 hP hK0
  obtain ⟨rfl, hZ, hh⟩ := hP
  have hx := Bd.exec
  have hby := Bd.bytes
  have hml : c.maxLocals = 5 := hml0
  have hown : s.vm.findClass "com/example/tick_wheel/tickwheel/wheel/TickGrid" = some m.cls := findClass_of_methodNamed Bd.named
  have hnm := (name_of_methodNamed Bd.named Bd.method).1
  have hret : meth.sig.returnType = some .long := Bd.returns
  have hlk : meth.locks = false := Bd.notSynchronized
  have X0 : Stand p l e ({ frames := 1, cells := 0, slots := 0, locals := 19 } : Room) s m #[(.ref x0), (.long x1)] below meth c s₁ [] 0 0 := Stand.of_body Bd
  have e0 : s₁.heap = h0 := by rw [← hh, Bd.state]; rfl
  have N0 := Fr.nil n0
  have pre0 : ∀ t, Steps p.tables e below (s₁.setTop (mkF m 0 #[.val (.ref x0), .val (.long x1), .second, .unset, .unset] [])) t → Steps p.tables e below (s₁.setTop (entryFrame m #[(.ref x0), (.long x1)] 5)) t := fun t k => castTop (ef_5 m x0 x1) k
  obtain ⟨T1, X1, e1, st1⟩ := getF X0 hx hZ hown (host := "") (Or.inl (hw _ (List.mem_of_getElem? (i := 14) rfl))) Via.refl e0 F_x0_startNanos (g := (mkF m 2 #[.val (.ref x0), .val (.long x1), .second, .unset, .unset] [(.ref x0), (.long x1)])) rfl rfl (hb hby d5_2)
  obtain ⟨T2, X2, e2, st2⟩ := getF X1 hx hZ hown (host := "") (Or.inl (hw _ (List.mem_of_getElem? (i := 24) rfl))) Via.refl e1 F_x0_lastBoundaryNanos (g := (mkF m 29 #[.val (.ref x0), .val (.long x1), .second, .unset, .unset] [(.ref x0), (.long x1)])) rfl rfl (hb hby d5_29)
  have pre3 : ∀ t, Steps p.tables e below (T2.setTop (mkF m 33 #[.val (.ref x0), .val (.long x1), .second, .unset, .unset] [(.int (own_cmp x1 w_lastBoundaryNanos_x0))])) t → Steps p.tables e below (s₁.setTop (entryFrame m #[(.ref x0), (.long x1)] 5)) t := by
    intro t k
    refine pre0 _ ?_
    show Steps p.tables e below (s₁.setTop (mkF m 0 #[.val (.ref x0), .val (.long x1), .second, .unset, .unset] [])) _
    refine XS.lloadN X0.here hx rfl (hb hby d5_0) rfl ?_
    show Steps p.tables e below (s₁.setTop (mkF m 1 #[.val (.ref x0), .val (.long x1), .second, .unset, .unset] [(.long x1)])) _
    refine XS.aloadN X0.here hx rfl (hb hby d5_1) rfl rfl ?_
    show Steps p.tables e below (s₁.setTop (mkF m 2 #[.val (.ref x0), .val (.long x1), .second, .unset, .unset] [(.ref x0), (.long x1)])) _
    refine st1 _ ?_
    show Steps p.tables e below (T1.setTop (mkF m 5 #[.val (.ref x0), .val (.long x1), .second, .unset, .unset] [(.long w_startNanos_x0), (.long x1)])) _
    refine own_xlcmp X1.here hx rfl (hb hby d5_5) rfl ?_
    show Steps p.tables e below (T1.setTop (mkF m 6 #[.val (.ref x0), .val (.long x1), .second, .unset, .unset] [(.int (own_cmp x1 w_startNanos_x0))])) _
    refine XS.ifYes X1.here hx rfl (pc0 := 6) (pc' := 27) rfl (hb hby d5_6) rfl (show ifCond.holds .ge (own_cmp x1 w_startNanos_x0) = true from (own_cge _ _).mpr hge) (by decide) (by decide) ?_
    show Steps p.tables e below (T1.setTop (mkF m 27 #[.val (.ref x0), .val (.long x1), .second, .unset, .unset] [])) _
    refine XS.lloadN X1.here hx rfl (hb hby d5_27) rfl ?_
    show Steps p.tables e below (T1.setTop (mkF m 28 #[.val (.ref x0), .val (.long x1), .second, .unset, .unset] [(.long x1)])) _
    refine XS.aloadN X1.here hx rfl (hb hby d5_28) rfl rfl ?_
    show Steps p.tables e below (T1.setTop (mkF m 29 #[.val (.ref x0), .val (.long x1), .second, .unset, .unset] [(.ref x0), (.long x1)])) _
    refine st2 _ ?_
    show Steps p.tables e below (T2.setTop (mkF m 32 #[.val (.ref x0), .val (.long x1), .second, .unset, .unset] [(.long w_lastBoundaryNanos_x0), (.long x1)])) _
    refine own_xlcmp X2.here hx rfl (hb hby d5_32) rfl ?_
    exact k
  rcases Bool.eq_false_or_eq_true (ifCond.holds .lt (own_cmp x1 w_lastBoundaryNanos_x0)) with hc4 | hc4
  · obtain ⟨T5, X5, e5, st5⟩ := getF X2 hx hZ hown (host := "") (Or.inl (hw _ (List.mem_of_getElem? (i := 14) rfl))) Via.refl e2 F_x0_startNanos (g := (mkF m 43 #[.val (.ref x0), .val (.long x1), .second, .unset, .unset] [(.ref x0), (.long x1)])) rfl rfl (hb hby d5_43)
    obtain ⟨T6, X6, e6, st6⟩ := getF X5 hx hZ hown (host := "") (Or.inl (hw _ (List.mem_of_getElem? (i := 16) rfl))) Via.refl e5 F_x0_tickNanos (g := (mkF m 48 #[.val (.ref x0), .val (.long x1), .second, .unset, .unset] [(.ref x0), (.long (x1 - w_startNanos_x0))])) rfl rfl (hb hby d5_48)
    obtain ⟨_, _, ⟨T7, L7, k7, n7⟩, -, X7, ⟨Lc7, hQ7, l7, y7, z7⟩, st7⟩ := Jvm.LawKit.callS X6 hx (y := (⟨"java/lang/Long", "remainderUnsigned", "(JJ)J"⟩ : MethodName)) hown (mvT hZ (hw _ (List.mem_of_getElem? (i := 47) rfl))) (mvT hZ (hw _ (List.mem_of_getElem? (i := 48) rfl))) (mvT hZ (hw _ (List.mem_of_getElem? (i := 21) rfl))) (mvT hZ (hw _ (List.mem_of_getElem? (i := 49) rfl))) (by decide) (backOf (W := 0) (rm9 l Z a0 hw [] (x1 - w_startNanos_x0) w_tickNanos_x0 h0 n0 Z0 hpos) hZ (hw _ (List.mem_of_getElem? (i := 49) rfl)) (hw _ (List.mem_of_getElem? (i := 21) rfl)) (by decide) (by decide)) (g := (mkF m 51 #[.val (.ref x0), .val (.long x1), .second, .unset, .unset] [(.long w_tickNanos_x0), (.long (x1 - w_startNanos_x0))])) rfl (by rw [hml]; rfl) (argsL := [(.long (x1 - w_startNanos_x0)), (.long w_tickNanos_x0)]) (rest := []) (lenOf pd_1 rfl) rfl (by show 2 * 0 + _ ≤ _; exact Nat.le_of_eq rfl) (hb hby d5_51) (fun _ _ => ⟨rfl, e6, (by decide : 0 + 0 ≤ _), (by decide : 0 + 0 ≤ _)⟩)
    dsimp only [Pt.U, Pt.locs, Pt.cells, Pt.slots] at X7 l7 y7 z7 st7 hQ7
    subst l7 y7 z7
    obtain ⟨rfl, Nq7, e7⟩ := hQ7
    have N7 := Fr.app N0 Nq7
    obtain ⟨fs, hr, hrun, hended, hW, hsame⟩ := X7.leave (v := some (.long (x1 - (f5_v8 x1 w_startNanos_x0 w_lastBoundaryNanos_x0 w_tickNanos_x0)))) (fun h => by rw [hret] at h; cases h)
    refine ⟨_, _, pre3 _ ?_, hrun, hended, _, _, rfl, ?_, ⟨_, rfl⟩, hW, hsame.mono (by decide) (by decide)⟩
    · show Steps p.tables e below (T2.setTop (mkF m 33 #[.val (.ref x0), .val (.long x1), .second, .unset, .unset] [(.int (own_cmp x1 w_lastBoundaryNanos_x0))])) _
      refine XS.ifYes X2.here hx rfl (pc0 := 33) (pc' := 41) rfl (hb hby d5_33) rfl hc4 (by decide) (by decide) ?_
      show Steps p.tables e below (T2.setTop (mkF m 41 #[.val (.ref x0), .val (.long x1), .second, .unset, .unset] [])) _
      refine XS.lloadN X2.here hx rfl (hb hby d5_41) rfl ?_
      show Steps p.tables e below (T2.setTop (mkF m 42 #[.val (.ref x0), .val (.long x1), .second, .unset, .unset] [(.long x1)])) _
      refine XS.aloadN X2.here hx rfl (hb hby d5_42) rfl rfl ?_
      show Steps p.tables e below (T2.setTop (mkF m 43 #[.val (.ref x0), .val (.long x1), .second, .unset, .unset] [(.ref x0), (.long x1)])) _
      refine st5 _ ?_
      show Steps p.tables e below (T5.setTop (mkF m 46 #[.val (.ref x0), .val (.long x1), .second, .unset, .unset] [(.long w_startNanos_x0), (.long x1)])) _
      refine XS.lsub X5.here hx rfl (hb hby d5_46) rfl ?_
      show Steps p.tables e below (T5.setTop (mkF m 47 #[.val (.ref x0), .val (.long x1), .second, .unset, .unset] [(.long (x1 - w_startNanos_x0))])) _
      refine XS.aloadN X5.here hx rfl (hb hby d5_47) rfl rfl ?_
      show Steps p.tables e below (T5.setTop (mkF m 48 #[.val (.ref x0), .val (.long x1), .second, .unset, .unset] [(.ref x0), (.long (x1 - w_startNanos_x0))])) _
      refine st6 _ ?_
      show Steps p.tables e below (T6.setTop (mkF m 51 #[.val (.ref x0), .val (.long x1), .second, .unset, .unset] [(.long w_tickNanos_x0), (.long (x1 - w_startNanos_x0))])) _
      refine st7 _ ?_
      show Steps p.tables e below (T7.setTop (mkF m 54 #[.val (.ref x0), .val (.long x1), .second, .unset, .unset] [(.long (f9 (x1 - w_startNanos_x0) w_tickNanos_x0))])) _
      refine XS.lstoreN X7.here hx rfl (hb hby d5_54) rfl (l' := #[.val (.ref x0), .val (.long x1), .second, .val (.long (f5_v8 x1 w_startNanos_x0 w_lastBoundaryNanos_x0 w_tickNanos_x0)), .second]) rfl ?_
      show Steps p.tables e below (T7.setTop (mkF m 55 #[.val (.ref x0), .val (.long x1), .second, .val (.long (f5_v8 x1 w_startNanos_x0 w_lastBoundaryNanos_x0 w_tickNanos_x0)), .second] [])) _
      refine XS.lloadN X7.here hx rfl (hb hby d5_55) rfl ?_
      show Steps p.tables e below (T7.setTop (mkF m 56 #[.val (.ref x0), .val (.long x1), .second, .val (.long (f5_v8 x1 w_startNanos_x0 w_lastBoundaryNanos_x0 w_tickNanos_x0)), .second] [(.long x1)])) _
      refine XS.lloadN X7.here hx rfl (hb hby d5_56) rfl ?_
      show Steps p.tables e below (T7.setTop (mkF m 57 #[.val (.ref x0), .val (.long x1), .second, .val (.long (f5_v8 x1 w_startNanos_x0 w_lastBoundaryNanos_x0 w_tickNanos_x0)), .second] [(.long (f5_v8 x1 w_startNanos_x0 w_lastBoundaryNanos_x0 w_tickNanos_x0)), (.long x1)])) _
      refine XS.lsub X7.here hx rfl (hb hby d5_57) rfl ?_
      show Steps p.tables e below (T7.setTop (mkF m 58 #[.val (.ref x0), .val (.long x1), .second, .val (.long (f5_v8 x1 w_startNanos_x0 w_lastBoundaryNanos_x0 w_tickNanos_x0)), .second] [(.long (x1 - (f5_v8 x1 w_startNanos_x0 w_lastBoundaryNanos_x0 w_tickNanos_x0)))])) _
      exact X7.lreturnOut hx hret (hb hby d5_58) hr
    · show Q5 Z x0 x1 w_startNanos_x0 w_lastBoundaryNanos_x0 w_tickNanos_x0 h0 n0 _ T7.heap _
      rw [e7]
      have rr : f5 x1 w_startNanos_x0 w_lastBoundaryNanos_x0 w_tickNanos_x0 = (x1 - (f5_v8 x1 w_startNanos_x0 w_lastBoundaryNanos_x0 w_tickNanos_x0)) := if_pos hc4
      exact ⟨congrArg (fun z => some (Value.long z)) rr.symm, N7, rfl⟩
  · obtain ⟨T9, X9, e9, st9⟩ := getF X2 hx hZ hown (host := "") (Or.inl (hw _ (List.mem_of_getElem? (i := 24) rfl))) Via.refl e2 F_x0_lastBoundaryNanos (g := (mkF m 37 #[.val (.ref x0), .val (.long x1), .second, .unset, .unset] [(.ref x0)])) rfl rfl (hb hby d5_37)
    obtain ⟨fs, hr, hrun, hended, hW, hsame⟩ := X9.leave (v := some (.long w_lastBoundaryNanos_x0)) (fun h => by rw [hret] at h; cases h)
    refine ⟨_, _, pre3 _ ?_, hrun, hended, _, _, rfl, ?_, ⟨_, rfl⟩, hW, hsame.mono (by decide) (by decide)⟩
    · show Steps p.tables e below (T2.setTop (mkF m 33 #[.val (.ref x0), .val (.long x1), .second, .unset, .unset] [(.int (own_cmp x1 w_lastBoundaryNanos_x0))])) _
      refine XS.ifNo X2.here hx rfl (hb hby d5_33) rfl hc4 ?_
      show Steps p.tables e below (T2.setTop (mkF m 36 #[.val (.ref x0), .val (.long x1), .second, .unset, .unset] [])) _
      refine XS.aloadN X2.here hx rfl (hb hby d5_36) rfl rfl ?_
      show Steps p.tables e below (T2.setTop (mkF m 37 #[.val (.ref x0), .val (.long x1), .second, .unset, .unset] [(.ref x0)])) _
      refine st9 _ ?_
      show Steps p.tables e below (T9.setTop (mkF m 40 #[.val (.ref x0), .val (.long x1), .second, .unset, .unset] [(.long w_lastBoundaryNanos_x0)])) _
      exact X9.lreturnOut hx hret (hb hby d5_40) hr
    · show Q5 Z x0 x1 w_startNanos_x0 w_lastBoundaryNanos_x0 w_tickNanos_x0 h0 n0 _ T9.heap _
      rw [e9]
      have rr : f5 x1 w_startNanos_x0 w_lastBoundaryNanos_x0 w_tickNanos_x0 = w_lastBoundaryNanos_x0 := if_neg (own_nt hc4)
      exact ⟨congrArg (fun z => some (Value.long z)) rr.symm, N0, rfl⟩
-- body 6: com/example/tick_wheel/tickwheel/wheel/TickGrid.ticksTo:(J)J
theorem d6_0 : decode prog_3_method_6_code 0 = .ok (.lload_n 1, 1) := by decide +kernel
theorem d6_1 : decode prog_3_method_6_code 1 = .ok (.aload_n 0, 1) := by decide +kernel
theorem d6_2 : decode prog_3_method_6_code 2 = .ok (.getfield 24, 3) := by decide +kernel
theorem d6_5 : decode prog_3_method_6_code 5 = .ok (.lsub, 1) := by decide +kernel
theorem d6_6 : decode prog_3_method_6_code 6 = .ok (.aload_n 0, 1) := by decide +kernel
theorem d6_7 : decode prog_3_method_6_code 7 = .ok (.getfield 28, 3) := by decide +kernel
theorem d6_10 : decode prog_3_method_6_code 10 = .ok (.invokestatic 33, 3) := by decide +kernel
theorem d6_13 : decode prog_3_method_6_code 13 = .ok (.lreturn, 1) := by decide +kernel
theorem ef_6 (m : MethodId) (x0 : Addr) (x1 : Int64) : entryFrame m #[(.ref x0), (.long x1)] 3 = mkF m 0 #[.val (.ref x0), .val (.long x1), .second] [] := by first | (simp [entryFrame, mkF, argsToLocals, Value.category]; done) | rfl
def f6 (x1 : Int64) (w_startNanos_x0 : Int64) (w_tickNanos_x0 : Int64) : Int64 := (f4 (x1 - w_startNanos_x0) w_tickNanos_x0)
def Q6 (Z : State) (x0 : Addr) (x1 : Int64) (w_startNanos_x0 : Int64) (w_tickNanos_x0 : Int64) (h0 : Heap) (n0 : Nat) (v : Option Value) (h : Heap) (L : List Loc) : Prop := v = some (.long (f6 x1 w_startNanos_x0 w_tickNanos_x0)) ∧ Fr n0 L ∧ h = h0
set_option maxRecDepth 65536 in
set_option maxHeartbeats 40000000 in
theorem rm6 (l : Launch) (Z : State) (a0 : Array Value) (hw : ∀ d ∈ tables_1, d.before a0 Z = true) (ws : List Jvm.Cond) (x0 : Addr) (x1 : Int64) (w_startNanos_x0 : Int64) (w_tickNanos_x0 : Int64) (h0 : Heap) (n0 : Nat) (Z0 : n0 ≤ h0.size) (F_x0_startNanos : Fld Z h0 x0 "com/example/tick_wheel/tickwheel/wheel/TickGrid" "startNanos" "J" (.long w_startNanos_x0)) (F_x0_tickNanos : Fld Z h0 x0 "com/example/tick_wheel/tickwheel/wheel/TickGrid" "tickNanos" "J" (.long w_tickNanos_x0)) (hpos : (0 : Int64).toInt < w_tickNanos_x0.toInt) :
    MetFree l (⟨"com/example/tick_wheel/tickwheel/wheel/TickGrid", "ticksTo", "(J)J"⟩ : MethodName) (head1 (Jvm.Cond.code (⟨"com/example/tick_wheel/tickwheel/wheel/TickGrid", "ticksTo", "(J)J"⟩ : MethodName) prog_3_method_6_code 3 (some .long) :: ws) ({ frames := 1, cells := 0, slots := 0, locals := 19 } : Room)) (fun a U => a = #[(.ref x0), (.long x1)] ∧ Z.Warmed39 U.vm ∧ U.heap = h0) (fun _ _ _ _ _ => True) (fun _ U o U' => ∃ v L, o = .returned v ∧ Q6 Z x0 x1 w_startNanos_x0 w_tickNanos_x0 h0 n0 v U'.heap L ∧ FrameEnd U o U' L ({ frames := 1, cells := 0, slots := 0, locals := 19 } : Room).cells ({ frames := 1, cells := 0, slots := 0, locals := 19 } : Room).slots) := by
  refine MetFree.of_bodySF (plainFor_of_name pn_0) hisR ?_
  intro p e s m args below meth c s₁ Bd hml0 hP hK0
  obtain ⟨rfl, hZ, hh⟩ := hP
  have hx := Bd.exec
  have hby := Bd.bytes
  have hml : c.maxLocals = 3 := hml0
  have hown : s.vm.findClass "com/example/tick_wheel/tickwheel/wheel/TickGrid" = some m.cls := findClass_of_methodNamed Bd.named
  have hnm := (name_of_methodNamed Bd.named Bd.method).1
  have hret : meth.sig.returnType = some .long := Bd.returns
  have hlk : meth.locks = false := Bd.notSynchronized
  have X0 : Stand p l e ({ frames := 1, cells := 0, slots := 0, locals := 19 } : Room) s m #[(.ref x0), (.long x1)] below meth c s₁ [] 0 0 := Stand.of_body Bd
  have e0 : s₁.heap = h0 := by rw [← hh, Bd.state]; rfl
  have N0 := Fr.nil n0
  have pre0 : ∀ t, Steps p.tables e below (s₁.setTop (mkF m 0 #[.val (.ref x0), .val (.long x1), .second] [])) t → Steps p.tables e below (s₁.setTop (entryFrame m #[(.ref x0), (.long x1)] 3)) t := fun t k => castTop (ef_6 m x0 x1) k
  obtain ⟨T1, X1, e1, st1⟩ := getF X0 hx hZ hown (host := "") (Or.inl (hw _ (List.mem_of_getElem? (i := 14) rfl))) Via.refl e0 F_x0_startNanos (g := (mkF m 2 #[.val (.ref x0), .val (.long x1), .second] [(.ref x0), (.long x1)])) rfl rfl (hb hby d6_2)
  obtain ⟨T2, X2, e2, st2⟩ := getF X1 hx hZ hown (host := "") (Or.inl (hw _ (List.mem_of_getElem? (i := 16) rfl))) Via.refl e1 F_x0_tickNanos (g := (mkF m 7 #[.val (.ref x0), .val (.long x1), .second] [(.ref x0), (.long (x1 - w_startNanos_x0))])) rfl rfl (hb hby d6_7)
  obtain ⟨_, _, ⟨T3, L3, k3, n3⟩, -, X3, ⟨Lc3, hQ3, l3, y3, z3⟩, st3⟩ := Jvm.LawKit.callS X2 hx (y := (⟨"java/lang/Long", "divideUnsigned", "(JJ)J"⟩ : MethodName)) hown (mvT hZ (hw _ (List.mem_of_getElem? (i := 19) rfl))) (mvT hZ (hw _ (List.mem_of_getElem? (i := 20) rfl))) (mvT hZ (hw _ (List.mem_of_getElem? (i := 21) rfl))) (mvT hZ (hw _ (List.mem_of_getElem? (i := 22) rfl))) (by decide) (backOf (W := 0) (rm4 l Z a0 hw [] (x1 - w_startNanos_x0) w_tickNanos_x0 h0 n0 Z0 hpos) hZ (hw _ (List.mem_of_getElem? (i := 22) rfl)) (hw _ (List.mem_of_getElem? (i := 21) rfl)) (by decide) (by decide)) (g := (mkF m 10 #[.val (.ref x0), .val (.long x1), .second] [(.long w_tickNanos_x0), (.long (x1 - w_startNanos_x0))])) rfl (by rw [hml]; rfl) (argsL := [(.long (x1 - w_startNanos_x0)), (.long w_tickNanos_x0)]) (rest := []) (lenOf pd_1 rfl) rfl (by show 2 * 0 + _ ≤ _; exact Nat.le_of_eq rfl) (hb hby d6_10) (fun _ _ => ⟨rfl, e2, (by decide : 0 + 0 ≤ _), (by decide : 0 + 0 ≤ _)⟩)
  dsimp only [Pt.U, Pt.locs, Pt.cells, Pt.slots] at X3 l3 y3 z3 st3 hQ3
  subst l3 y3 z3
  obtain ⟨rfl, Nq3, e3⟩ := hQ3
  have N3 := Fr.app N0 Nq3
  obtain ⟨fs, hr, hrun, hended, hW, hsame⟩ := X3.leave (v := some (.long (f4 (x1 - w_startNanos_x0) w_tickNanos_x0))) (fun h => by rw [hret] at h; cases h)
  refine ⟨_, _, pre0 _ ?_, hrun, hended, _, _, rfl, ?_, ⟨_, rfl⟩, hW, hsame.mono (by decide) (by decide)⟩
  · show Steps p.tables e below (s₁.setTop (mkF m 0 #[.val (.ref x0), .val (.long x1), .second] [])) _
    refine XS.lloadN X0.here hx rfl (hb hby d6_0) rfl ?_
    show Steps p.tables e below (s₁.setTop (mkF m 1 #[.val (.ref x0), .val (.long x1), .second] [(.long x1)])) _
    refine XS.aloadN X0.here hx rfl (hb hby d6_1) rfl rfl ?_
    show Steps p.tables e below (s₁.setTop (mkF m 2 #[.val (.ref x0), .val (.long x1), .second] [(.ref x0), (.long x1)])) _
    refine st1 _ ?_
    show Steps p.tables e below (T1.setTop (mkF m 5 #[.val (.ref x0), .val (.long x1), .second] [(.long w_startNanos_x0), (.long x1)])) _
    refine XS.lsub X1.here hx rfl (hb hby d6_5) rfl ?_
    show Steps p.tables e below (T1.setTop (mkF m 6 #[.val (.ref x0), .val (.long x1), .second] [(.long (x1 - w_startNanos_x0))])) _
    refine XS.aloadN X1.here hx rfl (hb hby d6_6) rfl rfl ?_
    show Steps p.tables e below (T1.setTop (mkF m 7 #[.val (.ref x0), .val (.long x1), .second] [(.ref x0), (.long (x1 - w_startNanos_x0))])) _
    refine st2 _ ?_
    show Steps p.tables e below (T2.setTop (mkF m 10 #[.val (.ref x0), .val (.long x1), .second] [(.long w_tickNanos_x0), (.long (x1 - w_startNanos_x0))])) _
    refine st3 _ ?_
    show Steps p.tables e below (T3.setTop (mkF m 13 #[.val (.ref x0), .val (.long x1), .second] [(.long (f4 (x1 - w_startNanos_x0) w_tickNanos_x0))])) _
    exact X3.lreturnOut hx hret (hb hby d6_13) hr
  · show Q6 Z x0 x1 w_startNanos_x0 w_tickNanos_x0 h0 n0 _ T3.heap _
    rw [e3]
    have rr : f6 x1 w_startNanos_x0 w_tickNanos_x0 = (f4 (x1 - w_startNanos_x0) w_tickNanos_x0) := rfl
    exact ⟨congrArg (fun z => some (Value.long z)) rr.symm, N3, rfl⟩
-- body 7: com/example/tick_wheel/tickwheel/wheel/TickGridBoundaryAtPinLaw.uleq:(JJ)Z
theorem d7_0 : decode method_2_code 0 = .ok (.lload_n 0, 1) := by decide +kernel
theorem d7_1 : decode method_2_code 1 = .ok (.ldc2_w 7, 3) := by decide +kernel
theorem d7_4 : decode method_2_code 4 = .ok (.lxor, 1) := by decide +kernel
theorem d7_5 : decode method_2_code 5 = .ok (.lload_n 2, 1) := by decide +kernel
theorem d7_6 : decode method_2_code 6 = .ok (.ldc2_w 7, 3) := by decide +kernel
theorem d7_9 : decode method_2_code 9 = .ok (.lxor, 1) := by decide +kernel
theorem d7_10 : decode method_2_code 10 = .ok (.lcmp, 1) := by decide +kernel
theorem d7_11 : decode method_2_code 11 = .ok (.ifCond .gt 7, 3) := by decide +kernel
theorem d7_14 : decode method_2_code 14 = .ok (.iconst 1, 1) := by decide +kernel
theorem d7_15 : decode method_2_code 15 = .ok (.goto 4, 3) := by decide +kernel
theorem d7_18 : decode method_2_code 18 = .ok (.iconst 0, 1) := by decide +kernel
theorem d7_19 : decode method_2_code 19 = .ok (.ireturn, 1) := by decide +kernel
theorem pn_2 : plainName "com/example/tick_wheel/tickwheel/wheel/TickGridBoundaryAtPinLaw" = true := by first | (simp [plainName, overriddenIn]; done) | decide +kernel
theorem ef_7 (m : MethodId) (x0 : Int64) (x1 : Int64) : entryFrame m #[(.long x0), (.long x1)] 4 = mkF m 0 #[.val (.long x0), .second, .val (.long x1), .second] [] := by first | (simp [entryFrame, mkF, argsToLocals, Value.category]; done) | rfl
def f7_j3 (x0 : Int64) (x1 : Int64) : Int32 := if ifCond.holds .gt (own_cmp (x0 ^^^ (-9223372036854775808 : Int64)) (x1 ^^^ (-9223372036854775808 : Int64))) = true then (0 : Int32) else (1 : Int32)
def f7 (x0 : Int64) (x1 : Int64) : Int32 := (nar .boolean (f7_j3 x0 x1))
def Q7 (Z : State) (x0 : Int64) (x1 : Int64) (h0 : Heap) (n0 : Nat) (v : Option Value) (h : Heap) (L : List Loc) : Prop := v = some (.int (f7 x0 x1)) ∧ Fr n0 L ∧ h = h0
set_option maxRecDepth 65536 in
set_option maxHeartbeats 40000000 in
theorem rm7 (l : Launch) (Z : State) (a0 : Array Value) (hw : ∀ d ∈ tables_1, d.before a0 Z = true) (ws : List Jvm.Cond) (x0 : Int64) (x1 : Int64) (h0 : Heap) (n0 : Nat) (Z0 : n0 ≤ h0.size) :
    MetFree l (⟨"com/example/tick_wheel/tickwheel/wheel/TickGridBoundaryAtPinLaw", "uleq", "(JJ)Z"⟩ : MethodName) (head1 (Jvm.Cond.code (⟨"com/example/tick_wheel/tickwheel/wheel/TickGridBoundaryAtPinLaw", "uleq", "(JJ)Z"⟩ : MethodName) method_2_code 4 (some .boolean) :: ws) ({ frames := 0, cells := 0, slots := 0, locals := 0 } : Room)) (fun a U => a = #[(.long x0), (.long x1)] ∧ Z.Warmed39 U.vm ∧ U.heap = h0) (fun _ _ _ _ _ => True) (fun _ U o U' => ∃ v L, o = .returned v ∧ Q7 Z x0 x1 h0 n0 v U'.heap L ∧ FrameEnd U o U' L ({ frames := 0, cells := 0, slots := 0, locals := 0 } : Room).cells ({ frames := 0, cells := 0, slots := 0, locals := 0 } : Room).slots) := by
  refine MetFree.of_bodySF (plainFor_of_name pn_2) hisR ?_
  intro p e s m args below meth c s₁ Bd hml0 hP hK0
  obtain ⟨rfl, hZ, hh⟩ := hP
  have hx := Bd.exec
  have hby := Bd.bytes
  have hml : c.maxLocals = 4 := hml0
  have hown : s.vm.findClass "com/example/tick_wheel/tickwheel/wheel/TickGridBoundaryAtPinLaw" = some m.cls := findClass_of_methodNamed Bd.named
  have hnm := (name_of_methodNamed Bd.named Bd.method).1
  have hret : meth.sig.returnType = some .boolean := Bd.returns
  have hlk : meth.locks = false := Bd.notSynchronized
  have X0 : Stand p l e ({ frames := 0, cells := 0, slots := 0, locals := 0 } : Room) s m #[(.long x0), (.long x1)] below meth c s₁ [] 0 0 := Stand.of_body Bd
  have e0 : s₁.heap = h0 := by rw [← hh, Bd.state]; rfl
  have N0 := Fr.nil n0
  have pre0 : ∀ t, Steps p.tables e below (s₁.setTop (mkF m 0 #[.val (.long x0), .second, .val (.long x1), .second] [])) t → Steps p.tables e below (s₁.setTop (entryFrame m #[(.long x0), (.long x1)] 4)) t := fun t k => castTop (ef_7 m x0 x1) k
  have pre1 : ∀ t, Steps p.tables e below (s₁.setTop (mkF m 11 #[.val (.long x0), .second, .val (.long x1), .second] [(.int (own_cmp (x0 ^^^ (-9223372036854775808 : Int64)) (x1 ^^^ (-9223372036854775808 : Int64))))])) t → Steps p.tables e below (s₁.setTop (entryFrame m #[(.long x0), (.long x1)] 4)) t := by
    intro t k
    refine pre0 _ ?_
    show Steps p.tables e below (s₁.setTop (mkF m 0 #[.val (.long x0), .second, .val (.long x1), .second] [])) _
    refine XS.lloadN X0.here hx rfl (hb hby d7_0) rfl ?_
    show Steps p.tables e below (s₁.setTop (mkF m 1 #[.val (.long x0), .second, .val (.long x1), .second] [(.long x0)])) _
    refine X0.ldc2Long hx hown (mvT hZ (hw _ (List.mem_of_getElem? (i := 41) rfl))) (g := (mkF m 1 #[.val (.long x0), .second, .val (.long x1), .second] [(.long x0)])) rfl (hb hby d7_1) _ ?_
    show Steps p.tables e below (s₁.setTop (mkF m 4 #[.val (.long x0), .second, .val (.long x1), .second] [(.long (-9223372036854775808 : Int64)), (.long x0)])) _
    refine XS.lxor X0.here hx rfl (hb hby d7_4) rfl ?_
    show Steps p.tables e below (s₁.setTop (mkF m 5 #[.val (.long x0), .second, .val (.long x1), .second] [(.long (x0 ^^^ (-9223372036854775808 : Int64)))])) _
    refine XS.lloadN X0.here hx rfl (hb hby d7_5) rfl ?_
    show Steps p.tables e below (s₁.setTop (mkF m 6 #[.val (.long x0), .second, .val (.long x1), .second] [(.long x1), (.long (x0 ^^^ (-9223372036854775808 : Int64)))])) _
    refine X0.ldc2Long hx hown (mvT hZ (hw _ (List.mem_of_getElem? (i := 41) rfl))) (g := (mkF m 6 #[.val (.long x0), .second, .val (.long x1), .second] [(.long x1), (.long (x0 ^^^ (-9223372036854775808 : Int64)))])) rfl (hb hby d7_6) _ ?_
    show Steps p.tables e below (s₁.setTop (mkF m 9 #[.val (.long x0), .second, .val (.long x1), .second] [(.long (-9223372036854775808 : Int64)), (.long x1), (.long (x0 ^^^ (-9223372036854775808 : Int64)))])) _
    refine XS.lxor X0.here hx rfl (hb hby d7_9) rfl ?_
    show Steps p.tables e below (s₁.setTop (mkF m 10 #[.val (.long x0), .second, .val (.long x1), .second] [(.long (x1 ^^^ (-9223372036854775808 : Int64))), (.long (x0 ^^^ (-9223372036854775808 : Int64)))])) _
    refine own_xlcmp X0.here hx rfl (hb hby d7_10) rfl ?_
    exact k
  obtain ⟨T4, L4, X4, N4, e4, pre4⟩ : ∃ (T' : State) (L' : List Loc), Stand p l e ({ frames := 0, cells := 0, slots := 0, locals := 0 } : Room) s m #[(.long x0), (.long x1)] below meth c T' L' 0 0 ∧ Fr n0 L' ∧ T'.heap = h0 ∧ ∀ t, Steps p.tables e below (T'.setTop (mkF m 19 #[.val (.long x0), .second, .val (.long x1), .second] [(.int (f7_j3 x0 x1))])) t → Steps p.tables e below (s₁.setTop (entryFrame m #[(.long x0), (.long x1)] 4)) t := by
    rcases Bool.eq_false_or_eq_true (ifCond.holds .gt (own_cmp (x0 ^^^ (-9223372036854775808 : Int64)) (x1 ^^^ (-9223372036854775808 : Int64)))) with hc2 | hc2
    · have pre5 : ∀ t, Steps p.tables e below (s₁.setTop (mkF m 19 #[.val (.long x0), .second, .val (.long x1), .second] [(.int (0 : Int32))])) t → Steps p.tables e below (s₁.setTop (entryFrame m #[(.long x0), (.long x1)] 4)) t := by
        intro t k
        refine pre1 _ ?_
        show Steps p.tables e below (s₁.setTop (mkF m 11 #[.val (.long x0), .second, .val (.long x1), .second] [(.int (own_cmp (x0 ^^^ (-9223372036854775808 : Int64)) (x1 ^^^ (-9223372036854775808 : Int64))))])) _
        refine XS.ifYes X0.here hx rfl (pc0 := 11) (pc' := 18) rfl (hb hby d7_11) rfl hc2 (by decide) (by decide) ?_
        show Steps p.tables e below (s₁.setTop (mkF m 18 #[.val (.long x0), .second, .val (.long x1), .second] [])) _
        refine XS.iconst X0.here hx rfl (hb hby d7_18) ?_
        exact k
      have qj0 : (f7_j3 x0 x1) = (0 : Int32) := if_pos hc2
      refine ⟨s₁, _, X0, N0, e0, fun t k => pre5 _ ?_⟩
      rw [qj0] at k
      exact k
    · have pre6 : ∀ t, Steps p.tables e below (s₁.setTop (mkF m 19 #[.val (.long x0), .second, .val (.long x1), .second] [(.int (1 : Int32))])) t → Steps p.tables e below (s₁.setTop (entryFrame m #[(.long x0), (.long x1)] 4)) t := by
        intro t k
        refine pre1 _ ?_
        show Steps p.tables e below (s₁.setTop (mkF m 11 #[.val (.long x0), .second, .val (.long x1), .second] [(.int (own_cmp (x0 ^^^ (-9223372036854775808 : Int64)) (x1 ^^^ (-9223372036854775808 : Int64))))])) _
        refine XS.ifNo X0.here hx rfl (hb hby d7_11) rfl hc2 ?_
        show Steps p.tables e below (s₁.setTop (mkF m 14 #[.val (.long x0), .second, .val (.long x1), .second] [])) _
        refine XS.iconst X0.here hx rfl (hb hby d7_14) ?_
        show Steps p.tables e below (s₁.setTop (mkF m 15 #[.val (.long x0), .second, .val (.long x1), .second] [(.int (1 : Int32))])) _
        refine XS.goto X0.here hx rfl (pc0 := 15) (pc' := 19) rfl (hb hby d7_15) (by decide) (by decide) ?_
        exact k
      have qj0 : (f7_j3 x0 x1) = (1 : Int32) := if_neg (own_nt hc2)
      refine ⟨s₁, _, X0, N0, e0, fun t k => pre6 _ ?_⟩
      rw [qj0] at k
      exact k
  obtain ⟨fs, hr, hrun, hended, hW, hsame⟩ := X4.leave (v := some (.int (nar .boolean (f7_j3 x0 x1)))) (fun h => by rw [hret] at h; cases h)
  refine ⟨_, _, pre4 _ ?_, hrun, hended, _, _, rfl, ?_, ⟨_, rfl⟩, hW, hsame.mono (by decide) (by decide)⟩
  · show Steps p.tables e below (T4.setTop (mkF m 19 #[.val (.long x0), .second, .val (.long x1), .second] [(.int (f7_j3 x0 x1))])) _
    exact retN X4 hx (t := .boolean) hret (by simp) (hb hby d7_19) hr
  · show Q7 Z x0 x1 h0 n0 _ T4.heap _
    rw [e4]
    have rr : f7 x0 x1 = (nar .boolean (f7_j3 x0 x1)) := rfl
    exact ⟨congrArg (fun z => some (Value.int z)) rr.symm, N4, rfl⟩
-- body 8: com/example/tick_wheel/tickwheel/wheel/TickGrid.boundaryAt:(J)J
theorem d8_0 : decode prog_3_method_7_code 0 = .ok (.aload_n 0, 1) := by decide +kernel
theorem d8_1 : decode prog_3_method_7_code 1 = .ok (.getfield 24, 3) := by decide +kernel
theorem d8_4 : decode prog_3_method_7_code 4 = .ok (.lload_n 1, 1) := by decide +kernel
theorem d8_5 : decode prog_3_method_7_code 5 = .ok (.aload_n 0, 1) := by decide +kernel
theorem d8_6 : decode prog_3_method_7_code 6 = .ok (.getfield 28, 3) := by decide +kernel
theorem d8_9 : decode prog_3_method_7_code 9 = .ok (.lmul, 1) := by decide +kernel
theorem d8_10 : decode prog_3_method_7_code 10 = .ok (.ladd, 1) := by decide +kernel
theorem d8_11 : decode prog_3_method_7_code 11 = .ok (.lreturn, 1) := by decide +kernel
theorem ef_8 (m : MethodId) (x0 : Addr) (x1 : Int64) : entryFrame m #[(.ref x0), (.long x1)] 3 = mkF m 0 #[.val (.ref x0), .val (.long x1), .second] [] := by first | (simp [entryFrame, mkF, argsToLocals, Value.category]; done) | rfl
def f8 (x1 : Int64) (w_startNanos_x0 : Int64) (w_tickNanos_x0 : Int64) : Int64 := (w_startNanos_x0 + (x1 * w_tickNanos_x0))
def Q8 (Z : State) (x0 : Addr) (x1 : Int64) (w_startNanos_x0 : Int64) (w_tickNanos_x0 : Int64) (h0 : Heap) (n0 : Nat) (v : Option Value) (h : Heap) (L : List Loc) : Prop := v = some (.long (f8 x1 w_startNanos_x0 w_tickNanos_x0)) ∧ Fr n0 L ∧ h = h0
set_option maxRecDepth 65536 in
set_option maxHeartbeats 40000000 in
theorem rm8 (l : Launch) (Z : State) (a0 : Array Value) (hw : ∀ d ∈ tables_1, d.before a0 Z = true) (ws : List Jvm.Cond) (x0 : Addr) (x1 : Int64) (w_startNanos_x0 : Int64) (w_tickNanos_x0 : Int64) (h0 : Heap) (n0 : Nat) (Z0 : n0 ≤ h0.size) (F_x0_startNanos : Fld Z h0 x0 "com/example/tick_wheel/tickwheel/wheel/TickGrid" "startNanos" "J" (.long w_startNanos_x0)) (F_x0_tickNanos : Fld Z h0 x0 "com/example/tick_wheel/tickwheel/wheel/TickGrid" "tickNanos" "J" (.long w_tickNanos_x0)) :
    MetFree l (⟨"com/example/tick_wheel/tickwheel/wheel/TickGrid", "boundaryAt", "(J)J"⟩ : MethodName) (head1 (Jvm.Cond.code (⟨"com/example/tick_wheel/tickwheel/wheel/TickGrid", "boundaryAt", "(J)J"⟩ : MethodName) prog_3_method_7_code 3 (some .long) :: ws) ({ frames := 0, cells := 0, slots := 0, locals := 0 } : Room)) (fun a U => a = #[(.ref x0), (.long x1)] ∧ Z.Warmed39 U.vm ∧ U.heap = h0) (fun _ _ _ _ _ => True) (fun _ U o U' => ∃ v L, o = .returned v ∧ Q8 Z x0 x1 w_startNanos_x0 w_tickNanos_x0 h0 n0 v U'.heap L ∧ FrameEnd U o U' L ({ frames := 0, cells := 0, slots := 0, locals := 0 } : Room).cells ({ frames := 0, cells := 0, slots := 0, locals := 0 } : Room).slots) := by
  refine MetFree.of_bodySF (plainFor_of_name pn_0) hisR ?_
  intro p e s m args below meth c s₁ Bd hml0 hP hK0
  obtain ⟨rfl, hZ, hh⟩ := hP
  have hx := Bd.exec
  have hby := Bd.bytes
  have hml : c.maxLocals = 3 := hml0
  have hown : s.vm.findClass "com/example/tick_wheel/tickwheel/wheel/TickGrid" = some m.cls := findClass_of_methodNamed Bd.named
  have hnm := (name_of_methodNamed Bd.named Bd.method).1
  have hret : meth.sig.returnType = some .long := Bd.returns
  have hlk : meth.locks = false := Bd.notSynchronized
  have X0 : Stand p l e ({ frames := 0, cells := 0, slots := 0, locals := 0 } : Room) s m #[(.ref x0), (.long x1)] below meth c s₁ [] 0 0 := Stand.of_body Bd
  have e0 : s₁.heap = h0 := by rw [← hh, Bd.state]; rfl
  have N0 := Fr.nil n0
  have pre0 : ∀ t, Steps p.tables e below (s₁.setTop (mkF m 0 #[.val (.ref x0), .val (.long x1), .second] [])) t → Steps p.tables e below (s₁.setTop (entryFrame m #[(.ref x0), (.long x1)] 3)) t := fun t k => castTop (ef_8 m x0 x1) k
  obtain ⟨T1, X1, e1, st1⟩ := getF X0 hx hZ hown (host := "") (Or.inl (hw _ (List.mem_of_getElem? (i := 14) rfl))) Via.refl e0 F_x0_startNanos (g := (mkF m 1 #[.val (.ref x0), .val (.long x1), .second] [(.ref x0)])) rfl rfl (hb hby d8_1)
  obtain ⟨T2, X2, e2, st2⟩ := getF X1 hx hZ hown (host := "") (Or.inl (hw _ (List.mem_of_getElem? (i := 16) rfl))) Via.refl e1 F_x0_tickNanos (g := (mkF m 6 #[.val (.ref x0), .val (.long x1), .second] [(.ref x0), (.long x1), (.long w_startNanos_x0)])) rfl rfl (hb hby d8_6)
  obtain ⟨fs, hr, hrun, hended, hW, hsame⟩ := X2.leave (v := some (.long (w_startNanos_x0 + (x1 * w_tickNanos_x0)))) (fun h => by rw [hret] at h; cases h)
  refine ⟨_, _, pre0 _ ?_, hrun, hended, _, _, rfl, ?_, ⟨_, rfl⟩, hW, hsame.mono (by decide) (by decide)⟩
  · show Steps p.tables e below (s₁.setTop (mkF m 0 #[.val (.ref x0), .val (.long x1), .second] [])) _
    refine XS.aloadN X0.here hx rfl (hb hby d8_0) rfl rfl ?_
    show Steps p.tables e below (s₁.setTop (mkF m 1 #[.val (.ref x0), .val (.long x1), .second] [(.ref x0)])) _
    refine st1 _ ?_
    show Steps p.tables e below (T1.setTop (mkF m 4 #[.val (.ref x0), .val (.long x1), .second] [(.long w_startNanos_x0)])) _
    refine XS.lloadN X1.here hx rfl (hb hby d8_4) rfl ?_
    show Steps p.tables e below (T1.setTop (mkF m 5 #[.val (.ref x0), .val (.long x1), .second] [(.long x1), (.long w_startNanos_x0)])) _
    refine XS.aloadN X1.here hx rfl (hb hby d8_5) rfl rfl ?_
    show Steps p.tables e below (T1.setTop (mkF m 6 #[.val (.ref x0), .val (.long x1), .second] [(.ref x0), (.long x1), (.long w_startNanos_x0)])) _
    refine st2 _ ?_
    show Steps p.tables e below (T2.setTop (mkF m 9 #[.val (.ref x0), .val (.long x1), .second] [(.long w_tickNanos_x0), (.long x1), (.long w_startNanos_x0)])) _
    refine XS.lmul X2.here hx rfl (hb hby d8_9) rfl ?_
    show Steps p.tables e below (T2.setTop (mkF m 10 #[.val (.ref x0), .val (.long x1), .second] [(.long (x1 * w_tickNanos_x0)), (.long w_startNanos_x0)])) _
    refine XS.ladd X2.here hx rfl (hb hby d8_10) rfl ?_
    show Steps p.tables e below (T2.setTop (mkF m 11 #[.val (.ref x0), .val (.long x1), .second] [(.long (w_startNanos_x0 + (x1 * w_tickNanos_x0)))])) _
    exact X2.lreturnOut hx hret (hb hby d8_11) hr
  · show Q8 Z x0 x1 w_startNanos_x0 w_tickNanos_x0 h0 n0 _ T2.heap _
    rw [e2]
    have rr : f8 x1 w_startNanos_x0 w_tickNanos_x0 = (w_startNanos_x0 + (x1 * w_tickNanos_x0)) := rfl
    exact ⟨congrArg (fun z => some (Value.long z)) rr.symm, N0, rfl⟩
theorem pd_2 : parseMethodDescriptor "(JJ)V" = some ⟨[.long, .long], none⟩ := by decide +kernel
theorem pd_3 : parseMethodDescriptor "(J)J" = some ⟨[.long], some .long⟩ := by decide +kernel
theorem pd_4 : parseMethodDescriptor "(JJ)Z" = some ⟨[.long, .long], some .boolean⟩ := by decide +kernel
-- body 0: com/example/tick_wheel/tickwheel/wheel/TickGridBoundaryAtPinLaw.law:(JJJI)Z
theorem ef_0 (m : MethodId) (x0 : Int64) (x1 : Int64) (x2 : Int64) (x3 : Int32) : entryFrame m #[(.long x0), (.long x1), (.long x2), (.int x3)] maxLocals = mkF m 0 #[.val (.long x0), .second, .val (.long x1), .second, .val (.long x2), .second, .val (.int x3), .unset, .unset, .unset, .unset, .unset, .unset, .unset, .unset, .unset, .unset, .unset, .unset, .unset] [] := by first | (simp [entryFrame, mkF, argsToLocals, Value.category, maxLocals]; done) | rfl
def f0_v5 (x0 : Int64) (x1 : Int64) (x2 : Int64) (x3 : Int32) : Int64 := (x1 &&& (9223372036854775807 : Int64))
def f0_j8 (x0 : Int64) (x1 : Int64) (x2 : Int64) (x3 : Int32) : Int64 := if ifCond.holds .ne (own_cmp (f0_v5 x0 x1 x2 x3) (0 : Int64)) = true then (f0_v5 x0 x1 x2 x3) else (9223372036854775807 : Int64)
def f0_v12 (x0 : Int64) (x1 : Int64) (x2 : Int64) (x3 : Int32) : Int64 := ((x1 &&& (65535 : Int64)) + (1 : Int64))
def f0_j13 (x0 : Int64) (x1 : Int64) (x2 : Int64) (x3 : Int32) : Int64 := if ifCond.holds .eq (x3 &&& (1 : Int32)) = true then (f0_j8 x0 x1 x2 x3) else (f0_v12 x0 x1 x2 x3)
def f0_v23 (x0 : Int64) (x1 : Int64) (x2 : Int64) (x3 : Int32) : Int64 := (f5 (9223372036854775807 : Int64) x0 (x0 + ((f1_v14 x0 (f0_j13 x0 x1 x2 x3)) * (f0_j13 x0 x1 x2 x3))) (f0_j13 x0 x1 x2 x3))
def f0_v25 (x0 : Int64) (x1 : Int64) (x2 : Int64) (x3 : Int32) : Int64 := (f6 (f0_v23 x0 x1 x2 x3) x0 (f0_j13 x0 x1 x2 x3))
def f0_v26 (x0 : Int64) (x1 : Int64) (x2 : Int64) (x3 : Int32) : Int64 := (x2 &&& (255 : Int64))
def f0_v33 (x0 : Int64) (x1 : Int64) (x2 : Int64) (x3 : Int32) : Int64 := (own_lrem (f0_v26 x0 x1 x2 x3) ((f0_v25 x0 x1 x2 x3) + (1 : Int64)))
def f0_v34 (x0 : Int64) (x1 : Int64) (x2 : Int64) (x3 : Int32) : Int64 := ((f0_v25 x0 x1 x2 x3) - (f0_v26 x0 x1 x2 x3))
def f0_j35 (x0 : Int64) (x1 : Int64) (x2 : Int64) (x3 : Int32) : Int64 := if ifCond.holds .eq (f7 (f0_v26 x0 x1 x2 x3) (f0_v25 x0 x1 x2 x3)) = true then (f0_v33 x0 x1 x2 x3) else (f0_v34 x0 x1 x2 x3)
def f0_j39 (x0 : Int64) (x1 : Int64) (x2 : Int64) (x3 : Int32) : Int64 := if ifCond.holds .eq (f7 x2 (f0_v25 x0 x1 x2 x3)) = true then (f0_j35 x0 x1 x2 x3) else x2
def f0_v43 (x0 : Int64) (x1 : Int64) (x2 : Int64) (x3 : Int32) : Int64 := (f8 (f0_j39 x0 x1 x2 x3) x0 (f0_j13 x0 x1 x2 x3))
def f0_j54 (x0 : Int64) (x1 : Int64) (x2 : Int64) (x3 : Int32) : Int32 := if ifCond.holds .ne (own_cmp (f6 (f0_v43 x0 x1 x2 x3) x0 (f0_j13 x0 x1 x2 x3)) (f0_j39 x0 x1 x2 x3)) = true then (0 : Int32) else (1 : Int32)
def f0 (x0 : Int64) (x1 : Int64) (x2 : Int64) (x3 : Int32) : Int32 := (if ifCond.holds .ne (own_cmp x0 (9223372036854775807 : Int64)) = true then (if ifCond.holds .gt (own_cmp x0 (f0_v43 x0 x1 x2 x3)) = true then (0 : Int32) else (if ifCond.holds .le (own_cmp (f0_v43 x0 x1 x2 x3) (f0_v23 x0 x1 x2 x3)) = true then (if ifCond.holds .eq (own_cmp (f5 (f0_v43 x0 x1 x2 x3) x0 (x0 + ((f1_v14 x0 (f0_j13 x0 x1 x2 x3)) * (f0_j13 x0 x1 x2 x3))) (f0_j13 x0 x1 x2 x3)) (f0_v43 x0 x1 x2 x3)) = true then (nar .boolean (f0_j54 x0 x1 x2 x3)) else (0 : Int32)) else (0 : Int32))) else (1 : Int32))
theorem own_tick (x0 x1 x2 : Int64) (x3 : Int32) : (0 : Int64).toInt < (f0_j13 x0 x1 x2 x3).toInt := by
  have a1 : (x1 &&& (9223372036854775807 : Int64)).toInt = x1.toInt % 9223372036854775808 := c_maskL x1 9223372036854775807 63 (by decide) (by decide)
  have a2 : (x1 &&& (65535 : Int64)).toInt = x1.toInt % 65536 := c_maskL x1 65535 16 (by decide) (by decide)
  have e0 : (0 : Int64).toInt = 0 := rfl
  have e1 : (1 : Int64).toInt = 1 := rfl
  have eM : (9223372036854775807 : Int64).toInt = 9223372036854775807 := rfl
  have a3 := c_ladd (x1 &&& (65535 : Int64)) 1
  have a4 := rng64 ((x1 &&& (65535 : Int64)) + 1)
  unfold f0_j13 f0_j8 f0_v5 f0_v12
  simp only [own_cne]
  split
  · split <;> omega
  · omega
theorem own_cgt_n {x y : Int64} (h : ifCond.holds .gt (own_cmp x y) = false) : x.toInt ≤ y.toInt := by
  have q : ¬ ifCond.holds .gt (own_cmp x y) = true := own_nt h
  rw [own_cgt] at q
  omega
/-- x ^ Long.MIN_VALUE: the unsigned order as a signed one -/
theorem own_xmin (x : Int64) : (x ^^^ (-9223372036854775808 : Int64)).toInt = x.toInt % 18446744073709551616 - 9223372036854775808 := by
  have n1 := own_n64 x
  have n2 := own_n64 (x ^^^ (-9223372036854775808 : Int64))
  have r1 := rng64 (x ^^^ (-9223372036854775808 : Int64))
  have h := x.toBitVec.isLt
  have e : (x ^^^ (-9223372036854775808 : Int64)).toBitVec.toNat = x.toBitVec.toNat ^^^ 2 ^ 63 := by
    show (x.toBitVec ^^^ (-9223372036854775808 : Int64).toBitVec).toNat = _
    rw [BitVec.toNat_xor]
    rfl
  have q1 : (x.toBitVec.toNat ^^^ 2 ^ 63) % 2 ^ 63 = x.toBitVec.toNat % 2 ^ 63 := by
    rw [Nat.xor_mod_two_pow, Nat.mod_self, Nat.xor_zero]
  have q2 : (x.toBitVec.toNat ^^^ 2 ^ 63) / 2 ^ 63 = x.toBitVec.toNat / 2 ^ 63 ^^^ 1 := by
    rw [Nat.xor_div_two_pow, Nat.div_self (by decide)]
  rw [← e] at q1 q2
  generalize (x ^^^ (-9223372036854775808 : Int64)).toBitVec.toNat = m at *
  generalize x.toBitVec.toNat = n at *
  have hd : n / 2 ^ 63 = 0 ∨ n / 2 ^ 63 = 1 := by omega
  rcases hd with hd | hd <;> rw [hd] at q2
  · have q3 : m / 2 ^ 63 = 1 := q2
    omega
  · have q3 : m / 2 ^ 63 = 0 := q2
    omega
theorem own_f7 (x y : Int64) : (x.toInt % 18446744073709551616 ≤ y.toInt % 18446744073709551616 ∧ f7 x y = 1) ∨ (¬ x.toInt % 18446744073709551616 ≤ y.toInt % 18446744073709551616 ∧ f7 x y = 0) := by
  have a1 := own_xmin x
  have a2 := own_xmin y
  unfold f7 f7_j3
  by_cases h : (y ^^^ (-9223372036854775808 : Int64)).toInt < (x ^^^ (-9223372036854775808 : Int64)).toInt
  · rw [if_pos (by rw [own_cgt]; exact h)]
    exact Or.inr ⟨by omega, rfl⟩
  · rw [if_neg (by rw [own_cgt]; exact h)]
    exact Or.inl ⟨by omega, rfl⟩
theorem own_kz {l k : Int64} (h : ifCond.holds .eq (f7 l k) = true) : k + 1 ≠ 0 := by
  intro q
  have e1 : (1 : Int64).toInt = 1 := rfl
  have e0 : (0 : Int64).toInt = 0 := rfl
  have a1 := c_ladd k 1
  rw [q] at a1
  have r1 := rng64 k
  have r2 := rng64 l
  rcases own_f7 l k with ⟨-, h2⟩ | ⟨h1, -⟩
  · rw [h2] at h
    exact absurd h (by decide)
  · omega
def Q0 (Z : State) (x0 : Int64) (x1 : Int64) (x2 : Int64) (x3 : Int32) (h0 : Heap) (n0 : Nat) (v : Option Value) (h : Heap) (L : List Loc) : Prop := v = some (.int (f0 x0 x1 x2 x3)) ∧ Fr n0 L
set_option maxRecDepth 65536 in
set_option maxHeartbeats 40000000 in
theorem rm0 (l : Launch) (Z : State) (a0 : Array Value) (hw : ∀ d ∈ tables_1, d.before a0 Z = true) (ws : List Jvm.Cond) (x0 : Int64) (x1 : Int64) (x2 : Int64) (x3 : Int32) (h0 : Heap) (n0 : Nat) (Z0 : n0 ≤ h0.size) :
    MetFree l x (head1 (Jvm.Cond.code x code maxLocals ret :: ws) room_1) (fun a U => a = #[(.long x0), (.long x1), (.long x2), (.int x3)] ∧ Z.Warmed39 U.vm ∧ U.heap = h0) (fun _ _ _ _ _ => True) (fun _ U o U' => ∃ v L, o = .returned v ∧ Q0 Z x0 x1 x2 x3 h0 n0 v U'.heap L ∧ FrameEnd U o U' L 1 3) := by
  refine MetFree.of_bodySF (plainFor_of_name pn_2) hisR ?_
  intro p e s m args below meth c s₁ Bd hml0 hP hK0
  obtain ⟨rfl, hZ, hh⟩ := hP
  have hx := Bd.exec
  have hby := Bd.bytes
  have hml : c.maxLocals = 20 := hml0
  have hown : s.vm.findClass "com/example/tick_wheel/tickwheel/wheel/TickGridBoundaryAtPinLaw" = some m.cls := findClass_of_methodNamed Bd.named
  have hnm := (name_of_methodNamed Bd.named Bd.method).1
  have hret : meth.sig.returnType = ret := Bd.returns
  have hlk : meth.locks = false := Bd.notSynchronized
  have X0 : Stand p l e room_1 s m #[(.long x0), (.long x1), (.long x2), (.int x3)] below meth c s₁ [] 0 0 := Stand.of_body Bd
  have e0 : s₁.heap = h0 := by rw [← hh, Bd.state]; rfl
  have N0 := Fr.nil n0
  have pre0 : ∀ t, Steps p.tables e below (s₁.setTop (mkF m 0 #[.val (.long x0), .second, .val (.long x1), .second, .val (.long x2), .second, .val (.int x3), .unset, .unset, .unset, .unset, .unset, .unset, .unset, .unset, .unset, .unset, .unset, .unset, .unset] [])) t → Steps p.tables e below (s₁.setTop (entryFrame m #[(.long x0), (.long x1), (.long x2), (.int x3)] maxLocals)) t := fun t k => castTop (ef_0 m x0 x1 x2 x3) k
  obtain ⟨ov5, h_ov5⟩ : ∃ z : Int64, z = (f0_v5 x0 x1 x2 x3) := ⟨_, rfl⟩
  have d_ov5 : ov5 = (x1 &&& (9223372036854775807 : Int64)) := by
    rw [h_ov5]
    rfl
  obtain ⟨oj8, h_oj8⟩ : ∃ z : Int64, z = (f0_j8 x0 x1 x2 x3) := ⟨_, rfl⟩
  have d_oj8 : oj8 = if ifCond.holds .ne (own_cmp ov5 (0 : Int64)) = true then ov5 else (9223372036854775807 : Int64) := by
    rw [h_oj8, h_ov5]
    rfl
  obtain ⟨ov12, h_ov12⟩ : ∃ z : Int64, z = (f0_v12 x0 x1 x2 x3) := ⟨_, rfl⟩
  have d_ov12 : ov12 = ((x1 &&& (65535 : Int64)) + (1 : Int64)) := by
    rw [h_ov12]
    rfl
  obtain ⟨oj13, h_oj13⟩ : ∃ z : Int64, z = (f0_j13 x0 x1 x2 x3) := ⟨_, rfl⟩
  have d_oj13 : oj13 = if ifCond.holds .eq (x3 &&& (1 : Int32)) = true then oj8 else ov12 := by
    rw [h_oj13, h_oj8, h_ov12]
    rfl
  obtain ⟨ov23, h_ov23⟩ : ∃ z : Int64, z = (f0_v23 x0 x1 x2 x3) := ⟨_, rfl⟩
  have d_ov23 : ov23 = (f5 (9223372036854775807 : Int64) x0 (x0 + ((f1_v14 x0 oj13) * oj13)) oj13) := by
    rw [h_ov23, h_oj13]
    rfl
  obtain ⟨ov25, h_ov25⟩ : ∃ z : Int64, z = (f0_v25 x0 x1 x2 x3) := ⟨_, rfl⟩
  have d_ov25 : ov25 = (f6 ov23 x0 oj13) := by
    rw [h_ov25, h_oj13, h_ov23]
    rfl
  obtain ⟨ov26, h_ov26⟩ : ∃ z : Int64, z = (f0_v26 x0 x1 x2 x3) := ⟨_, rfl⟩
  have d_ov26 : ov26 = (x2 &&& (255 : Int64)) := by
    rw [h_ov26]
    rfl
  obtain ⟨ov33, h_ov33⟩ : ∃ z : Int64, z = (f0_v33 x0 x1 x2 x3) := ⟨_, rfl⟩
  have d_ov33 : ov33 = (own_lrem ov26 (ov25 + (1 : Int64))) := by
    rw [h_ov33, h_ov25, h_ov26]
    rfl
  obtain ⟨ov34, h_ov34⟩ : ∃ z : Int64, z = (f0_v34 x0 x1 x2 x3) := ⟨_, rfl⟩
  have d_ov34 : ov34 = (ov25 - ov26) := by
    rw [h_ov34, h_ov25, h_ov26]
    rfl
  obtain ⟨oj35, h_oj35⟩ : ∃ z : Int64, z = (f0_j35 x0 x1 x2 x3) := ⟨_, rfl⟩
  have d_oj35 : oj35 = if ifCond.holds .eq (f7 ov26 ov25) = true then ov33 else ov34 := by
    rw [h_oj35, h_ov25, h_ov26, h_ov33, h_ov34]
    rfl
  obtain ⟨oj39, h_oj39⟩ : ∃ z : Int64, z = (f0_j39 x0 x1 x2 x3) := ⟨_, rfl⟩
  have d_oj39 : oj39 = if ifCond.holds .eq (f7 x2 ov25) = true then oj35 else x2 := by
    rw [h_oj39, h_oj35, h_ov25]
    rfl
  obtain ⟨ov43, h_ov43⟩ : ∃ z : Int64, z = (f0_v43 x0 x1 x2 x3) := ⟨_, rfl⟩
  have d_ov43 : ov43 = (f8 oj39 x0 oj13) := by
    rw [h_ov43, h_oj13, h_oj39]
    rfl
  obtain ⟨oj54, h_oj54⟩ : ∃ z : Int32, z = (f0_j54 x0 x1 x2 x3) := ⟨_, rfl⟩
  have d_oj54 : oj54 = if ifCond.holds .ne (own_cmp (f6 ov43 x0 oj13) oj39) = true then (0 : Int32) else (1 : Int32) := by
    rw [h_oj54, h_oj13, h_oj39, h_ov43]
    rfl
  have hroot : f0 x0 x1 x2 x3 = (if ifCond.holds .ne (own_cmp x0 (9223372036854775807 : Int64)) = true then (if ifCond.holds .gt (own_cmp x0 ov43) = true then (0 : Int32) else (if ifCond.holds .le (own_cmp ov43 ov23) = true then (if ifCond.holds .eq (own_cmp (f5 ov43 x0 (x0 + ((f1_v14 x0 oj13) * oj13)) oj13) ov43) = true then (nar .boolean oj54) else (0 : Int32)) else (0 : Int32))) else (1 : Int32)) := by
    rw [h_oj13, h_oj54, h_ov23, h_ov43]
    rfl
  have pre1 : ∀ t, Steps p.tables e below (s₁.setTop (mkF m 5 #[.val (.long x0), .second, .val (.long x1), .second, .val (.long x2), .second, .val (.int x3), .unset, .unset, .unset, .unset, .unset, .unset, .unset, .unset, .unset, .unset, .unset, .unset, .unset] [(.int (own_cmp x0 (9223372036854775807 : Int64)))])) t → Steps p.tables e below (s₁.setTop (entryFrame m #[(.long x0), (.long x1), (.long x2), (.int x3)] maxLocals)) t := by
    intro t k
    refine pre0 _ ?_
    show Steps p.tables e below (s₁.setTop (mkF m 0 #[.val (.long x0), .second, .val (.long x1), .second, .val (.long x2), .second, .val (.int x3), .unset, .unset, .unset, .unset, .unset, .unset, .unset, .unset, .unset, .unset, .unset, .unset, .unset] [])) _
    refine XS.lloadN X0.here hx rfl (hb hby at_0) rfl ?_
    show Steps p.tables e below (s₁.setTop (mkF m 1 #[.val (.long x0), .second, .val (.long x1), .second, .val (.long x2), .second, .val (.int x3), .unset, .unset, .unset, .unset, .unset, .unset, .unset, .unset, .unset, .unset, .unset, .unset, .unset] [(.long x0)])) _
    refine X0.ldc2Long hx hown (mvT hZ (hw _ (List.mem_of_getElem? (i := 0) rfl))) (g := (mkF m 1 #[.val (.long x0), .second, .val (.long x1), .second, .val (.long x2), .second, .val (.int x3), .unset, .unset, .unset, .unset, .unset, .unset, .unset, .unset, .unset, .unset, .unset, .unset, .unset] [(.long x0)])) rfl (hb hby at_1) _ ?_
    show Steps p.tables e below (s₁.setTop (mkF m 4 #[.val (.long x0), .second, .val (.long x1), .second, .val (.long x2), .second, .val (.int x3), .unset, .unset, .unset, .unset, .unset, .unset, .unset, .unset, .unset, .unset, .unset, .unset, .unset] [(.long (9223372036854775807 : Int64)), (.long x0)])) _
    refine own_xlcmp X0.here hx rfl (hb hby at_4) rfl ?_
    exact k
  rcases Bool.eq_false_or_eq_true (ifCond.holds .ne (own_cmp x0 (9223372036854775807 : Int64))) with hc2 | hc2
  · have pre3 : ∀ t, Steps p.tables e below (s₁.setTop (mkF m 14 #[.val (.long x0), .second, .val (.long x1), .second, .val (.long x2), .second, .val (.int x3), .unset, .unset, .unset, .unset, .unset, .unset, .unset, .unset, .unset, .unset, .unset, .unset, .unset] [(.int (x3 &&& (1 : Int32)))])) t → Steps p.tables e below (s₁.setTop (entryFrame m #[(.long x0), (.long x1), (.long x2), (.int x3)] maxLocals)) t := by
      intro t k
      refine pre1 _ ?_
      show Steps p.tables e below (s₁.setTop (mkF m 5 #[.val (.long x0), .second, .val (.long x1), .second, .val (.long x2), .second, .val (.int x3), .unset, .unset, .unset, .unset, .unset, .unset, .unset, .unset, .unset, .unset, .unset, .unset, .unset] [(.int (own_cmp x0 (9223372036854775807 : Int64)))])) _
      refine XS.ifYes X0.here hx rfl (pc0 := 5) (pc' := 10) rfl (hb hby at_5) rfl hc2 (by decide) (by decide) ?_
      show Steps p.tables e below (s₁.setTop (mkF m 10 #[.val (.long x0), .second, .val (.long x1), .second, .val (.long x2), .second, .val (.int x3), .unset, .unset, .unset, .unset, .unset, .unset, .unset, .unset, .unset, .unset, .unset, .unset, .unset] [])) _
      refine XS.iload X0.here hx rfl (hb hby at_10) rfl ?_
      show Steps p.tables e below (s₁.setTop (mkF m 12 #[.val (.long x0), .second, .val (.long x1), .second, .val (.long x2), .second, .val (.int x3), .unset, .unset, .unset, .unset, .unset, .unset, .unset, .unset, .unset, .unset, .unset, .unset, .unset] [(.int x3)])) _
      refine XS.iconst X0.here hx rfl (hb hby at_12) ?_
      show Steps p.tables e below (s₁.setTop (mkF m 13 #[.val (.long x0), .second, .val (.long x1), .second, .val (.long x2), .second, .val (.int x3), .unset, .unset, .unset, .unset, .unset, .unset, .unset, .unset, .unset, .unset, .unset, .unset, .unset] [(.int (1 : Int32)), (.int x3)])) _
      refine XS.iand X0.here hx rfl (hb hby at_13) rfl ?_
      exact k
    obtain ⟨T14, L14, X14, N14, e14, pre14⟩ : ∃ (T' : State) (L' : List Loc), Stand p l e room_1 s m #[(.long x0), (.long x1), (.long x2), (.int x3)] below meth c T' L' 0 0 ∧ Fr n0 L' ∧ T'.heap = h0 ∧ ∀ t, Steps p.tables e below (T'.setTop (mkF m 48 #[.val (.long x0), .second, .val (.long x1), .second, .val (.long x2), .second, .val (.int x3), .val (.long oj13), .second, .unset, .unset, .unset, .unset, .unset, .unset, .unset, .unset, .unset, .unset, .unset] [])) t → Steps p.tables e below (s₁.setTop (entryFrame m #[(.long x0), (.long x1), (.long x2), (.int x3)] maxLocals)) t := by
      rcases Bool.eq_false_or_eq_true (ifCond.holds .eq (x3 &&& (1 : Int32))) with hc4 | hc4
      · have pre6 : ∀ t, Steps p.tables e below (s₁.setTop (mkF m 40 #[.val (.long x0), .second, .val (.long x1), .second, .val (.long x2), .second, .val (.int x3), .val (.long ov5), .second, .unset, .unset, .unset, .unset, .unset, .unset, .unset, .unset, .unset, .unset, .unset] [(.int (own_cmp ov5 (0 : Int64)))])) t → Steps p.tables e below (s₁.setTop (entryFrame m #[(.long x0), (.long x1), (.long x2), (.int x3)] maxLocals)) t := by
          intro t k
          refine pre3 _ ?_
          show Steps p.tables e below (s₁.setTop (mkF m 14 #[.val (.long x0), .second, .val (.long x1), .second, .val (.long x2), .second, .val (.int x3), .unset, .unset, .unset, .unset, .unset, .unset, .unset, .unset, .unset, .unset, .unset, .unset, .unset] [(.int (x3 &&& (1 : Int32)))])) _
          refine XS.ifYes X0.here hx rfl (pc0 := 14) (pc' := 29) rfl (hb hby at_14) rfl hc4 (by decide) (by decide) ?_
          show Steps p.tables e below (s₁.setTop (mkF m 29 #[.val (.long x0), .second, .val (.long x1), .second, .val (.long x2), .second, .val (.int x3), .unset, .unset, .unset, .unset, .unset, .unset, .unset, .unset, .unset, .unset, .unset, .unset, .unset] [])) _
          refine XS.lloadN X0.here hx rfl (hb hby at_29) rfl ?_
          show Steps p.tables e below (s₁.setTop (mkF m 30 #[.val (.long x0), .second, .val (.long x1), .second, .val (.long x2), .second, .val (.int x3), .unset, .unset, .unset, .unset, .unset, .unset, .unset, .unset, .unset, .unset, .unset, .unset, .unset] [(.long x1)])) _
          refine X0.ldc2Long hx hown (mvT hZ (hw _ (List.mem_of_getElem? (i := 0) rfl))) (g := (mkF m 30 #[.val (.long x0), .second, .val (.long x1), .second, .val (.long x2), .second, .val (.int x3), .unset, .unset, .unset, .unset, .unset, .unset, .unset, .unset, .unset, .unset, .unset, .unset, .unset] [(.long x1)])) rfl (hb hby at_30) _ ?_
          show Steps p.tables e below (s₁.setTop (mkF m 33 #[.val (.long x0), .second, .val (.long x1), .second, .val (.long x2), .second, .val (.int x3), .unset, .unset, .unset, .unset, .unset, .unset, .unset, .unset, .unset, .unset, .unset, .unset, .unset] [(.long (9223372036854775807 : Int64)), (.long x1)])) _
          refine XS.land X0.here hx rfl (hb hby at_33) rfl ?_
          show Steps p.tables e below (s₁.setTop (mkF m 34 #[.val (.long x0), .second, .val (.long x1), .second, .val (.long x2), .second, .val (.int x3), .unset, .unset, .unset, .unset, .unset, .unset, .unset, .unset, .unset, .unset, .unset, .unset, .unset] [(.long (x1 &&& (9223372036854775807 : Int64)))])) _
          rw [← d_ov5]
          refine XS.lstore X0.here hx rfl (hb hby at_34) rfl (l' := #[.val (.long x0), .second, .val (.long x1), .second, .val (.long x2), .second, .val (.int x3), .val (.long ov5), .second, .unset, .unset, .unset, .unset, .unset, .unset, .unset, .unset, .unset, .unset, .unset]) rfl ?_
          show Steps p.tables e below (s₁.setTop (mkF m 36 #[.val (.long x0), .second, .val (.long x1), .second, .val (.long x2), .second, .val (.int x3), .val (.long ov5), .second, .unset, .unset, .unset, .unset, .unset, .unset, .unset, .unset, .unset, .unset, .unset] [])) _
          refine XS.lload X0.here hx rfl (hb hby at_36) rfl ?_
          show Steps p.tables e below (s₁.setTop (mkF m 38 #[.val (.long x0), .second, .val (.long x1), .second, .val (.long x2), .second, .val (.int x3), .val (.long ov5), .second, .unset, .unset, .unset, .unset, .unset, .unset, .unset, .unset, .unset, .unset, .unset] [(.long ov5)])) _
          refine XS.lconst X0.here hx rfl (hb hby at_38) ?_
          show Steps p.tables e below (s₁.setTop (mkF m 39 #[.val (.long x0), .second, .val (.long x1), .second, .val (.long x2), .second, .val (.int x3), .val (.long ov5), .second, .unset, .unset, .unset, .unset, .unset, .unset, .unset, .unset, .unset, .unset, .unset] [(.long (0 : Int64)), (.long ov5)])) _
          refine own_xlcmp X0.here hx rfl (hb hby at_39) rfl ?_
          exact k
        obtain ⟨T9, L9, X9, N9, e9, pre9⟩ : ∃ (T' : State) (L' : List Loc), Stand p l e room_1 s m #[(.long x0), (.long x1), (.long x2), (.int x3)] below meth c T' L' 0 0 ∧ Fr n0 L' ∧ T'.heap = h0 ∧ ∀ t, Steps p.tables e below (T'.setTop (mkF m 48 #[.val (.long x0), .second, .val (.long x1), .second, .val (.long x2), .second, .val (.int x3), .val (.long oj8), .second, .unset, .unset, .unset, .unset, .unset, .unset, .unset, .unset, .unset, .unset, .unset] [])) t → Steps p.tables e below (s₁.setTop (entryFrame m #[(.long x0), (.long x1), (.long x2), (.int x3)] maxLocals)) t := by
          rcases Bool.eq_false_or_eq_true (ifCond.holds .ne (own_cmp ov5 (0 : Int64))) with hc7 | hc7
          · have pre10 : ∀ t, Steps p.tables e below (s₁.setTop (mkF m 48 #[.val (.long x0), .second, .val (.long x1), .second, .val (.long x2), .second, .val (.int x3), .val (.long ov5), .second, .unset, .unset, .unset, .unset, .unset, .unset, .unset, .unset, .unset, .unset, .unset] [])) t → Steps p.tables e below (s₁.setTop (entryFrame m #[(.long x0), (.long x1), (.long x2), (.int x3)] maxLocals)) t := by
              intro t k
              refine pre6 _ ?_
              show Steps p.tables e below (s₁.setTop (mkF m 40 #[.val (.long x0), .second, .val (.long x1), .second, .val (.long x2), .second, .val (.int x3), .val (.long ov5), .second, .unset, .unset, .unset, .unset, .unset, .unset, .unset, .unset, .unset, .unset, .unset] [(.int (own_cmp ov5 (0 : Int64)))])) _
              refine XS.ifYes X0.here hx rfl (pc0 := 40) (pc' := 48) rfl (hb hby at_40) rfl hc7 (by decide) (by decide) ?_
              exact k
            have qj0 : oj8 = ov5 := Eq.trans d_oj8 (if_pos hc7)
            refine ⟨s₁, _, X0, N0, e0, fun t k => pre10 _ ?_⟩
            rw [qj0] at k
            exact k
          · have pre11 : ∀ t, Steps p.tables e below (s₁.setTop (mkF m 48 #[.val (.long x0), .second, .val (.long x1), .second, .val (.long x2), .second, .val (.int x3), .val (.long (9223372036854775807 : Int64)), .second, .unset, .unset, .unset, .unset, .unset, .unset, .unset, .unset, .unset, .unset, .unset] [])) t → Steps p.tables e below (s₁.setTop (entryFrame m #[(.long x0), (.long x1), (.long x2), (.int x3)] maxLocals)) t := by
              intro t k
              refine pre6 _ ?_
              show Steps p.tables e below (s₁.setTop (mkF m 40 #[.val (.long x0), .second, .val (.long x1), .second, .val (.long x2), .second, .val (.int x3), .val (.long ov5), .second, .unset, .unset, .unset, .unset, .unset, .unset, .unset, .unset, .unset, .unset, .unset] [(.int (own_cmp ov5 (0 : Int64)))])) _
              refine XS.ifNo X0.here hx rfl (hb hby at_40) rfl hc7 ?_
              show Steps p.tables e below (s₁.setTop (mkF m 43 #[.val (.long x0), .second, .val (.long x1), .second, .val (.long x2), .second, .val (.int x3), .val (.long ov5), .second, .unset, .unset, .unset, .unset, .unset, .unset, .unset, .unset, .unset, .unset, .unset] [])) _
              refine X0.ldc2Long hx hown (mvT hZ (hw _ (List.mem_of_getElem? (i := 0) rfl))) (g := (mkF m 43 #[.val (.long x0), .second, .val (.long x1), .second, .val (.long x2), .second, .val (.int x3), .val (.long ov5), .second, .unset, .unset, .unset, .unset, .unset, .unset, .unset, .unset, .unset, .unset, .unset] [])) rfl (hb hby at_43) _ ?_
              show Steps p.tables e below (s₁.setTop (mkF m 46 #[.val (.long x0), .second, .val (.long x1), .second, .val (.long x2), .second, .val (.int x3), .val (.long ov5), .second, .unset, .unset, .unset, .unset, .unset, .unset, .unset, .unset, .unset, .unset, .unset] [(.long (9223372036854775807 : Int64))])) _
              refine XS.lstore X0.here hx rfl (hb hby at_46) rfl (l' := #[.val (.long x0), .second, .val (.long x1), .second, .val (.long x2), .second, .val (.int x3), .val (.long (9223372036854775807 : Int64)), .second, .unset, .unset, .unset, .unset, .unset, .unset, .unset, .unset, .unset, .unset, .unset]) rfl ?_
              exact k
            have qj0 : oj8 = (9223372036854775807 : Int64) := Eq.trans d_oj8 (if_neg (own_nt hc7))
            refine ⟨s₁, _, X0, N0, e0, fun t k => pre11 _ ?_⟩
            rw [qj0] at k
            exact k
        have qj0 : oj13 = oj8 := Eq.trans d_oj13 (if_pos hc4)
        refine ⟨T9, _, X9, N9, e9, fun t k => pre9 _ ?_⟩
        rw [qj0] at k
        exact k
      · have pre15 : ∀ t, Steps p.tables e below (s₁.setTop (mkF m 48 #[.val (.long x0), .second, .val (.long x1), .second, .val (.long x2), .second, .val (.int x3), .val (.long ov12), .second, .unset, .unset, .unset, .unset, .unset, .unset, .unset, .unset, .unset, .unset, .unset] [])) t → Steps p.tables e below (s₁.setTop (entryFrame m #[(.long x0), (.long x1), (.long x2), (.int x3)] maxLocals)) t := by
          intro t k
          refine pre3 _ ?_
          show Steps p.tables e below (s₁.setTop (mkF m 14 #[.val (.long x0), .second, .val (.long x1), .second, .val (.long x2), .second, .val (.int x3), .unset, .unset, .unset, .unset, .unset, .unset, .unset, .unset, .unset, .unset, .unset, .unset, .unset] [(.int (x3 &&& (1 : Int32)))])) _
          refine XS.ifNo X0.here hx rfl (hb hby at_14) rfl hc4 ?_
          show Steps p.tables e below (s₁.setTop (mkF m 17 #[.val (.long x0), .second, .val (.long x1), .second, .val (.long x2), .second, .val (.int x3), .unset, .unset, .unset, .unset, .unset, .unset, .unset, .unset, .unset, .unset, .unset, .unset, .unset] [])) _
          refine XS.lloadN X0.here hx rfl (hb hby at_17) rfl ?_
          show Steps p.tables e below (s₁.setTop (mkF m 18 #[.val (.long x0), .second, .val (.long x1), .second, .val (.long x2), .second, .val (.int x3), .unset, .unset, .unset, .unset, .unset, .unset, .unset, .unset, .unset, .unset, .unset, .unset, .unset] [(.long x1)])) _
          refine X0.ldc2Long hx hown (mvT hZ (hw _ (List.mem_of_getElem? (i := 50) rfl))) (g := (mkF m 18 #[.val (.long x0), .second, .val (.long x1), .second, .val (.long x2), .second, .val (.int x3), .unset, .unset, .unset, .unset, .unset, .unset, .unset, .unset, .unset, .unset, .unset, .unset, .unset] [(.long x1)])) rfl (hb hby at_18) _ ?_
          show Steps p.tables e below (s₁.setTop (mkF m 21 #[.val (.long x0), .second, .val (.long x1), .second, .val (.long x2), .second, .val (.int x3), .unset, .unset, .unset, .unset, .unset, .unset, .unset, .unset, .unset, .unset, .unset, .unset, .unset] [(.long (65535 : Int64)), (.long x1)])) _
          refine XS.land X0.here hx rfl (hb hby at_21) rfl ?_
          show Steps p.tables e below (s₁.setTop (mkF m 22 #[.val (.long x0), .second, .val (.long x1), .second, .val (.long x2), .second, .val (.int x3), .unset, .unset, .unset, .unset, .unset, .unset, .unset, .unset, .unset, .unset, .unset, .unset, .unset] [(.long (x1 &&& (65535 : Int64)))])) _
          refine XS.lconst X0.here hx rfl (hb hby at_22) ?_
          show Steps p.tables e below (s₁.setTop (mkF m 23 #[.val (.long x0), .second, .val (.long x1), .second, .val (.long x2), .second, .val (.int x3), .unset, .unset, .unset, .unset, .unset, .unset, .unset, .unset, .unset, .unset, .unset, .unset, .unset] [(.long (1 : Int64)), (.long (x1 &&& (65535 : Int64)))])) _
          refine XS.ladd X0.here hx rfl (hb hby at_23) rfl ?_
          show Steps p.tables e below (s₁.setTop (mkF m 24 #[.val (.long x0), .second, .val (.long x1), .second, .val (.long x2), .second, .val (.int x3), .unset, .unset, .unset, .unset, .unset, .unset, .unset, .unset, .unset, .unset, .unset, .unset, .unset] [(.long ((x1 &&& (65535 : Int64)) + (1 : Int64)))])) _
          rw [← d_ov12]
          refine XS.lstore X0.here hx rfl (hb hby at_24) rfl (l' := #[.val (.long x0), .second, .val (.long x1), .second, .val (.long x2), .second, .val (.int x3), .val (.long ov12), .second, .unset, .unset, .unset, .unset, .unset, .unset, .unset, .unset, .unset, .unset, .unset]) rfl ?_
          show Steps p.tables e below (s₁.setTop (mkF m 26 #[.val (.long x0), .second, .val (.long x1), .second, .val (.long x2), .second, .val (.int x3), .val (.long ov12), .second, .unset, .unset, .unset, .unset, .unset, .unset, .unset, .unset, .unset, .unset, .unset] [])) _
          refine XS.goto X0.here hx rfl (pc0 := 26) (pc' := 48) rfl (hb hby at_26) (by decide) (by decide) ?_
          exact k
        have qj0 : oj13 = ov12 := Eq.trans d_oj13 (if_neg (own_nt hc4))
        refine ⟨s₁, _, X0, N0, e0, fun t k => pre15 _ ?_⟩
        rw [qj0] at k
        exact k
    obtain ⟨T16, h16, X16, e16, E16, A16, D16, -, st16⟩ := newO X14 hx hZ hown (hw _ (List.mem_of_getElem? (i := 1) rfl)) (hw _ (List.mem_of_getElem? (i := 2) rfl)) (hw _ (List.mem_of_getElem? (i := 3) rfl)) e14 (g := (mkF m 48 #[.val (.long x0), .second, .val (.long x1), .second, .val (.long x2), .second, .val (.int x3), .val (.long oj13), .second, .unset, .unset, .unset, .unset, .unset, .unset, .unset, .unset, .unset, .unset, .unset] [])) rfl (hb hby at_48) (by decide) (by decide)
    obtain ⟨b16, gg16⟩ : ∃ z, z = h0.size := ⟨_, rfl⟩
    rw [← gg16] at A16 D16 st16
    have g_b16 : n0 ≤ b16 := Nat.le_trans Z0 (Nat.le_of_eq gg16.symm)
    have Z16 : n0 ≤ h16.size := Nat.le_trans Z0 E16.1
    have P17 : Fld Z h16 b16 "com/example/tick_wheel/tickwheel/wheel/TickGrid" "startNanos" "J" (.long (0 : Int64)) := D16 (Or.inr (hw _ (List.mem_of_getElem? (i := 15) rfl))) (ty := .long) (by decide)
    have P18 : Fld Z h16 b16 "com/example/tick_wheel/tickwheel/wheel/TickGrid" "tickNanos" "J" (.long (0 : Int64)) := D16 (Or.inr (hw _ (List.mem_of_getElem? (i := 17) rfl))) (ty := .long) (by decide)
    have P19 : Fld Z h16 b16 "com/example/tick_wheel/tickwheel/wheel/TickGrid" "lastBoundaryNanos" "J" (.long (0 : Int64)) := D16 (Or.inr (hw _ (List.mem_of_getElem? (i := 25) rfl))) (ty := .long) (by decide)
    obtain ⟨_, _, ⟨T20, L20, k20, n20⟩, -, X20, ⟨Lc20, hQ20, l20, y20, z20⟩, st20⟩ := X16.specialBack hx (y := (⟨"com/example/tick_wheel/tickwheel/wheel/TickGrid", "<init>", "(JJ)V"⟩ : MethodName)) rfl hown (mvT hZ (hw _ (List.mem_of_getElem? (i := 4) rfl))) (mvT hZ (hw _ (List.mem_of_getElem? (i := 5) rfl))) (mvT hZ (hw _ (List.mem_of_getElem? (i := 6) rfl))) (by decide) (backOf (W := 1) (rm1 l Z a0 hw [] b16 x0 oj13 (.long (0 : Int64)) (.long (0 : Int64)) (.long (0 : Int64)) h16 n0 Z16 A16 g_b16 P17 P18 P19 (by rw [h_oj13]; exact own_tick x0 x1 x2 x3) ((own_cne _ _).mp hc2)) hZ (hw _ (List.mem_of_getElem? (i := 6) rfl)) (hw _ (List.mem_of_getElem? (i := 3) rfl)) (by decide) (by decide)) (g := (mkF m 55 #[.val (.long x0), .second, .val (.long x1), .second, .val (.long x2), .second, .val (.int x3), .val (.long oj13), .second, .unset, .unset, .unset, .unset, .unset, .unset, .unset, .unset, .unset, .unset, .unset] [(.long oj13), (.long x0), (.ref b16), (.ref b16)])) rfl (by rw [hml]; rfl) (Steps.refl _) (a := b16) (argsL := [(.long x0), (.long oj13)]) (rest := [(.ref b16)]) (lenOf pd_2 rfl) rfl (by show 2 * 0 + _ ≤ _; exact Nat.le_of_eq rfl) (hb hby at_55) (fun _ _ => ⟨rfl, e16, (by decide : 1 + 0 ≤ _), (by decide : 3 + 0 ≤ _)⟩)
    dsimp only [Pt.U, Pt.locs, Pt.cells, Pt.slots] at X20 l20 y20 z20 st20 hQ20
    subst l20 y20 z20
    obtain ⟨rfl, Nq20, Kq20, G20_0, G20_1, G20_2, G20_3⟩ := hQ20
    obtain ⟨h20, e20⟩ : ∃ z, T20.heap = z := ⟨_, rfl⟩
    rw [e20] at Kq20 G20_0 G20_1 G20_2 G20_3
    have N20 := Fr.app N14 Nq20
    have Z20 : n0 ≤ h20.size := Nat.le_trans Z16 Kq20.1
    have P21 := A16.keep Kq20
    obtain ⟨cq22, kq22, q22a, q22b, q22c⟩ := isOf hZ e20 G20_0
    obtain ⟨_, _, ⟨T22, L22, k22, n22⟩, -, X22, ⟨Lc22, hQ22, l22, y22, z22⟩, st22⟩ := X20.virtualBack hx (y := (⟨"com/example/tick_wheel/tickwheel/wheel/TickGrid", "boundaryAtOrBefore", "(J)J"⟩ : MethodName)) (z := (⟨"com/example/tick_wheel/tickwheel/wheel/TickGrid", "boundaryAtOrBefore", "(J)J"⟩ : MethodName)) hown (mvT hZ (hw _ (List.mem_of_getElem? (i := 26) rfl))) (mvT hZ (hw _ (List.mem_of_getElem? (i := 27) rfl))) (notFace_of_selects (args := #[]) (mvT hZ (hw _ (List.mem_of_getElem? (i := 29) rfl)))) (mvT hZ (hw _ (List.mem_of_getElem? (i := 29) rfl))) (mvT hZ (hw _ (List.mem_of_getElem? (i := 28) rfl))) (by decide) (backOf (W := 0) (rm5 l Z a0 hw [] b16 (9223372036854775807 : Int64) x0 (x0 + ((f1_v14 x0 oj13) * oj13)) oj13 h20 n0 Z20 G20_1 G20_3 G20_2 (own_max _) (by rw [h_oj13]; exact own_tick x0 x1 x2 x3)) hZ (hw _ (List.mem_of_getElem? (i := 30) rfl)) (hw _ (List.mem_of_getElem? (i := 3) rfl)) (by decide) (by decide)) q22a q22c (g := (mkF m 65 #[.val (.long x0), .second, .val (.long x1), .second, .val (.long x2), .second, .val (.int x3), .val (.long oj13), .second, .val (.ref b16), .unset, .unset, .unset, .unset, .unset, .unset, .unset, .unset, .unset, .unset] [(.long (9223372036854775807 : Int64)), (.ref b16)])) rfl (by rw [hml]; rfl) (Steps.refl _) (argsL := [(.long (9223372036854775807 : Int64))]) (rest := []) (lenOf pd_3 rfl) rfl (by show 2 * 0 + _ ≤ _; exact Nat.le_of_eq rfl) (hb hby at_65) (fun _ _ => ⟨rfl, e20, (by decide : 1 + 0 ≤ _), (by decide : 3 + 0 ≤ _)⟩)
    dsimp only [Pt.U, Pt.locs, Pt.cells, Pt.slots] at X22 l22 y22 z22 st22 hQ22
    subst l22 y22 z22
    obtain ⟨rfl, Nq22, e22⟩ := hQ22
    have N22 := Fr.app N20 Nq22
    obtain ⟨cq24, kq24, q24a, q24b, q24c⟩ := isOf hZ e22 G20_0
    obtain ⟨_, _, ⟨T24, L24, k24, n24⟩, -, X24, ⟨Lc24, hQ24, l24, y24, z24⟩, st24⟩ := X22.virtualBack hx (y := (⟨"com/example/tick_wheel/tickwheel/wheel/TickGrid", "ticksTo", "(J)J"⟩ : MethodName)) (z := (⟨"com/example/tick_wheel/tickwheel/wheel/TickGrid", "ticksTo", "(J)J"⟩ : MethodName)) hown (mvT hZ (hw _ (List.mem_of_getElem? (i := 31) rfl))) (mvT hZ (hw _ (List.mem_of_getElem? (i := 32) rfl))) (notFace_of_selects (args := #[]) (mvT hZ (hw _ (List.mem_of_getElem? (i := 34) rfl)))) (mvT hZ (hw _ (List.mem_of_getElem? (i := 34) rfl))) (mvT hZ (hw _ (List.mem_of_getElem? (i := 33) rfl))) (by decide) (backOf (W := 0) (rm6 l Z a0 hw [] b16 ov23 x0 oj13 h20 n0 Z20 G20_1 G20_2 (by rw [h_oj13]; exact own_tick x0 x1 x2 x3)) hZ (hw _ (List.mem_of_getElem? (i := 35) rfl)) (hw _ (List.mem_of_getElem? (i := 3) rfl)) (by decide) (by decide)) q24a q24c (g := (mkF m 74 #[.val (.long x0), .second, .val (.long x1), .second, .val (.long x2), .second, .val (.int x3), .val (.long oj13), .second, .val (.ref b16), .val (.long ov23), .second, .unset, .unset, .unset, .unset, .unset, .unset, .unset, .unset] [(.long ov23), (.ref b16)])) rfl (by rw [hml]; rfl) (Steps.refl _) (argsL := [(.long ov23)]) (rest := []) (lenOf pd_3 rfl) rfl (by show 2 * 0 + _ ≤ _; exact Nat.le_of_eq rfl) (hb hby at_74) (fun _ _ => ⟨rfl, e22, (by decide : 1 + 0 ≤ _), (by decide : 3 + 0 ≤ _)⟩)
    dsimp only [Pt.U, Pt.locs, Pt.cells, Pt.slots] at X24 l24 y24 z24 st24 hQ24
    subst l24 y24 z24
    obtain ⟨rfl, Nq24, e24⟩ := hQ24
    have N24 := Fr.app N22 Nq24
    obtain ⟨_, _, ⟨T27, L27, k27, n27⟩, -, X27, ⟨Lc27, hQ27, l27, y27, z27⟩, st27⟩ := Jvm.LawKit.callS X24 hx (y := (⟨"com/example/tick_wheel/tickwheel/wheel/TickGridBoundaryAtPinLaw", "uleq", "(JJ)Z"⟩ : MethodName)) hown (mvT hZ (hw _ (List.mem_of_getElem? (i := 37) rfl))) (mvT hZ (hw _ (List.mem_of_getElem? (i := 38) rfl))) (mvT hZ (hw _ (List.mem_of_getElem? (i := 39) rfl))) (mvT hZ (hw _ (List.mem_of_getElem? (i := 40) rfl))) (by decide) (backOf (W := 0) (rm7 l Z a0 hw [] x2 ov25 h20 n0 Z20) hZ (hw _ (List.mem_of_getElem? (i := 40) rfl)) (hw _ (List.mem_of_getElem? (i := 39) rfl)) (by decide) (by decide)) (g := (mkF m 91 #[.val (.long x0), .second, .val (.long x1), .second, .val (.long x2), .second, .val (.int x3), .val (.long oj13), .second, .val (.ref b16), .val (.long ov23), .second, .val (.long ov25), .second, .unset, .unset, .val (.long ov26), .second, .unset, .unset] [(.long ov25), (.long x2)])) rfl (by rw [hml]; rfl) (argsL := [(.long x2), (.long ov25)]) (rest := []) (lenOf pd_4 rfl) rfl (by show 2 * 0 + _ ≤ _; exact Nat.le_of_eq rfl) (hb hby at_91) (fun _ _ => ⟨rfl, e24, (by decide : 1 + 0 ≤ _), (by decide : 3 + 0 ≤ _)⟩)
    dsimp only [Pt.U, Pt.locs, Pt.cells, Pt.slots] at X27 l27 y27 z27 st27 hQ27
    subst l27 y27 z27
    obtain ⟨rfl, Nq27, e27⟩ := hQ27
    have N27 := Fr.app N24 Nq27
    have pre28 : ∀ t, Steps p.tables e below (T27.setTop (mkF m 94 #[.val (.long x0), .second, .val (.long x1), .second, .val (.long x2), .second, .val (.int x3), .val (.long oj13), .second, .val (.ref b16), .val (.long ov23), .second, .val (.long ov25), .second, .unset, .unset, .val (.long ov26), .second, .unset, .unset] [(.int (f7 x2 ov25))])) t → Steps p.tables e below (s₁.setTop (entryFrame m #[(.long x0), (.long x1), (.long x2), (.int x3)] maxLocals)) t := by
      intro t k
      refine pre14 _ ?_
      show Steps p.tables e below (T14.setTop (mkF m 48 #[.val (.long x0), .second, .val (.long x1), .second, .val (.long x2), .second, .val (.int x3), .val (.long oj13), .second, .unset, .unset, .unset, .unset, .unset, .unset, .unset, .unset, .unset, .unset, .unset] [])) _
      refine st16 _ ?_
      show Steps p.tables e below (T16.setTop (mkF m 51 #[.val (.long x0), .second, .val (.long x1), .second, .val (.long x2), .second, .val (.int x3), .val (.long oj13), .second, .unset, .unset, .unset, .unset, .unset, .unset, .unset, .unset, .unset, .unset, .unset] [(.ref b16)])) _
      refine XS.dup X16.here hx rfl (hb hby at_51) rfl rfl ?_
      show Steps p.tables e below (T16.setTop (mkF m 52 #[.val (.long x0), .second, .val (.long x1), .second, .val (.long x2), .second, .val (.int x3), .val (.long oj13), .second, .unset, .unset, .unset, .unset, .unset, .unset, .unset, .unset, .unset, .unset, .unset] [(.ref b16), (.ref b16)])) _
      refine XS.lloadN X16.here hx rfl (hb hby at_52) rfl ?_
      show Steps p.tables e below (T16.setTop (mkF m 53 #[.val (.long x0), .second, .val (.long x1), .second, .val (.long x2), .second, .val (.int x3), .val (.long oj13), .second, .unset, .unset, .unset, .unset, .unset, .unset, .unset, .unset, .unset, .unset, .unset] [(.long x0), (.ref b16), (.ref b16)])) _
      refine XS.lload X16.here hx rfl (hb hby at_53) rfl ?_
      show Steps p.tables e below (T16.setTop (mkF m 55 #[.val (.long x0), .second, .val (.long x1), .second, .val (.long x2), .second, .val (.int x3), .val (.long oj13), .second, .unset, .unset, .unset, .unset, .unset, .unset, .unset, .unset, .unset, .unset, .unset] [(.long oj13), (.long x0), (.ref b16), (.ref b16)])) _
      refine st20.trans ?_
      show Steps p.tables e below (T20.setTop (mkF m 58 #[.val (.long x0), .second, .val (.long x1), .second, .val (.long x2), .second, .val (.int x3), .val (.long oj13), .second, .unset, .unset, .unset, .unset, .unset, .unset, .unset, .unset, .unset, .unset, .unset] [(.ref b16)])) _
      refine XS.astore X20.here hx rfl (hb hby at_58) rfl rfl (l' := #[.val (.long x0), .second, .val (.long x1), .second, .val (.long x2), .second, .val (.int x3), .val (.long oj13), .second, .val (.ref b16), .unset, .unset, .unset, .unset, .unset, .unset, .unset, .unset, .unset, .unset]) rfl ?_
      show Steps p.tables e below (T20.setTop (mkF m 60 #[.val (.long x0), .second, .val (.long x1), .second, .val (.long x2), .second, .val (.int x3), .val (.long oj13), .second, .val (.ref b16), .unset, .unset, .unset, .unset, .unset, .unset, .unset, .unset, .unset, .unset] [])) _
      refine XS.aload X20.here hx rfl (hb hby at_60) rfl rfl ?_
      show Steps p.tables e below (T20.setTop (mkF m 62 #[.val (.long x0), .second, .val (.long x1), .second, .val (.long x2), .second, .val (.int x3), .val (.long oj13), .second, .val (.ref b16), .unset, .unset, .unset, .unset, .unset, .unset, .unset, .unset, .unset, .unset] [(.ref b16)])) _
      refine X20.ldc2Long hx hown (mvT hZ (hw _ (List.mem_of_getElem? (i := 0) rfl))) (g := (mkF m 62 #[.val (.long x0), .second, .val (.long x1), .second, .val (.long x2), .second, .val (.int x3), .val (.long oj13), .second, .val (.ref b16), .unset, .unset, .unset, .unset, .unset, .unset, .unset, .unset, .unset, .unset] [(.ref b16)])) rfl (hb hby at_62) _ ?_
      show Steps p.tables e below (T20.setTop (mkF m 65 #[.val (.long x0), .second, .val (.long x1), .second, .val (.long x2), .second, .val (.int x3), .val (.long oj13), .second, .val (.ref b16), .unset, .unset, .unset, .unset, .unset, .unset, .unset, .unset, .unset, .unset] [(.long (9223372036854775807 : Int64)), (.ref b16)])) _
      refine st22.trans ?_
      show Steps p.tables e below (T22.setTop (mkF m 68 #[.val (.long x0), .second, .val (.long x1), .second, .val (.long x2), .second, .val (.int x3), .val (.long oj13), .second, .val (.ref b16), .unset, .unset, .unset, .unset, .unset, .unset, .unset, .unset, .unset, .unset] [(.long (f5 (9223372036854775807 : Int64) x0 (x0 + ((f1_v14 x0 oj13) * oj13)) oj13))])) _
      rw [← d_ov23]
      refine XS.lstore X22.here hx rfl (hb hby at_68) rfl (l' := #[.val (.long x0), .second, .val (.long x1), .second, .val (.long x2), .second, .val (.int x3), .val (.long oj13), .second, .val (.ref b16), .val (.long ov23), .second, .unset, .unset, .unset, .unset, .unset, .unset, .unset, .unset]) rfl ?_
      show Steps p.tables e below (T22.setTop (mkF m 70 #[.val (.long x0), .second, .val (.long x1), .second, .val (.long x2), .second, .val (.int x3), .val (.long oj13), .second, .val (.ref b16), .val (.long ov23), .second, .unset, .unset, .unset, .unset, .unset, .unset, .unset, .unset] [])) _
      refine XS.aload X22.here hx rfl (hb hby at_70) rfl rfl ?_
      show Steps p.tables e below (T22.setTop (mkF m 72 #[.val (.long x0), .second, .val (.long x1), .second, .val (.long x2), .second, .val (.int x3), .val (.long oj13), .second, .val (.ref b16), .val (.long ov23), .second, .unset, .unset, .unset, .unset, .unset, .unset, .unset, .unset] [(.ref b16)])) _
      refine XS.lload X22.here hx rfl (hb hby at_72) rfl ?_
      show Steps p.tables e below (T22.setTop (mkF m 74 #[.val (.long x0), .second, .val (.long x1), .second, .val (.long x2), .second, .val (.int x3), .val (.long oj13), .second, .val (.ref b16), .val (.long ov23), .second, .unset, .unset, .unset, .unset, .unset, .unset, .unset, .unset] [(.long ov23), (.ref b16)])) _
      refine st24.trans ?_
      show Steps p.tables e below (T24.setTop (mkF m 77 #[.val (.long x0), .second, .val (.long x1), .second, .val (.long x2), .second, .val (.int x3), .val (.long oj13), .second, .val (.ref b16), .val (.long ov23), .second, .unset, .unset, .unset, .unset, .unset, .unset, .unset, .unset] [(.long (f6 ov23 x0 oj13))])) _
      rw [← d_ov25]
      refine XS.lstore X24.here hx rfl (hb hby at_77) rfl (l' := #[.val (.long x0), .second, .val (.long x1), .second, .val (.long x2), .second, .val (.int x3), .val (.long oj13), .second, .val (.ref b16), .val (.long ov23), .second, .val (.long ov25), .second, .unset, .unset, .unset, .unset, .unset, .unset]) rfl ?_
      show Steps p.tables e below (T24.setTop (mkF m 79 #[.val (.long x0), .second, .val (.long x1), .second, .val (.long x2), .second, .val (.int x3), .val (.long oj13), .second, .val (.ref b16), .val (.long ov23), .second, .val (.long ov25), .second, .unset, .unset, .unset, .unset, .unset, .unset] [])) _
      refine XS.lload X24.here hx rfl (hb hby at_79) rfl ?_
      show Steps p.tables e below (T24.setTop (mkF m 81 #[.val (.long x0), .second, .val (.long x1), .second, .val (.long x2), .second, .val (.int x3), .val (.long oj13), .second, .val (.ref b16), .val (.long ov23), .second, .val (.long ov25), .second, .unset, .unset, .unset, .unset, .unset, .unset] [(.long x2)])) _
      refine X24.ldc2Long hx hown (mvT hZ (hw _ (List.mem_of_getElem? (i := 36) rfl))) (g := (mkF m 81 #[.val (.long x0), .second, .val (.long x1), .second, .val (.long x2), .second, .val (.int x3), .val (.long oj13), .second, .val (.ref b16), .val (.long ov23), .second, .val (.long ov25), .second, .unset, .unset, .unset, .unset, .unset, .unset] [(.long x2)])) rfl (hb hby at_81) _ ?_
      show Steps p.tables e below (T24.setTop (mkF m 84 #[.val (.long x0), .second, .val (.long x1), .second, .val (.long x2), .second, .val (.int x3), .val (.long oj13), .second, .val (.ref b16), .val (.long ov23), .second, .val (.long ov25), .second, .unset, .unset, .unset, .unset, .unset, .unset] [(.long (255 : Int64)), (.long x2)])) _
      refine XS.land X24.here hx rfl (hb hby at_84) rfl ?_
      show Steps p.tables e below (T24.setTop (mkF m 85 #[.val (.long x0), .second, .val (.long x1), .second, .val (.long x2), .second, .val (.int x3), .val (.long oj13), .second, .val (.ref b16), .val (.long ov23), .second, .val (.long ov25), .second, .unset, .unset, .unset, .unset, .unset, .unset] [(.long (x2 &&& (255 : Int64)))])) _
      rw [← d_ov26]
      refine XS.lstore X24.here hx rfl (hb hby at_85) rfl (l' := #[.val (.long x0), .second, .val (.long x1), .second, .val (.long x2), .second, .val (.int x3), .val (.long oj13), .second, .val (.ref b16), .val (.long ov23), .second, .val (.long ov25), .second, .unset, .unset, .val (.long ov26), .second, .unset, .unset]) rfl ?_
      show Steps p.tables e below (T24.setTop (mkF m 87 #[.val (.long x0), .second, .val (.long x1), .second, .val (.long x2), .second, .val (.int x3), .val (.long oj13), .second, .val (.ref b16), .val (.long ov23), .second, .val (.long ov25), .second, .unset, .unset, .val (.long ov26), .second, .unset, .unset] [])) _
      refine XS.lload X24.here hx rfl (hb hby at_87) rfl ?_
      show Steps p.tables e below (T24.setTop (mkF m 89 #[.val (.long x0), .second, .val (.long x1), .second, .val (.long x2), .second, .val (.int x3), .val (.long oj13), .second, .val (.ref b16), .val (.long ov23), .second, .val (.long ov25), .second, .unset, .unset, .val (.long ov26), .second, .unset, .unset] [(.long x2)])) _
      refine XS.lload X24.here hx rfl (hb hby at_89) rfl ?_
      show Steps p.tables e below (T24.setTop (mkF m 91 #[.val (.long x0), .second, .val (.long x1), .second, .val (.long x2), .second, .val (.int x3), .val (.long oj13), .second, .val (.ref b16), .val (.long ov23), .second, .val (.long ov25), .second, .unset, .unset, .val (.long ov26), .second, .unset, .unset] [(.long ov25), (.long x2)])) _
      refine st27 _ ?_
      exact k
    obtain ⟨T40, L40, X40, N40, e40, pre40⟩ : ∃ (T' : State) (L' : List Loc), Stand p l e room_1 s m #[(.long x0), (.long x1), (.long x2), (.int x3)] below meth c T' L' 1 3 ∧ Fr n0 L' ∧ T'.heap = h20 ∧ ∀ t, Steps p.tables e below (T'.setTop (mkF m 133 #[.val (.long x0), .second, .val (.long x1), .second, .val (.long x2), .second, .val (.int x3), .val (.long oj13), .second, .val (.ref b16), .val (.long ov23), .second, .val (.long ov25), .second, .val (.long oj39), .second, .val (.long ov26), .second, .unset, .unset] [])) t → Steps p.tables e below (s₁.setTop (entryFrame m #[(.long x0), (.long x1), (.long x2), (.int x3)] maxLocals)) t := by
      rcases Bool.eq_false_or_eq_true (ifCond.holds .eq (f7 x2 ov25)) with hc29 | hc29
      · obtain ⟨_, _, ⟨T30, L30, k30, n30⟩, -, X30, ⟨Lc30, hQ30, l30, y30, z30⟩, st30⟩ := Jvm.LawKit.callS X27 hx (y := (⟨"com/example/tick_wheel/tickwheel/wheel/TickGridBoundaryAtPinLaw", "uleq", "(JJ)Z"⟩ : MethodName)) hown (mvT hZ (hw _ (List.mem_of_getElem? (i := 37) rfl))) (mvT hZ (hw _ (List.mem_of_getElem? (i := 38) rfl))) (mvT hZ (hw _ (List.mem_of_getElem? (i := 39) rfl))) (mvT hZ (hw _ (List.mem_of_getElem? (i := 40) rfl))) (by decide) (backOf (W := 0) (rm7 l Z a0 hw [] ov26 ov25 h20 n0 Z20) hZ (hw _ (List.mem_of_getElem? (i := 40) rfl)) (hw _ (List.mem_of_getElem? (i := 39) rfl)) (by decide) (by decide)) (g := (mkF m 108 #[.val (.long x0), .second, .val (.long x1), .second, .val (.long x2), .second, .val (.int x3), .val (.long oj13), .second, .val (.ref b16), .val (.long ov23), .second, .val (.long ov25), .second, .unset, .unset, .val (.long ov26), .second, .unset, .unset] [(.long ov25), (.long ov26)])) rfl (by rw [hml]; rfl) (argsL := [(.long ov26), (.long ov25)]) (rest := []) (lenOf pd_4 rfl) rfl (by show 2 * 0 + _ ≤ _; exact Nat.le_of_eq rfl) (hb hby at_108) (fun _ _ => ⟨rfl, e27, (by decide : 1 + 0 ≤ _), (by decide : 3 + 0 ≤ _)⟩)
        dsimp only [Pt.U, Pt.locs, Pt.cells, Pt.slots] at X30 l30 y30 z30 st30 hQ30
        subst l30 y30 z30
        obtain ⟨rfl, Nq30, e30⟩ := hQ30
        have N30 := Fr.app N27 Nq30
        have pre31 : ∀ t, Steps p.tables e below (T30.setTop (mkF m 111 #[.val (.long x0), .second, .val (.long x1), .second, .val (.long x2), .second, .val (.int x3), .val (.long oj13), .second, .val (.ref b16), .val (.long ov23), .second, .val (.long ov25), .second, .unset, .unset, .val (.long ov26), .second, .unset, .unset] [(.int (f7 ov26 ov25))])) t → Steps p.tables e below (s₁.setTop (entryFrame m #[(.long x0), (.long x1), (.long x2), (.int x3)] maxLocals)) t := by
          intro t k
          refine pre28 _ ?_
          show Steps p.tables e below (T27.setTop (mkF m 94 #[.val (.long x0), .second, .val (.long x1), .second, .val (.long x2), .second, .val (.int x3), .val (.long oj13), .second, .val (.ref b16), .val (.long ov23), .second, .val (.long ov25), .second, .unset, .unset, .val (.long ov26), .second, .unset, .unset] [(.int (f7 x2 ov25))])) _
          refine XS.ifYes X27.here hx rfl (pc0 := 94) (pc' := 104) rfl (hb hby at_94) rfl hc29 (by decide) (by decide) ?_
          show Steps p.tables e below (T27.setTop (mkF m 104 #[.val (.long x0), .second, .val (.long x1), .second, .val (.long x2), .second, .val (.int x3), .val (.long oj13), .second, .val (.ref b16), .val (.long ov23), .second, .val (.long ov25), .second, .unset, .unset, .val (.long ov26), .second, .unset, .unset] [])) _
          refine XS.lload X27.here hx rfl (hb hby at_104) rfl ?_
          show Steps p.tables e below (T27.setTop (mkF m 106 #[.val (.long x0), .second, .val (.long x1), .second, .val (.long x2), .second, .val (.int x3), .val (.long oj13), .second, .val (.ref b16), .val (.long ov23), .second, .val (.long ov25), .second, .unset, .unset, .val (.long ov26), .second, .unset, .unset] [(.long ov26)])) _
          refine XS.lload X27.here hx rfl (hb hby at_106) rfl ?_
          show Steps p.tables e below (T27.setTop (mkF m 108 #[.val (.long x0), .second, .val (.long x1), .second, .val (.long x2), .second, .val (.int x3), .val (.long oj13), .second, .val (.ref b16), .val (.long ov23), .second, .val (.long ov25), .second, .unset, .unset, .val (.long ov26), .second, .unset, .unset] [(.long ov25), (.long ov26)])) _
          refine st30 _ ?_
          exact k
        obtain ⟨T36, L36, X36, N36, e36, pre36⟩ : ∃ (T' : State) (L' : List Loc), Stand p l e room_1 s m #[(.long x0), (.long x1), (.long x2), (.int x3)] below meth c T' L' 1 3 ∧ Fr n0 L' ∧ T'.heap = h20 ∧ ∀ t, Steps p.tables e below (T'.setTop (mkF m 133 #[.val (.long x0), .second, .val (.long x1), .second, .val (.long x2), .second, .val (.int x3), .val (.long oj13), .second, .val (.ref b16), .val (.long ov23), .second, .val (.long ov25), .second, .val (.long oj35), .second, .val (.long ov26), .second, .unset, .unset] [])) t → Steps p.tables e below (s₁.setTop (entryFrame m #[(.long x0), (.long x1), (.long x2), (.int x3)] maxLocals)) t := by
          rcases Bool.eq_false_or_eq_true (ifCond.holds .eq (f7 ov26 ov25)) with hc32 | hc32
          · have pre37 : ∀ t, Steps p.tables e below (T30.setTop (mkF m 133 #[.val (.long x0), .second, .val (.long x1), .second, .val (.long x2), .second, .val (.int x3), .val (.long oj13), .second, .val (.ref b16), .val (.long ov23), .second, .val (.long ov25), .second, .val (.long ov33), .second, .val (.long ov26), .second, .unset, .unset] [])) t → Steps p.tables e below (s₁.setTop (entryFrame m #[(.long x0), (.long x1), (.long x2), (.int x3)] maxLocals)) t := by
              intro t k
              refine pre31 _ ?_
              show Steps p.tables e below (T30.setTop (mkF m 111 #[.val (.long x0), .second, .val (.long x1), .second, .val (.long x2), .second, .val (.int x3), .val (.long oj13), .second, .val (.ref b16), .val (.long ov23), .second, .val (.long ov25), .second, .unset, .unset, .val (.long ov26), .second, .unset, .unset] [(.int (f7 ov26 ov25))])) _
              refine XS.ifYes X30.here hx rfl (pc0 := 111) (pc' := 124) rfl (hb hby at_111) rfl hc32 (by decide) (by decide) ?_
              show Steps p.tables e below (T30.setTop (mkF m 124 #[.val (.long x0), .second, .val (.long x1), .second, .val (.long x2), .second, .val (.int x3), .val (.long oj13), .second, .val (.ref b16), .val (.long ov23), .second, .val (.long ov25), .second, .unset, .unset, .val (.long ov26), .second, .unset, .unset] [])) _
              refine XS.lload X30.here hx rfl (hb hby at_124) rfl ?_
              show Steps p.tables e below (T30.setTop (mkF m 126 #[.val (.long x0), .second, .val (.long x1), .second, .val (.long x2), .second, .val (.int x3), .val (.long oj13), .second, .val (.ref b16), .val (.long ov23), .second, .val (.long ov25), .second, .unset, .unset, .val (.long ov26), .second, .unset, .unset] [(.long ov26)])) _
              refine XS.lload X30.here hx rfl (hb hby at_126) rfl ?_
              show Steps p.tables e below (T30.setTop (mkF m 128 #[.val (.long x0), .second, .val (.long x1), .second, .val (.long x2), .second, .val (.int x3), .val (.long oj13), .second, .val (.ref b16), .val (.long ov23), .second, .val (.long ov25), .second, .unset, .unset, .val (.long ov26), .second, .unset, .unset] [(.long ov25), (.long ov26)])) _
              refine XS.lconst X30.here hx rfl (hb hby at_128) ?_
              show Steps p.tables e below (T30.setTop (mkF m 129 #[.val (.long x0), .second, .val (.long x1), .second, .val (.long x2), .second, .val (.int x3), .val (.long oj13), .second, .val (.ref b16), .val (.long ov23), .second, .val (.long ov25), .second, .unset, .unset, .val (.long ov26), .second, .unset, .unset] [(.long (1 : Int64)), (.long ov25), (.long ov26)])) _
              refine XS.ladd X30.here hx rfl (hb hby at_129) rfl ?_
              show Steps p.tables e below (T30.setTop (mkF m 130 #[.val (.long x0), .second, .val (.long x1), .second, .val (.long x2), .second, .val (.int x3), .val (.long oj13), .second, .val (.ref b16), .val (.long ov23), .second, .val (.long ov25), .second, .unset, .unset, .val (.long ov26), .second, .unset, .unset] [(.long (ov25 + (1 : Int64))), (.long ov26)])) _
              refine own_xlrem X30.here hx rfl (hb hby at_130) rfl (own_kz hc32) ?_
              show Steps p.tables e below (T30.setTop (mkF m 131 #[.val (.long x0), .second, .val (.long x1), .second, .val (.long x2), .second, .val (.int x3), .val (.long oj13), .second, .val (.ref b16), .val (.long ov23), .second, .val (.long ov25), .second, .unset, .unset, .val (.long ov26), .second, .unset, .unset] [(.long (own_lrem ov26 (ov25 + (1 : Int64))))])) _
              rw [← d_ov33]
              refine XS.lstore X30.here hx rfl (hb hby at_131) rfl (l' := #[.val (.long x0), .second, .val (.long x1), .second, .val (.long x2), .second, .val (.int x3), .val (.long oj13), .second, .val (.ref b16), .val (.long ov23), .second, .val (.long ov25), .second, .val (.long ov33), .second, .val (.long ov26), .second, .unset, .unset]) rfl ?_
              exact k
            have qj0 : oj35 = ov33 := Eq.trans d_oj35 (if_pos hc32)
            refine ⟨T30, _, X30, N30, e30, fun t k => pre37 _ ?_⟩
            rw [qj0] at k
            exact k
          · have pre38 : ∀ t, Steps p.tables e below (T30.setTop (mkF m 133 #[.val (.long x0), .second, .val (.long x1), .second, .val (.long x2), .second, .val (.int x3), .val (.long oj13), .second, .val (.ref b16), .val (.long ov23), .second, .val (.long ov25), .second, .val (.long ov34), .second, .val (.long ov26), .second, .unset, .unset] [])) t → Steps p.tables e below (s₁.setTop (entryFrame m #[(.long x0), (.long x1), (.long x2), (.int x3)] maxLocals)) t := by
              intro t k
              refine pre31 _ ?_
              show Steps p.tables e below (T30.setTop (mkF m 111 #[.val (.long x0), .second, .val (.long x1), .second, .val (.long x2), .second, .val (.int x3), .val (.long oj13), .second, .val (.ref b16), .val (.long ov23), .second, .val (.long ov25), .second, .unset, .unset, .val (.long ov26), .second, .unset, .unset] [(.int (f7 ov26 ov25))])) _
              refine XS.ifNo X30.here hx rfl (hb hby at_111) rfl hc32 ?_
              show Steps p.tables e below (T30.setTop (mkF m 114 #[.val (.long x0), .second, .val (.long x1), .second, .val (.long x2), .second, .val (.int x3), .val (.long oj13), .second, .val (.ref b16), .val (.long ov23), .second, .val (.long ov25), .second, .unset, .unset, .val (.long ov26), .second, .unset, .unset] [])) _
              refine XS.lload X30.here hx rfl (hb hby at_114) rfl ?_
              show Steps p.tables e below (T30.setTop (mkF m 116 #[.val (.long x0), .second, .val (.long x1), .second, .val (.long x2), .second, .val (.int x3), .val (.long oj13), .second, .val (.ref b16), .val (.long ov23), .second, .val (.long ov25), .second, .unset, .unset, .val (.long ov26), .second, .unset, .unset] [(.long ov25)])) _
              refine XS.lload X30.here hx rfl (hb hby at_116) rfl ?_
              show Steps p.tables e below (T30.setTop (mkF m 118 #[.val (.long x0), .second, .val (.long x1), .second, .val (.long x2), .second, .val (.int x3), .val (.long oj13), .second, .val (.ref b16), .val (.long ov23), .second, .val (.long ov25), .second, .unset, .unset, .val (.long ov26), .second, .unset, .unset] [(.long ov26), (.long ov25)])) _
              refine XS.lsub X30.here hx rfl (hb hby at_118) rfl ?_
              show Steps p.tables e below (T30.setTop (mkF m 119 #[.val (.long x0), .second, .val (.long x1), .second, .val (.long x2), .second, .val (.int x3), .val (.long oj13), .second, .val (.ref b16), .val (.long ov23), .second, .val (.long ov25), .second, .unset, .unset, .val (.long ov26), .second, .unset, .unset] [(.long (ov25 - ov26))])) _
              rw [← d_ov34]
              refine XS.lstore X30.here hx rfl (hb hby at_119) rfl (l' := #[.val (.long x0), .second, .val (.long x1), .second, .val (.long x2), .second, .val (.int x3), .val (.long oj13), .second, .val (.ref b16), .val (.long ov23), .second, .val (.long ov25), .second, .val (.long ov34), .second, .val (.long ov26), .second, .unset, .unset]) rfl ?_
              show Steps p.tables e below (T30.setTop (mkF m 121 #[.val (.long x0), .second, .val (.long x1), .second, .val (.long x2), .second, .val (.int x3), .val (.long oj13), .second, .val (.ref b16), .val (.long ov23), .second, .val (.long ov25), .second, .val (.long ov34), .second, .val (.long ov26), .second, .unset, .unset] [])) _
              refine XS.goto X30.here hx rfl (pc0 := 121) (pc' := 133) rfl (hb hby at_121) (by decide) (by decide) ?_
              exact k
            have qj0 : oj35 = ov34 := Eq.trans d_oj35 (if_neg (own_nt hc32))
            refine ⟨T30, _, X30, N30, e30, fun t k => pre38 _ ?_⟩
            rw [qj0] at k
            exact k
        have qj0 : oj39 = oj35 := Eq.trans d_oj39 (if_pos hc29)
        refine ⟨T36, _, X36, N36, e36, fun t k => pre36 _ ?_⟩
        rw [qj0] at k
        exact k
      · have pre41 : ∀ t, Steps p.tables e below (T27.setTop (mkF m 133 #[.val (.long x0), .second, .val (.long x1), .second, .val (.long x2), .second, .val (.int x3), .val (.long oj13), .second, .val (.ref b16), .val (.long ov23), .second, .val (.long ov25), .second, .val (.long x2), .second, .val (.long ov26), .second, .unset, .unset] [])) t → Steps p.tables e below (s₁.setTop (entryFrame m #[(.long x0), (.long x1), (.long x2), (.int x3)] maxLocals)) t := by
          intro t k
          refine pre28 _ ?_
          show Steps p.tables e below (T27.setTop (mkF m 94 #[.val (.long x0), .second, .val (.long x1), .second, .val (.long x2), .second, .val (.int x3), .val (.long oj13), .second, .val (.ref b16), .val (.long ov23), .second, .val (.long ov25), .second, .unset, .unset, .val (.long ov26), .second, .unset, .unset] [(.int (f7 x2 ov25))])) _
          refine XS.ifNo X27.here hx rfl (hb hby at_94) rfl hc29 ?_
          show Steps p.tables e below (T27.setTop (mkF m 97 #[.val (.long x0), .second, .val (.long x1), .second, .val (.long x2), .second, .val (.int x3), .val (.long oj13), .second, .val (.ref b16), .val (.long ov23), .second, .val (.long ov25), .second, .unset, .unset, .val (.long ov26), .second, .unset, .unset] [])) _
          refine XS.lload X27.here hx rfl (hb hby at_97) rfl ?_
          show Steps p.tables e below (T27.setTop (mkF m 99 #[.val (.long x0), .second, .val (.long x1), .second, .val (.long x2), .second, .val (.int x3), .val (.long oj13), .second, .val (.ref b16), .val (.long ov23), .second, .val (.long ov25), .second, .unset, .unset, .val (.long ov26), .second, .unset, .unset] [(.long x2)])) _
          refine XS.lstore X27.here hx rfl (hb hby at_99) rfl (l' := #[.val (.long x0), .second, .val (.long x1), .second, .val (.long x2), .second, .val (.int x3), .val (.long oj13), .second, .val (.ref b16), .val (.long ov23), .second, .val (.long ov25), .second, .val (.long x2), .second, .val (.long ov26), .second, .unset, .unset]) rfl ?_
          show Steps p.tables e below (T27.setTop (mkF m 101 #[.val (.long x0), .second, .val (.long x1), .second, .val (.long x2), .second, .val (.int x3), .val (.long oj13), .second, .val (.ref b16), .val (.long ov23), .second, .val (.long ov25), .second, .val (.long x2), .second, .val (.long ov26), .second, .unset, .unset] [])) _
          refine XS.goto X27.here hx rfl (pc0 := 101) (pc' := 133) rfl (hb hby at_101) (by decide) (by decide) ?_
          exact k
        have qj0 : oj39 = x2 := Eq.trans d_oj39 (if_neg (own_nt hc29))
        refine ⟨T27, _, X27, N27, e27, fun t k => pre41 _ ?_⟩
        rw [qj0] at k
        exact k
    obtain ⟨cq42, kq42, q42a, q42b, q42c⟩ := isOf hZ e40 G20_0
    obtain ⟨_, _, ⟨T42, L42, k42, n42⟩, -, X42, ⟨Lc42, hQ42, l42, y42, z42⟩, st42⟩ := X40.virtualBack hx (y := (⟨"com/example/tick_wheel/tickwheel/wheel/TickGrid", "boundaryAt", "(J)J"⟩ : MethodName)) (z := (⟨"com/example/tick_wheel/tickwheel/wheel/TickGrid", "boundaryAt", "(J)J"⟩ : MethodName)) hown (mvT hZ (hw _ (List.mem_of_getElem? (i := 42) rfl))) (mvT hZ (hw _ (List.mem_of_getElem? (i := 43) rfl))) (notFace_of_selects (args := #[]) (mvT hZ (hw _ (List.mem_of_getElem? (i := 45) rfl)))) (mvT hZ (hw _ (List.mem_of_getElem? (i := 45) rfl))) (mvT hZ (hw _ (List.mem_of_getElem? (i := 44) rfl))) (by decide) (backOf (W := 0) (rm8 l Z a0 hw [] b16 oj39 x0 oj13 h20 n0 Z20 G20_1 G20_2) hZ (hw _ (List.mem_of_getElem? (i := 46) rfl)) (hw _ (List.mem_of_getElem? (i := 3) rfl)) (by decide) (by decide)) q42a q42c (g := (mkF m 137 #[.val (.long x0), .second, .val (.long x1), .second, .val (.long x2), .second, .val (.int x3), .val (.long oj13), .second, .val (.ref b16), .val (.long ov23), .second, .val (.long ov25), .second, .val (.long oj39), .second, .val (.long ov26), .second, .unset, .unset] [(.long oj39), (.ref b16)])) rfl (by rw [hml]; rfl) (Steps.refl _) (argsL := [(.long oj39)]) (rest := []) (lenOf pd_3 rfl) rfl (by show 2 * 0 + _ ≤ _; exact Nat.le_of_eq rfl) (hb hby at_137) (fun _ _ => ⟨rfl, e40, (by decide : 1 + 0 ≤ _), (by decide : 3 + 0 ≤ _)⟩)
    dsimp only [Pt.U, Pt.locs, Pt.cells, Pt.slots] at X42 l42 y42 z42 st42 hQ42
    subst l42 y42 z42
    obtain ⟨rfl, Nq42, e42⟩ := hQ42
    have N42 := Fr.app N40 Nq42
    have pre44 : ∀ t, Steps p.tables e below (T42.setTop (mkF m 146 #[.val (.long x0), .second, .val (.long x1), .second, .val (.long x2), .second, .val (.int x3), .val (.long oj13), .second, .val (.ref b16), .val (.long ov23), .second, .val (.long ov25), .second, .val (.long oj39), .second, .val (.long ov26), .second, .val (.long ov43), .second] [(.int (own_cmp x0 ov43))])) t → Steps p.tables e below (s₁.setTop (entryFrame m #[(.long x0), (.long x1), (.long x2), (.int x3)] maxLocals)) t := by
      intro t k
      refine pre40 _ ?_
      show Steps p.tables e below (T40.setTop (mkF m 133 #[.val (.long x0), .second, .val (.long x1), .second, .val (.long x2), .second, .val (.int x3), .val (.long oj13), .second, .val (.ref b16), .val (.long ov23), .second, .val (.long ov25), .second, .val (.long oj39), .second, .val (.long ov26), .second, .unset, .unset] [])) _
      refine XS.aload X40.here hx rfl (hb hby at_133) rfl rfl ?_
      show Steps p.tables e below (T40.setTop (mkF m 135 #[.val (.long x0), .second, .val (.long x1), .second, .val (.long x2), .second, .val (.int x3), .val (.long oj13), .second, .val (.ref b16), .val (.long ov23), .second, .val (.long ov25), .second, .val (.long oj39), .second, .val (.long ov26), .second, .unset, .unset] [(.ref b16)])) _
      refine XS.lload X40.here hx rfl (hb hby at_135) rfl ?_
      show Steps p.tables e below (T40.setTop (mkF m 137 #[.val (.long x0), .second, .val (.long x1), .second, .val (.long x2), .second, .val (.int x3), .val (.long oj13), .second, .val (.ref b16), .val (.long ov23), .second, .val (.long ov25), .second, .val (.long oj39), .second, .val (.long ov26), .second, .unset, .unset] [(.long oj39), (.ref b16)])) _
      refine st42.trans ?_
      show Steps p.tables e below (T42.setTop (mkF m 140 #[.val (.long x0), .second, .val (.long x1), .second, .val (.long x2), .second, .val (.int x3), .val (.long oj13), .second, .val (.ref b16), .val (.long ov23), .second, .val (.long ov25), .second, .val (.long oj39), .second, .val (.long ov26), .second, .unset, .unset] [(.long (f8 oj39 x0 oj13))])) _
      rw [← d_ov43]
      refine XS.lstore X42.here hx rfl (hb hby at_140) rfl (l' := #[.val (.long x0), .second, .val (.long x1), .second, .val (.long x2), .second, .val (.int x3), .val (.long oj13), .second, .val (.ref b16), .val (.long ov23), .second, .val (.long ov25), .second, .val (.long oj39), .second, .val (.long ov26), .second, .val (.long ov43), .second]) rfl ?_
      show Steps p.tables e below (T42.setTop (mkF m 142 #[.val (.long x0), .second, .val (.long x1), .second, .val (.long x2), .second, .val (.int x3), .val (.long oj13), .second, .val (.ref b16), .val (.long ov23), .second, .val (.long ov25), .second, .val (.long oj39), .second, .val (.long ov26), .second, .val (.long ov43), .second] [])) _
      refine XS.lloadN X42.here hx rfl (hb hby at_142) rfl ?_
      show Steps p.tables e below (T42.setTop (mkF m 143 #[.val (.long x0), .second, .val (.long x1), .second, .val (.long x2), .second, .val (.int x3), .val (.long oj13), .second, .val (.ref b16), .val (.long ov23), .second, .val (.long ov25), .second, .val (.long oj39), .second, .val (.long ov26), .second, .val (.long ov43), .second] [(.long x0)])) _
      refine XS.lload X42.here hx rfl (hb hby at_143) rfl ?_
      show Steps p.tables e below (T42.setTop (mkF m 145 #[.val (.long x0), .second, .val (.long x1), .second, .val (.long x2), .second, .val (.int x3), .val (.long oj13), .second, .val (.ref b16), .val (.long ov23), .second, .val (.long ov25), .second, .val (.long oj39), .second, .val (.long ov26), .second, .val (.long ov43), .second] [(.long ov43), (.long x0)])) _
      refine own_xlcmp X42.here hx rfl (hb hby at_145) rfl ?_
      exact k
    rcases Bool.eq_false_or_eq_true (ifCond.holds .gt (own_cmp x0 ov43)) with hc45 | hc45
    · obtain ⟨fs, hr, hrun, hended, hW, hsame⟩ := X42.leave (v := some (.int (0 : Int32))) (fun h => by rw [hret] at h; cases h)
      refine ⟨_, _, pre44 _ ?_, hrun, hended, _, _, rfl, ?_, ⟨_, rfl⟩, hW, hsame.mono (by decide) (by decide)⟩
      · show Steps p.tables e below (T42.setTop (mkF m 146 #[.val (.long x0), .second, .val (.long x1), .second, .val (.long x2), .second, .val (.int x3), .val (.long oj13), .second, .val (.ref b16), .val (.long ov23), .second, .val (.long ov25), .second, .val (.long oj39), .second, .val (.long ov26), .second, .val (.long ov43), .second] [(.int (own_cmp x0 ov43))])) _
        refine XS.ifYes X42.here hx rfl (pc0 := 146) (pc' := 157) rfl (hb hby at_146) rfl hc45 (by decide) (by decide) ?_
        show Steps p.tables e below (T42.setTop (mkF m 157 #[.val (.long x0), .second, .val (.long x1), .second, .val (.long x2), .second, .val (.int x3), .val (.long oj13), .second, .val (.ref b16), .val (.long ov23), .second, .val (.long ov25), .second, .val (.long oj39), .second, .val (.long ov26), .second, .val (.long ov43), .second] [])) _
        refine XS.iconst X42.here hx rfl (hb hby at_157) ?_
        show Steps p.tables e below (T42.setTop (mkF m 158 #[.val (.long x0), .second, .val (.long x1), .second, .val (.long x2), .second, .val (.int x3), .val (.long oj13), .second, .val (.ref b16), .val (.long ov23), .second, .val (.long ov25), .second, .val (.long oj39), .second, .val (.long ov26), .second, .val (.long ov43), .second] [(.int (0 : Int32))])) _
        exact retN X42 hx (t := .boolean) hret (by simp) (hb hby at_158) hr
      · show Q0 Z x0 x1 x2 x3 h0 n0 _ T42.heap _
        rw [e42]
        have rr : f0 x0 x1 x2 x3 = (0 : Int32) := Eq.trans (hroot) (Eq.trans (if_pos hc2) (if_pos hc45))
        exact ⟨congrArg (fun z => some (Value.int z)) rr.symm, N42⟩
    · have pre46 : ∀ t, Steps p.tables e below (T42.setTop (mkF m 154 #[.val (.long x0), .second, .val (.long x1), .second, .val (.long x2), .second, .val (.int x3), .val (.long oj13), .second, .val (.ref b16), .val (.long ov23), .second, .val (.long ov25), .second, .val (.long oj39), .second, .val (.long ov26), .second, .val (.long ov43), .second] [(.int (own_cmp ov43 ov23))])) t → Steps p.tables e below (s₁.setTop (entryFrame m #[(.long x0), (.long x1), (.long x2), (.int x3)] maxLocals)) t := by
        intro t k
        refine pre44 _ ?_
        show Steps p.tables e below (T42.setTop (mkF m 146 #[.val (.long x0), .second, .val (.long x1), .second, .val (.long x2), .second, .val (.int x3), .val (.long oj13), .second, .val (.ref b16), .val (.long ov23), .second, .val (.long ov25), .second, .val (.long oj39), .second, .val (.long ov26), .second, .val (.long ov43), .second] [(.int (own_cmp x0 ov43))])) _
        refine XS.ifNo X42.here hx rfl (hb hby at_146) rfl hc45 ?_
        show Steps p.tables e below (T42.setTop (mkF m 149 #[.val (.long x0), .second, .val (.long x1), .second, .val (.long x2), .second, .val (.int x3), .val (.long oj13), .second, .val (.ref b16), .val (.long ov23), .second, .val (.long ov25), .second, .val (.long oj39), .second, .val (.long ov26), .second, .val (.long ov43), .second] [])) _
        refine XS.lload X42.here hx rfl (hb hby at_149) rfl ?_
        show Steps p.tables e below (T42.setTop (mkF m 151 #[.val (.long x0), .second, .val (.long x1), .second, .val (.long x2), .second, .val (.int x3), .val (.long oj13), .second, .val (.ref b16), .val (.long ov23), .second, .val (.long ov25), .second, .val (.long oj39), .second, .val (.long ov26), .second, .val (.long ov43), .second] [(.long ov43)])) _
        refine XS.lload X42.here hx rfl (hb hby at_151) rfl ?_
        show Steps p.tables e below (T42.setTop (mkF m 153 #[.val (.long x0), .second, .val (.long x1), .second, .val (.long x2), .second, .val (.int x3), .val (.long oj13), .second, .val (.ref b16), .val (.long ov23), .second, .val (.long ov25), .second, .val (.long oj39), .second, .val (.long ov26), .second, .val (.long ov43), .second] [(.long ov23), (.long ov43)])) _
        refine own_xlcmp X42.here hx rfl (hb hby at_153) rfl ?_
        exact k
      rcases Bool.eq_false_or_eq_true (ifCond.holds .le (own_cmp ov43 ov23)) with hc47 | hc47
      · obtain ⟨cq48, kq48, q48a, q48b, q48c⟩ := isOf hZ e42 G20_0
        obtain ⟨_, _, ⟨T48, L48, k48, n48⟩, -, X48, ⟨Lc48, hQ48, l48, y48, z48⟩, st48⟩ := X42.virtualBack hx (y := (⟨"com/example/tick_wheel/tickwheel/wheel/TickGrid", "boundaryAtOrBefore", "(J)J"⟩ : MethodName)) (z := (⟨"com/example/tick_wheel/tickwheel/wheel/TickGrid", "boundaryAtOrBefore", "(J)J"⟩ : MethodName)) hown (mvT hZ (hw _ (List.mem_of_getElem? (i := 26) rfl))) (mvT hZ (hw _ (List.mem_of_getElem? (i := 27) rfl))) (notFace_of_selects (args := #[]) (mvT hZ (hw _ (List.mem_of_getElem? (i := 29) rfl)))) (mvT hZ (hw _ (List.mem_of_getElem? (i := 29) rfl))) (mvT hZ (hw _ (List.mem_of_getElem? (i := 28) rfl))) (by decide) (backOf (W := 0) (rm5 l Z a0 hw [] b16 ov43 x0 (x0 + ((f1_v14 x0 oj13) * oj13)) oj13 h20 n0 Z20 G20_1 G20_3 G20_2 (own_cgt_n hc45) (by rw [h_oj13]; exact own_tick x0 x1 x2 x3)) hZ (hw _ (List.mem_of_getElem? (i := 30) rfl)) (hw _ (List.mem_of_getElem? (i := 3) rfl)) (by decide) (by decide)) q48a q48c (g := (mkF m 163 #[.val (.long x0), .second, .val (.long x1), .second, .val (.long x2), .second, .val (.int x3), .val (.long oj13), .second, .val (.ref b16), .val (.long ov23), .second, .val (.long ov25), .second, .val (.long oj39), .second, .val (.long ov26), .second, .val (.long ov43), .second] [(.long ov43), (.ref b16)])) rfl (by rw [hml]; rfl) (Steps.refl _) (argsL := [(.long ov43)]) (rest := []) (lenOf pd_3 rfl) rfl (by show 2 * 0 + _ ≤ _; exact Nat.le_of_eq rfl) (hb hby at_163) (fun _ _ => ⟨rfl, e42, (by decide : 1 + 0 ≤ _), (by decide : 3 + 0 ≤ _)⟩)
        dsimp only [Pt.U, Pt.locs, Pt.cells, Pt.slots] at X48 l48 y48 z48 st48 hQ48
        subst l48 y48 z48
        obtain ⟨rfl, Nq48, e48⟩ := hQ48
        have N48 := Fr.app N42 Nq48
        have pre49 : ∀ t, Steps p.tables e below (T48.setTop (mkF m 169 #[.val (.long x0), .second, .val (.long x1), .second, .val (.long x2), .second, .val (.int x3), .val (.long oj13), .second, .val (.ref b16), .val (.long ov23), .second, .val (.long ov25), .second, .val (.long oj39), .second, .val (.long ov26), .second, .val (.long ov43), .second] [(.int (own_cmp (f5 ov43 x0 (x0 + ((f1_v14 x0 oj13) * oj13)) oj13) ov43))])) t → Steps p.tables e below (s₁.setTop (entryFrame m #[(.long x0), (.long x1), (.long x2), (.int x3)] maxLocals)) t := by
          intro t k
          refine pre46 _ ?_
          show Steps p.tables e below (T42.setTop (mkF m 154 #[.val (.long x0), .second, .val (.long x1), .second, .val (.long x2), .second, .val (.int x3), .val (.long oj13), .second, .val (.ref b16), .val (.long ov23), .second, .val (.long ov25), .second, .val (.long oj39), .second, .val (.long ov26), .second, .val (.long ov43), .second] [(.int (own_cmp ov43 ov23))])) _
          refine XS.ifYes X42.here hx rfl (pc0 := 154) (pc' := 159) rfl (hb hby at_154) rfl hc47 (by decide) (by decide) ?_
          show Steps p.tables e below (T42.setTop (mkF m 159 #[.val (.long x0), .second, .val (.long x1), .second, .val (.long x2), .second, .val (.int x3), .val (.long oj13), .second, .val (.ref b16), .val (.long ov23), .second, .val (.long ov25), .second, .val (.long oj39), .second, .val (.long ov26), .second, .val (.long ov43), .second] [])) _
          refine XS.aload X42.here hx rfl (hb hby at_159) rfl rfl ?_
          show Steps p.tables e below (T42.setTop (mkF m 161 #[.val (.long x0), .second, .val (.long x1), .second, .val (.long x2), .second, .val (.int x3), .val (.long oj13), .second, .val (.ref b16), .val (.long ov23), .second, .val (.long ov25), .second, .val (.long oj39), .second, .val (.long ov26), .second, .val (.long ov43), .second] [(.ref b16)])) _
          refine XS.lload X42.here hx rfl (hb hby at_161) rfl ?_
          show Steps p.tables e below (T42.setTop (mkF m 163 #[.val (.long x0), .second, .val (.long x1), .second, .val (.long x2), .second, .val (.int x3), .val (.long oj13), .second, .val (.ref b16), .val (.long ov23), .second, .val (.long ov25), .second, .val (.long oj39), .second, .val (.long ov26), .second, .val (.long ov43), .second] [(.long ov43), (.ref b16)])) _
          refine st48.trans ?_
          show Steps p.tables e below (T48.setTop (mkF m 166 #[.val (.long x0), .second, .val (.long x1), .second, .val (.long x2), .second, .val (.int x3), .val (.long oj13), .second, .val (.ref b16), .val (.long ov23), .second, .val (.long ov25), .second, .val (.long oj39), .second, .val (.long ov26), .second, .val (.long ov43), .second] [(.long (f5 ov43 x0 (x0 + ((f1_v14 x0 oj13) * oj13)) oj13))])) _
          refine XS.lload X48.here hx rfl (hb hby at_166) rfl ?_
          show Steps p.tables e below (T48.setTop (mkF m 168 #[.val (.long x0), .second, .val (.long x1), .second, .val (.long x2), .second, .val (.int x3), .val (.long oj13), .second, .val (.ref b16), .val (.long ov23), .second, .val (.long ov25), .second, .val (.long oj39), .second, .val (.long ov26), .second, .val (.long ov43), .second] [(.long ov43), (.long (f5 ov43 x0 (x0 + ((f1_v14 x0 oj13) * oj13)) oj13))])) _
          refine own_xlcmp X48.here hx rfl (hb hby at_168) rfl ?_
          exact k
        rcases Bool.eq_false_or_eq_true (ifCond.holds .eq (own_cmp (f5 ov43 x0 (x0 + ((f1_v14 x0 oj13) * oj13)) oj13) ov43)) with hc50 | hc50
        · obtain ⟨cq51, kq51, q51a, q51b, q51c⟩ := isOf hZ e48 G20_0
          obtain ⟨_, _, ⟨T51, L51, k51, n51⟩, -, X51, ⟨Lc51, hQ51, l51, y51, z51⟩, st51⟩ := X48.virtualBack hx (y := (⟨"com/example/tick_wheel/tickwheel/wheel/TickGrid", "ticksTo", "(J)J"⟩ : MethodName)) (z := (⟨"com/example/tick_wheel/tickwheel/wheel/TickGrid", "ticksTo", "(J)J"⟩ : MethodName)) hown (mvT hZ (hw _ (List.mem_of_getElem? (i := 31) rfl))) (mvT hZ (hw _ (List.mem_of_getElem? (i := 32) rfl))) (notFace_of_selects (args := #[]) (mvT hZ (hw _ (List.mem_of_getElem? (i := 34) rfl)))) (mvT hZ (hw _ (List.mem_of_getElem? (i := 34) rfl))) (mvT hZ (hw _ (List.mem_of_getElem? (i := 33) rfl))) (by decide) (backOf (W := 0) (rm6 l Z a0 hw [] b16 ov43 x0 oj13 h20 n0 Z20 G20_1 G20_2 (by rw [h_oj13]; exact own_tick x0 x1 x2 x3)) hZ (hw _ (List.mem_of_getElem? (i := 35) rfl)) (hw _ (List.mem_of_getElem? (i := 3) rfl)) (by decide) (by decide)) q51a q51c (g := (mkF m 178 #[.val (.long x0), .second, .val (.long x1), .second, .val (.long x2), .second, .val (.int x3), .val (.long oj13), .second, .val (.ref b16), .val (.long ov23), .second, .val (.long ov25), .second, .val (.long oj39), .second, .val (.long ov26), .second, .val (.long ov43), .second] [(.long ov43), (.ref b16)])) rfl (by rw [hml]; rfl) (Steps.refl _) (argsL := [(.long ov43)]) (rest := []) (lenOf pd_3 rfl) rfl (by show 2 * 0 + _ ≤ _; exact Nat.le_of_eq rfl) (hb hby at_178) (fun _ _ => ⟨rfl, e48, (by decide : 1 + 0 ≤ _), (by decide : 3 + 0 ≤ _)⟩)
          dsimp only [Pt.U, Pt.locs, Pt.cells, Pt.slots] at X51 l51 y51 z51 st51 hQ51
          subst l51 y51 z51
          obtain ⟨rfl, Nq51, e51⟩ := hQ51
          have N51 := Fr.app N48 Nq51
          have pre52 : ∀ t, Steps p.tables e below (T51.setTop (mkF m 184 #[.val (.long x0), .second, .val (.long x1), .second, .val (.long x2), .second, .val (.int x3), .val (.long oj13), .second, .val (.ref b16), .val (.long ov23), .second, .val (.long ov25), .second, .val (.long oj39), .second, .val (.long ov26), .second, .val (.long ov43), .second] [(.int (own_cmp (f6 ov43 x0 oj13) oj39))])) t → Steps p.tables e below (s₁.setTop (entryFrame m #[(.long x0), (.long x1), (.long x2), (.int x3)] maxLocals)) t := by
            intro t k
            refine pre49 _ ?_
            show Steps p.tables e below (T48.setTop (mkF m 169 #[.val (.long x0), .second, .val (.long x1), .second, .val (.long x2), .second, .val (.int x3), .val (.long oj13), .second, .val (.ref b16), .val (.long ov23), .second, .val (.long ov25), .second, .val (.long oj39), .second, .val (.long ov26), .second, .val (.long ov43), .second] [(.int (own_cmp (f5 ov43 x0 (x0 + ((f1_v14 x0 oj13) * oj13)) oj13) ov43))])) _
            refine XS.ifYes X48.here hx rfl (pc0 := 169) (pc' := 174) rfl (hb hby at_169) rfl hc50 (by decide) (by decide) ?_
            show Steps p.tables e below (T48.setTop (mkF m 174 #[.val (.long x0), .second, .val (.long x1), .second, .val (.long x2), .second, .val (.int x3), .val (.long oj13), .second, .val (.ref b16), .val (.long ov23), .second, .val (.long ov25), .second, .val (.long oj39), .second, .val (.long ov26), .second, .val (.long ov43), .second] [])) _
            refine XS.aload X48.here hx rfl (hb hby at_174) rfl rfl ?_
            show Steps p.tables e below (T48.setTop (mkF m 176 #[.val (.long x0), .second, .val (.long x1), .second, .val (.long x2), .second, .val (.int x3), .val (.long oj13), .second, .val (.ref b16), .val (.long ov23), .second, .val (.long ov25), .second, .val (.long oj39), .second, .val (.long ov26), .second, .val (.long ov43), .second] [(.ref b16)])) _
            refine XS.lload X48.here hx rfl (hb hby at_176) rfl ?_
            show Steps p.tables e below (T48.setTop (mkF m 178 #[.val (.long x0), .second, .val (.long x1), .second, .val (.long x2), .second, .val (.int x3), .val (.long oj13), .second, .val (.ref b16), .val (.long ov23), .second, .val (.long ov25), .second, .val (.long oj39), .second, .val (.long ov26), .second, .val (.long ov43), .second] [(.long ov43), (.ref b16)])) _
            refine st51.trans ?_
            show Steps p.tables e below (T51.setTop (mkF m 181 #[.val (.long x0), .second, .val (.long x1), .second, .val (.long x2), .second, .val (.int x3), .val (.long oj13), .second, .val (.ref b16), .val (.long ov23), .second, .val (.long ov25), .second, .val (.long oj39), .second, .val (.long ov26), .second, .val (.long ov43), .second] [(.long (f6 ov43 x0 oj13))])) _
            refine XS.lload X51.here hx rfl (hb hby at_181) rfl ?_
            show Steps p.tables e below (T51.setTop (mkF m 183 #[.val (.long x0), .second, .val (.long x1), .second, .val (.long x2), .second, .val (.int x3), .val (.long oj13), .second, .val (.ref b16), .val (.long ov23), .second, .val (.long ov25), .second, .val (.long oj39), .second, .val (.long ov26), .second, .val (.long ov43), .second] [(.long oj39), (.long (f6 ov43 x0 oj13))])) _
            refine own_xlcmp X51.here hx rfl (hb hby at_183) rfl ?_
            exact k
          obtain ⟨T55, L55, X55, N55, e55, pre55⟩ : ∃ (T' : State) (L' : List Loc), Stand p l e room_1 s m #[(.long x0), (.long x1), (.long x2), (.int x3)] below meth c T' L' 1 3 ∧ Fr n0 L' ∧ T'.heap = h20 ∧ ∀ t, Steps p.tables e below (T'.setTop (mkF m 192 #[.val (.long x0), .second, .val (.long x1), .second, .val (.long x2), .second, .val (.int x3), .val (.long oj13), .second, .val (.ref b16), .val (.long ov23), .second, .val (.long ov25), .second, .val (.long oj39), .second, .val (.long ov26), .second, .val (.long ov43), .second] [(.int oj54)])) t → Steps p.tables e below (s₁.setTop (entryFrame m #[(.long x0), (.long x1), (.long x2), (.int x3)] maxLocals)) t := by
            rcases Bool.eq_false_or_eq_true (ifCond.holds .ne (own_cmp (f6 ov43 x0 oj13) oj39)) with hc53 | hc53
            · have pre56 : ∀ t, Steps p.tables e below (T51.setTop (mkF m 192 #[.val (.long x0), .second, .val (.long x1), .second, .val (.long x2), .second, .val (.int x3), .val (.long oj13), .second, .val (.ref b16), .val (.long ov23), .second, .val (.long ov25), .second, .val (.long oj39), .second, .val (.long ov26), .second, .val (.long ov43), .second] [(.int (0 : Int32))])) t → Steps p.tables e below (s₁.setTop (entryFrame m #[(.long x0), (.long x1), (.long x2), (.int x3)] maxLocals)) t := by
                intro t k
                refine pre52 _ ?_
                show Steps p.tables e below (T51.setTop (mkF m 184 #[.val (.long x0), .second, .val (.long x1), .second, .val (.long x2), .second, .val (.int x3), .val (.long oj13), .second, .val (.ref b16), .val (.long ov23), .second, .val (.long ov25), .second, .val (.long oj39), .second, .val (.long ov26), .second, .val (.long ov43), .second] [(.int (own_cmp (f6 ov43 x0 oj13) oj39))])) _
                refine XS.ifYes X51.here hx rfl (pc0 := 184) (pc' := 191) rfl (hb hby at_184) rfl hc53 (by decide) (by decide) ?_
                show Steps p.tables e below (T51.setTop (mkF m 191 #[.val (.long x0), .second, .val (.long x1), .second, .val (.long x2), .second, .val (.int x3), .val (.long oj13), .second, .val (.ref b16), .val (.long ov23), .second, .val (.long ov25), .second, .val (.long oj39), .second, .val (.long ov26), .second, .val (.long ov43), .second] [])) _
                refine XS.iconst X51.here hx rfl (hb hby at_191) ?_
                exact k
              have qj0 : oj54 = (0 : Int32) := Eq.trans d_oj54 (if_pos hc53)
              refine ⟨T51, _, X51, N51, e51, fun t k => pre56 _ ?_⟩
              rw [qj0] at k
              exact k
            · have pre57 : ∀ t, Steps p.tables e below (T51.setTop (mkF m 192 #[.val (.long x0), .second, .val (.long x1), .second, .val (.long x2), .second, .val (.int x3), .val (.long oj13), .second, .val (.ref b16), .val (.long ov23), .second, .val (.long ov25), .second, .val (.long oj39), .second, .val (.long ov26), .second, .val (.long ov43), .second] [(.int (1 : Int32))])) t → Steps p.tables e below (s₁.setTop (entryFrame m #[(.long x0), (.long x1), (.long x2), (.int x3)] maxLocals)) t := by
                intro t k
                refine pre52 _ ?_
                show Steps p.tables e below (T51.setTop (mkF m 184 #[.val (.long x0), .second, .val (.long x1), .second, .val (.long x2), .second, .val (.int x3), .val (.long oj13), .second, .val (.ref b16), .val (.long ov23), .second, .val (.long ov25), .second, .val (.long oj39), .second, .val (.long ov26), .second, .val (.long ov43), .second] [(.int (own_cmp (f6 ov43 x0 oj13) oj39))])) _
                refine XS.ifNo X51.here hx rfl (hb hby at_184) rfl hc53 ?_
                show Steps p.tables e below (T51.setTop (mkF m 187 #[.val (.long x0), .second, .val (.long x1), .second, .val (.long x2), .second, .val (.int x3), .val (.long oj13), .second, .val (.ref b16), .val (.long ov23), .second, .val (.long ov25), .second, .val (.long oj39), .second, .val (.long ov26), .second, .val (.long ov43), .second] [])) _
                refine XS.iconst X51.here hx rfl (hb hby at_187) ?_
                show Steps p.tables e below (T51.setTop (mkF m 188 #[.val (.long x0), .second, .val (.long x1), .second, .val (.long x2), .second, .val (.int x3), .val (.long oj13), .second, .val (.ref b16), .val (.long ov23), .second, .val (.long ov25), .second, .val (.long oj39), .second, .val (.long ov26), .second, .val (.long ov43), .second] [(.int (1 : Int32))])) _
                refine XS.goto X51.here hx rfl (pc0 := 188) (pc' := 192) rfl (hb hby at_188) (by decide) (by decide) ?_
                exact k
              have qj0 : oj54 = (1 : Int32) := Eq.trans d_oj54 (if_neg (own_nt hc53))
              refine ⟨T51, _, X51, N51, e51, fun t k => pre57 _ ?_⟩
              rw [qj0] at k
              exact k
          obtain ⟨fs, hr, hrun, hended, hW, hsame⟩ := X55.leave (v := some (.int (nar .boolean oj54))) (fun h => by rw [hret] at h; cases h)
          refine ⟨_, _, pre55 _ ?_, hrun, hended, _, _, rfl, ?_, ⟨_, rfl⟩, hW, hsame.mono (by decide) (by decide)⟩
          · show Steps p.tables e below (T55.setTop (mkF m 192 #[.val (.long x0), .second, .val (.long x1), .second, .val (.long x2), .second, .val (.int x3), .val (.long oj13), .second, .val (.ref b16), .val (.long ov23), .second, .val (.long ov25), .second, .val (.long oj39), .second, .val (.long ov26), .second, .val (.long ov43), .second] [(.int oj54)])) _
            exact retN X55 hx (t := .boolean) hret (by simp) (hb hby at_192) hr
          · show Q0 Z x0 x1 x2 x3 h0 n0 _ T55.heap _
            rw [e55]
            have rr : f0 x0 x1 x2 x3 = (nar .boolean oj54) := Eq.trans (hroot) (Eq.trans (if_pos hc2) (Eq.trans (if_neg (own_nt hc45)) (Eq.trans (if_pos hc47) (if_pos hc50))))
            exact ⟨congrArg (fun z => some (Value.int z)) rr.symm, N55⟩
        · obtain ⟨fs, hr, hrun, hended, hW, hsame⟩ := X48.leave (v := some (.int (0 : Int32))) (fun h => by rw [hret] at h; cases h)
          refine ⟨_, _, pre49 _ ?_, hrun, hended, _, _, rfl, ?_, ⟨_, rfl⟩, hW, hsame.mono (by decide) (by decide)⟩
          · show Steps p.tables e below (T48.setTop (mkF m 169 #[.val (.long x0), .second, .val (.long x1), .second, .val (.long x2), .second, .val (.int x3), .val (.long oj13), .second, .val (.ref b16), .val (.long ov23), .second, .val (.long ov25), .second, .val (.long oj39), .second, .val (.long ov26), .second, .val (.long ov43), .second] [(.int (own_cmp (f5 ov43 x0 (x0 + ((f1_v14 x0 oj13) * oj13)) oj13) ov43))])) _
            refine XS.ifNo X48.here hx rfl (hb hby at_169) rfl hc50 ?_
            show Steps p.tables e below (T48.setTop (mkF m 172 #[.val (.long x0), .second, .val (.long x1), .second, .val (.long x2), .second, .val (.int x3), .val (.long oj13), .second, .val (.ref b16), .val (.long ov23), .second, .val (.long ov25), .second, .val (.long oj39), .second, .val (.long ov26), .second, .val (.long ov43), .second] [])) _
            refine XS.iconst X48.here hx rfl (hb hby at_172) ?_
            show Steps p.tables e below (T48.setTop (mkF m 173 #[.val (.long x0), .second, .val (.long x1), .second, .val (.long x2), .second, .val (.int x3), .val (.long oj13), .second, .val (.ref b16), .val (.long ov23), .second, .val (.long ov25), .second, .val (.long oj39), .second, .val (.long ov26), .second, .val (.long ov43), .second] [(.int (0 : Int32))])) _
            exact retN X48 hx (t := .boolean) hret (by simp) (hb hby at_173) hr
          · show Q0 Z x0 x1 x2 x3 h0 n0 _ T48.heap _
            rw [e48]
            have rr : f0 x0 x1 x2 x3 = (0 : Int32) := Eq.trans (hroot) (Eq.trans (if_pos hc2) (Eq.trans (if_neg (own_nt hc45)) (Eq.trans (if_pos hc47) (if_neg (own_nt hc50)))))
            exact ⟨congrArg (fun z => some (Value.int z)) rr.symm, N48⟩
      · obtain ⟨fs, hr, hrun, hended, hW, hsame⟩ := X42.leave (v := some (.int (0 : Int32))) (fun h => by rw [hret] at h; cases h)
        refine ⟨_, _, pre46 _ ?_, hrun, hended, _, _, rfl, ?_, ⟨_, rfl⟩, hW, hsame.mono (by decide) (by decide)⟩
        · show Steps p.tables e below (T42.setTop (mkF m 154 #[.val (.long x0), .second, .val (.long x1), .second, .val (.long x2), .second, .val (.int x3), .val (.long oj13), .second, .val (.ref b16), .val (.long ov23), .second, .val (.long ov25), .second, .val (.long oj39), .second, .val (.long ov26), .second, .val (.long ov43), .second] [(.int (own_cmp ov43 ov23))])) _
          refine XS.ifNo X42.here hx rfl (hb hby at_154) rfl hc47 ?_
          show Steps p.tables e below (T42.setTop (mkF m 157 #[.val (.long x0), .second, .val (.long x1), .second, .val (.long x2), .second, .val (.int x3), .val (.long oj13), .second, .val (.ref b16), .val (.long ov23), .second, .val (.long ov25), .second, .val (.long oj39), .second, .val (.long ov26), .second, .val (.long ov43), .second] [])) _
          refine XS.iconst X42.here hx rfl (hb hby at_157) ?_
          show Steps p.tables e below (T42.setTop (mkF m 158 #[.val (.long x0), .second, .val (.long x1), .second, .val (.long x2), .second, .val (.int x3), .val (.long oj13), .second, .val (.ref b16), .val (.long ov23), .second, .val (.long ov25), .second, .val (.long oj39), .second, .val (.long ov26), .second, .val (.long ov43), .second] [(.int (0 : Int32))])) _
          exact retN X42 hx (t := .boolean) hret (by simp) (hb hby at_158) hr
        · show Q0 Z x0 x1 x2 x3 h0 n0 _ T42.heap _
          rw [e42]
          have rr : f0 x0 x1 x2 x3 = (0 : Int32) := Eq.trans (hroot) (Eq.trans (if_pos hc2) (Eq.trans (if_neg (own_nt hc45)) (if_neg (own_nt hc47))))
          exact ⟨congrArg (fun z => some (Value.int z)) rr.symm, N42⟩
  · obtain ⟨fs, hr, hrun, hended, hW, hsame⟩ := X0.leave (v := some (.int (1 : Int32))) (fun h => by rw [hret] at h; cases h)
    refine ⟨_, _, pre1 _ ?_, hrun, hended, _, _, rfl, ?_, ⟨_, rfl⟩, hW, hsame.mono (by decide) (by decide)⟩
    · show Steps p.tables e below (s₁.setTop (mkF m 5 #[.val (.long x0), .second, .val (.long x1), .second, .val (.long x2), .second, .val (.int x3), .unset, .unset, .unset, .unset, .unset, .unset, .unset, .unset, .unset, .unset, .unset, .unset, .unset] [(.int (own_cmp x0 (9223372036854775807 : Int64)))])) _
      refine XS.ifNo X0.here hx rfl (hb hby at_5) rfl hc2 ?_
      show Steps p.tables e below (s₁.setTop (mkF m 8 #[.val (.long x0), .second, .val (.long x1), .second, .val (.long x2), .second, .val (.int x3), .unset, .unset, .unset, .unset, .unset, .unset, .unset, .unset, .unset, .unset, .unset, .unset, .unset] [])) _
      refine XS.iconst X0.here hx rfl (hb hby at_8) ?_
      show Steps p.tables e below (s₁.setTop (mkF m 9 #[.val (.long x0), .second, .val (.long x1), .second, .val (.long x2), .second, .val (.int x3), .unset, .unset, .unset, .unset, .unset, .unset, .unset, .unset, .unset, .unset, .unset, .unset, .unset] [(.int (1 : Int32))])) _
      exact retN X0 hx (t := .boolean) hret (by simp) (hb hby at_9) hr
    · show Q0 Z x0 x1 x2 x3 h0 n0 _ s₁.heap _
      rw [e0]
      have rr : f0 x0 x1 x2 x3 = (1 : Int32) := Eq.trans (hroot) (if_neg (own_nt hc2))
      exact ⟨congrArg (fun z => some (Value.int z)) rr.symm, N0⟩
theorem own_sgn (x : Int64) : (x.toInt < 0) ↔ x.toBitVec.msb = true := by
  show x.toBitVec.toInt < 0 ↔ _
  rw [BitVec.msb_eq_toInt]
  exact decide_eq_true_iff.symm
theorem own_sgn_or (a b : Int64) : (a ||| b).toInt < 0 ↔ (a.toInt < 0 ∨ b.toInt < 0) := by
  rw [own_sgn, own_sgn, own_sgn]
  show (a.toBitVec ||| b.toBitVec).msb = true ↔ _
  rw [BitVec.msb_or, Bool.or_eq_true]
theorem own_sgn_not (a : Int64) : (a ^^^ (-1 : Int64)).toInt < 0 ↔ ¬ a.toInt < 0 := by
  rw [own_sgn, own_sgn]
  show (a.toBitVec ^^^ (-1 : Int64).toBitVec).msb = true ↔ _
  rw [BitVec.msb_xor, show (-1 : Int64).toBitVec.msb = true from by decide]
  cases a.toBitVec.msb <;> decide
/-- x / d on unsigned longs, d positive: what both of the JDK's methods reckon first -/
theorem own_half (x d : Int64) (hd : 0 < d.toInt) : ∃ Q R : Int, 0 ≤ Q ∧ 0 ≤ R ∧ R < 2 * d.toInt ∧ x.toInt % 18446744073709551616 = 2 * (Q * d.toInt) + R ∧ (f4_v1 x d).toInt % 18446744073709551616 = 2 * Q ∧ (f4_v2 x d).toInt % 18446744073709551616 = R := by
  have hx := rng64 x
  have hdr := rng64 d
  have a1 : (own_lushr x 1).toInt = (x.toInt % 18446744073709551616) / 2 := c_lushr x 1 1 (by decide) (by decide)
  have a2 := (c_ldiv (own_lushr x 1) d d.toInt rfl (fun q => by rw [q] at hd; exact absurd hd (by decide))).1 (by omega)
  obtain ⟨q, hq⟩ : ∃ q, q = own_lushr x 1 / d := ⟨_, rfl⟩
  rw [← hq] at a2
  have a3 : ((own_lshl q 1).toInt - q.toInt * 2) % 18446744073709551616 = 0 := c_lshl q 1 1 (by decide)
  have v1 : f4_v1 x d = own_lshl q 1 := by rw [hq]; rfl
  rw [a1] at a2
  obtain ⟨D, hD⟩ : ∃ D, D = d.toInt := ⟨_, rfl⟩
  obtain ⟨H, hH⟩ : ∃ H, H = (x.toInt % 18446744073709551616) / 2 := ⟨_, rfl⟩
  rw [← hD] at hd a2 hdr
  rw [← hH] at a2
  have b1 : H / D * D ≤ H := Int.ediv_mul_le H (by omega)
  have b2 : H < (H / D + 1) * D := Int.lt_ediv_add_one_mul_self H hd
  have b3 : 0 ≤ H / D := Int.ediv_nonneg (by omega) (by omega)
  have b4 : H / D ≤ H := Int.ediv_le_self _ (by omega)
  rw [Int.add_mul, Int.one_mul] at b2
  obtain ⟨Q, hQ⟩ : ∃ Q, Q = H / D := ⟨_, rfl⟩
  rw [← hQ] at a2 b1 b2 b3 b4
  have c1 := rng64 (own_lshl q 1)
  obtain ⟨k, hk⟩ : ∃ k : Int, (own_lshl q 1).toInt = 2 * Q + 18446744073709551616 * k := ⟨((own_lshl q 1).toInt - q.toInt * 2) / 18446744073709551616, by omega⟩
  have c2 := c_lmul (own_lshl q 1) d
  rw [← hD, hk, Int.add_mul, Int.mul_assoc, Int.mul_assoc] at c2
  have c3 := c_lsub x (own_lshl q 1 * d)
  have c4 := rng64 (own_lshl q 1 * d)
  have c5 := rng64 (x - own_lshl q 1 * d)
  have v2 : f4_v2 x d = x - own_lshl q 1 * d := by rw [hq]; rfl
  rw [← hD, v1, v2]
  exact ⟨Q, x.toInt % 18446744073709551616 - 2 * (Q * D), by omega, by omega, by omega, by omega, by omega, by omega⟩
theorem own_f4 (x d : Int64) (hd : 0 < d.toInt) : ∃ N : Int, 0 ≤ N ∧ N * d.toInt ≤ x.toInt % 18446744073709551616 ∧ x.toInt % 18446744073709551616 < N * d.toInt + d.toInt ∧ (f4 x d).toInt % 18446744073709551616 = N := by
  obtain ⟨Q, R, h1, h2, h3, h4, h5, h6⟩ := own_half x d hd
  have hx := rng64 x
  have hdr := rng64 d
  obtain ⟨r, hr⟩ : ∃ r, r = f4_v2 x d := ⟨_, rfl⟩
  obtain ⟨v, hv⟩ : ∃ v, v = f4_v1 x d := ⟨_, rfl⟩
  rw [← hr] at h6
  rw [← hv] at h5
  have a1 := rng64 r
  have a2 := c_lsub r d
  have a3 := rng64 (r - d)
  have a4 := own_sgn_or r ((r - d) ^^^ (-1 : Int64))
  have a5 := own_sgn_not (r - d)
  obtain ⟨z, hz⟩ : ∃ z, z = r ||| ((r - d) ^^^ (-1 : Int64)) := ⟨_, rfl⟩
  rw [← hz] at a4
  have a6 : (own_lushr z 63).toInt = (z.toInt % 18446744073709551616) / 9223372036854775808 := c_lushr z 63 63 (by decide) (by decide)
  have a7 := rng64 z
  have a8 := c_ladd v (own_lushr z 63)
  have a9 := rng64 (v + own_lushr z 63)
  have e : f4 x d = v + own_lushr z 63 := by rw [hz, hr, hv]; rfl
  rw [e]
  by_cases hR : R < d.toInt
  · refine ⟨2 * Q, by omega, ?_, ?_, ?_⟩
    · rw [Int.mul_assoc]; omega
    · rw [Int.mul_assoc]; omega
    · have hz0 : ¬ z.toInt < 0 := by rw [a4, a5]; omega
      have hQ : 2 * Q < 18446744073709551616 := by omega
      omega
  · refine ⟨2 * Q + 1, by omega, ?_, ?_, ?_⟩
    · rw [Int.add_mul, Int.mul_assoc, Int.one_mul]; omega
    · rw [Int.add_mul, Int.mul_assoc, Int.one_mul]; omega
    · have hz0 : z.toInt < 0 := by rw [a4, a5]; omega
      have hQ : 2 * Q + 1 < 18446744073709551616 := by
        have : (2 * Q + 1) * 1 ≤ (2 * Q + 1) * d.toInt := Int.mul_le_mul_of_nonneg_left (by omega) (by omega)
        rw [Int.mul_one, Int.add_mul, Int.mul_assoc, Int.one_mul] at this
        omega
      omega
/-- the last boundary: S + M, M the greatest multiple of the tick that fits -/
theorem own_lastb (s d : Int64) (hd : 0 < d.toInt) (hs : s.toInt < 9223372036854775807) : ∃ N : Int, 0 ≤ N ∧ N * d.toInt ≤ 9223372036854775806 - s.toInt ∧ 9223372036854775806 - s.toInt < N * d.toInt + d.toInt ∧ (f1_v14 s d).toInt % 18446744073709551616 = N ∧ (s + f1_v14 s d * d).toInt = s.toInt + N * d.toInt := by
  have hsr := rng64 s
  have hdr := rng64 d
  have e : (9223372036854775806 : Int64).toInt = 9223372036854775806 := rfl
  have a1 := c_lsub (9223372036854775806 : Int64) s
  have a2 := rng64 ((9223372036854775806 : Int64) - s)
  obtain ⟨N, h1, h2, h3, h4⟩ := own_f4 ((9223372036854775806 : Int64) - s) d hd
  have hU : ((9223372036854775806 : Int64) - s).toInt % 18446744073709551616 = 9223372036854775806 - s.toInt := by omega
  rw [hU] at h2 h3
  have ev : f1_v14 s d = f4 ((9223372036854775806 : Int64) - s) d := rfl
  rw [← ev] at h4
  obtain ⟨n, hn⟩ : ∃ n, n = f1_v14 s d := ⟨_, rfl⟩
  rw [← hn] at h4 ⊢
  obtain ⟨k, hk⟩ : ∃ k : Int, n.toInt = N + 18446744073709551616 * k := ⟨n.toInt / 18446744073709551616, by omega⟩
  have c1 := c_lmul n d
  rw [hk, Int.add_mul, Int.mul_assoc] at c1
  have c2 := rng64 (n * d)
  have c3 := c_ladd s (n * d)
  have c4 := rng64 (s + n * d)
  exact ⟨N, h1, by omega, by omega, h4, by omega⟩
theorem own_steps (N D j : Int) (hD : 0 < D) (h : j * D < N * D) : j * D + D ≤ N * D := by
  have h1 : j < N := Int.lt_of_mul_lt_mul_right h (by omega)
  have h2 : (j + 1) * D ≤ N * D := Int.mul_le_mul_of_nonneg_right (by omega) (by omega)
  rw [Int.add_mul, Int.one_mul] at h2
  exact h2

theorem own_uniq (N K D : Int) (hD : 0 < D) (h1 : N * D ≤ K * D) (h2 : K * D < N * D + D) : N = K := by
  have a : N ≤ K := Int.le_of_mul_le_mul_right h1 hD
  have b : K < N + 1 := Int.lt_of_mul_lt_mul_right (by rw [Int.add_mul, Int.one_mul]; exact h2) (by omega)
  omega
/-- x % d on unsigned longs, d positive -/
theorem own_f9 (x d : Int64) (hd : 0 < d.toInt) : ∃ N : Int, x.toInt % 18446744073709551616 = N * d.toInt + (f9 x d).toInt ∧ 0 ≤ (f9 x d).toInt ∧ (f9 x d).toInt < d.toInt := by
  obtain ⟨Q, R, h1, h2, h3, h4, h5, h6⟩ := own_half x d hd
  have hdr := rng64 d
  obtain ⟨r, hr⟩ : ∃ r, r = f4_v2 x d := ⟨_, rfl⟩
  rw [← hr] at h6
  have a1 := rng64 r
  have a2 := c_lsub r d
  have a3 := rng64 (r - d)
  have a5 := own_sgn_not (r - d)
  obtain ⟨z, hz⟩ : ∃ z, z = (r - d) ^^^ (-1 : Int64) := ⟨_, rfl⟩
  rw [← hz] at a5
  have a6 : (own_lshr z 63).toInt = z.toInt / 9223372036854775808 := c_lshr z 63 63 (by decide)
  have a7 := rng64 z
  have e0 : (0 : Int64).toInt = 0 := rfl
  have em : (-1 : Int64).toInt = -1 := rfl
  have e : f9 x d = r - (own_lshr z 63 &&& d) := by rw [hz, hr]; rfl
  by_cases hR : R < d.toInt
  · have hs : own_lshr z 63 = 0 := by
      apply Int64.toInt_inj.mp
      rw [a6, e0]
      have hz0 : ¬ z.toInt < 0 := by rw [a5]; omega
      omega
    have e2 : f9 x d = r - 0 := by
      rw [e, hs]
      congr 1
      apply Int64.toBitVec_inj.mp
      show (0 : BitVec 64) &&& d.toBitVec = 0
      exact BitVec.zero_and
    have c1 := c_lsub r 0
    have c2 := rng64 (r - 0)
    refine ⟨2 * Q, ?_, ?_, ?_⟩
    · rw [e2, Int.mul_assoc]; omega
    · rw [e2]; omega
    · rw [e2]; omega
  · have hs : own_lshr z 63 = -1 := by
      apply Int64.toInt_inj.mp
      rw [a6, em]
      have hz0 : z.toInt < 0 := by rw [a5]; omega
      omega
    have e2 : f9 x d = r - d := by
      rw [e, hs]
      congr 1
      apply Int64.toBitVec_inj.mp
      show (-1 : Int64).toBitVec &&& d.toBitVec = d.toBitVec
      rw [show (-1 : Int64).toBitVec = BitVec.allOnes 64 from by decide]
      exact BitVec.allOnes_and
    refine ⟨2 * Q + 1, ?_, ?_, ?_⟩
    · rw [e2, Int.add_mul, Int.mul_assoc, Int.one_mul]; omega
    · rw [e2]; omega
    · rw [e2]; omega
/-- start + k ticks, for k ticks that fit -/
theorem own_b (s d k : Int64) (K : Int) (hd : 0 < d.toInt) (hk : k.toInt % 18446744073709551616 = K) (hfit : K * d.toInt ≤ 9223372036854775806 - s.toInt) : (s + k * d).toInt = s.toInt + K * d.toInt := by
  have hs := rng64 s
  have hkr := rng64 k
  have p0 : 0 ≤ K * d.toInt := Int.mul_nonneg (by omega) (by omega)
  obtain ⟨c, hc⟩ : ∃ c : Int, k.toInt = K + 18446744073709551616 * c := ⟨k.toInt / 18446744073709551616, by omega⟩
  have c1 := c_lmul k d
  rw [hc, Int.add_mul, Int.mul_assoc] at c1
  have c2 := rng64 (k * d)
  have c3 := c_ladd s (k * d)
  have c4 := rng64 (s + k * d)
  omega
/-- the ticks up to start + K ticks -/
theorem own_ticks (s d b : Int64) (K : Int) (hd : 0 < d.toInt) (hK : 0 ≤ K) (hb : b.toInt = s.toInt + K * d.toInt) : (f6 b s d).toInt % 18446744073709551616 = K ∧ (f9 (b - s) d).toInt = 0 := by
  have hs := rng64 s
  have hbr := rng64 b
  have a1 := c_lsub b s
  have a2 := rng64 (b - s)
  have p0 : 0 ≤ K * d.toInt := Int.mul_nonneg hK (by omega)
  have hU : (b - s).toInt % 18446744073709551616 = K * d.toInt := by
    omega
  obtain ⟨N, n1, n2, n3, n4⟩ := own_f4 (b - s) d hd
  obtain ⟨N', m1, m2, m3⟩ := own_f9 (b - s) d hd
  rw [hU] at n2 n3 m1
  have u1 := own_uniq N K d.toInt hd n2 n3
  have u2 := own_uniq N' K d.toInt hd (by omega) (by omega)
  refine ⟨by rw [← u1]; exact n4, ?_⟩
  rw [u2] at m1
  omega
theorem own_law (x0 x1 x2 : Int64) (x3 : Int32) : f0 x0 x1 x2 x3 = 1 := by
  have eM : (9223372036854775807 : Int64).toInt = 9223372036854775807 := rfl
  have e1 : (1 : Int64).toInt = 1 := rfl
  have hx0 := rng64 x0
  unfold f0
  by_cases hM : x0.toInt = 9223372036854775807
  · exact if_neg (by rw [own_cne, eM]; exact fun q => q hM)
  rw [if_pos (by rw [own_cne, eM]; exact hM)]
  have hT0 := own_tick x0 x1 x2 x3
  obtain ⟨T, hT⟩ : ∃ T, T = f0_j13 x0 x1 x2 x3 := ⟨_, rfl⟩
  have hTp : 0 < T.toInt := by rw [hT]; exact hT0
  obtain ⟨N, n1, n2, n3, -, n5⟩ := own_lastb x0 T hTp (by omega)
  obtain ⟨L, hL⟩ : ∃ L, L = x0 + f1_v14 x0 T * T := ⟨_, rfl⟩
  rw [← hL] at n5
  have hLr := rng64 L
  have h23 : f0_v23 x0 x1 x2 x3 = L := by
    unfold f0_v23 f5
    rw [← hT, ← hL, if_neg (by rw [own_clt, eM]; omega)]
  have hk25 : (f0_v25 x0 x1 x2 x3).toInt % 18446744073709551616 = N := by
    unfold f0_v25
    rw [h23, ← hT]
    exact (own_ticks x0 T L N hTp n1 n5).1
  obtain ⟨m, hm⟩ : ∃ m, m = f0_v25 x0 x1 x2 x3 := ⟨_, rfl⟩
  rw [← hm] at hk25
  have hmr := rng64 m
  have hx2 := rng64 x2
  have hlow : (f0_v26 x0 x1 x2 x3).toInt = x2.toInt % 256 := c_maskL x2 255 8 (by decide) (by decide)
  obtain ⟨w, hw⟩ : ∃ w, w = f0_v26 x0 x1 x2 x3 := ⟨_, rfl⟩
  rw [← hw] at hlow
  -- the number of ticks that the law picks fits
  have hk : 0 ≤ (f0_j39 x0 x1 x2 x3).toInt % 18446744073709551616 ∧ (f0_j39 x0 x1 x2 x3).toInt % 18446744073709551616 ≤ N := by
    unfold f0_j39 f0_j35 f0_v33 f0_v34
    rw [← hm, ← hw]
    rcases own_f7 x2 m with ⟨a1, a2⟩ | ⟨a1, a2⟩
    · rw [a2, if_neg (by decide)]
      omega
    · rw [a2, if_pos (by rfl)]
      rcases own_f7 w m with ⟨b1, b2⟩ | ⟨b1, b2⟩
      · rw [b2, if_neg (by decide)]
        have c1 := c_lsub m w
        have c2 := rng64 (m - w)
        omega
      · rw [b2, if_pos (by rfl)]
        have c1 := c_ladd m 1
        have c2 := rng64 (m + 1)
        have c3 := (c_lrem w (m + 1) (m + 1).toInt rfl).1 (by omega)
        have c4 : own_lrem w (m + 1) = w - w / (m + 1) * (m + 1) := rfl
        rw [← c4] at c3
        have c5 := Int.emod_nonneg w.toInt (show (m + 1).toInt ≠ 0 by omega)
        have c6 := Int.emod_lt_of_pos w.toInt (show 0 < (m + 1).toInt by omega)
        rw [c3]
        omega
  obtain ⟨k, hkk⟩ : ∃ k, k = f0_j39 x0 x1 x2 x3 := ⟨_, rfl⟩
  rw [← hkk] at hk
  obtain ⟨K, hK⟩ : ∃ K, k.toInt % 18446744073709551616 = K := ⟨_, rfl⟩
  rw [hK] at hk
  have hKN : K * T.toInt ≤ N * T.toInt := Int.mul_le_mul_of_nonneg_right hk.2 (by omega)
  have p0 : 0 ≤ K * T.toInt := Int.mul_nonneg hk.1 (by omega)
  have hb : (f0_v43 x0 x1 x2 x3).toInt = x0.toInt + K * T.toInt := by
    unfold f0_v43 f8
    rw [← hkk, ← hT]
    exact own_b x0 T k K hTp hK (by omega)
  obtain ⟨b, hbb⟩ : ∃ b, b = f0_v43 x0 x1 x2 x3 := ⟨_, rfl⟩
  rw [← hbb] at hb
  have ht := own_ticks x0 T b K hTp hk.1 hb
  have hbr := rng64 b
  rw [← hbb, h23, ← hT, ← hL, if_neg (by rw [own_cgt]; omega), if_pos (by rw [own_cle]; omega)]
  have h5 : (f5 b x0 L T).toInt = b.toInt := by
    unfold f5 f5_v8
    by_cases q : b.toInt < L.toInt
    · rw [if_pos (by rw [own_clt]; exact q)]
      have c1 := c_lsub b (f9 (b - x0) T)
      have c2 := rng64 (b - f9 (b - x0) T)
      omega
    · rw [if_neg (by rw [own_clt]; exact q)]
      omega
  rw [if_pos (by rw [own_ceq]; exact h5)]
  apply own_nar1
  unfold f0_j54
  rw [← hbb, ← hT, ← hkk]
  have r1 := rng64 (f6 b x0 T)
  have r2 := rng64 k
  exact if_neg (by rw [own_cne]; omega)
set_option maxRecDepth 65536 in
set_option maxHeartbeats 40000000 in
theorem comes_1 {Post : Tables → Env → Array Value → State → Outcome → State → Prop} (hpost : ∀ tb e args s v u, (limb_1_1.after args s (.returned v) u = true ∧ limb_1_2.after args s (.returned v) u = true ∧ True) → FrameEnd s (.returned v) u (Jvm.fieldLocs frame_1_writes args s ++ Jvm.arrayLocs frame_1_arrays args s ++ Jvm.staticLocs frame_1_statics s) 16 128 → Post tb e args s (.returned v) u) :
    ArmFor flags0 classFile x code maxLocals ret World_1 tables_1 room_1 Calls_1 rest_1 Pre_1 Post := by
  intro l hfl _ _ p e ha hc hk s m args below hf hA hF happ hP
  obtain ⟨hcalls, hrest, hpre⟩ := hP
  obtain ⟨-, -, -, hnamed, -, -, -, hat⟩ := (Spec.applies_iff hf).mp happ
  obtain ⟨hg, hn⟩ := and_e (Cond.before_iff.mp (show (Jvm.Cond.and given_1 narrow_1).before args s = true from hpre))
  obtain ⟨g1, g2⟩ := and_e hg
  obtain ⟨g3, g4⟩ := and_e g2
  obtain ⟨g5, g6⟩ := and_e g4
  obtain ⟨g7, g8⟩ := and_e g6
  obtain ⟨w0, w1, w2, w3, rfl⟩ : ∃ w0 w1 w2 w3 : Value, args = #[w0, w1, w2, w3] := by
    have hs : args.size = 4 := by simpa [Cond.value, given_1] using g1
    obtain ⟨L⟩ := args
    match L, hs with
    | [w0, w1, w2, w3], _ => exact ⟨w0, w1, w2, w3, rfl⟩
  have hw := fun d (hd : d ∈ tables_1) => atoms_spec (ws := Jvm.Cond.code x code maxLocals ret :: tables_1) hat d (List.mem_cons_of_mem _ hd)
  obtain ⟨i0, ei0⟩ := isL_v g3
  obtain rfl : w0 = (.long i0) := Option.some.inj ei0
  obtain ⟨i1, ei1⟩ := isL_v g5
  obtain rfl : w1 = (.long i1) := Option.some.inj ei1
  obtain ⟨i2, ei2⟩ := isL_v g7
  obtain rfl : w2 = (.long i2) := Option.some.inj ei2
  obtain ⟨i3, ei3⟩ := is_v g8
  obtain rfl : w3 = (.int i3) := Option.some.inj ei3
  obtain ⟨n, o, h1, h2, h3, v, L, rfl, ⟨hv, N⟩, hq⟩ := rm0 l s _ hw tables_1 i0 i1 i2 i3 s.heap s.heap.size (Nat.le_refl _) p e ha hc hk s m _ below hf ((Spec.applies_iff_loose hf).mp happ).1 ⟨rfl, State.Warmed39.refl s, rfl⟩ trivial
  rw [own_law] at hv
  subst hv
  refine ⟨n, _, h1, h2, h3, hpost _ _ _ _ _ _ ⟨Cond.after_iff.mpr rfl, Cond.after_iff.mpr (eq_i res_at (Term.int_eval (1)) rfl), trivial⟩ ⟨hq.1, hq.2.1, (hq.2.2.sift fun y hy => Or.inr (N y hy)).mono (by decide) (by decide)⟩⟩
theorem main_1_1 : Claimed_1_1 := comes_1 fun _ _ _ _ _ _ h hF => ⟨h.1, hF⟩
theorem main_1_2 : Claimed_1_2 := comes_1 fun _ _ _ _ _ _ h hF => ⟨h.2.1, hF⟩
end Jvm.Pilot.@@N@@
namespace Jvm.Pilot.@@N@@
open Jvm Jvm.ClassFile Sem Op Lib Jvm.Free Jvm.Stand Jvm.Pilot.@@N@@.Jvm.D
/-! MADE BY PROGRAM (witnessworld.py) out of the Statement's table words and the real class files: 14 classes; the members and pool entries that the words name. The judged class is class 1, her method 2. -/
namespace start1
open Jvm.ClassFile
def u (s : String) : CpInfo := .utf8 (stringToUtf16 s)
/-- a pool by its gaps: so many unusable entries, then the entry; so many at the end -/
def gap : Nat → List CpInfo → List CpInfo
  | 0, r => r
  | n + 1, r => .unusable :: gap n r
def poolList (es : List (Nat × CpInfo)) (last : Nat) : List CpInfo := es.foldr (fun e r => gap e.1 (e.2 :: r)) (gap last [])
def pool (es : List (Nat × CpInfo)) (last : Nat) : Array CpInfo := ⟨poolList es last⟩
def fileOf (pool : Array CpInfo) (this : Nat) (attrs : Array Attribute := #[]) (ms : Array MethodInfo := #[]) (fl : Nat := 33) (sup : Nat := 0) (ifs : Array Nat := #[]) (fds : Array FieldInfo := #[]) : ClassFile where
  minorVersion := 0
  majorVersion := 65
  constantPool := pool
  accessFlags := fl
  thisClass := this
  superClass := sup
  interfaces := ifs
  fields := fds
  methods := ms
  attributes := attrs
def plain (name : String) (sup : Option ClassId) : Class where
  name := name
  kind := .ordinary
  loader := none
  accessFlags := 33
  super := sup
  interfaces := #[]
  cf := none
  fields := #[]
  methods := #[]
  instanceTypes := #[]
  staticTypes := #[]
  resolved := #[]
  callSites := []
  init := .initialized
  statics := none
  mirror := none

def pool0 : Array CpInfo := pool [(5, u "<init>"), (0, u "()V"), (1, .class_ 10), (1, u "java/lang/Object")] 113

def k0c0 : Code := { maxStack := 0, maxLocals := 1, code := object_method_1_code, exceptionTable := #[], attributes := #[] }
def k0m0 : Method := { name := "<init>", desc := "()V", sig := { parameters := [], returnType := none }, accessFlags := 1, code := some k0c0 }
/-- java/lang/Object -/
def k0 : Class := { plain "java/lang/Object" none with
  accessFlags := 33
  interfaces := #[]
  cf := some (fileOf pool0 8 #[] #[{ accessFlags := 1, nameIndex := 5, descriptorIndex := 6, attributes := #[] }] 33 0 #[] #[])
  fields := #[]
  methods := #[k0m0]
  instanceTypes := #[]
  staticTypes := #[]
  resolved := Array.replicate 124 none
  statics := none }

def pool1 : Array CpInfo := pool [(2, .class_ 4), (1, u "java/lang/Object"), (0, u "<init>"), (0, u "()V"), (0, .long 9223372036854775808), (1, .long 9223372036854775807), (1, .long 65535), (1, .class_ 14), (0, u "com/example/tick_wheel/tickwheel/wheel/TickGrid"), (0, .methodref 13 16), (0, .nameAndType 5 17), (0, u "(JJ)V"), (0, .methodref 13 19), (0, .nameAndType 20 21), (0, u "boundaryAtOrBefore"), (0, u "(J)J"), (0, .methodref 13 23), (0, .nameAndType 24 21), (0, u "ticksTo"), (0, .long 255), (1, .methodref 28 29), (0, .class_ 30), (0, .nameAndType 31 32), (0, u "com/example/tick_wheel/tickwheel/wheel/TickGridBoundaryAtPinLaw"), (0, u "uleq"), (0, u "(JJ)Z"), (0, .methodref 13 34), (0, .nameAndType 35 21), (0, u "boundaryAt"), (3, u "law"), (0, u "(JJJI)Z")] 2

def k1m0 : Method := { name := "<init>", desc := "()V", sig := { parameters := [], returnType := none }, accessFlags := 1, code := none }
def k1c1 : Code := { maxStack := 6, maxLocals := 4, code := method_2_code, exceptionTable := #[], attributes := #[] }
def k1m1 : Method := { name := "uleq", desc := "(JJ)Z", sig := { parameters := [.long, .long], returnType := some .boolean }, accessFlags := 10, code := some k1c1 }
def k1c2 : Code := { maxStack := 6, maxLocals := 20, code := code, exceptionTable := #[], attributes := #[] }
def k1m2 : Method := { name := "law", desc := "(JJJI)Z", sig := { parameters := [.long, .long, .long, .int], returnType := some .boolean }, accessFlags := 9, code := some k1c2 }
/-- com/example/tick_wheel/tickwheel/wheel/TickGridBoundaryAtPinLaw -/
def k1 : Class := { plain "com/example/tick_wheel/tickwheel/wheel/TickGridBoundaryAtPinLaw" (some 0) with
  accessFlags := 49
  interfaces := #[]
  cf := some (fileOf pool1 28 #[] #[{ accessFlags := 1, nameIndex := 5, descriptorIndex := 6, attributes := #[] }, { accessFlags := 10, nameIndex := 31, descriptorIndex := 32, attributes := #[] }, { accessFlags := 9, nameIndex := 39, descriptorIndex := 40, attributes := #[] }] 49 2 #[] #[])
  fields := #[]
  methods := #[k1m0, k1m1, k1m2]
  instanceTypes := #[]
  staticTypes := #[]
  resolved := Array.replicate 43 none
  statics := none }

def pool2 : Array CpInfo := pool [(1, .class_ 2), (0, u "java/lang/Long"), (0, .methodref 4 5), (0, .class_ 6), (0, .nameAndType 7 8), (0, u "java/lang/Object"), (0, u "<init>"), (0, u "()V"), (0, .methodref 10 11), (0, .class_ 12), (0, .nameAndType 13 14), (0, u "com/example/tick_wheel/tickwheel/wheel/TickGrid"), (0, u "checkTick"), (0, u "(J)V"), (0, .long 9223372036854775807), (8, .fieldref 10 25), (0, .nameAndType 26 27), (0, u "startNanos"), (0, u "J"), (0, .fieldref 10 29), (0, .nameAndType 30 27), (0, u "tickNanos"), (0, .long 9223372036854775806), (1, .methodref 1 34), (0, .nameAndType 35 36), (0, u "divideUnsigned"), (0, u "(JJ)J"), (0, .fieldref 10 38), (0, .nameAndType 39 27), (0, u "lastBoundaryNanos"), (4, .methodref 1 45), (0, .nameAndType 46 36), (0, u "remainderUnsigned"), (3, u "NEVER"), (1, u "(JJ)V"), (4, u "(J)J"), (0, u "boundaryAtOrBefore"), (1, u "ticksTo"), (0, u "boundaryAt")] 19

def k2c0 : Code := { maxStack := 7, maxLocals := 7, code := prog_3_method_1_code, exceptionTable := #[], attributes := #[] }
def k2m0 : Method := { name := "<init>", desc := "(JJ)V", sig := { parameters := [.long, .long], returnType := none }, accessFlags := 0, code := some k2c0 }
def k2c1 : Code := { maxStack := 4, maxLocals := 2, code := prog_3_method_2_code, exceptionTable := #[], attributes := #[] }
def k2m1 : Method := { name := "checkTick", desc := "(J)V", sig := { parameters := [.long], returnType := none }, accessFlags := 8, code := some k2c1 }
def k2c2 : Code := { maxStack := 6, maxLocals := 5, code := prog_3_method_4_code, exceptionTable := #[], attributes := #[] }
def k2m2 : Method := { name := "boundaryAtOrBefore", desc := "(J)J", sig := { parameters := [.long], returnType := some .long }, accessFlags := 0, code := some k2c2 }
def k2c3 : Code := { maxStack := 4, maxLocals := 3, code := prog_3_method_6_code, exceptionTable := #[], attributes := #[] }
def k2m3 : Method := { name := "ticksTo", desc := "(J)J", sig := { parameters := [.long], returnType := some .long }, accessFlags := 0, code := some k2c3 }
def k2c4 : Code := { maxStack := 6, maxLocals := 3, code := prog_3_method_7_code, exceptionTable := #[], attributes := #[] }
def k2m4 : Method := { name := "boundaryAt", desc := "(J)J", sig := { parameters := [.long], returnType := some .long }, accessFlags := 0, code := some k2c4 }
/-- com/example/tick_wheel/tickwheel/wheel/TickGrid -/
def k2 : Class := { plain "com/example/tick_wheel/tickwheel/wheel/TickGrid" (some 0) with
  accessFlags := 48
  interfaces := #[]
  cf := some (fileOf pool2 10 #[] #[{ accessFlags := 0, nameIndex := 7, descriptorIndex := 52, attributes := #[] }, { accessFlags := 8, nameIndex := 13, descriptorIndex := 14, attributes := #[] }, { accessFlags := 0, nameIndex := 58, descriptorIndex := 57, attributes := #[] }, { accessFlags := 0, nameIndex := 60, descriptorIndex := 57, attributes := #[] }, { accessFlags := 0, nameIndex := 61, descriptorIndex := 57, attributes := #[] }] 48 4 #[] #[{ accessFlags := 24, nameIndex := 50, descriptorIndex := 27, attributes := #[] }, { accessFlags := 18, nameIndex := 26, descriptorIndex := 27, attributes := #[] }, { accessFlags := 18, nameIndex := 30, descriptorIndex := 27, attributes := #[] }, { accessFlags := 18, nameIndex := 39, descriptorIndex := 27, attributes := #[] }])
  fields := #[{ name := "NEVER", type := .long, accessFlags := 24, slot := 0, constantValue := 0 }, { name := "startNanos", type := .long, accessFlags := 18, slot := 0, constantValue := 0 }, { name := "tickNanos", type := .long, accessFlags := 18, slot := 1, constantValue := 0 }, { name := "lastBoundaryNanos", type := .long, accessFlags := 18, slot := 2, constantValue := 0 }]
  methods := #[k2m0, k2m1, k2m2, k2m3, k2m4]
  instanceTypes := #[.long, .long, .long]
  staticTypes := #[.long]
  resolved := Array.replicate 81 none
  statics := none }

def pool3 : Array CpInfo := pool [(1, .class_ 2), (0, u "java/io/Serializable"), (0, .class_ 4), (0, u "java/lang/Object")] 2

/-- java/io/Serializable -/
def k3 : Class := { plain "java/io/Serializable" (some 0) with
  accessFlags := 1537
  interfaces := #[]
  cf := some (fileOf pool3 1 #[] #[] 1537 3 #[] #[])
  fields := #[]
  methods := #[]
  instanceTypes := #[]
  staticTypes := #[]
  resolved := Array.replicate 7 none
  statics := none }

def pool4 : Array CpInfo := pool [(2, .class_ 4), (1, u "java/lang/Object"), (0, u "<init>"), (0, u "()V"), (1, .class_ 10), (1, u "java/lang/Number"), (2, .class_ 14), (0, u "java/io/Serializable"), (0, u "serialVersionUID"), (0, u "J")] 20

def k4m0 : Method := { name := "<init>", desc := "()V", sig := { parameters := [], returnType := none }, accessFlags := 1, code := none }
/-- java/lang/Number -/
def k4 : Class := { plain "java/lang/Number" (some 0) with
  accessFlags := 1057
  interfaces := #[3]
  cf := some (fileOf pool4 8 #[] #[{ accessFlags := 1, nameIndex := 5, descriptorIndex := 6, attributes := #[] }] 1057 2 #[13] #[{ accessFlags := 26, nameIndex := 15, descriptorIndex := 16, attributes := #[] }])
  fields := #[{ name := "serialVersionUID", type := .long, accessFlags := 26, slot := 0, constantValue := 0 }]
  methods := #[k4m0]
  instanceTypes := #[]
  staticTypes := #[.long]
  resolved := Array.replicate 37 none
  statics := none }

def pool5 : Array CpInfo := pool [(1, .class_ 2), (0, u "java/lang/Comparable"), (0, .class_ 4), (0, u "java/lang/Object")] 7

/-- java/lang/Comparable -/
def k5 : Class := { plain "java/lang/Comparable" (some 0) with
  accessFlags := 1537
  interfaces := #[]
  cf := some (fileOf pool5 1 #[] #[] 1537 3 #[] #[])
  fields := #[]
  methods := #[]
  instanceTypes := #[]
  staticTypes := #[]
  resolved := Array.replicate 12 none
  statics := none }

def pool6 : Array CpInfo := pool [(1, .class_ 2), (0, u "java/lang/constant/Constable"), (0, .class_ 4), (0, u "java/lang/Object")] 6

/-- java/lang/constant/Constable -/
def k6 : Class := { plain "java/lang/constant/Constable" (some 0) with
  accessFlags := 1537
  interfaces := #[]
  cf := some (fileOf pool6 1 #[] #[] 1537 3 #[] #[])
  fields := #[]
  methods := #[]
  instanceTypes := #[]
  staticTypes := #[]
  resolved := Array.replicate 11 none
  statics := none }

def pool7 : Array CpInfo := pool [(1, .class_ 2), (0, u "java/lang/constant/ConstantDesc"), (0, .class_ 4), (0, u "java/lang/Object")] 32

/-- java/lang/constant/ConstantDesc -/
def k7 : Class := { plain "java/lang/constant/ConstantDesc" (some 0) with
  accessFlags := 1537
  interfaces := #[]
  cf := some (fileOf pool7 1 #[] #[] 1537 3 #[] #[])
  fields := #[]
  methods := #[]
  instanceTypes := #[]
  staticTypes := #[]
  resolved := Array.replicate 37 none
  statics := none }

def pool8 : Array CpInfo := pool [(1, .class_ 2), (0, u "java/lang/Long"), (232, .class_ 237), (1, u "java/lang/Long$LongCache"), (33, .class_ 272), (0, u "java/lang/Number"), (2, u "value"), (0, u "J"), (29, .long 18446744073709551615), (26, u "(JJ)J"), (27, u "TYPE"), (0, u "Ljava/lang/Class;"), (0, .class_ 364), (0, u "java/lang/Comparable"), (0, .class_ 366), (0, u "java/lang/constant/Constable"), (0, .class_ 368), (0, u "java/lang/constant/ConstantDesc"), (0, u "MIN_VALUE"), (1, u "MAX_VALUE"), (4, u "SIZE"), (0, u "I"), (1, u "BYTES"), (1, u "serialVersionUID"), (88, u "divideUnsigned"), (2, u "remainderUnsigned")] 50

def k8c0 : Code := { maxStack := 8, maxLocals := 8, code := jdk_35_method_44_code, exceptionTable := #[], attributes := #[] }
def k8m0 : Method := { name := "divideUnsigned", desc := "(JJ)J", sig := { parameters := [.long, .long], returnType := some .long }, accessFlags := 9, code := some k8c0 }
def k8c1 : Code := { maxStack := 8, maxLocals := 8, code := jdk_35_method_45_code, exceptionTable := #[], attributes := #[] }
def k8m1 : Method := { name := "remainderUnsigned", desc := "(JJ)J", sig := { parameters := [.long, .long], returnType := some .long }, accessFlags := 9, code := some k8c1 }
/-- java/lang/Long -/
def k8 : Class := { plain "java/lang/Long" (some 4) with
  accessFlags := 49
  interfaces := #[5, 6, 7]
  cf := some (fileOf pool8 1 #[.nestMembers #[235]] #[{ accessFlags := 9, nameIndex := 470, descriptorIndex := 333, attributes := #[] }, { accessFlags := 9, nameIndex := 473, descriptorIndex := 333, attributes := #[] }] 49 271 #[363, 365, 367] #[{ accessFlags := 25, nameIndex := 369, descriptorIndex := 276, attributes := #[] }, { accessFlags := 25, nameIndex := 371, descriptorIndex := 276, attributes := #[] }, { accessFlags := 25, nameIndex := 361, descriptorIndex := 362, attributes := #[] }, { accessFlags := 18, nameIndex := 275, descriptorIndex := 276, attributes := #[] }, { accessFlags := 25, nameIndex := 376, descriptorIndex := 377, attributes := #[] }, { accessFlags := 25, nameIndex := 379, descriptorIndex := 377, attributes := #[] }, { accessFlags := 26, nameIndex := 381, descriptorIndex := 276, attributes := #[] }])
  fields := #[{ name := "MIN_VALUE", type := .long, accessFlags := 25, slot := 0, constantValue := 0 }, { name := "MAX_VALUE", type := .long, accessFlags := 25, slot := 1, constantValue := 0 }, { name := "TYPE", type := (.object "java/lang/Class"), accessFlags := 25, slot := 2, constantValue := 0 }, { name := "value", type := .long, accessFlags := 18, slot := 0, constantValue := 0 }, { name := "SIZE", type := .int, accessFlags := 25, slot := 3, constantValue := 0 }, { name := "BYTES", type := .int, accessFlags := 25, slot := 4, constantValue := 0 }, { name := "serialVersionUID", type := .long, accessFlags := 26, slot := 5, constantValue := 0 }]
  methods := #[k8m0, k8m1]
  instanceTypes := #[.long]
  staticTypes := #[.long, .long, (.object "java/lang/Class"), .int, .int, .long]
  resolved := Array.replicate 524 none
  statics := none }

def pool9 : Array CpInfo := pool [(1, u "java/lang/Cloneable"), (0, .class_ 1), (0, u "java/lang/Object"), (0, .class_ 3)] 3

/-- java/lang/Cloneable -/
def k9 : Class := { plain "java/lang/Cloneable" (some 0) with
  accessFlags := 1537
  interfaces := #[]
  cf := some (fileOf pool9 2 #[] #[] 1537 4 #[] #[])
  fields := #[]
  methods := #[]
  instanceTypes := #[]
  staticTypes := #[]
  resolved := Array.replicate 8 none
  statics := none }

/-- the primitive byte -/
def k10 : Class := { plain "byte" none with kind := .primitive 'B', accessFlags := 0x411 }
/-- [B -/
def k11 : Class := { plain "[B" (some 0) with kind := .array 10 .byte, interfaces := #[9, 3], accessFlags := 1041 }

/-- the primitive int -/
def k12 : Class := { plain "int" none with kind := .primitive 'I', accessFlags := 0x411 }
/-- [I -/
def k13 : Class := { plain "[I" (some 0) with kind := .array 12 .int, interfaces := #[9, 3], accessFlags := 1041 }

def heap : Heap := #[]
def classes : Array Class := #[k0, k1, k2, k3, k4, k5, k6, k7, k8, k9, k10, k11, k12, k13]
def interned : List (Array UInt16 × Addr) := []
def slotsUsed : Nat := 0
def theMethod : MethodId := ⟨1, 2⟩
def args0 : Array Value := #[.long 5, .long 7, .long 1, .int 2]
def aboutOver (below : List Frame) : State where
  vm := { classes := classes, interned := interned.toArray }
  heap := heap
  slotsUsed := slotsUsed
  threads := #[{ frames := .invoking theMethod args0 :: below }]
def below0 : List Frame := [.native { method := ⟨0, 0⟩, args := #[] }]
def about1 : State := aboutOver below0
def p0 : Program := .bare "" "" ""
def e0 : Env := launch0.env 0 0 0
theorem w_frames : about1.frames = Frame.invoking theMethod args0 :: below0 := rfl
set_option maxRecDepth 65536 in
theorem w_args : argsFit about1.vm theMethod args0 = true := by decide +kernel
set_option maxRecDepth 65536 in
theorem w_heap : heapFits about1 = true := by decide +kernel
set_option maxRecDepth 65536 in
theorem w_runnable : about1.curStatus? = some .runnable := by decide +kernel
set_option maxRecDepth 65536 in
theorem w_alone : about1.alone = true := by decide +kernel
set_option maxRecDepth 65536 in
theorem w_named : about1.methodNamed? x = some theMethod := by decide +kernel
set_option maxRecDepth 65536 in
theorem w_hears : about1.hears theMethod below0 = true := by decide +kernel
set_option maxRecDepth 65536 in
theorem w_ripe : about1.ripe theMethod args0 below0 = true := by decide +kernel
theorem w_running : about1.status = .running := rfl
set_option maxRecDepth 65536 in
theorem w_room : about1.hasRoom e0.platform room_1 = true :=
  launch0.hasRoom_least _ room_1 (by decide +kernel) (by decide +kernel) (by decide +kernel) (by decide +kernel) (by decide +kernel) (by decide +kernel)
theorem allAtoms_all (ts : List Jvm.Cond) (a : Array Jvm.Value) (st : Jvm.State) : (allAtoms ts).before a st = ts.all (fun c => c.before a st) := by
  induction ts with
  | nil => rfl
  | cons c t ih =>
    show (Jvm.Cond.and c (allAtoms t)).before a st = _
    rw [Jvm.Cond.before_and, ih, List.all_cons]
def words1 : List Jvm.Cond := Jvm.Cond.code x code maxLocals ret :: tables_1
/-- a 'code' word, met by the world's own term for the bytes: nothing is compared byte by byte -/
theorem code_word {y : MethodName} {bytes : ByteArray} {mx : Nat} {rt : Option FieldType} {a : Array Value} {s : State} {m : MethodId} {meth : Method} {c : Code} (h1 : s.methodNamed? y = some m) (h2 : s.vm.method? m = some meth) (h3 : meth.code = some c) (h4 : c.code = bytes)
    (h5 : (c.maxLocals == mx && c.exceptionTable.isEmpty && decide (c.maxStack ≤ mostOperands) && decide (meth.sig.returnType = rt) && !meth.locks && decide (parseMethodDescriptor y.desc = some meth.sig)) = true) : (Jvm.Cond.code y bytes mx rt).before a s = true := by
  simp only [Bool.and_eq_true, beq_iff_eq, Bool.not_eq_true', decide_eq_true_eq] at h5
  obtain ⟨⟨⟨⟨⟨g1, g2⟩, g3⟩, g4⟩, g5⟩, g6⟩ := h5
  simp [Cond.before, Cond.holds, Cond.value, h1, h2, h3, h4, g1, g2, g3, g4, g5, g6]
def isCode : Jvm.Cond → Bool
  | .code _ _ _ _ => true
  | _ => false
theorem all_split {L : List Jvm.Cond} {P : Jvm.Cond → Bool} (h1 : L.all (fun c => isCode c || P c) = true) (h2 : ∀ c ∈ L.filter isCode, P c = true) : L.all P = true := by
  refine List.all_eq_true.mpr fun c hc => ?_
  have h := List.all_eq_true.mp h1 c hc
  rcases Bool.eq_false_or_eq_true (isCode c) with hi | hi
  · exact h2 c (List.mem_filter.mpr ⟨hc, hi⟩)
  · simpa [hi] using h
set_option maxRecDepth 65536 in
theorem w_c0 : (Jvm.Cond.code x code maxLocals ret).before args0 about1 = true := code_word (m := ⟨1, 2⟩) (meth := k1m2) (c := k1c2) (by decide +kernel) rfl rfl rfl (by decide +kernel)
set_option maxRecDepth 65536 in
theorem w_c1 : (Jvm.Cond.code ({ cls := "com/example/tick_wheel/tickwheel/wheel/TickGrid", name := "<init>", desc := "(JJ)V" } : Jvm.MethodName) prog_3_method_1_code (7 : Nat) (Option.none : Option Jvm.ClassFile.FieldType)).before args0 about1 = true := code_word (m := ⟨2, 0⟩) (meth := k2m0) (c := k2c0) (by decide +kernel) rfl rfl rfl (by decide +kernel)
set_option maxRecDepth 65536 in
theorem w_c2 : (Jvm.Cond.code ({ cls := "java/lang/Object", name := "<init>", desc := "()V" } : Jvm.MethodName) object_method_1_code (1 : Nat) (Option.none : Option Jvm.ClassFile.FieldType)).before args0 about1 = true := code_word (m := ⟨0, 0⟩) (meth := k0m0) (c := k0c0) (by decide +kernel) rfl rfl rfl (by decide +kernel)
set_option maxRecDepth 65536 in
theorem w_c3 : (Jvm.Cond.code ({ cls := "com/example/tick_wheel/tickwheel/wheel/TickGrid", name := "checkTick", desc := "(J)V" } : Jvm.MethodName) prog_3_method_2_code (2 : Nat) (Option.none : Option Jvm.ClassFile.FieldType)).before args0 about1 = true := code_word (m := ⟨2, 1⟩) (meth := k2m1) (c := k2c1) (by decide +kernel) rfl rfl rfl (by decide +kernel)
set_option maxRecDepth 65536 in
theorem w_c4 : (Jvm.Cond.code ({ cls := "java/lang/Long", name := "divideUnsigned", desc := "(JJ)J" } : Jvm.MethodName) jdk_35_method_44_code (8 : Nat) (Option.some Jvm.ClassFile.FieldType.long)).before args0 about1 = true := code_word (m := ⟨8, 0⟩) (meth := k8m0) (c := k8c0) (by decide +kernel) rfl rfl rfl (by decide +kernel)
set_option maxRecDepth 65536 in
theorem w_c5 : (Jvm.Cond.code ({ cls := "com/example/tick_wheel/tickwheel/wheel/TickGrid", name := "boundaryAtOrBefore", desc := "(J)J" } : Jvm.MethodName) prog_3_method_4_code (5 : Nat) (Option.some Jvm.ClassFile.FieldType.long)).before args0 about1 = true := code_word (m := ⟨2, 2⟩) (meth := k2m2) (c := k2c2) (by decide +kernel) rfl rfl rfl (by decide +kernel)
set_option maxRecDepth 65536 in
theorem w_c6 : (Jvm.Cond.code ({ cls := "com/example/tick_wheel/tickwheel/wheel/TickGrid", name := "ticksTo", desc := "(J)J" } : Jvm.MethodName) prog_3_method_6_code (3 : Nat) (Option.some Jvm.ClassFile.FieldType.long)).before args0 about1 = true := code_word (m := ⟨2, 3⟩) (meth := k2m3) (c := k2c3) (by decide +kernel) rfl rfl rfl (by decide +kernel)
set_option maxRecDepth 65536 in
theorem w_c7 : (Jvm.Cond.code ({ cls := "com/example/tick_wheel/tickwheel/wheel/TickGridBoundaryAtPinLaw", name := "uleq", desc := "(JJ)Z" } : Jvm.MethodName) method_2_code (4 : Nat) (Option.some Jvm.ClassFile.FieldType.boolean)).before args0 about1 = true := code_word (m := ⟨1, 1⟩) (meth := k1m1) (c := k1c1) (by decide +kernel) rfl rfl rfl (by decide +kernel)
set_option maxRecDepth 65536 in
theorem w_c8 : (Jvm.Cond.code ({ cls := "com/example/tick_wheel/tickwheel/wheel/TickGrid", name := "boundaryAt", desc := "(J)J" } : Jvm.MethodName) prog_3_method_7_code (3 : Nat) (Option.some Jvm.ClassFile.FieldType.long)).before args0 about1 = true := code_word (m := ⟨2, 4⟩) (meth := k2m4) (c := k2c4) (by decide +kernel) rfl rfl rfl (by decide +kernel)
set_option maxRecDepth 65536 in
theorem w_c9 : (Jvm.Cond.code ({ cls := "java/lang/Long", name := "remainderUnsigned", desc := "(JJ)J" } : Jvm.MethodName) jdk_35_method_45_code (8 : Nat) (Option.some Jvm.ClassFile.FieldType.long)).before args0 about1 = true := code_word (m := ⟨8, 1⟩) (meth := k8m1) (c := k8c1) (by decide +kernel) rfl rfl rfl (by decide +kernel)
def codes1 : List Jvm.Cond := [Jvm.Cond.code x code maxLocals ret, Jvm.Cond.code ({ cls := "com/example/tick_wheel/tickwheel/wheel/TickGrid", name := "<init>", desc := "(JJ)V" } : Jvm.MethodName) prog_3_method_1_code (7 : Nat) (Option.none : Option Jvm.ClassFile.FieldType), Jvm.Cond.code ({ cls := "java/lang/Object", name := "<init>", desc := "()V" } : Jvm.MethodName) object_method_1_code (1 : Nat) (Option.none : Option Jvm.ClassFile.FieldType), Jvm.Cond.code ({ cls := "com/example/tick_wheel/tickwheel/wheel/TickGrid", name := "checkTick", desc := "(J)V" } : Jvm.MethodName) prog_3_method_2_code (2 : Nat) (Option.none : Option Jvm.ClassFile.FieldType), Jvm.Cond.code ({ cls := "java/lang/Long", name := "divideUnsigned", desc := "(JJ)J" } : Jvm.MethodName) jdk_35_method_44_code (8 : Nat) (Option.some Jvm.ClassFile.FieldType.long), Jvm.Cond.code ({ cls := "com/example/tick_wheel/tickwheel/wheel/TickGrid", name := "boundaryAtOrBefore", desc := "(J)J" } : Jvm.MethodName) prog_3_method_4_code (5 : Nat) (Option.some Jvm.ClassFile.FieldType.long), Jvm.Cond.code ({ cls := "com/example/tick_wheel/tickwheel/wheel/TickGrid", name := "ticksTo", desc := "(J)J" } : Jvm.MethodName) prog_3_method_6_code (3 : Nat) (Option.some Jvm.ClassFile.FieldType.long), Jvm.Cond.code ({ cls := "com/example/tick_wheel/tickwheel/wheel/TickGridBoundaryAtPinLaw", name := "uleq", desc := "(JJ)Z" } : Jvm.MethodName) method_2_code (4 : Nat) (Option.some Jvm.ClassFile.FieldType.boolean), Jvm.Cond.code ({ cls := "com/example/tick_wheel/tickwheel/wheel/TickGrid", name := "boundaryAt", desc := "(J)J" } : Jvm.MethodName) prog_3_method_7_code (3 : Nat) (Option.some Jvm.ClassFile.FieldType.long), Jvm.Cond.code ({ cls := "java/lang/Long", name := "remainderUnsigned", desc := "(JJ)J" } : Jvm.MethodName) jdk_35_method_45_code (8 : Nat) (Option.some Jvm.ClassFile.FieldType.long)]
set_option maxRecDepth 65536 in
theorem codes_eq : words1.filter isCode = codes1 := rfl
theorem w_codes : ∀ c ∈ words1.filter isCode, c.before args0 about1 = true := by
  rw [codes_eq]
  intro c hc
  simp only [codes1, List.mem_cons, List.not_mem_nil, or_false] at hc
  rcases hc with rfl | rfl | rfl | rfl | rfl | rfl | rfl | rfl | rfl | rfl
  · exact w_c0
  · exact w_c1
  · exact w_c2
  · exact w_c3
  · exact w_c4
  · exact w_c5
  · exact w_c6
  · exact w_c7
  · exact w_c8
  · exact w_c9
set_option maxRecDepth 65536 in
theorem w_t1 : (words1.take 24).all (fun c => isCode c || c.before args0 about1) = true := by decide +kernel
set_option maxRecDepth 65536 in
theorem w_t2 : ((words1.drop 24).take 24).all (fun c => isCode c || c.before args0 about1) = true := by decide +kernel
set_option maxRecDepth 65536 in
theorem w_t3 : ((words1.drop 24).drop 24).all (fun c => isCode c || c.before args0 about1) = true := by decide +kernel
theorem w_tables : (allAtoms (Jvm.Cond.code x code maxLocals ret :: tables_1)).before args0 about1 = true := by
  rw [allAtoms_all]
  show words1.all (fun c => c.before args0 about1) = true
  refine all_split ?_ w_codes
  rw [← List.take_append_drop 24 words1, List.all_append, w_t1, ← List.take_append_drop 24 (words1.drop 24), List.all_append, w_t2, w_t3]
  rfl
set_option maxRecDepth 65536 in
theorem w_case : (Jvm.Cond.and given_1 narrow_1).before args0 about1 = true := by decide +kernel
theorem w_applies : (headSpec (Jvm.Cond.code x code maxLocals ret :: tables_1) room_1).applies x e0.platform about1 = true :=
  (Spec.applies_iff w_frames).mpr ⟨w_running, w_runnable, w_alone, w_named, w_hears, w_ripe, w_room, w_tables⟩
theorem atStart : AtStart classFile x code maxLocals ret World_1 tables_1 room_1 Calls_1 rest_1 Pre_1 launch0 p0 e0 about1 theMethod args0 below0 :=
  ⟨lists_1, trivial, launch0.admits_env _ _ _, launch0.least_env, fairChoices_fair.cas, fairChoices_fair.clock, w_frames, w_args, w_heap, w_applies, trivial, trivial, w_case⟩
end start1
theorem witness_1 : WitnessClaimed_1 := ⟨start1.p0, start1.e0, start1.about1, start1.theMethod, start1.args0, start1.below0, start1.atStart⟩
end Jvm.Pilot.@@N@@
