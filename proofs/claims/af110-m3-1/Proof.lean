import JvmDerived
import JvmDerived.Pilot.@@N@@Statement
import JvmDerived.Pilot.@@N@@Code
set_option linter.unusedVariables false
set_option linter.unusedSimpArgs false
@@BLOCK:NumsL.lean.txt@@
namespace Jvm.RoadKit
open Sem ClassFile Op Lib Jvm.Stand Jvm.Free Jvm.LawKit
section New
variable {p : Program} {l : Launch} {e : Env} {R : Room} {s : State} {m : MethodId} {args : Array Value} {below : List Frame} {meth : Method} {c : Code} {T : State} {locs : List Loc} {cells slots : Nat}
theorem retI (X : Stand p l e R s m args below meth c T locs cells slots) (hx : p.tables.exec = Jvm.exec) {pc : Nat} {Ls : Array Slot} {z : Int32} {rest : List Value} (hret : meth.sig.returnType = some .int) (hd : decode c.code pc = .ok (.ireturn, 1)) {fs : List Frame}
    (hl : ∀ (f : JFrame) (acts : List Action), f.method = m → f.locked = none → f.entered = [] → (doReturn e (T.setTop f) acts (some (.int z))).1 = T.setFrames fs) : Steps p.tables e below (T.setTop (mkF m pc Ls (.int z :: rest))) (T.setFrames fs) := by
  have hm' : T.vm.method? m = some meth := X.method'
  have hn : narrow .int (.int z) = .int z := rfl
  show Steps p.tables e below (T.setTop { method := m, pc := pc, locals := Ls, stack := _ :: rest, locked := none }) _
  jvm_step X.here [X.here.top, hx, hd, hm', hret, hn]
  first | (intro acts; rw [hl _ acts rfl rfl rfl]) | rw [hl _ _ rfl rfl rfl]
  exact Steps.refl _
end New
end Jvm.RoadKit
namespace Jvm.Pilot.@@N@@
open Jvm Jvm.ClassFile Sem Op Lib Jvm.Free Jvm.Stand Jvm.LawKit Jvm.RoadKit Bundle Jvm.Pilot.@@N@@.Jvm.D
theorem own_nt {b : Bool} (h : b = false) : ¬ b = true := fun q => by rw [h] at q; cases q
theorem own_ts_ne {α : Type} {o : Option α} {a b : α} (h : o = some b) (ne : b ≠ a) : ¬ o = some a := fun q => ne (Option.some.inj (h.symm.trans q))
/-- what lcmp pushes; Java's shifts and the remainder of longs -/
def own_cmp (x y : Int64) : Int32 := lcmpW x y
def own_iushr (x y : Int32) : Int32 := (x.toUInt32 >>> (y &&& 31).toUInt32).toInt32
def own_lushr (x : Int64) (y : Int32) : Int64 := (x.toUInt64 >>> (y &&& 0x3f).toInt64.toUInt64).toInt64
def own_lshl (x : Int64) (y : Int32) : Int64 := x <<< (y &&& 0x3f).toInt64
def own_lshr (x : Int64) (y : Int32) : Int64 := x >>> (y &&& 0x3f).toInt64
def own_lrem (x y : Int64) : Int64 := x - (x / y) * y
theorem own_xlcmp {tb : Tables} [Ours tb] {e : Env} {below : List Frame} {T target : State} {m : MethodId} {c : Code} {g : JFrame} (h : At T m c below) (hx : tb.exec = Jvm.exec) (hg : g.method = m) {x : Int64} {y : Int64} {rest : List Value} (hd : decode c.code g.pc = .ok (.lcmp, 1)) (hs : g.stack = .long y :: .long x :: rest) (hr : Steps tb e below (T.setTop { g with pc := g.pc + 1, stack := .int (own_cmp x y) :: rest }) target) : Steps tb e below (T.setTop g) target := XS.lcmp h hx hg hd hs hr
theorem own_xiushr {tb : Tables} [Ours tb] {e : Env} {below : List Frame} {T target : State} {m : MethodId} {c : Code} {g : JFrame} (h : At T m c below) (hx : tb.exec = Jvm.exec) (hg : g.method = m) {x : Int32} {y : Int32} {rest : List Value} (hd : decode c.code g.pc = .ok (.iushr, 1)) (hs : g.stack = .int y :: .int x :: rest) (hr : Steps tb e below (T.setTop { g with pc := g.pc + 1, stack := .int (own_iushr x y) :: rest }) target) : Steps tb e below (T.setTop g) target := XS.iushr h hx hg hd hs hr
theorem own_xlushr {tb : Tables} [Ours tb] {e : Env} {below : List Frame} {T target : State} {m : MethodId} {c : Code} {g : JFrame} (h : At T m c below) (hx : tb.exec = Jvm.exec) (hg : g.method = m) {x : Int64} {y : Int32} {rest : List Value} (hd : decode c.code g.pc = .ok (.lushr, 1)) (hs : g.stack = .int y :: .long x :: rest) (hr : Steps tb e below (T.setTop { g with pc := g.pc + 1, stack := .long (own_lushr x y) :: rest }) target) : Steps tb e below (T.setTop g) target := XS.lushr h hx hg hd hs hr
theorem own_xlshl {tb : Tables} [Ours tb] {e : Env} {below : List Frame} {T target : State} {m : MethodId} {c : Code} {g : JFrame} (h : At T m c below) (hx : tb.exec = Jvm.exec) (hg : g.method = m) {x : Int64} {y : Int32} {rest : List Value} (hd : decode c.code g.pc = .ok (.lshl, 1)) (hs : g.stack = .int y :: .long x :: rest) (hr : Steps tb e below (T.setTop { g with pc := g.pc + 1, stack := .long (own_lshl x y) :: rest }) target) : Steps tb e below (T.setTop g) target := XS.lshl h hx hg hd hs hr
theorem own_xlshr {tb : Tables} [Ours tb] {e : Env} {below : List Frame} {T target : State} {m : MethodId} {c : Code} {g : JFrame} (h : At T m c below) (hx : tb.exec = Jvm.exec) (hg : g.method = m) {x : Int64} {y : Int32} {rest : List Value} (hd : decode c.code g.pc = .ok (.lshr, 1)) (hs : g.stack = .int y :: .long x :: rest) (hr : Steps tb e below (T.setTop { g with pc := g.pc + 1, stack := .long (own_lshr x y) :: rest }) target) : Steps tb e below (T.setTop g) target := XS.lshr h hx hg hd hs hr
theorem own_xlrem {tb : Tables} [Ours tb] {e : Env} {below : List Frame} {T target : State} {m : MethodId} {c : Code} {g : JFrame} (h : At T m c below) (hx : tb.exec = Jvm.exec) (hg : g.method = m) {x : Int64} {y : Int64} {rest : List Value} (hd : decode c.code g.pc = .ok (.lrem, 1)) (hs : g.stack = .long y :: .long x :: rest) (hy : y ≠ 0) (hr : Steps tb e below (T.setTop { g with pc := g.pc + 1, stack := .long (own_lrem x y) :: rest }) target) : Steps tb e below (T.setTop g) target := XS.lrem h hx hg hd hs hy hr
theorem own_ieq (x y : Int32) : (if_icmp.holds .eq x y = true) = (x.toInt = y.toInt) := by
  rw [show if_icmp.holds .eq x y = (x == y) from rfl, beq_iff_eq, Int32.toInt_inj]
theorem own_ine (x y : Int32) : (if_icmp.holds .ne x y = true) = (x.toInt ≠ y.toInt) := by
  rw [show if_icmp.holds .ne x y = (x != y) from rfl, bne_iff_ne, ne_eq, ne_eq, Int32.toInt_inj]
theorem own_ilt (x y : Int32) : (if_icmp.holds .lt x y = true) = (x.toInt < y.toInt) := by
  rw [show if_icmp.holds .lt x y = decide (x < y) from rfl, decide_eq_true_eq, Int32.lt_iff_toInt_lt]
theorem own_ige (x y : Int32) : (if_icmp.holds .ge x y = true) = (y.toInt ≤ x.toInt) := by
  rw [show if_icmp.holds .ge x y = decide (y ≤ x) from rfl, decide_eq_true_eq, Int32.le_iff_toInt_le]
theorem own_igt (x y : Int32) : (if_icmp.holds .gt x y = true) = (y.toInt < x.toInt) := by
  rw [show if_icmp.holds .gt x y = decide (y < x) from rfl, decide_eq_true_eq, Int32.lt_iff_toInt_lt]
theorem own_ile (x y : Int32) : (if_icmp.holds .le x y = true) = (x.toInt ≤ y.toInt) := by
  rw [show if_icmp.holds .le x y = decide (x ≤ y) from rfl, decide_eq_true_eq, Int32.le_iff_toInt_le]
theorem own_z32 : (0 : Int32).toInt = 0 := rfl
theorem own_eq0 (x : Int32) : (ifCond.holds .eq x = true) = (x.toInt = 0) := by rw [if0, own_ieq, own_z32]
theorem own_ne0 (x : Int32) : (ifCond.holds .ne x = true) = (x.toInt ≠ 0) := by rw [if0, own_ine, own_z32]
theorem own_lt0 (x : Int32) : (ifCond.holds .lt x = true) = (x.toInt < 0) := by rw [if0, own_ilt, own_z32]
theorem own_ge0 (x : Int32) : (ifCond.holds .ge x = true) = (0 ≤ x.toInt) := by rw [if0, own_ige, own_z32]
theorem own_gt0 (x : Int32) : (ifCond.holds .gt x = true) = (0 < x.toInt) := by rw [if0, own_igt, own_z32]
theorem own_le0 (x : Int32) : (ifCond.holds .le x = true) = (x.toInt ≤ 0) := by rw [if0, own_ile, own_z32]
theorem own_cmp3 (x y : Int64) : (x.toInt < y.toInt ∧ (own_cmp x y).toInt = -1) ∨ (x.toInt = y.toInt ∧ (own_cmp x y).toInt = 0) ∨ (y.toInt < x.toInt ∧ (own_cmp x y).toInt = 1) := by
  obtain ⟨h1, h2, h3⟩ := c_lcmp x y
  have e : own_cmp x y = lcmpW x y := rfl
  rw [e]
  rcases Int.lt_trichotomy x.toInt y.toInt with h | h | h
  · exact Or.inl ⟨h, h1 h⟩
  · exact Or.inr (Or.inl ⟨h, h2 h⟩)
  · exact Or.inr (Or.inr ⟨h, h3 h⟩)
theorem own_ceq (x y : Int64) : (ifCond.holds .eq (own_cmp x y) = true) = (x.toInt = y.toInt) := by
  rw [own_eq0]; have := own_cmp3 x y; exact propext ⟨fun h => by omega, fun h => by omega⟩
theorem own_cne (x y : Int64) : (ifCond.holds .ne (own_cmp x y) = true) = (x.toInt ≠ y.toInt) := by
  rw [own_ne0]; have := own_cmp3 x y; exact propext ⟨fun h => by omega, fun h => by omega⟩
theorem own_clt (x y : Int64) : (ifCond.holds .lt (own_cmp x y) = true) = (x.toInt < y.toInt) := by
  rw [own_lt0]; have := own_cmp3 x y; exact propext ⟨fun h => by omega, fun h => by omega⟩
theorem own_cge (x y : Int64) : (ifCond.holds .ge (own_cmp x y) = true) = (y.toInt ≤ x.toInt) := by
  rw [own_ge0]; have := own_cmp3 x y; exact propext ⟨fun h => by omega, fun h => by omega⟩
theorem own_cgt (x y : Int64) : (ifCond.holds .gt (own_cmp x y) = true) = (y.toInt < x.toInt) := by
  rw [own_gt0]; have := own_cmp3 x y; exact propext ⟨fun h => by omega, fun h => by omega⟩
theorem own_cle (x y : Int64) : (ifCond.holds .le (own_cmp x y) = true) = (x.toInt ≤ y.toInt) := by
  rw [own_le0]; have := own_cmp3 x y; exact propext ⟨fun h => by omega, fun h => by omega⟩
theorem own_nar1 {x : Int32} (h : x = 1) : nar .boolean x = 1 := by rw [h]; rfl
theorem own_nar0 {x : Int32} (h : x = 0) : nar .boolean x = 0 := by rw [h]; rfl
/-- the last row of a law: a comparison that isn't met gives 0, else 1 -/
theorem own_last {c : Prop} [Decidable c] (h : ¬ c) : nar .boolean (if c then (0 : Int32) else 1) = 1 := by rw [if_neg h]; rfl
theorem own_n32 (x : Int32) : (x.toBitVec.toNat : Int) = x.toInt % 4294967296 := by
  have h := x.toBitVec.isLt
  show _ = x.toBitVec.toInt % _
  rw [BitVec.toInt_eq_toNat_cond]
  split <;> omega
theorem own_n64 (x : Int64) : (x.toBitVec.toNat : Int) = x.toInt % 18446744073709551616 := by
  have h := x.toBitVec.isLt
  show _ = x.toBitVec.toInt % _
  rw [BitVec.toInt_eq_toNat_cond]
  split <;> omega
theorem own_iushr_nat (x y : Int32) : (own_iushr x y).toBitVec.toNat = x.toBitVec.toNat / 2 ^ (y.toBitVec.toNat % 32) := by
  have h1 : (y &&& 31).toBitVec.toNat = y.toBitVec.toNat % 32 := by
    show (y.toBitVec &&& (31 : Int32).toBitVec).toNat = _
    rw [BitVec.toNat_and, show (31 : Int32).toBitVec.toNat = 2 ^ 5 - 1 from by decide, Nat.and_two_pow_sub_one_eq_mod]
  show (x.toBitVec >>> ((y &&& 31).toBitVec % 32)).toNat = _
  rw [BitVec.ushiftRight_eq', BitVec.toNat_ushiftRight, Nat.shiftRight_eq_div_pow, BitVec.toNat_umod, h1, show (32 : BitVec 32).toNat = 32 from rfl, Nat.mod_mod]
theorem own_lushr_nat (x : Int64) (y : Int32) : (own_lushr x y).toBitVec.toNat = x.toBitVec.toNat / 2 ^ (y.toBitVec.toNat % 64) := by
  obtain ⟨h1, h2⟩ := sm64 y _ rfl
  show (x.toBitVec >>> ((y &&& 0x3f).toInt64.toBitVec % 64)).toNat = _
  rw [BitVec.ushiftRight_eq', BitVec.toNat_ushiftRight, Nat.shiftRight_eq_div_pow, BitVec.toNat_umod, h1, BitVec.toNat_ofNat]
  congr 2
  show y.toBitVec.toNat % 64 % 2 ^ 64 % 64 = _
  omega
theorem own_iushr_nn (x y : Int32) (h : 0 ≤ x.toInt) : 0 ≤ (own_iushr x y).toInt ∧ (own_iushr x y).toInt ≤ x.toInt := by
  have a := own_iushr_nat x y
  have b := Nat.div_le_self x.toBitVec.toNat (2 ^ (y.toBitVec.toNat % 32))
  have c := own_n32 x
  have d := own_n32 (own_iushr x y)
  have r := rng32 x
  have r2 := rng32 (own_iushr x y)
  omega
theorem own_lushr_nn (x : Int64) (y : Int32) (h : 0 ≤ x.toInt) : 0 ≤ (own_lushr x y).toInt ∧ (own_lushr x y).toInt ≤ x.toInt := by
  have a := own_lushr_nat x y
  have b := Nat.div_le_self x.toBitVec.toNat (2 ^ (y.toBitVec.toNat % 64))
  have c := own_n64 x
  have d := own_n64 (own_lushr x y)
  have r := rng64 x
  have r2 := rng64 (own_lushr x y)
  omega
theorem own_ff {b : Bool} (h : ¬ b = true) : b = false := by cases b <;> first | rfl | exact absurd rfl h
theorem own_clt_f {x y : Int64} (h : ¬ x.toInt < y.toInt) : ifCond.holds .lt (own_cmp x y) = false := own_ff fun q => h ((own_clt x y).mp q)
theorem own_nz {x : Int64} (h : (0 : Int64).toInt < x.toInt) : x ≠ 0 := fun q => by rw [q] at h; exact absurd h (Int.lt_irrefl _)
theorem own_max (x : Int64) : x.toInt ≤ (9223372036854775807 : Int64).toInt := by
  have r := rng64 x
  have e : (9223372036854775807 : Int64).toInt = 9223372036854775807 := rfl
  omega
theorem own_addE {x y : Int64} {a b : Int} (hx : x.toInt = a) (hy : y.toInt = b) (h : -9223372036854775808 ≤ a + b ∧ a + b < 9223372036854775808) : (x + y).toInt = a + b := by subst hx hy; exact Kit.i64_add (by omega) (by omega)
theorem own_subE {x y : Int64} {a b : Int} (hx : x.toInt = a) (hy : y.toInt = b) (h : -9223372036854775808 ≤ a - b ∧ a - b < 9223372036854775808) : (x - y).toInt = a - b := by subst hx hy; exact Kit.i64_sub (by omega) (by omega)
theorem own_mulE {x y : Int64} {a b : Int} (hx : x.toInt = a) (hy : y.toInt = b) (h : -9223372036854775808 ≤ a * b ∧ a * b < 9223372036854775808) : (x * y).toInt = a * b := by subst hx hy; exact Kit.i64_mul (by omega) (by omega)
theorem own_i2lE {x : Int32} {a : Int} (hx : x.toInt = a) : x.toInt64.toInt = a := (c_i2l x).trans hx
theorem own_l2iE {x : Int64} {a : Int} (hx : x.toInt = a) (h : -2147483648 ≤ a ∧ a < 2147483648) : x.toInt32.toInt = a := by subst hx; exact Kit.i32_of_i64 (by omega) (by omega)
theorem own_iaddE {x y : Int32} {a b : Int} (hx : x.toInt = a) (hy : y.toInt = b) (h : -2147483648 ≤ a + b ∧ a + b < 2147483648) : (x + y).toInt = a + b := by subst hx hy; exact Kit.i32_add (by omega) (by omega)
theorem own_isubE {x y : Int32} {a b : Int} (hx : x.toInt = a) (hy : y.toInt = b) (h : -2147483648 ≤ a - b ∧ a - b < 2147483648) : (x - y).toInt = a - b := by subst hx hy; exact Kit.i32_sub (by omega) (by omega)
theorem own_divE {x y : Int64} {a b : Int} (hx : x.toInt = a) (hy : y.toInt = b) (h : 0 ≤ a) (hb : 0 < b) : (x / y).toInt = a / b := by
  subst hx hy
  exact (c_ldiv x y y.toInt rfl (fun q => by rw [q] at hb; exact absurd hb (by decide))).1 h
theorem own_remE {x y : Int64} {a b : Int} (hx : x.toInt = a) (hy : y.toInt = b) (h : 0 ≤ a) : (own_lrem x y).toInt = a % b := by
  subst hx hy
  exact (c_lrem x y y.toInt rfl).1 h
theorem own_ushrE {x : Int64} {a : Int} (q : Int32) (k : Nat) (P : Int) (hx : x.toInt = a) (hk : q.toBitVec.toNat % 64 = k) (h0 : 0 < k) (hP : ((2 ^ k : Nat) : Int) = P) : (own_lushr x q).toInt = a % 18446744073709551616 / P := by
  subst hx hP
  exact c_lushr x q k hk h0
theorem own_shrE {x : Int64} {a : Int} (q : Int32) (k : Nat) (P : Int) (hx : x.toInt = a) (hk : q.toBitVec.toNat % 64 = k) (hP : ((2 ^ k : Nat) : Int) = P) : (own_lshr x q).toInt = a / P := by
  subst hx hP
  exact c_lshr x q k hk
theorem own_addM (x y : Int64) : (x + y).toInt % 18446744073709551616 = (x.toInt + y.toInt) % 18446744073709551616 := by have := c_ladd x y; omega
theorem own_subM (x y : Int64) : (x - y).toInt % 18446744073709551616 = (x.toInt - y.toInt) % 18446744073709551616 := by have := c_lsub x y; omega
theorem own_mulM (x y : Int64) : (x * y).toInt % 18446744073709551616 = (x.toInt * y.toInt) % 18446744073709551616 := by have := c_lmul x y; omega
theorem own_am (a y z : Int) (h : y % 18446744073709551616 = z % 18446744073709551616) : (a + y) % 18446744073709551616 = (a + z) % 18446744073709551616 := by omega
theorem own_sm (a y z : Int) (h : y % 18446744073709551616 = z % 18446744073709551616) : (a - y) % 18446744073709551616 = (a - z) % 18446744073709551616 := by omega
theorem own_me (b c : Int) (hb : -9223372036854775808 ≤ b ∧ b < 9223372036854775808) (hc : -9223372036854775808 ≤ c ∧ c < 9223372036854775808) (h : b % 18446744073709551616 = c % 18446744073709551616) : b = c := by omega
theorem own_dm (r T R : Int) (h : r % 18446744073709551616 = R) (hT : 0 ≤ T ∧ T ≤ R) : (r - T) % 18446744073709551616 = R - T := by omega
/-- a byte array of n places; place j holds f j -/
def own_Arr (Z : State) (h : Heap) (a : Addr) (n : Nat) (f : Nat → Int32) : Prop := ∃ c : Cell, Arr Z h a c .byte ∧ c.slots.size = n ∧ ∀ j, j < n → c.slots[j]? = some (.int (f j))
def own_upd (f : Nat → Int32) (i : Nat) (x : Int32) : Nat → Int32 := fun j => if j = i then x else f j
theorem own_Arr.lt {Z : State} {h : Heap} {a : Addr} {n : Nat} {f : Nat → Int32} (F : own_Arr Z h a n f) : a < h.size := by
  obtain ⟨c, A, -⟩ := F
  exact A.lt
theorem own_Arr.ext {Z : State} {h h' : Heap} {a : Addr} {n : Nat} {f : Nat → Int32} (F : own_Arr Z h a n f) (E : Ext h h') : own_Arr Z h' a n f := by
  obtain ⟨c, A, r⟩ := F
  exact ⟨c, A.ext E, r⟩
theorem own_Arr.other {Z : State} {h h' : Heap} {a b : Addr} {n sl : Nat} {v : Value} {f : Nat → Int32} (F : own_Arr Z h a n f) (W : Wr h h' b sl v) (q : a ≠ b) : own_Arr Z h' a n f := by
  obtain ⟨c, A, r⟩ := F
  exact ⟨c, A.other W q, r⟩
theorem own_Arr.keep {Z : State} {h h' : Heap} {a : Addr} {n : Nat} {f : Nat → Int32} {ws : List Addr} (F : own_Arr Z h a n f) (K : Keep h h' ws) (q : a ∉ ws) : own_Arr Z h' a n f := by
  obtain ⟨c, A, r⟩ := F
  exact ⟨c, ⟨K.2.1 a c A.1 q, A.2⟩, r⟩
theorem own_Arr.new {Z : State} {h : Heap} {a : Addr} {n : Nat} {k : ClassId} {z : Int32} (A : Arr Z h a (newA k .byte z) .byte) (hz : z.toNatClampNeg = n) : own_Arr Z h a n (fun _ => 0) := by
  refine ⟨_, A, by rw [sz_new, hz], fun j hj => ?_⟩
  show (Array.replicate z.toNatClampNeg (defaultValue .byte))[j]? = _
  rw [hz, Array.getElem?_replicate, if_pos hj]
  rfl
theorem own_Arr.set {Z : State} {h h' : Heap} {a : Addr} {n i : Nat} {c : Cell} {x : Int32} {f : Nat → Int32} (A : Arr Z h a c .byte) (S : c.slots.size = n) (H : ∀ j, j < n → c.slots[j]? = some (.int (f j))) (W : Wr h h' a i (.int x)) : own_Arr Z h' a n (own_upd f i x) := by
  refine ⟨_, A.same W, by rw [sz_set, S], fun j hj => ?_⟩
  show (c.slots.setIfInBounds i (.int x))[j]? = some (.int (if j = i then x else f j))
  by_cases e : j = i
  · subst e
    rw [if_pos rfl, Array.getElem?_setIfInBounds_self_of_lt (by omega)]
  · rw [if_neg e, Array.getElem?_setIfInBounds_ne (fun q => e q.symm)]
    exact H j hj
theorem own_idx {n : Nat} {j : Int32} (h : 0 ≤ j.toInt ∧ j.toInt < n) : j.toNatClampNeg < n := by
  show j.toInt.toNat < n
  omega
theorem own_inb {n : Nat} {j : Int32} {c : Cell} (S : c.slots.size = n) (h : 0 ≤ j.toInt ∧ j.toInt < n) : ¬ (j < 0 ∨ c.slots.size ≤ j.toNatClampNeg) := by
  have q := own_idx h
  rw [S, Int32.lt_iff_toInt_lt, show (0 : Int32).toInt = 0 from rfl]
  omega

-- body 1: com/example/keyward/keyward/codecs/VarintReadPinLaw.jb:(II)B
theorem d1_0 : decode method_3_code 0 = .ok (.iload_n 0, 1) := by decide +kernel
theorem d1_1 : decode method_3_code 1 = .ok (.iload_n 1, 1) := by decide +kernel
theorem d1_2 : decode method_3_code 2 = .ok (.iconst 3, 1) := by decide +kernel
theorem d1_3 : decode method_3_code 3 = .ok (.iand, 1) := by decide +kernel
theorem d1_4 : decode method_3_code 4 = .ok (.bipush 8, 2) := by decide +kernel
theorem d1_6 : decode method_3_code 6 = .ok (.imul, 1) := by decide +kernel
theorem d1_7 : decode method_3_code 7 = .ok (.iushr, 1) := by decide +kernel
theorem d1_8 : decode method_3_code 8 = .ok (.i2b, 1) := by decide +kernel
theorem d1_9 : decode method_3_code 9 = .ok (.ireturn, 1) := by decide +kernel
theorem pn_0 : plainName "com/example/keyward/keyward/codecs/VarintReadPinLaw" = true := by first | (simp [plainName, overriddenIn]; done) | decide +kernel
theorem ef_1 (m : MethodId) (x0 : Int32) (x1 : Int32) : entryFrame m #[(.int x0), (.int x1)] 2 = mkF m 0 #[.val (.int x0), .val (.int x1)] [] := by first | (simp [entryFrame, mkF, argsToLocals, Value.category]; done) | rfl
def f1 (x0 : Int32) (x1 : Int32) : Int32 := (nar .byte ((own_iushr x0 ((x1 &&& (3 : Int32)) * (8 : Int32))).toInt8.toInt32))
def Q1 (Z : State) (x0 : Int32) (x1 : Int32) (h0 : Heap) (n0 : Nat) (v : Option Value) (h : Heap) (L : List Loc) : Prop := v = some (.int (f1 x0 x1)) ∧ Fr n0 L ∧ h = h0
set_option maxRecDepth 65536 in
set_option maxHeartbeats 40000000 in
theorem rm1 (l : Launch) (Z : State) (a0 : Array Value) (hw : ∀ d ∈ tables_1, d.before a0 Z = true) (ws : List Jvm.Cond) (x0 : Int32) (x1 : Int32) (h0 : Heap) (n0 : Nat) (Z0 : n0 ≤ h0.size) :
    MetFree l (⟨"com/example/keyward/keyward/codecs/VarintReadPinLaw", "jb", "(II)B"⟩ : MethodName) (head1 (Jvm.Cond.code (⟨"com/example/keyward/keyward/codecs/VarintReadPinLaw", "jb", "(II)B"⟩ : MethodName) method_3_code 2 (some .byte) :: ws) ({ frames := 0, cells := 0, slots := 0, locals := 0 } : Room)) (fun a U => a = #[(.int x0), (.int x1)] ∧ Z.Warmed39 U.vm ∧ U.heap = h0) (fun _ _ _ _ _ => True) (fun _ U o U' => ∃ v L, o = .returned v ∧ Q1 Z x0 x1 h0 n0 v U'.heap L ∧ FrameEnd U o U' L ({ frames := 0, cells := 0, slots := 0, locals := 0 } : Room).cells ({ frames := 0, cells := 0, slots := 0, locals := 0 } : Room).slots) := by
  refine MetFree.of_bodySF (plainFor_of_name pn_0) hisR ?_
  intro p e s m args below meth c s₁ Bd hml0 hP hK0
  obtain ⟨rfl, hZ, hh⟩ := hP
  have hx := Bd.exec
  have hby := Bd.bytes
  have hml : c.maxLocals = 2 := hml0
  have hown : s.vm.findClass "com/example/keyward/keyward/codecs/VarintReadPinLaw" = some m.cls := findClass_of_methodNamed Bd.named
  have hnm := (name_of_methodNamed Bd.named Bd.method).1
  have hret : meth.sig.returnType = some .byte := Bd.returns
  have hlk : meth.locks = false := Bd.notSynchronized
  have X0 : Stand p l e ({ frames := 0, cells := 0, slots := 0, locals := 0 } : Room) s m #[(.int x0), (.int x1)] below meth c s₁ [] 0 0 := Stand.of_body Bd
  have e0 : s₁.heap = h0 := by rw [← hh, Bd.state]; rfl
  have N0 := Fr.nil n0
  have pre0 : ∀ t, Steps p.tables e below (s₁.setTop (mkF m 0 #[.val (.int x0), .val (.int x1)] [])) t → Steps p.tables e below (s₁.setTop (entryFrame m #[(.int x0), (.int x1)] 2)) t := fun t k => castTop (ef_1 m x0 x1) k
  obtain ⟨fs, hr, hrun, hended, hW, hsame⟩ := X0.leave (v := some (.int (nar .byte ((own_iushr x0 ((x1 &&& (3 : Int32)) * (8 : Int32))).toInt8.toInt32)))) (fun h => by rw [hret] at h; cases h)
  refine ⟨_, _, pre0 _ ?_, hrun, hended, _, _, rfl, ?_, ⟨_, rfl⟩, hW, hsame.mono (by decide) (by decide)⟩
  · show Steps p.tables e below (s₁.setTop (mkF m 0 #[.val (.int x0), .val (.int x1)] [])) _
    refine XS.iloadN X0.here hx rfl (hb hby d1_0) rfl ?_
    show Steps p.tables e below (s₁.setTop (mkF m 1 #[.val (.int x0), .val (.int x1)] [(.int x0)])) _
    refine XS.iloadN X0.here hx rfl (hb hby d1_1) rfl ?_
    show Steps p.tables e below (s₁.setTop (mkF m 2 #[.val (.int x0), .val (.int x1)] [(.int x1), (.int x0)])) _
    refine XS.iconst X0.here hx rfl (hb hby d1_2) ?_
    show Steps p.tables e below (s₁.setTop (mkF m 3 #[.val (.int x0), .val (.int x1)] [(.int (3 : Int32)), (.int x1), (.int x0)])) _
    refine XS.iand X0.here hx rfl (hb hby d1_3) rfl ?_
    show Steps p.tables e below (s₁.setTop (mkF m 4 #[.val (.int x0), .val (.int x1)] [(.int (x1 &&& (3 : Int32))), (.int x0)])) _
    refine XS.bipush X0.here hx rfl (hb hby d1_4) ?_
    show Steps p.tables e below (s₁.setTop (mkF m 6 #[.val (.int x0), .val (.int x1)] [(.int (8 : Int32)), (.int (x1 &&& (3 : Int32))), (.int x0)])) _
    refine XS.imul X0.here hx rfl (hb hby d1_6) rfl ?_
    show Steps p.tables e below (s₁.setTop (mkF m 7 #[.val (.int x0), .val (.int x1)] [(.int ((x1 &&& (3 : Int32)) * (8 : Int32))), (.int x0)])) _
    refine own_xiushr X0.here hx rfl (hb hby d1_7) rfl ?_
    show Steps p.tables e below (s₁.setTop (mkF m 8 #[.val (.int x0), .val (.int x1)] [(.int (own_iushr x0 ((x1 &&& (3 : Int32)) * (8 : Int32))))])) _
    refine XS.i2b X0.here hx rfl (hb hby d1_8) rfl ?_
    show Steps p.tables e below (s₁.setTop (mkF m 9 #[.val (.int x0), .val (.int x1)] [(.int ((own_iushr x0 ((x1 &&& (3 : Int32)) * (8 : Int32))).toInt8.toInt32))])) _
    exact retN X0 hx (t := .byte) hret (by simp) (hb hby d1_9) hr
  · show Q1 Z x0 x1 h0 n0 _ s₁.heap _
    rw [e0]
    have rr : f1 x0 x1 = (nar .byte ((own_iushr x0 ((x1 &&& (3 : Int32)) * (8 : Int32))).toInt8.toInt32)) := rfl
    exact ⟨congrArg (fun z => some (Value.int z)) rr.symm, N0, rfl⟩
-- body 2: com/example/keyward/keyward/codecs/VarintReadPinLaw.put:([BIIIJ)V
theorem d2_0 : decode method_4_code 0 = .ok (.iload_n 2, 1) := by decide +kernel
theorem d2_1 : decode method_4_code 1 = .ok (.iload_n 3, 1) := by decide +kernel
theorem d2_2 : decode method_4_code 2 = .ok (.if_icmp .ge 40, 3) := by decide +kernel
theorem d2_5 : decode method_4_code 5 = .ok (.lload 4, 2) := by decide +kernel
theorem d2_7 : decode method_4_code 7 = .ok (.bipush 7, 2) := by decide +kernel
theorem d2_9 : decode method_4_code 9 = .ok (.iload_n 2, 1) := by decide +kernel
theorem d2_10 : decode method_4_code 10 = .ok (.imul, 1) := by decide +kernel
theorem d2_11 : decode method_4_code 11 = .ok (.lushr, 1) := by decide +kernel
theorem d2_12 : decode method_4_code 12 = .ok (.ldc2_w 27, 3) := by decide +kernel
theorem d2_15 : decode method_4_code 15 = .ok (.land, 1) := by decide +kernel
theorem d2_16 : decode method_4_code 16 = .ok (.l2i, 1) := by decide +kernel
theorem d2_17 : decode method_4_code 17 = .ok (.istore 6, 2) := by decide +kernel
theorem d2_19 : decode method_4_code 19 = .ok (.iload_n 2, 1) := by decide +kernel
theorem d2_20 : decode method_4_code 20 = .ok (.iload_n 3, 1) := by decide +kernel
theorem d2_21 : decode method_4_code 21 = .ok (.iconst 1, 1) := by decide +kernel
theorem d2_22 : decode method_4_code 22 = .ok (.isub, 1) := by decide +kernel
theorem d2_23 : decode method_4_code 23 = .ok (.if_icmp .ge 11, 3) := by decide +kernel
theorem d2_26 : decode method_4_code 26 = .ok (.iload 6, 2) := by decide +kernel
theorem d2_28 : decode method_4_code 28 = .ok (.sipush 128, 3) := by decide +kernel
theorem d2_31 : decode method_4_code 31 = .ok (.ior, 1) := by decide +kernel
theorem d2_32 : decode method_4_code 32 = .ok (.istore 6, 2) := by decide +kernel
theorem d2_34 : decode method_4_code 34 = .ok (.aload_n 0, 1) := by decide +kernel
theorem d2_35 : decode method_4_code 35 = .ok (.iload_n 1, 1) := by decide +kernel
theorem d2_36 : decode method_4_code 36 = .ok (.iload_n 2, 1) := by decide +kernel
theorem d2_37 : decode method_4_code 37 = .ok (.iadd, 1) := by decide +kernel
theorem d2_38 : decode method_4_code 38 = .ok (.iload 6, 2) := by decide +kernel
theorem d2_40 : decode method_4_code 40 = .ok (.i2b, 1) := by decide +kernel
theorem d2_41 : decode method_4_code 41 = .ok (.bastore, 1) := by decide +kernel
theorem d2_42 : decode method_4_code 42 = .ok (.return_, 1) := by decide +kernel
theorem ef_2 (m : MethodId) (x0 : Addr) (x1 : Int32) (x2 : Int32) (x3 : Int32) (x4 : Int64) : entryFrame m #[(.ref x0), (.int x1), (.int x2), (.int x3), (.long x4)] 7 = mkF m 0 #[.val (.ref x0), .val (.int x1), .val (.int x2), .val (.int x3), .val (.long x4), .second, .unset] [] := by first | (simp [entryFrame, mkF, argsToLocals, Value.category]; done) | rfl
def f2_v14 (x1 : Int32) (x2 : Int32) (x3 : Int32) (x4 : Int64) (A_x0 : Nat → Int32) : Int32 := (((own_lushr x4 ((7 : Int32) * x2)) &&& (127 : Int64)).toInt32)
def f2_v17 (x1 : Int32) (x2 : Int32) (x3 : Int32) (x4 : Int64) (A_x0 : Nat → Int32) : Int32 := ((f2_v14 x1 x2 x3 x4 A_x0) ||| (128 : Int32))
def f2_j18 (x1 : Int32) (x2 : Int32) (x3 : Int32) (x4 : Int64) (A_x0 : Nat → Int32) : Int32 := if if_icmp.holds .ge x2 (x3 - (1 : Int32)) = true then (f2_v14 x1 x2 x3 x4 A_x0) else (f2_v17 x1 x2 x3 x4 A_x0)
def f2_a23 (x1 : Int32) (x2 : Int32) (x3 : Int32) (x4 : Int64) (A_x0 : Nat → Int32) : Nat → Int32 := own_upd A_x0 ((x1 + x2)).toNatClampNeg (nar .byte ((f2_j18 x1 x2 x3 x4 A_x0).toInt8.toInt32))
def f2 (x1 : Int32) (x2 : Int32) (x3 : Int32) (x4 : Int64) (A_x0 : Nat → Int32) : Nat → Int32 := (if if_icmp.holds .ge x2 x3 = true then A_x0 else (f2_a23 x1 x2 x3 x4 A_x0))
def Q2 (Z : State) (x0 : Addr) (x1 : Int32) (x2 : Int32) (x3 : Int32) (x4 : Int64) (A_x0 : Nat → Int32) (h0 : Heap) (n0 : Nat) (v : Option Value) (h : Heap) (L : List Loc) : Prop := v = none ∧ Fr n0 L ∧ Keep h0 h [x0] ∧ own_Arr Z h x0 12 (f2 x1 x2 x3 x4 A_x0)
set_option maxRecDepth 65536 in
set_option maxHeartbeats 40000000 in
theorem rm2 (l : Launch) (Z : State) (a0 : Array Value) (hw : ∀ d ∈ tables_1, d.before a0 Z = true) (ws : List Jvm.Cond) (x0 : Addr) (x1 : Int32) (x2 : Int32) (x3 : Int32) (x4 : Int64) (A_x0 : Nat → Int32) (h0 : Heap) (n0 : Nat) (Z0 : n0 ≤ h0.size) (V_x0 : own_Arr Z h0 x0 12 A_x0) (g_x0 : n0 ≤ x0) (hbd : 0 ≤ (x1 + x2).toInt ∧ (x1 + x2).toInt < (12 : Nat)) :
    MetFree l (⟨"com/example/keyward/keyward/codecs/VarintReadPinLaw", "put", "([BIIIJ)V"⟩ : MethodName) (head1 (Jvm.Cond.code (⟨"com/example/keyward/keyward/codecs/VarintReadPinLaw", "put", "([BIIIJ)V"⟩ : MethodName) method_4_code 7 (none) :: ws) ({ frames := 0, cells := 0, slots := 0, locals := 0 } : Room)) (fun a U => a = #[(.ref x0), (.int x1), (.int x2), (.int x3), (.long x4)] ∧ Z.Warmed39 U.vm ∧ U.heap = h0) (fun _ _ _ _ _ => True) (fun _ U o U' => ∃ v L, o = .returned v ∧ Q2 Z x0 x1 x2 x3 x4 A_x0 h0 n0 v U'.heap L ∧ FrameEnd U o U' L ({ frames := 0, cells := 0, slots := 0, locals := 0 } : Room).cells ({ frames := 0, cells := 0, slots := 0, locals := 0 } : Room).slots) := by
  refine MetFree.of_bodySF (plainFor_of_name pn_0) hisR ?_
  intro p e s m args below meth c s₁ Bd hml0 hP hK0
  obtain ⟨rfl, hZ, hh⟩ := hP
  have hx := Bd.exec
  have hby := Bd.bytes
  have hml : c.maxLocals = 7 := hml0
  have hown : s.vm.findClass "com/example/keyward/keyward/codecs/VarintReadPinLaw" = some m.cls := findClass_of_methodNamed Bd.named
  have hnm := (name_of_methodNamed Bd.named Bd.method).1
  have hret : meth.sig.returnType = none := Bd.returns
  have hlk : meth.locks = false := Bd.notSynchronized
  have X0 : Stand p l e ({ frames := 0, cells := 0, slots := 0, locals := 0 } : Room) s m #[(.ref x0), (.int x1), (.int x2), (.int x3), (.long x4)] below meth c s₁ [] 0 0 := Stand.of_body Bd
  have e0 : s₁.heap = h0 := by rw [← hh, Bd.state]; rfl
  have N0 := Fr.nil n0
  have pre0 : ∀ t, Steps p.tables e below (s₁.setTop (mkF m 0 #[.val (.ref x0), .val (.int x1), .val (.int x2), .val (.int x3), .val (.long x4), .second, .unset] [])) t → Steps p.tables e below (s₁.setTop (entryFrame m #[(.ref x0), (.int x1), (.int x2), (.int x3), (.long x4)] 7)) t := fun t k => castTop (ef_2 m x0 x1 x2 x3 x4) k
  have pre1 : ∀ t, Steps p.tables e below (s₁.setTop (mkF m 2 #[.val (.ref x0), .val (.int x1), .val (.int x2), .val (.int x3), .val (.long x4), .second, .unset] [(.int x3), (.int x2)])) t → Steps p.tables e below (s₁.setTop (entryFrame m #[(.ref x0), (.int x1), (.int x2), (.int x3), (.long x4)] 7)) t := by
    intro t k
    refine pre0 _ ?_
    show Steps p.tables e below (s₁.setTop (mkF m 0 #[.val (.ref x0), .val (.int x1), .val (.int x2), .val (.int x3), .val (.long x4), .second, .unset] [])) _
    refine XS.iloadN X0.here hx rfl (hb hby d2_0) rfl ?_
    show Steps p.tables e below (s₁.setTop (mkF m 1 #[.val (.ref x0), .val (.int x1), .val (.int x2), .val (.int x3), .val (.long x4), .second, .unset] [(.int x2)])) _
    refine XS.iloadN X0.here hx rfl (hb hby d2_1) rfl ?_
    exact k
  rcases Bool.eq_false_or_eq_true (if_icmp.holds .ge x2 x3) with hc2 | hc2
  · obtain ⟨fs, hr, hrun, hended, hW, hsame⟩ := X0.leave (v := none) (fun _ => rfl)
    refine ⟨_, _, pre1 _ ?_, hrun, hended, _, _, rfl, ?_, ⟨_, rfl⟩, hW, hsame.mono (by decide) (by decide)⟩
    · show Steps p.tables e below (s₁.setTop (mkF m 2 #[.val (.ref x0), .val (.int x1), .val (.int x2), .val (.int x3), .val (.long x4), .second, .unset] [(.int x3), (.int x2)])) _
      refine XS.icmpYes X0.here hx rfl (pc0 := 2) (pc' := 42) rfl (hb hby d2_2) rfl hc2 (by decide) (by decide) ?_
      show Steps p.tables e below (s₁.setTop (mkF m 42 #[.val (.ref x0), .val (.int x1), .val (.int x2), .val (.int x3), .val (.long x4), .second, .unset] [])) _
      exact X0.returnOut hx hret (hb hby d2_42) hr
    · show Q2 Z x0 x1 x2 x3 x4 A_x0 h0 n0 _ s₁.heap _
      rw [e0]
      have rr : f2 x1 x2 x3 x4 A_x0 = A_x0 := if_pos hc2
      exact ⟨rfl, N0, (Keep.refl h0 [x0]), by rw [rr]; exact V_x0⟩
  · have pre15 : ∀ t, Steps p.tables e below (s₁.setTop (mkF m 23 #[.val (.ref x0), .val (.int x1), .val (.int x2), .val (.int x3), .val (.long x4), .second, .val (.int (f2_v14 x1 x2 x3 x4 A_x0))] [(.int (x3 - (1 : Int32))), (.int x2)])) t → Steps p.tables e below (s₁.setTop (entryFrame m #[(.ref x0), (.int x1), (.int x2), (.int x3), (.long x4)] 7)) t := by
      intro t k
      refine pre1 _ ?_
      show Steps p.tables e below (s₁.setTop (mkF m 2 #[.val (.ref x0), .val (.int x1), .val (.int x2), .val (.int x3), .val (.long x4), .second, .unset] [(.int x3), (.int x2)])) _
      refine XS.icmpNo X0.here hx rfl (hb hby d2_2) rfl hc2 ?_
      show Steps p.tables e below (s₁.setTop (mkF m 5 #[.val (.ref x0), .val (.int x1), .val (.int x2), .val (.int x3), .val (.long x4), .second, .unset] [])) _
      refine XS.lload X0.here hx rfl (hb hby d2_5) rfl ?_
      show Steps p.tables e below (s₁.setTop (mkF m 7 #[.val (.ref x0), .val (.int x1), .val (.int x2), .val (.int x3), .val (.long x4), .second, .unset] [(.long x4)])) _
      refine XS.bipush X0.here hx rfl (hb hby d2_7) ?_
      show Steps p.tables e below (s₁.setTop (mkF m 9 #[.val (.ref x0), .val (.int x1), .val (.int x2), .val (.int x3), .val (.long x4), .second, .unset] [(.int (7 : Int32)), (.long x4)])) _
      refine XS.iloadN X0.here hx rfl (hb hby d2_9) rfl ?_
      show Steps p.tables e below (s₁.setTop (mkF m 10 #[.val (.ref x0), .val (.int x1), .val (.int x2), .val (.int x3), .val (.long x4), .second, .unset] [(.int x2), (.int (7 : Int32)), (.long x4)])) _
      refine XS.imul X0.here hx rfl (hb hby d2_10) rfl ?_
      show Steps p.tables e below (s₁.setTop (mkF m 11 #[.val (.ref x0), .val (.int x1), .val (.int x2), .val (.int x3), .val (.long x4), .second, .unset] [(.int ((7 : Int32) * x2)), (.long x4)])) _
      refine own_xlushr X0.here hx rfl (hb hby d2_11) rfl ?_
      show Steps p.tables e below (s₁.setTop (mkF m 12 #[.val (.ref x0), .val (.int x1), .val (.int x2), .val (.int x3), .val (.long x4), .second, .unset] [(.long (own_lushr x4 ((7 : Int32) * x2)))])) _
      refine X0.ldc2Long hx hown (mvT hZ (hw _ (List.mem_of_getElem? (i := 9) rfl))) (g := (mkF m 12 #[.val (.ref x0), .val (.int x1), .val (.int x2), .val (.int x3), .val (.long x4), .second, .unset] [(.long (own_lushr x4 ((7 : Int32) * x2)))])) rfl (hb hby d2_12) _ ?_
      show Steps p.tables e below (s₁.setTop (mkF m 15 #[.val (.ref x0), .val (.int x1), .val (.int x2), .val (.int x3), .val (.long x4), .second, .unset] [(.long (127 : Int64)), (.long (own_lushr x4 ((7 : Int32) * x2)))])) _
      refine XS.land X0.here hx rfl (hb hby d2_15) rfl ?_
      show Steps p.tables e below (s₁.setTop (mkF m 16 #[.val (.ref x0), .val (.int x1), .val (.int x2), .val (.int x3), .val (.long x4), .second, .unset] [(.long ((own_lushr x4 ((7 : Int32) * x2)) &&& (127 : Int64)))])) _
      refine XS.l2i X0.here hx rfl (hb hby d2_16) rfl ?_
      show Steps p.tables e below (s₁.setTop (mkF m 17 #[.val (.ref x0), .val (.int x1), .val (.int x2), .val (.int x3), .val (.long x4), .second, .unset] [(.int (((own_lushr x4 ((7 : Int32) * x2)) &&& (127 : Int64)).toInt32))])) _
      refine XS.istore X0.here hx rfl (hb hby d2_17) rfl (l' := #[.val (.ref x0), .val (.int x1), .val (.int x2), .val (.int x3), .val (.long x4), .second, .val (.int (f2_v14 x1 x2 x3 x4 A_x0))]) rfl ?_
      show Steps p.tables e below (s₁.setTop (mkF m 19 #[.val (.ref x0), .val (.int x1), .val (.int x2), .val (.int x3), .val (.long x4), .second, .val (.int (f2_v14 x1 x2 x3 x4 A_x0))] [])) _
      refine XS.iloadN X0.here hx rfl (hb hby d2_19) rfl ?_
      show Steps p.tables e below (s₁.setTop (mkF m 20 #[.val (.ref x0), .val (.int x1), .val (.int x2), .val (.int x3), .val (.long x4), .second, .val (.int (f2_v14 x1 x2 x3 x4 A_x0))] [(.int x2)])) _
      refine XS.iloadN X0.here hx rfl (hb hby d2_20) rfl ?_
      show Steps p.tables e below (s₁.setTop (mkF m 21 #[.val (.ref x0), .val (.int x1), .val (.int x2), .val (.int x3), .val (.long x4), .second, .val (.int (f2_v14 x1 x2 x3 x4 A_x0))] [(.int x3), (.int x2)])) _
      refine XS.iconst X0.here hx rfl (hb hby d2_21) ?_
      show Steps p.tables e below (s₁.setTop (mkF m 22 #[.val (.ref x0), .val (.int x1), .val (.int x2), .val (.int x3), .val (.long x4), .second, .val (.int (f2_v14 x1 x2 x3 x4 A_x0))] [(.int (1 : Int32)), (.int x3), (.int x2)])) _
      refine XS.isub X0.here hx rfl (hb hby d2_22) rfl ?_
      exact k
    obtain ⟨T19, L19, X19, N19, e19, pre19⟩ : ∃ (T' : State) (L' : List Loc), Stand p l e ({ frames := 0, cells := 0, slots := 0, locals := 0 } : Room) s m #[(.ref x0), (.int x1), (.int x2), (.int x3), (.long x4)] below meth c T' L' 0 0 ∧ Fr n0 L' ∧ T'.heap = h0 ∧ ∀ t, Steps p.tables e below (T'.setTop (mkF m 34 #[.val (.ref x0), .val (.int x1), .val (.int x2), .val (.int x3), .val (.long x4), .second, .val (.int (f2_j18 x1 x2 x3 x4 A_x0))] [])) t → Steps p.tables e below (s₁.setTop (entryFrame m #[(.ref x0), (.int x1), (.int x2), (.int x3), (.long x4)] 7)) t := by
      rcases Bool.eq_false_or_eq_true (if_icmp.holds .ge x2 (x3 - (1 : Int32))) with hc16 | hc16
      · have pre20 : ∀ t, Steps p.tables e below (s₁.setTop (mkF m 34 #[.val (.ref x0), .val (.int x1), .val (.int x2), .val (.int x3), .val (.long x4), .second, .val (.int (f2_v14 x1 x2 x3 x4 A_x0))] [])) t → Steps p.tables e below (s₁.setTop (entryFrame m #[(.ref x0), (.int x1), (.int x2), (.int x3), (.long x4)] 7)) t := by
          intro t k
          refine pre15 _ ?_
          show Steps p.tables e below (s₁.setTop (mkF m 23 #[.val (.ref x0), .val (.int x1), .val (.int x2), .val (.int x3), .val (.long x4), .second, .val (.int (f2_v14 x1 x2 x3 x4 A_x0))] [(.int (x3 - (1 : Int32))), (.int x2)])) _
          refine XS.icmpYes X0.here hx rfl (pc0 := 23) (pc' := 34) rfl (hb hby d2_23) rfl hc16 (by decide) (by decide) ?_
          exact k
        have qj0 : (f2_j18 x1 x2 x3 x4 A_x0) = (f2_v14 x1 x2 x3 x4 A_x0) := if_pos hc16
        refine ⟨s₁, _, X0, N0, e0, fun t k => pre20 _ ?_⟩
        rw [qj0] at k
        exact k
      · have pre21 : ∀ t, Steps p.tables e below (s₁.setTop (mkF m 34 #[.val (.ref x0), .val (.int x1), .val (.int x2), .val (.int x3), .val (.long x4), .second, .val (.int (f2_v17 x1 x2 x3 x4 A_x0))] [])) t → Steps p.tables e below (s₁.setTop (entryFrame m #[(.ref x0), (.int x1), (.int x2), (.int x3), (.long x4)] 7)) t := by
          intro t k
          refine pre15 _ ?_
          show Steps p.tables e below (s₁.setTop (mkF m 23 #[.val (.ref x0), .val (.int x1), .val (.int x2), .val (.int x3), .val (.long x4), .second, .val (.int (f2_v14 x1 x2 x3 x4 A_x0))] [(.int (x3 - (1 : Int32))), (.int x2)])) _
          refine XS.icmpNo X0.here hx rfl (hb hby d2_23) rfl hc16 ?_
          show Steps p.tables e below (s₁.setTop (mkF m 26 #[.val (.ref x0), .val (.int x1), .val (.int x2), .val (.int x3), .val (.long x4), .second, .val (.int (f2_v14 x1 x2 x3 x4 A_x0))] [])) _
          refine XS.iload X0.here hx rfl (hb hby d2_26) rfl ?_
          show Steps p.tables e below (s₁.setTop (mkF m 28 #[.val (.ref x0), .val (.int x1), .val (.int x2), .val (.int x3), .val (.long x4), .second, .val (.int (f2_v14 x1 x2 x3 x4 A_x0))] [(.int (f2_v14 x1 x2 x3 x4 A_x0))])) _
          refine XS.sipush X0.here hx rfl (hb hby d2_28) ?_
          show Steps p.tables e below (s₁.setTop (mkF m 31 #[.val (.ref x0), .val (.int x1), .val (.int x2), .val (.int x3), .val (.long x4), .second, .val (.int (f2_v14 x1 x2 x3 x4 A_x0))] [(.int (128 : Int32)), (.int (f2_v14 x1 x2 x3 x4 A_x0))])) _
          refine XS.ior X0.here hx rfl (hb hby d2_31) rfl ?_
          show Steps p.tables e below (s₁.setTop (mkF m 32 #[.val (.ref x0), .val (.int x1), .val (.int x2), .val (.int x3), .val (.long x4), .second, .val (.int (f2_v14 x1 x2 x3 x4 A_x0))] [(.int ((f2_v14 x1 x2 x3 x4 A_x0) ||| (128 : Int32)))])) _
          refine XS.istore X0.here hx rfl (hb hby d2_32) rfl (l' := #[.val (.ref x0), .val (.int x1), .val (.int x2), .val (.int x3), .val (.long x4), .second, .val (.int (f2_v17 x1 x2 x3 x4 A_x0))]) rfl ?_
          exact k
        have qj0 : (f2_j18 x1 x2 x3 x4 A_x0) = (f2_v17 x1 x2 x3 x4 A_x0) := if_neg (own_nt hc16)
        refine ⟨s₁, _, X0, N0, e0, fun t k => pre21 _ ?_⟩
        rw [qj0] at k
        exact k
    have Vc22 := V_x0
    obtain ⟨cl22, Ar22, S22, H22⟩ := Vc22
    have hin22 : 0 ≤ ((x1 + x2)).toInt ∧ ((x1 + x2)).toInt < (12 : Nat) := hbd
    obtain ⟨T22, h22, X22, e22, W22, st22⟩ := stB X19 hx hZ e19 Ar22 (j := (x1 + x2)) (own_inb S22 hin22) (g := (mkF m 41 #[.val (.ref x0), .val (.int x1), .val (.int x2), .val (.int x3), .val (.long x4), .second, .val (.int (f2_j18 x1 x2 x3 x4 A_x0))] [(.int ((f2_j18 x1 x2 x3 x4 A_x0).toInt8.toInt32)), (.int (x1 + x2)), (.ref x0)])) rfl rfl (hb hby d2_41)
    have N22 := Fr.snoc X22 N19 g_x0
    have Z22 : n0 ≤ h22.size := Nat.le_trans Z0 (Keep.of_wr W22).1
    have K22 : Keep h0 h22 [x0] := Keep.wr (Keep.refl h0 [x0]) W22 (Or.inl (List.mem_of_getElem? (i := 0) rfl))
    have P24 : own_Arr Z h22 x0 12 (f2_a23 x1 x2 x3 x4 A_x0) :=  own_Arr.set Ar22 S22 H22 W22
    obtain ⟨fs, hr, hrun, hended, hW, hsame⟩ := X22.leave (v := none) (fun _ => rfl)
    refine ⟨_, _, pre19 _ ?_, hrun, hended, _, _, rfl, ?_, ⟨_, rfl⟩, hW, hsame.mono (by decide) (by decide)⟩
    · show Steps p.tables e below (T19.setTop (mkF m 34 #[.val (.ref x0), .val (.int x1), .val (.int x2), .val (.int x3), .val (.long x4), .second, .val (.int (f2_j18 x1 x2 x3 x4 A_x0))] [])) _
      refine XS.aloadN X19.here hx rfl (hb hby d2_34) rfl rfl ?_
      show Steps p.tables e below (T19.setTop (mkF m 35 #[.val (.ref x0), .val (.int x1), .val (.int x2), .val (.int x3), .val (.long x4), .second, .val (.int (f2_j18 x1 x2 x3 x4 A_x0))] [(.ref x0)])) _
      refine XS.iloadN X19.here hx rfl (hb hby d2_35) rfl ?_
      show Steps p.tables e below (T19.setTop (mkF m 36 #[.val (.ref x0), .val (.int x1), .val (.int x2), .val (.int x3), .val (.long x4), .second, .val (.int (f2_j18 x1 x2 x3 x4 A_x0))] [(.int x1), (.ref x0)])) _
      refine XS.iloadN X19.here hx rfl (hb hby d2_36) rfl ?_
      show Steps p.tables e below (T19.setTop (mkF m 37 #[.val (.ref x0), .val (.int x1), .val (.int x2), .val (.int x3), .val (.long x4), .second, .val (.int (f2_j18 x1 x2 x3 x4 A_x0))] [(.int x2), (.int x1), (.ref x0)])) _
      refine XS.iadd X19.here hx rfl (hb hby d2_37) rfl ?_
      show Steps p.tables e below (T19.setTop (mkF m 38 #[.val (.ref x0), .val (.int x1), .val (.int x2), .val (.int x3), .val (.long x4), .second, .val (.int (f2_j18 x1 x2 x3 x4 A_x0))] [(.int (x1 + x2)), (.ref x0)])) _
      refine XS.iload X19.here hx rfl (hb hby d2_38) rfl ?_
      show Steps p.tables e below (T19.setTop (mkF m 40 #[.val (.ref x0), .val (.int x1), .val (.int x2), .val (.int x3), .val (.long x4), .second, .val (.int (f2_j18 x1 x2 x3 x4 A_x0))] [(.int (f2_j18 x1 x2 x3 x4 A_x0)), (.int (x1 + x2)), (.ref x0)])) _
      refine XS.i2b X19.here hx rfl (hb hby d2_40) rfl ?_
      show Steps p.tables e below (T19.setTop (mkF m 41 #[.val (.ref x0), .val (.int x1), .val (.int x2), .val (.int x3), .val (.long x4), .second, .val (.int (f2_j18 x1 x2 x3 x4 A_x0))] [(.int ((f2_j18 x1 x2 x3 x4 A_x0).toInt8.toInt32)), (.int (x1 + x2)), (.ref x0)])) _
      refine st22 _ ?_
      show Steps p.tables e below (T22.setTop (mkF m 42 #[.val (.ref x0), .val (.int x1), .val (.int x2), .val (.int x3), .val (.long x4), .second, .val (.int (f2_j18 x1 x2 x3 x4 A_x0))] [])) _
      exact X22.returnOut hx hret (hb hby d2_42) hr
    · show Q2 Z x0 x1 x2 x3 x4 A_x0 h0 n0 _ T22.heap _
      rw [e22]
      have rr : f2 x1 x2 x3 x4 A_x0 = (f2_a23 x1 x2 x3 x4 A_x0) := if_neg (own_nt hc2)
      exact ⟨rfl, N22, K22, by rw [rr]; exact P24⟩
-- body 3: com/example/keyward/keyward/codecs/Varint.read:([BI)J
theorem d3_0 : decode prog_11_method_3_code 0 = .ok (.lconst 0, 1) := by decide +kernel
theorem d3_1 : decode prog_11_method_3_code 1 = .ok (.lstore_n 2, 1) := by decide +kernel
theorem d3_2 : decode prog_11_method_3_code 2 = .ok (.iconst 0, 1) := by decide +kernel
theorem d3_3 : decode prog_11_method_3_code 3 = .ok (.istore 4, 2) := by decide +kernel
theorem d3_5 : decode prog_11_method_3_code 5 = .ok (.iload 4, 2) := by decide +kernel
theorem d3_7 : decode prog_11_method_3_code 7 = .ok (.bipush 9, 2) := by decide +kernel
theorem d3_9 : decode prog_11_method_3_code 9 = .ok (.if_icmp .ge 93, 3) := by decide +kernel
theorem d3_12 : decode prog_11_method_3_code 12 = .ok (.iload_n 1, 1) := by decide +kernel
theorem d3_13 : decode prog_11_method_3_code 13 = .ok (.iload 4, 2) := by decide +kernel
theorem d3_15 : decode prog_11_method_3_code 15 = .ok (.iadd, 1) := by decide +kernel
theorem d3_16 : decode prog_11_method_3_code 16 = .ok (.aload_n 0, 1) := by decide +kernel
theorem d3_17 : decode prog_11_method_3_code 17 = .ok (.arraylength, 1) := by decide +kernel
theorem d3_18 : decode prog_11_method_3_code 18 = .ok (.if_icmp .lt 17, 3) := by decide +kernel
theorem d3_21 : decode prog_11_method_3_code 21 = .ok (.new 7, 3) := by decide +kernel
theorem d3_35 : decode prog_11_method_3_code 35 = .ok (.aload_n 0, 1) := by decide +kernel
theorem d3_36 : decode prog_11_method_3_code 36 = .ok (.iload_n 1, 1) := by decide +kernel
theorem d3_37 : decode prog_11_method_3_code 37 = .ok (.iload 4, 2) := by decide +kernel
theorem d3_39 : decode prog_11_method_3_code 39 = .ok (.iadd, 1) := by decide +kernel
theorem d3_40 : decode prog_11_method_3_code 40 = .ok (.baload, 1) := by decide +kernel
theorem d3_41 : decode prog_11_method_3_code 41 = .ok (.sipush 255, 3) := by decide +kernel
theorem d3_44 : decode prog_11_method_3_code 44 = .ok (.iand, 1) := by decide +kernel
theorem d3_45 : decode prog_11_method_3_code 45 = .ok (.istore 5, 2) := by decide +kernel
theorem d3_47 : decode prog_11_method_3_code 47 = .ok (.lload_n 2, 1) := by decide +kernel
theorem d3_48 : decode prog_11_method_3_code 48 = .ok (.iload 5, 2) := by decide +kernel
theorem d3_50 : decode prog_11_method_3_code 50 = .ok (.bipush 127, 2) := by decide +kernel
theorem d3_52 : decode prog_11_method_3_code 52 = .ok (.iand, 1) := by decide +kernel
theorem d3_53 : decode prog_11_method_3_code 53 = .ok (.i2l, 1) := by decide +kernel
theorem d3_54 : decode prog_11_method_3_code 54 = .ok (.bipush 7, 2) := by decide +kernel
theorem d3_56 : decode prog_11_method_3_code 56 = .ok (.iload 4, 2) := by decide +kernel
theorem d3_58 : decode prog_11_method_3_code 58 = .ok (.imul, 1) := by decide +kernel
theorem d3_59 : decode prog_11_method_3_code 59 = .ok (.lshl, 1) := by decide +kernel
theorem d3_60 : decode prog_11_method_3_code 60 = .ok (.lor, 1) := by decide +kernel
theorem d3_61 : decode prog_11_method_3_code 61 = .ok (.lstore_n 2, 1) := by decide +kernel
theorem d3_62 : decode prog_11_method_3_code 62 = .ok (.iload 5, 2) := by decide +kernel
theorem d3_64 : decode prog_11_method_3_code 64 = .ok (.sipush 128, 3) := by decide +kernel
theorem d3_67 : decode prog_11_method_3_code 67 = .ok (.if_icmp .ge 29, 3) := by decide +kernel
theorem d3_70 : decode prog_11_method_3_code 70 = .ok (.iload 5, 2) := by decide +kernel
theorem d3_72 : decode prog_11_method_3_code 72 = .ok (.ifCond .ne 22, 3) := by decide +kernel
theorem d3_75 : decode prog_11_method_3_code 75 = .ok (.iload 4, 2) := by decide +kernel
theorem d3_77 : decode prog_11_method_3_code 77 = .ok (.ifCond .le 17, 3) := by decide +kernel
theorem d3_80 : decode prog_11_method_3_code 80 = .ok (.new 7, 3) := by decide +kernel
theorem d3_94 : decode prog_11_method_3_code 94 = .ok (.lload_n 2, 1) := by decide +kernel
theorem d3_95 : decode prog_11_method_3_code 95 = .ok (.lreturn, 1) := by decide +kernel
theorem d3_96 : decode prog_11_method_3_code 96 = .ok (.iinc 4 1, 3) := by decide +kernel
theorem d3_99 : decode prog_11_method_3_code 99 = .ok (.goto (-94), 3) := by decide +kernel
theorem d3_102 : decode prog_11_method_3_code 102 = .ok (.new 7, 3) := by decide +kernel
theorem pn_1 : plainName "com/example/keyward/keyward/codecs/Varint" = true := by first | (simp [plainName, overriddenIn]; done) | decide +kernel
theorem ef_3 (m : MethodId) (x0 : Addr) (x1 : Int32) : entryFrame m #[(.ref x0), (.int x1)] 6 = mkF m 0 #[.val (.ref x0), .val (.int x1), .unset, .unset, .unset, .unset] [] := by first | (simp [entryFrame, mkF, argsToLocals, Value.category]; done) | rfl
def f3_v9 (x1 : Int32) (A_x0 : Nat → Int32) (i2 : Int64) (i4 : Int32) : Int32 := ((A_x0 ((x1 + i4)).toNatClampNeg) &&& (255 : Int32))
def f3_v10 (x1 : Int32) (A_x0 : Nat → Int32) (i2 : Int64) (i4 : Int32) : Int64 := (i2 ||| (own_lshl (((f3_v9 x1 A_x0 i2 i4) &&& (127 : Int32)).toInt64) ((7 : Int32) * i4)))
def f3_v13 (x1 : Int32) (A_x0 : Nat → Int32) (i2 : Int64) (i4 : Int32) : Int32 := (i4 + (1 : Int32))
def f3_loop5 (x1 : Int32) (A_x0 : Nat → Int32) : Nat → Int64 → Int32 → Option Int64
  | 0, _, _ => none
  | k + 1, i2, i4 => (if if_icmp.holds .ge i4 (9 : Int32) = true then none else (if if_icmp.holds .lt (x1 + i4) (12 : Int32) = true then (if 0 ≤ ((x1 + i4)).toInt ∧ ((x1 + i4)).toInt < (12 : Nat) then (if if_icmp.holds .ge (f3_v9 x1 A_x0 i2 i4) (128 : Int32) = true then (f3_loop5 x1 A_x0 k (f3_v10 x1 A_x0 i2 i4) (f3_v13 x1 A_x0 i2 i4)) else (if ifCond.holds .ne (f3_v9 x1 A_x0 i2 i4) = true then some (f3_v10 x1 A_x0 i2 i4) else (if ifCond.holds .le i4 = true then some (f3_v10 x1 A_x0 i2 i4) else none))) else none) else none))
def f3 (K : Nat) (x1 : Int32) (A_x0 : Nat → Int32) : Option Int64 := (f3_loop5 x1 A_x0 K (0 : Int64) (0 : Int32))
def Q3 (Z : State) (x0 : Addr) (x1 : Int32) (A_x0 : Nat → Int32) (r : Int64) (h0 : Heap) (n0 : Nat) (v : Option Value) (h : Heap) (L : List Loc) : Prop := v = some (.long r) ∧ Fr n0 L ∧ h = h0
set_option maxRecDepth 65536 in
set_option maxHeartbeats 40000000 in
theorem lp3_5 (l : Launch) (Z : State) (a0 : Array Value) (hw : ∀ d ∈ tables_1, d.before a0 Z = true) (x0 : Addr) (x1 : Int32) (A_x0 : Nat → Int32) (h0 : Heap) (n0 : Nat) (Z0 : n0 ≤ h0.size) (V_x0 : own_Arr Z h0 x0 12 A_x0) {p : Program} {e : Env} {s : State} {m : MethodId} {below : List Frame} {meth : Method} {c : Code} (hx : p.tables.exec = Jvm.exec) (hZ : Z.Warmed39 s.vm) (hby : c.code = prog_11_method_3_code) (hml : c.maxLocals = 6) (hown : s.vm.findClass "com/example/keyward/keyward/codecs/Varint" = some m.cls) (hret : meth.sig.returnType = some .long) (hlk : meth.locks = false) :
    ∀ (K : Nat) (r : Int64) (i2 : Int64) (i4 : Int32) (s5 : Slot) (T0 : State) (locs : List Loc), Stand p l e ({ frames := 0, cells := 0, slots := 0, locals := 0 } : Room) s m #[(.ref x0), (.int x1)] below meth c T0 locs 0 0 → Fr n0 locs → T0.heap = h0 → One s5 → f3_loop5 x1 A_x0 K i2 i4 = some r →
      ∃ s₂ o, Steps p.tables e below (T0.setTop (mkF m 5 #[.val (.ref x0), .val (.int x1), .val (.long i2), .second, .val (.int i4), s5] [])) s₂ ∧ s₂.status = .running ∧ Ended s₂ below o ∧ ∃ v L, o = .returned v ∧ Q3 Z x0 x1 A_x0 r h0 n0 v s₂.heap L ∧ FrameEnd s o s₂ L ({ frames := 0, cells := 0, slots := 0, locals := 0 } : Room).cells ({ frames := 0, cells := 0, slots := 0, locals := 0 } : Room).slots := by
  intro K
  induction K with
  | zero =>
    intro r i2 i4 s5 T0 locs X0 N0 e0 hs5 hK
    exact absurd (show (none : Option Int64) = some r from hK) (by simp)
  | succ k ih =>
    intro r i2 i4 s5 T0 locs X0 N0 e0 hs5 hK
    have pre0 : ∀ t, Steps p.tables e below (T0.setTop (mkF m 5 #[.val (.ref x0), .val (.int x1), .val (.long i2), .second, .val (.int i4), s5] [])) t → Steps p.tables e below (T0.setTop (mkF m 5 #[.val (.ref x0), .val (.int x1), .val (.long i2), .second, .val (.int i4), s5] [])) t := fun t k => k
    have pre1 : ∀ t, Steps p.tables e below (T0.setTop (mkF m 9 #[.val (.ref x0), .val (.int x1), .val (.long i2), .second, .val (.int i4), s5] [(.int (9 : Int32)), (.int i4)])) t → Steps p.tables e below (T0.setTop (mkF m 5 #[.val (.ref x0), .val (.int x1), .val (.long i2), .second, .val (.int i4), s5] [])) t := by
      intro t k
      refine pre0 _ ?_
      show Steps p.tables e below (T0.setTop (mkF m 5 #[.val (.ref x0), .val (.int x1), .val (.long i2), .second, .val (.int i4), s5] [])) _
      refine XS.iload X0.here hx rfl (hb hby d3_5) rfl ?_
      show Steps p.tables e below (T0.setTop (mkF m 7 #[.val (.ref x0), .val (.int x1), .val (.long i2), .second, .val (.int i4), s5] [(.int i4)])) _
      refine XS.bipush X0.here hx rfl (hb hby d3_7) ?_
      exact k
    rcases Bool.eq_false_or_eq_true (if_icmp.holds .ge i4 (9 : Int32)) with hc2 | hc2
    · exact absurd (Eq.trans (Eq.symm (show f3_loop5 x1 A_x0 (k + 1) i2 i4 = none from if_pos hc2)) hK) (by simp)
    · have Vc3 := V_x0
      obtain ⟨cl3, Ar3, S3, -⟩ := Vc3
      have pre4 : ∀ t, Steps p.tables e below (T0.setTop (mkF m 18 #[.val (.ref x0), .val (.int x1), .val (.long i2), .second, .val (.int i4), s5] [(.int (12 : Int32)), (.int (x1 + i4))])) t → Steps p.tables e below (T0.setTop (mkF m 5 #[.val (.ref x0), .val (.int x1), .val (.long i2), .second, .val (.int i4), s5] [])) t := by
        intro t k
        refine pre1 _ ?_
        show Steps p.tables e below (T0.setTop (mkF m 9 #[.val (.ref x0), .val (.int x1), .val (.long i2), .second, .val (.int i4), s5] [(.int (9 : Int32)), (.int i4)])) _
        refine XS.icmpNo X0.here hx rfl (hb hby d3_9) rfl hc2 ?_
        show Steps p.tables e below (T0.setTop (mkF m 12 #[.val (.ref x0), .val (.int x1), .val (.long i2), .second, .val (.int i4), s5] [])) _
        refine XS.iloadN X0.here hx rfl (hb hby d3_12) rfl ?_
        show Steps p.tables e below (T0.setTop (mkF m 13 #[.val (.ref x0), .val (.int x1), .val (.long i2), .second, .val (.int i4), s5] [(.int x1)])) _
        refine XS.iload X0.here hx rfl (hb hby d3_13) rfl ?_
        show Steps p.tables e below (T0.setTop (mkF m 15 #[.val (.ref x0), .val (.int x1), .val (.long i2), .second, .val (.int i4), s5] [(.int i4), (.int x1)])) _
        refine XS.iadd X0.here hx rfl (hb hby d3_15) rfl ?_
        show Steps p.tables e below (T0.setTop (mkF m 16 #[.val (.ref x0), .val (.int x1), .val (.long i2), .second, .val (.int i4), s5] [(.int (x1 + i4))])) _
        refine XS.aloadN X0.here hx rfl (hb hby d3_16) rfl rfl ?_
        show Steps p.tables e below (T0.setTop (mkF m 17 #[.val (.ref x0), .val (.int x1), .val (.long i2), .second, .val (.int i4), s5] [(.ref x0), (.int (x1 + i4))])) _
        refine X0.arraylength hx (cell := cl3) (by rw [e0]; exact Ar3.1) (State.isArrayOf_alike hZ.alike Ar3.2.1) (g := (mkF m 17 #[.val (.ref x0), .val (.int x1), .val (.long i2), .second, .val (.int i4), s5] [(.ref x0), (.int (x1 + i4))])) rfl rfl (hb hby d3_17) _ ?_
        rw [S3]
        exact k
      rcases Bool.eq_false_or_eq_true (if_icmp.holds .lt (x1 + i4) (12 : Int32)) with hc5 | hc5
      · have pre6 : ∀ t, Steps p.tables e below (T0.setTop (mkF m 40 #[.val (.ref x0), .val (.int x1), .val (.long i2), .second, .val (.int i4), s5] [(.int (x1 + i4)), (.ref x0)])) t → Steps p.tables e below (T0.setTop (mkF m 5 #[.val (.ref x0), .val (.int x1), .val (.long i2), .second, .val (.int i4), s5] [])) t := by
          intro t k
          refine pre4 _ ?_
          show Steps p.tables e below (T0.setTop (mkF m 18 #[.val (.ref x0), .val (.int x1), .val (.long i2), .second, .val (.int i4), s5] [(.int (12 : Int32)), (.int (x1 + i4))])) _
          refine XS.icmpYes X0.here hx rfl (pc0 := 18) (pc' := 35) rfl (hb hby d3_18) rfl hc5 (by decide) (by decide) ?_
          show Steps p.tables e below (T0.setTop (mkF m 35 #[.val (.ref x0), .val (.int x1), .val (.long i2), .second, .val (.int i4), s5] [])) _
          refine XS.aloadN X0.here hx rfl (hb hby d3_35) rfl rfl ?_
          show Steps p.tables e below (T0.setTop (mkF m 36 #[.val (.ref x0), .val (.int x1), .val (.long i2), .second, .val (.int i4), s5] [(.ref x0)])) _
          refine XS.iloadN X0.here hx rfl (hb hby d3_36) rfl ?_
          show Steps p.tables e below (T0.setTop (mkF m 37 #[.val (.ref x0), .val (.int x1), .val (.long i2), .second, .val (.int i4), s5] [(.int x1), (.ref x0)])) _
          refine XS.iload X0.here hx rfl (hb hby d3_37) rfl ?_
          show Steps p.tables e below (T0.setTop (mkF m 39 #[.val (.ref x0), .val (.int x1), .val (.long i2), .second, .val (.int i4), s5] [(.int i4), (.int x1), (.ref x0)])) _
          refine XS.iadd X0.here hx rfl (hb hby d3_39) rfl ?_
          exact k
        by_cases hb7 : 0 ≤ ((x1 + i4)).toInt ∧ ((x1 + i4)).toInt < (12 : Nat)
        · have Vc8 := V_x0
          obtain ⟨cl8, Ar8, S8, H8⟩ := Vc8
          have hin8 : 0 ≤ ((x1 + i4)).toInt ∧ ((x1 + i4)).toInt < (12 : Nat) := hb7
          have pre11 : ∀ t, Steps p.tables e below (T0.setTop (mkF m 67 #[.val (.ref x0), .val (.int x1), .val (.long (f3_v10 x1 A_x0 i2 i4)), .second, .val (.int i4), .val (.int (f3_v9 x1 A_x0 i2 i4))] [(.int (128 : Int32)), (.int (f3_v9 x1 A_x0 i2 i4))])) t → Steps p.tables e below (T0.setTop (mkF m 5 #[.val (.ref x0), .val (.int x1), .val (.long i2), .second, .val (.int i4), s5] [])) t := by
            intro t k
            refine pre6 _ ?_
            show Steps p.tables e below (T0.setTop (mkF m 40 #[.val (.ref x0), .val (.int x1), .val (.long i2), .second, .val (.int i4), s5] [(.int (x1 + i4)), (.ref x0)])) _
            refine X0.baloadBytes hx (j := (x1 + i4)) (v := (.int (A_x0 ((x1 + i4)).toNatClampNeg))) (by rw [e0]; exact Ar8.1) (State.isArrayOf_alike hZ.alike Ar8.2.1) Ar8.2.2 (own_inb S8 hin8) (H8 _ (own_idx hin8)) (g := (mkF m 40 #[.val (.ref x0), .val (.int x1), .val (.long i2), .second, .val (.int i4), s5] [(.int (x1 + i4)), (.ref x0)])) rfl rfl (hb hby d3_40) _ ?_
            show Steps p.tables e below (T0.setTop (mkF m 41 #[.val (.ref x0), .val (.int x1), .val (.long i2), .second, .val (.int i4), s5] [(.int (A_x0 ((x1 + i4)).toNatClampNeg))])) _
            refine XS.sipush X0.here hx rfl (hb hby d3_41) ?_
            show Steps p.tables e below (T0.setTop (mkF m 44 #[.val (.ref x0), .val (.int x1), .val (.long i2), .second, .val (.int i4), s5] [(.int (255 : Int32)), (.int (A_x0 ((x1 + i4)).toNatClampNeg))])) _
            refine XS.iand X0.here hx rfl (hb hby d3_44) rfl ?_
            show Steps p.tables e below (T0.setTop (mkF m 45 #[.val (.ref x0), .val (.int x1), .val (.long i2), .second, .val (.int i4), s5] [(.int ((A_x0 ((x1 + i4)).toNatClampNeg) &&& (255 : Int32)))])) _
            refine XS.istoreS X0.here hx rfl (hb hby d3_45) rfl (o := s5) rfl hs5 ?_
            show Steps p.tables e below (T0.setTop (mkF m 47 #[.val (.ref x0), .val (.int x1), .val (.long i2), .second, .val (.int i4), .val (.int (f3_v9 x1 A_x0 i2 i4))] [])) _
            refine XS.lloadN X0.here hx rfl (hb hby d3_47) rfl ?_
            show Steps p.tables e below (T0.setTop (mkF m 48 #[.val (.ref x0), .val (.int x1), .val (.long i2), .second, .val (.int i4), .val (.int (f3_v9 x1 A_x0 i2 i4))] [(.long i2)])) _
            refine XS.iload X0.here hx rfl (hb hby d3_48) rfl ?_
            show Steps p.tables e below (T0.setTop (mkF m 50 #[.val (.ref x0), .val (.int x1), .val (.long i2), .second, .val (.int i4), .val (.int (f3_v9 x1 A_x0 i2 i4))] [(.int (f3_v9 x1 A_x0 i2 i4)), (.long i2)])) _
            refine XS.bipush X0.here hx rfl (hb hby d3_50) ?_
            show Steps p.tables e below (T0.setTop (mkF m 52 #[.val (.ref x0), .val (.int x1), .val (.long i2), .second, .val (.int i4), .val (.int (f3_v9 x1 A_x0 i2 i4))] [(.int (127 : Int32)), (.int (f3_v9 x1 A_x0 i2 i4)), (.long i2)])) _
            refine XS.iand X0.here hx rfl (hb hby d3_52) rfl ?_
            show Steps p.tables e below (T0.setTop (mkF m 53 #[.val (.ref x0), .val (.int x1), .val (.long i2), .second, .val (.int i4), .val (.int (f3_v9 x1 A_x0 i2 i4))] [(.int ((f3_v9 x1 A_x0 i2 i4) &&& (127 : Int32))), (.long i2)])) _
            refine XS.i2l X0.here hx rfl (hb hby d3_53) rfl ?_
            show Steps p.tables e below (T0.setTop (mkF m 54 #[.val (.ref x0), .val (.int x1), .val (.long i2), .second, .val (.int i4), .val (.int (f3_v9 x1 A_x0 i2 i4))] [(.long (((f3_v9 x1 A_x0 i2 i4) &&& (127 : Int32)).toInt64)), (.long i2)])) _
            refine XS.bipush X0.here hx rfl (hb hby d3_54) ?_
            show Steps p.tables e below (T0.setTop (mkF m 56 #[.val (.ref x0), .val (.int x1), .val (.long i2), .second, .val (.int i4), .val (.int (f3_v9 x1 A_x0 i2 i4))] [(.int (7 : Int32)), (.long (((f3_v9 x1 A_x0 i2 i4) &&& (127 : Int32)).toInt64)), (.long i2)])) _
            refine XS.iload X0.here hx rfl (hb hby d3_56) rfl ?_
            show Steps p.tables e below (T0.setTop (mkF m 58 #[.val (.ref x0), .val (.int x1), .val (.long i2), .second, .val (.int i4), .val (.int (f3_v9 x1 A_x0 i2 i4))] [(.int i4), (.int (7 : Int32)), (.long (((f3_v9 x1 A_x0 i2 i4) &&& (127 : Int32)).toInt64)), (.long i2)])) _
            refine XS.imul X0.here hx rfl (hb hby d3_58) rfl ?_
            show Steps p.tables e below (T0.setTop (mkF m 59 #[.val (.ref x0), .val (.int x1), .val (.long i2), .second, .val (.int i4), .val (.int (f3_v9 x1 A_x0 i2 i4))] [(.int ((7 : Int32) * i4)), (.long (((f3_v9 x1 A_x0 i2 i4) &&& (127 : Int32)).toInt64)), (.long i2)])) _
            refine own_xlshl X0.here hx rfl (hb hby d3_59) rfl ?_
            show Steps p.tables e below (T0.setTop (mkF m 60 #[.val (.ref x0), .val (.int x1), .val (.long i2), .second, .val (.int i4), .val (.int (f3_v9 x1 A_x0 i2 i4))] [(.long (own_lshl (((f3_v9 x1 A_x0 i2 i4) &&& (127 : Int32)).toInt64) ((7 : Int32) * i4))), (.long i2)])) _
            refine XS.lor X0.here hx rfl (hb hby d3_60) rfl ?_
            show Steps p.tables e below (T0.setTop (mkF m 61 #[.val (.ref x0), .val (.int x1), .val (.long i2), .second, .val (.int i4), .val (.int (f3_v9 x1 A_x0 i2 i4))] [(.long (i2 ||| (own_lshl (((f3_v9 x1 A_x0 i2 i4) &&& (127 : Int32)).toInt64) ((7 : Int32) * i4))))])) _
            refine XS.lstoreN X0.here hx rfl (hb hby d3_61) rfl (l' := #[.val (.ref x0), .val (.int x1), .val (.long (f3_v10 x1 A_x0 i2 i4)), .second, .val (.int i4), .val (.int (f3_v9 x1 A_x0 i2 i4))]) rfl ?_
            show Steps p.tables e below (T0.setTop (mkF m 62 #[.val (.ref x0), .val (.int x1), .val (.long (f3_v10 x1 A_x0 i2 i4)), .second, .val (.int i4), .val (.int (f3_v9 x1 A_x0 i2 i4))] [])) _
            refine XS.iload X0.here hx rfl (hb hby d3_62) rfl ?_
            show Steps p.tables e below (T0.setTop (mkF m 64 #[.val (.ref x0), .val (.int x1), .val (.long (f3_v10 x1 A_x0 i2 i4)), .second, .val (.int i4), .val (.int (f3_v9 x1 A_x0 i2 i4))] [(.int (f3_v9 x1 A_x0 i2 i4))])) _
            refine XS.sipush X0.here hx rfl (hb hby d3_64) ?_
            exact k
          rcases Bool.eq_false_or_eq_true (if_icmp.holds .ge (f3_v9 x1 A_x0 i2 i4) (128 : Int32)) with hc12 | hc12
          · have pre14 : ∀ t, Steps p.tables e below (T0.setTop (mkF m 5 #[.val (.ref x0), .val (.int x1), .val (.long (f3_v10 x1 A_x0 i2 i4)), .second, .val (.int (f3_v13 x1 A_x0 i2 i4)), .val (.int (f3_v9 x1 A_x0 i2 i4))] [])) t → Steps p.tables e below (T0.setTop (mkF m 5 #[.val (.ref x0), .val (.int x1), .val (.long i2), .second, .val (.int i4), s5] [])) t := by
              intro t k
              refine pre11 _ ?_
              show Steps p.tables e below (T0.setTop (mkF m 67 #[.val (.ref x0), .val (.int x1), .val (.long (f3_v10 x1 A_x0 i2 i4)), .second, .val (.int i4), .val (.int (f3_v9 x1 A_x0 i2 i4))] [(.int (128 : Int32)), (.int (f3_v9 x1 A_x0 i2 i4))])) _
              refine XS.icmpYes X0.here hx rfl (pc0 := 67) (pc' := 96) rfl (hb hby d3_67) rfl hc12 (by decide) (by decide) ?_
              show Steps p.tables e below (T0.setTop (mkF m 96 #[.val (.ref x0), .val (.int x1), .val (.long (f3_v10 x1 A_x0 i2 i4)), .second, .val (.int i4), .val (.int (f3_v9 x1 A_x0 i2 i4))] [])) _
              refine XS.iinc X0.here hx rfl (hb hby d3_96) rfl (l' := #[.val (.ref x0), .val (.int x1), .val (.long (f3_v10 x1 A_x0 i2 i4)), .second, .val (.int (f3_v13 x1 A_x0 i2 i4)), .val (.int (f3_v9 x1 A_x0 i2 i4))]) rfl ?_
              show Steps p.tables e below (T0.setTop (mkF m 99 #[.val (.ref x0), .val (.int x1), .val (.long (f3_v10 x1 A_x0 i2 i4)), .second, .val (.int (f3_v13 x1 A_x0 i2 i4)), .val (.int (f3_v9 x1 A_x0 i2 i4))] [])) _
              refine XS.goto X0.here hx rfl (pc0 := 99) (pc' := 5) rfl (hb hby d3_99) (by decide) (by decide) ?_
              exact k
            have hk' : (f3_loop5 x1 A_x0 k (f3_v10 x1 A_x0 i2 i4) (f3_v13 x1 A_x0 i2 i4)) = some r := Eq.trans (Eq.symm (show f3_loop5 x1 A_x0 (k + 1) i2 i4 = (f3_loop5 x1 A_x0 k (f3_v10 x1 A_x0 i2 i4) (f3_v13 x1 A_x0 i2 i4)) from Eq.trans (if_neg (own_nt hc2)) (Eq.trans (if_pos hc5) (Eq.trans (if_pos hb7) (if_pos hc12))))) hK
            obtain ⟨s₂, o, hst, hrest⟩ := ih r (f3_v10 x1 A_x0 i2 i4) (f3_v13 x1 A_x0 i2 i4) (.val (.int (f3_v9 x1 A_x0 i2 i4))) T0 _ X0 N0 e0 (One.val rfl) hk'
            exact ⟨s₂, o, pre14 _ hst, hrest⟩
          · have pre15 : ∀ t, Steps p.tables e below (T0.setTop (mkF m 72 #[.val (.ref x0), .val (.int x1), .val (.long (f3_v10 x1 A_x0 i2 i4)), .second, .val (.int i4), .val (.int (f3_v9 x1 A_x0 i2 i4))] [(.int (f3_v9 x1 A_x0 i2 i4))])) t → Steps p.tables e below (T0.setTop (mkF m 5 #[.val (.ref x0), .val (.int x1), .val (.long i2), .second, .val (.int i4), s5] [])) t := by
              intro t k
              refine pre11 _ ?_
              show Steps p.tables e below (T0.setTop (mkF m 67 #[.val (.ref x0), .val (.int x1), .val (.long (f3_v10 x1 A_x0 i2 i4)), .second, .val (.int i4), .val (.int (f3_v9 x1 A_x0 i2 i4))] [(.int (128 : Int32)), (.int (f3_v9 x1 A_x0 i2 i4))])) _
              refine XS.icmpNo X0.here hx rfl (hb hby d3_67) rfl hc12 ?_
              show Steps p.tables e below (T0.setTop (mkF m 70 #[.val (.ref x0), .val (.int x1), .val (.long (f3_v10 x1 A_x0 i2 i4)), .second, .val (.int i4), .val (.int (f3_v9 x1 A_x0 i2 i4))] [])) _
              refine XS.iload X0.here hx rfl (hb hby d3_70) rfl ?_
              exact k
            rcases Bool.eq_false_or_eq_true (ifCond.holds .ne (f3_v9 x1 A_x0 i2 i4)) with hc16 | hc16
            · obtain ⟨fs, hr, hrun, hended, hW, hsame⟩ := X0.leave (v := some (.long (f3_v10 x1 A_x0 i2 i4))) (fun h => by rw [hret] at h; cases h)
              refine ⟨_, _, pre15 _ ?_, hrun, hended, _, _, rfl, ?_, ⟨_, rfl⟩, hW, hsame.mono (by decide) (by decide)⟩
              · show Steps p.tables e below (T0.setTop (mkF m 72 #[.val (.ref x0), .val (.int x1), .val (.long (f3_v10 x1 A_x0 i2 i4)), .second, .val (.int i4), .val (.int (f3_v9 x1 A_x0 i2 i4))] [(.int (f3_v9 x1 A_x0 i2 i4))])) _
                refine XS.ifYes X0.here hx rfl (pc0 := 72) (pc' := 94) rfl (hb hby d3_72) rfl hc16 (by decide) (by decide) ?_
                show Steps p.tables e below (T0.setTop (mkF m 94 #[.val (.ref x0), .val (.int x1), .val (.long (f3_v10 x1 A_x0 i2 i4)), .second, .val (.int i4), .val (.int (f3_v9 x1 A_x0 i2 i4))] [])) _
                refine XS.lloadN X0.here hx rfl (hb hby d3_94) rfl ?_
                show Steps p.tables e below (T0.setTop (mkF m 95 #[.val (.ref x0), .val (.int x1), .val (.long (f3_v10 x1 A_x0 i2 i4)), .second, .val (.int i4), .val (.int (f3_v9 x1 A_x0 i2 i4))] [(.long (f3_v10 x1 A_x0 i2 i4))])) _
                exact X0.lreturnOut hx hret (hb hby d3_95) hr
              · show Q3 Z x0 x1 A_x0 r h0 n0 _ T0.heap _
                rw [e0]
                have rr : f3_loop5 x1 A_x0 (k + 1) i2 i4 = some (f3_v10 x1 A_x0 i2 i4) := Eq.trans (if_neg (own_nt hc2)) (Eq.trans (if_pos hc5) (Eq.trans (if_pos hb7) (Eq.trans (if_neg (own_nt hc12)) (if_pos hc16))))
                exact ⟨congrArg (fun z => some (Value.long z)) (Option.some.inj (rr.symm.trans hK)), N0, rfl⟩
            · have pre17 : ∀ t, Steps p.tables e below (T0.setTop (mkF m 77 #[.val (.ref x0), .val (.int x1), .val (.long (f3_v10 x1 A_x0 i2 i4)), .second, .val (.int i4), .val (.int (f3_v9 x1 A_x0 i2 i4))] [(.int i4)])) t → Steps p.tables e below (T0.setTop (mkF m 5 #[.val (.ref x0), .val (.int x1), .val (.long i2), .second, .val (.int i4), s5] [])) t := by
                intro t k
                refine pre15 _ ?_
                show Steps p.tables e below (T0.setTop (mkF m 72 #[.val (.ref x0), .val (.int x1), .val (.long (f3_v10 x1 A_x0 i2 i4)), .second, .val (.int i4), .val (.int (f3_v9 x1 A_x0 i2 i4))] [(.int (f3_v9 x1 A_x0 i2 i4))])) _
                refine XS.ifNo X0.here hx rfl (hb hby d3_72) rfl hc16 ?_
                show Steps p.tables e below (T0.setTop (mkF m 75 #[.val (.ref x0), .val (.int x1), .val (.long (f3_v10 x1 A_x0 i2 i4)), .second, .val (.int i4), .val (.int (f3_v9 x1 A_x0 i2 i4))] [])) _
                refine XS.iload X0.here hx rfl (hb hby d3_75) rfl ?_
                exact k
              rcases Bool.eq_false_or_eq_true (ifCond.holds .le i4) with hc18 | hc18
              · obtain ⟨fs, hr, hrun, hended, hW, hsame⟩ := X0.leave (v := some (.long (f3_v10 x1 A_x0 i2 i4))) (fun h => by rw [hret] at h; cases h)
                refine ⟨_, _, pre17 _ ?_, hrun, hended, _, _, rfl, ?_, ⟨_, rfl⟩, hW, hsame.mono (by decide) (by decide)⟩
                · show Steps p.tables e below (T0.setTop (mkF m 77 #[.val (.ref x0), .val (.int x1), .val (.long (f3_v10 x1 A_x0 i2 i4)), .second, .val (.int i4), .val (.int (f3_v9 x1 A_x0 i2 i4))] [(.int i4)])) _
                  refine XS.ifYes X0.here hx rfl (pc0 := 77) (pc' := 94) rfl (hb hby d3_77) rfl hc18 (by decide) (by decide) ?_
                  show Steps p.tables e below (T0.setTop (mkF m 94 #[.val (.ref x0), .val (.int x1), .val (.long (f3_v10 x1 A_x0 i2 i4)), .second, .val (.int i4), .val (.int (f3_v9 x1 A_x0 i2 i4))] [])) _
                  refine XS.lloadN X0.here hx rfl (hb hby d3_94) rfl ?_
                  show Steps p.tables e below (T0.setTop (mkF m 95 #[.val (.ref x0), .val (.int x1), .val (.long (f3_v10 x1 A_x0 i2 i4)), .second, .val (.int i4), .val (.int (f3_v9 x1 A_x0 i2 i4))] [(.long (f3_v10 x1 A_x0 i2 i4))])) _
                  exact X0.lreturnOut hx hret (hb hby d3_95) hr
                · show Q3 Z x0 x1 A_x0 r h0 n0 _ T0.heap _
                  rw [e0]
                  have rr : f3_loop5 x1 A_x0 (k + 1) i2 i4 = some (f3_v10 x1 A_x0 i2 i4) := Eq.trans (if_neg (own_nt hc2)) (Eq.trans (if_pos hc5) (Eq.trans (if_pos hb7) (Eq.trans (if_neg (own_nt hc12)) (Eq.trans (if_neg (own_nt hc16)) (if_pos hc18)))))
                  exact ⟨congrArg (fun z => some (Value.long z)) (Option.some.inj (rr.symm.trans hK)), N0, rfl⟩
              · exact absurd (Eq.trans (Eq.symm (show f3_loop5 x1 A_x0 (k + 1) i2 i4 = none from Eq.trans (if_neg (own_nt hc2)) (Eq.trans (if_pos hc5) (Eq.trans (if_pos hb7) (Eq.trans (if_neg (own_nt hc12)) (Eq.trans (if_neg (own_nt hc16)) (if_neg (own_nt hc18)))))))) hK) (by simp)
        · exact absurd (Eq.trans (Eq.symm (show f3_loop5 x1 A_x0 (k + 1) i2 i4 = none from Eq.trans (if_neg (own_nt hc2)) (Eq.trans (if_pos hc5) (if_neg hb7)))) hK) (by simp)
      · exact absurd (Eq.trans (Eq.symm (show f3_loop5 x1 A_x0 (k + 1) i2 i4 = none from Eq.trans (if_neg (own_nt hc2)) (if_neg (own_nt hc5)))) hK) (by simp)
set_option maxRecDepth 65536 in
set_option maxHeartbeats 40000000 in
theorem rm3 (l : Launch) (Z : State) (a0 : Array Value) (hw : ∀ d ∈ tables_1, d.before a0 Z = true) (ws : List Jvm.Cond) (x0 : Addr) (x1 : Int32) (A_x0 : Nat → Int32) (K : Nat) (r : Int64) (h0 : Heap) (n0 : Nat) (Z0 : n0 ≤ h0.size) (V_x0 : own_Arr Z h0 x0 12 A_x0) (hK : f3 K x1 A_x0 = some r) :
    MetFree l (⟨"com/example/keyward/keyward/codecs/Varint", "read", "([BI)J"⟩ : MethodName) (head1 (Jvm.Cond.code (⟨"com/example/keyward/keyward/codecs/Varint", "read", "([BI)J"⟩ : MethodName) prog_11_method_3_code 6 (some .long) :: ws) ({ frames := 0, cells := 0, slots := 0, locals := 0 } : Room)) (fun a U => a = #[(.ref x0), (.int x1)] ∧ Z.Warmed39 U.vm ∧ U.heap = h0) (fun _ _ _ _ _ => True) (fun _ U o U' => ∃ v L, o = .returned v ∧ Q3 Z x0 x1 A_x0 r h0 n0 v U'.heap L ∧ FrameEnd U o U' L ({ frames := 0, cells := 0, slots := 0, locals := 0 } : Room).cells ({ frames := 0, cells := 0, slots := 0, locals := 0 } : Room).slots) := by
  refine MetFree.of_bodySF (plainFor_of_name pn_1) hisR ?_
  intro p e s m args below meth c s₁ Bd hml0 hP hK0
  obtain ⟨rfl, hZ, hh⟩ := hP
  have hx := Bd.exec
  have hby := Bd.bytes
  have hml : c.maxLocals = 6 := hml0
  have hown : s.vm.findClass "com/example/keyward/keyward/codecs/Varint" = some m.cls := findClass_of_methodNamed Bd.named
  have hnm := (name_of_methodNamed Bd.named Bd.method).1
  have hret : meth.sig.returnType = some .long := Bd.returns
  have hlk : meth.locks = false := Bd.notSynchronized
  have X0 : Stand p l e ({ frames := 0, cells := 0, slots := 0, locals := 0 } : Room) s m #[(.ref x0), (.int x1)] below meth c s₁ [] 0 0 := Stand.of_body Bd
  have e0 : s₁.heap = h0 := by rw [← hh, Bd.state]; rfl
  have N0 := Fr.nil n0
  have pre0 : ∀ t, Steps p.tables e below (s₁.setTop (mkF m 0 #[.val (.ref x0), .val (.int x1), .unset, .unset, .unset, .unset] [])) t → Steps p.tables e below (s₁.setTop (entryFrame m #[(.ref x0), (.int x1)] 6)) t := fun t k => castTop (ef_3 m x0 x1) k
  have pre19 : ∀ t, Steps p.tables e below (s₁.setTop (mkF m 5 #[.val (.ref x0), .val (.int x1), .val (.long (0 : Int64)), .second, .val (.int (0 : Int32)), .unset] [])) t → Steps p.tables e below (s₁.setTop (entryFrame m #[(.ref x0), (.int x1)] 6)) t := by
    intro t k
    refine pre0 _ ?_
    show Steps p.tables e below (s₁.setTop (mkF m 0 #[.val (.ref x0), .val (.int x1), .unset, .unset, .unset, .unset] [])) _
    refine XS.lconst X0.here hx rfl (hb hby d3_0) ?_
    show Steps p.tables e below (s₁.setTop (mkF m 1 #[.val (.ref x0), .val (.int x1), .unset, .unset, .unset, .unset] [(.long (0 : Int64))])) _
    refine XS.lstoreN X0.here hx rfl (hb hby d3_1) rfl (l' := #[.val (.ref x0), .val (.int x1), .val (.long (0 : Int64)), .second, .unset, .unset]) rfl ?_
    show Steps p.tables e below (s₁.setTop (mkF m 2 #[.val (.ref x0), .val (.int x1), .val (.long (0 : Int64)), .second, .unset, .unset] [])) _
    refine XS.iconst X0.here hx rfl (hb hby d3_2) ?_
    show Steps p.tables e below (s₁.setTop (mkF m 3 #[.val (.ref x0), .val (.int x1), .val (.long (0 : Int64)), .second, .unset, .unset] [(.int (0 : Int32))])) _
    refine XS.istore X0.here hx rfl (hb hby d3_3) rfl (l' := #[.val (.ref x0), .val (.int x1), .val (.long (0 : Int64)), .second, .val (.int (0 : Int32)), .unset]) rfl ?_
    exact k
  have hk' : (f3_loop5 x1 A_x0 K (0 : Int64) (0 : Int32)) = some r := Eq.trans (Eq.symm (show f3 K x1 A_x0 = (f3_loop5 x1 A_x0 K (0 : Int64) (0 : Int32)) from rfl)) hK
  obtain ⟨s₂, o, hst, hrest⟩ := lp3_5 l Z a0 hw x0 x1 A_x0 h0 n0 Z0 V_x0 hx hZ hby hml hown hret hlk K r (0 : Int64) (0 : Int32) (.unset) s₁ _ X0 N0 e0 One.u hk'
  exact ⟨s₂, o, pre19 _ hst, hrest⟩
theorem pd_0 : parseMethodDescriptor "(II)B" = some ⟨[.int, .int], some .byte⟩ := by decide +kernel
theorem pd_1 : parseMethodDescriptor "([BIIIJ)V" = some ⟨[(.array .byte), .int, .int, .int, .long], none⟩ := by decide +kernel
theorem pd_2 : parseMethodDescriptor "([BI)J" = some ⟨[(.array .byte), .int], some .long⟩ := by decide +kernel
-- body 0: com/example/keyward/keyward/codecs/VarintReadPinLaw.law:(JIII)Z
theorem ef_0 (m : MethodId) (x0 : Int64) (x1 : Int32) (x2 : Int32) (x3 : Int32) : entryFrame m #[(.long x0), (.int x1), (.int x2), (.int x3)] maxLocals = mkF m 0 #[.val (.long x0), .second, .val (.int x1), .val (.int x2), .val (.int x3), .unset, .unset, .unset, .unset, .unset] [] := by first | (simp [entryFrame, mkF, argsToLocals, Value.category, maxLocals]; done) | rfl
def f0_v1 (x0 : Int64) (x1 : Int32) (x2 : Int32) (x3 : Int32) : Int64 := (own_lushr (x0 &&& (9223372036854775807 : Int64)) (x1 &&& (63 : Int32)))
def f0_v2 (x0 : Int64) (x1 : Int32) (x2 : Int32) (x3 : Int32) : Int32 := (x2 &&& (3 : Int32))
def f0_j5 (x0 : Int64) (x1 : Int32) (x2 : Int32) (x3 : Int32) : Int32 := if ifCond.holds .eq (own_cmp (own_lushr (f0_v1 x0 x1 x2 x3) (7 : Int32)) (0 : Int64)) = true then (1 : Int32) else (2 : Int32)
def f0_j11 (x0 : Int64) (x1 : Int32) (x2 : Int32) (x3 : Int32) : Int32 := if ifCond.holds .eq (own_cmp (own_lushr (f0_v1 x0 x1 x2 x3) (14 : Int32)) (0 : Int64)) = true then (f0_j5 x0 x1 x2 x3) else (3 : Int32)
def f0_j17 (x0 : Int64) (x1 : Int32) (x2 : Int32) (x3 : Int32) : Int32 := if ifCond.holds .eq (own_cmp (own_lushr (f0_v1 x0 x1 x2 x3) (21 : Int32)) (0 : Int64)) = true then (f0_j11 x0 x1 x2 x3) else (4 : Int32)
def f0_j23 (x0 : Int64) (x1 : Int32) (x2 : Int32) (x3 : Int32) : Int32 := if ifCond.holds .eq (own_cmp (own_lushr (f0_v1 x0 x1 x2 x3) (28 : Int32)) (0 : Int64)) = true then (f0_j17 x0 x1 x2 x3) else (5 : Int32)
def f0_j29 (x0 : Int64) (x1 : Int32) (x2 : Int32) (x3 : Int32) : Int32 := if ifCond.holds .eq (own_cmp (own_lushr (f0_v1 x0 x1 x2 x3) (35 : Int32)) (0 : Int64)) = true then (f0_j23 x0 x1 x2 x3) else (6 : Int32)
def f0_j35 (x0 : Int64) (x1 : Int32) (x2 : Int32) (x3 : Int32) : Int32 := if ifCond.holds .eq (own_cmp (own_lushr (f0_v1 x0 x1 x2 x3) (42 : Int32)) (0 : Int64)) = true then (f0_j29 x0 x1 x2 x3) else (7 : Int32)
def f0_j41 (x0 : Int64) (x1 : Int32) (x2 : Int32) (x3 : Int32) : Int32 := if ifCond.holds .eq (own_cmp (own_lushr (f0_v1 x0 x1 x2 x3) (49 : Int32)) (0 : Int64)) = true then (f0_j35 x0 x1 x2 x3) else (8 : Int32)
def f0_j47 (x0 : Int64) (x1 : Int32) (x2 : Int32) (x3 : Int32) : Int32 := if ifCond.holds .eq (own_cmp (own_lushr (f0_v1 x0 x1 x2 x3) (56 : Int32)) (0 : Int64)) = true then (f0_j41 x0 x1 x2 x3) else (9 : Int32)
def f0_a54 (x0 : Int64) (x1 : Int32) (x2 : Int32) (x3 : Int32) : Nat → Int32 := own_upd (fun _ => (0 : Int32)) ((0 : Int32)).toNatClampNeg (nar .byte (f1 x3 (0 : Int32)))
def f0_a58 (x0 : Int64) (x1 : Int32) (x2 : Int32) (x3 : Int32) : Nat → Int32 := own_upd (f0_a54 x0 x1 x2 x3) ((1 : Int32)).toNatClampNeg (nar .byte (f1 x3 (1 : Int32)))
def f0_a62 (x0 : Int64) (x1 : Int32) (x2 : Int32) (x3 : Int32) : Nat → Int32 := own_upd (f0_a58 x0 x1 x2 x3) ((2 : Int32)).toNatClampNeg (nar .byte (f1 x3 (2 : Int32)))
def f0_a66 (x0 : Int64) (x1 : Int32) (x2 : Int32) (x3 : Int32) : Nat → Int32 := own_upd (f0_a62 x0 x1 x2 x3) ((3 : Int32)).toNatClampNeg (nar .byte (f1 x3 (3 : Int32)))
def f0_a70 (x0 : Int64) (x1 : Int32) (x2 : Int32) (x3 : Int32) : Nat → Int32 := own_upd (f0_a66 x0 x1 x2 x3) ((4 : Int32)).toNatClampNeg (nar .byte (f1 x3 (4 : Int32)))
def f0_a74 (x0 : Int64) (x1 : Int32) (x2 : Int32) (x3 : Int32) : Nat → Int32 := own_upd (f0_a70 x0 x1 x2 x3) ((5 : Int32)).toNatClampNeg (nar .byte (f1 x3 (5 : Int32)))
def f0_a78 (x0 : Int64) (x1 : Int32) (x2 : Int32) (x3 : Int32) : Nat → Int32 := own_upd (f0_a74 x0 x1 x2 x3) ((6 : Int32)).toNatClampNeg (nar .byte (f1 x3 (6 : Int32)))
def f0_a82 (x0 : Int64) (x1 : Int32) (x2 : Int32) (x3 : Int32) : Nat → Int32 := own_upd (f0_a78 x0 x1 x2 x3) ((7 : Int32)).toNatClampNeg (nar .byte (f1 x3 (7 : Int32)))
def f0_a86 (x0 : Int64) (x1 : Int32) (x2 : Int32) (x3 : Int32) : Nat → Int32 := own_upd (f0_a82 x0 x1 x2 x3) ((8 : Int32)).toNatClampNeg (nar .byte (f1 x3 (8 : Int32)))
def f0_a90 (x0 : Int64) (x1 : Int32) (x2 : Int32) (x3 : Int32) : Nat → Int32 := own_upd (f0_a86 x0 x1 x2 x3) ((9 : Int32)).toNatClampNeg (nar .byte (f1 x3 (9 : Int32)))
def f0_a94 (x0 : Int64) (x1 : Int32) (x2 : Int32) (x3 : Int32) : Nat → Int32 := own_upd (f0_a90 x0 x1 x2 x3) ((10 : Int32)).toNatClampNeg (nar .byte (f1 x3 (10 : Int32)))
def f0_a98 (x0 : Int64) (x1 : Int32) (x2 : Int32) (x3 : Int32) : Nat → Int32 := own_upd (f0_a94 x0 x1 x2 x3) ((11 : Int32)).toNatClampNeg (nar .byte (f1 x3 (11 : Int32)))
def f0_a101 (x0 : Int64) (x1 : Int32) (x2 : Int32) (x3 : Int32) : Nat → Int32 := (f2 (f0_v2 x0 x1 x2 x3) (0 : Int32) (f0_j47 x0 x1 x2 x3) (f0_v1 x0 x1 x2 x3) (f0_a98 x0 x1 x2 x3))
def f0_a104 (x0 : Int64) (x1 : Int32) (x2 : Int32) (x3 : Int32) : Nat → Int32 := (f2 (f0_v2 x0 x1 x2 x3) (1 : Int32) (f0_j47 x0 x1 x2 x3) (f0_v1 x0 x1 x2 x3) (f0_a101 x0 x1 x2 x3))
def f0_a107 (x0 : Int64) (x1 : Int32) (x2 : Int32) (x3 : Int32) : Nat → Int32 := (f2 (f0_v2 x0 x1 x2 x3) (2 : Int32) (f0_j47 x0 x1 x2 x3) (f0_v1 x0 x1 x2 x3) (f0_a104 x0 x1 x2 x3))
def f0_a110 (x0 : Int64) (x1 : Int32) (x2 : Int32) (x3 : Int32) : Nat → Int32 := (f2 (f0_v2 x0 x1 x2 x3) (3 : Int32) (f0_j47 x0 x1 x2 x3) (f0_v1 x0 x1 x2 x3) (f0_a107 x0 x1 x2 x3))
def f0_a113 (x0 : Int64) (x1 : Int32) (x2 : Int32) (x3 : Int32) : Nat → Int32 := (f2 (f0_v2 x0 x1 x2 x3) (4 : Int32) (f0_j47 x0 x1 x2 x3) (f0_v1 x0 x1 x2 x3) (f0_a110 x0 x1 x2 x3))
def f0_a116 (x0 : Int64) (x1 : Int32) (x2 : Int32) (x3 : Int32) : Nat → Int32 := (f2 (f0_v2 x0 x1 x2 x3) (5 : Int32) (f0_j47 x0 x1 x2 x3) (f0_v1 x0 x1 x2 x3) (f0_a113 x0 x1 x2 x3))
def f0_a119 (x0 : Int64) (x1 : Int32) (x2 : Int32) (x3 : Int32) : Nat → Int32 := (f2 (f0_v2 x0 x1 x2 x3) (6 : Int32) (f0_j47 x0 x1 x2 x3) (f0_v1 x0 x1 x2 x3) (f0_a116 x0 x1 x2 x3))
def f0_a122 (x0 : Int64) (x1 : Int32) (x2 : Int32) (x3 : Int32) : Nat → Int32 := (f2 (f0_v2 x0 x1 x2 x3) (7 : Int32) (f0_j47 x0 x1 x2 x3) (f0_v1 x0 x1 x2 x3) (f0_a119 x0 x1 x2 x3))
def f0_a125 (x0 : Int64) (x1 : Int32) (x2 : Int32) (x3 : Int32) : Nat → Int32 := (f2 (f0_v2 x0 x1 x2 x3) (8 : Int32) (f0_j47 x0 x1 x2 x3) (f0_v1 x0 x1 x2 x3) (f0_a122 x0 x1 x2 x3))
def f0_v128 (x0 : Int64) (x1 : Int32) (x2 : Int32) (x3 : Int32) : Int64 := ((f3 10 (f0_v2 x0 x1 x2 x3) (f0_a125 x0 x1 x2 x3)).getD 0)
def f0_j131 (x0 : Int64) (x1 : Int32) (x2 : Int32) (x3 : Int32) : Int32 := if ifCond.holds .ne (own_cmp (f0_v128 x0 x1 x2 x3) (f0_v1 x0 x1 x2 x3)) = true then (0 : Int32) else (1 : Int32)
def f0 (x0 : Int64) (x1 : Int32) (x2 : Int32) (x3 : Int32) : Int32 := (nar .boolean (f0_j131 x0 x1 x2 x3))
theorem own_off (x0 : Int64) (x1 x2 x3 : Int32) : 0 ≤ (f0_v2 x0 x1 x2 x3).toInt ∧ (f0_v2 x0 x1 x2 x3).toInt ≤ 3 := by
  have a1 : (x2 &&& (3 : Int32)).toInt = x2.toInt % 4 := c_mask x2 3 2 (by decide) (by decide)
  unfold f0_v2
  omega
theorem own_put (x0 : Int64) (x1 x2 x3 : Int32) (i : Int32) (h : 0 ≤ i.toInt ∧ i.toInt < 9) : 0 ≤ (f0_v2 x0 x1 x2 x3 + i).toInt ∧ (f0_v2 x0 x1 x2 x3 + i).toInt < (12 : Nat) := by
  have a := own_off x0 x1 x2 x3
  have b := c_iadd (f0_v2 x0 x1 x2 x3) i
  have c := rng32 (f0_v2 x0 x1 x2 x3 + i)
  omega
theorem own_vnn (x0 : Int64) (x1 x2 x3 : Int32) : 0 ≤ (f0_v1 x0 x1 x2 x3).toInt := by
  have a1 : (x0 &&& (9223372036854775807 : Int64)).toInt = x0.toInt % 9223372036854775808 := c_maskL x0 9223372036854775807 63 (by decide) (by decide)
  exact (own_lushr_nn (x0 &&& 9223372036854775807) _ (by omega)).1
/-- the place of the i-th byte -/
theorem own_at (off i : Int32) (ho : 0 ≤ off.toInt ∧ off.toInt ≤ 3) (hi : 0 ≤ i.toInt ∧ i.toInt < 9) : (off + i).toNatClampNeg = off.toInt.toNat + i.toInt.toNat := by
  have b := c_iadd off i
  have c := rng32 (off + i)
  show (off + i).toInt.toNat = _
  omega
theorem own_put_ne (off i j n : Int32) (v : Int64) (A : Nat → Int32) (ho : 0 ≤ off.toInt ∧ off.toInt ≤ 3) (hi : 0 ≤ i.toInt ∧ i.toInt < 9) (hj : 0 ≤ j.toInt ∧ j.toInt < 9) (h : i.toInt ≠ j.toInt) : f2 off j n v A (off + i).toNatClampNeg = A (off + i).toNatClampNeg := by
  unfold f2
  split
  · rfl
  · exact if_neg (by rw [own_at off i ho hi, own_at off j ho hj]; omega)
theorem own_put_eq (off i n : Int32) (v : Int64) (A : Nat → Int32) (h : i.toInt < n.toInt) : f2 off i n v A (off + i).toNatClampNeg = nar .byte ((f2_j18 off i n v A).toInt8.toInt32) := by
  unfold f2
  rw [if_neg (by rw [own_ige]; omega)]
  exact if_pos rfl
theorem own_or32 (x : Int32) (h : 0 ≤ x.toInt ∧ x.toInt < 128) : (x ||| 128).toInt = x.toInt + 128 := by
  have n1 := own_n32 x
  have n2 := own_n32 (x ||| 128)
  have r := rng32 (x ||| 128)
  have q := Nat.two_pow_add_eq_or_of_lt (i := 7) (b := x.toBitVec.toNat) (by omega) 1
  have e : (x ||| 128).toBitVec.toNat = 128 + x.toBitVec.toNat := by
    show (x.toBitVec ||| (128 : Int32).toBitVec).toNat = _
    rw [BitVec.toNat_or, Nat.or_comm]
    exact q.symm
  omega
theorem own_or64 (a b : Int64) (k : Nat) (ha : a.toBitVec.toNat < 2 ^ k) (hb : b.toBitVec.toNat % 2 ^ k = 0) : (a ||| b).toBitVec.toNat = a.toBitVec.toNat + b.toBitVec.toNat := by
  have q := Nat.two_pow_add_eq_or_of_lt ha (b.toBitVec.toNat / 2 ^ k)
  rw [Nat.mul_div_cancel' (Nat.dvd_of_mod_eq_zero hb)] at q
  show (a.toBitVec ||| b.toBitVec).toNat = _
  rw [BitVec.toNat_or, Nat.or_comm, ← q, Nat.add_comm]
theorem own_q (j : Int32) (i : Nat) (hj : j.toInt = i) (hi : i ≤ 8) : ((7 : Int32) * j).toBitVec.toNat % 64 = 7 * i := by
  have e : (7 : Int32).toInt = 7 := rfl
  have a := c_imul 7 j
  have b := rng32 (7 * j)
  have c := own_n32 (7 * j)
  rw [e] at a
  omega
theorem own_bv (g : Int32) (h : 0 ≤ g.toInt ∧ g.toInt < 256) : ((nar .byte g.toInt8.toInt32) &&& 255).toInt = g.toInt := by
  have a := c_i2b g
  have b := c_i2b g.toInt8.toInt32
  have c : (g.toInt8.toInt32.toInt8.toInt32 &&& (255 : Int32)).toInt = g.toInt8.toInt32.toInt8.toInt32.toInt % 256 := c_mask _ 255 8 (by decide) (by decide)
  show (g.toInt8.toInt32.toInt8.toInt32 &&& (255 : Int32)).toInt = _
  omega
/-- the i-th group of seven bits, as it is put -/
theorem own_g (off j n : Int32) (v : Int64) (A : Nat → Int32) (i V : Nat) (hj : j.toInt = i) (hi : i ≤ 8) (hn : 1 ≤ n.toInt ∧ n.toInt ≤ 9) (hV : v.toInt = V) : (f2_j18 off j n v A).toInt = ((V / 2 ^ (7 * i) % 128 : Nat) : Int) + (if j.toInt < n.toInt - 1 then 128 else 0) := by
  have hv := rng64 v
  have a1 := own_lushr_nat v ((7 : Int32) * j)
  rw [own_q j i hj hi] at a1
  have a2 := own_n64 v
  have a3 := own_n64 (own_lushr v ((7 : Int32) * j))
  have a4 := rng64 (own_lushr v ((7 : Int32) * j))
  have hvn : v.toBitVec.toNat = V := by omega
  rw [hvn] at a1
  have a5 := Nat.div_le_self V (2 ^ (7 * i))
  have a6 : (own_lushr v ((7 : Int32) * j)).toInt = ((V / 2 ^ (7 * i) : Nat) : Int) := by omega
  have a7 : (own_lushr v ((7 : Int32) * j) &&& (127 : Int64)).toInt = (own_lushr v ((7 : Int32) * j)).toInt % 128 := c_maskL _ 127 7 (by decide) (by decide)
  have a8 := c_l2i (own_lushr v ((7 : Int32) * j) &&& (127 : Int64))
  have a9 := rng32 (own_lushr v ((7 : Int32) * j) &&& (127 : Int64)).toInt32
  have b1 : (f2_v14 off j n v A).toInt = ((V / 2 ^ (7 * i) % 128 : Nat) : Int) := by
    unfold f2_v14
    omega
  have b2 := own_or32 (f2_v14 off j n v A) (by omega)
  have c1 := c_isub n 1
  have c2 := rng32 (n - 1)
  have e1 : (1 : Int32).toInt = 1 := rfl
  unfold f2_j18 f2_v17
  by_cases h : j.toInt < n.toInt - 1
  · rw [if_neg (by rw [own_ige]; omega), if_pos h, b2, b1]
  · rw [if_pos (by rw [own_ige]; omega), if_neg h, b1]
    omega
/-- seven bits more -/
theorem own_acc (acc w : Int64) (j : Int32) (i V : Nat) (hj : j.toInt = i) (hi : i ≤ 8) (hV : V < 9223372036854775808) (ha : acc.toInt = ((V % 2 ^ (7 * i) : Nat) : Int)) (hw : w.toInt = ((V / 2 ^ (7 * i) % 128 : Nat) : Int)) : (acc ||| own_lshl w ((7 : Int32) * j)).toInt = ((V % 2 ^ (7 * (i + 1)) : Nat) : Int) := by
  have a1 : ((own_lshl w ((7 : Int32) * j)).toInt - w.toInt * ((2 ^ (7 * i) : Nat) : Int)) % 18446744073709551616 = 0 := c_lshl w ((7 : Int32) * j) (7 * i) (own_q j i hj hi)
  have a2 := own_n64 (own_lshl w ((7 : Int32) * j))
  have a3 := own_n64 acc
  have a4 := own_n64 (acc ||| own_lshl w ((7 : Int32) * j))
  have a5 := rng64 (acc ||| own_lshl w ((7 : Int32) * j))
  have p0 : 0 < 2 ^ (7 * i) := Nat.two_pow_pos _
  have b1 : V % 2 ^ (7 * i) < 2 ^ (7 * i) := Nat.mod_lt _ p0
  have b2 : V / 2 ^ (7 * i) % 128 * 2 ^ (7 * i) ≤ V := Nat.le_trans (Nat.mul_le_mul_right _ (Nat.mod_le _ _)) (Nat.div_mul_le_self _ _)
  have b3 : V % 2 ^ (7 * (i + 1)) = V % 2 ^ (7 * i) + 2 ^ (7 * i) * (V / 2 ^ (7 * i) % 128) := by
    rw [show 7 * (i + 1) = 7 * i + 7 by omega, Nat.pow_add, Nat.mod_mul]
  have b4 : V % 2 ^ (7 * i) ≤ V := Nat.mod_le _ _
  have b5 : V % 2 ^ (7 * (i + 1)) ≤ V := Nat.mod_le _ _
  rw [hw, ← Int.natCast_mul] at a1
  have c1 : (own_lshl w ((7 : Int32) * j)).toBitVec.toNat = V / 2 ^ (7 * i) % 128 * 2 ^ (7 * i) := by omega
  have o := own_or64 acc (own_lshl w ((7 : Int32) * j)) (7 * i) (by omega) (by rw [c1]; exact Nat.mul_mod_left _ _)
  rw [c1, Nat.mul_comm] at o
  omega
/-- a turn of read that goes on, and its last one -/
theorem own_go (off : Int32) (A : Nat → Int32) (k : Nat) (acc : Int64) (j : Int32) (i V : Nat) (ho : 0 ≤ off.toInt ∧ off.toInt ≤ 3) (hj : j.toInt = i) (hi : i ≤ 8) (hV : V < 9223372036854775808) (ha : acc.toInt = ((V % 2 ^ (7 * i) : Nat) : Int)) (hb : (A (off + j).toNatClampNeg &&& 255).toInt = ((V / 2 ^ (7 * i) % 128 : Nat) : Int) + 128) :
    ∃ acc' : Int64, acc'.toInt = ((V % 2 ^ (7 * (i + 1)) : Nat) : Int) ∧ f3_loop5 off A (k + 1) acc j = f3_loop5 off A k acc' (j + 1) := by
  have e9 : (9 : Int32).toInt = 9 := rfl
  have e12 : (12 : Int32).toInt = 12 := rfl
  have e128 : (128 : Int32).toInt = 128 := rfl
  have b := c_iadd off j
  have c := rng32 (off + j)
  have m1 : ((A (off + j).toNatClampNeg &&& 255) &&& (127 : Int32)).toInt = (A (off + j).toNatClampNeg &&& 255).toInt % 128 := c_mask _ 127 7 (by decide) (by decide)
  have m2 := c_i2l ((A (off + j).toNatClampNeg &&& 255) &&& (127 : Int32))
  have hlt : V / 2 ^ (7 * i) % 128 < 128 := Nat.mod_lt _ (by decide)
  have hr := own_acc acc ((A (off + j).toNatClampNeg &&& 255) &&& (127 : Int32)).toInt64 j i V hj hi hV ha (by rw [m2]; omega)
  refine ⟨f3_v10 off A acc j, hr, ?_⟩
  refine Eq.trans (if_neg (by rw [own_ige]; omega)) (Eq.trans (if_pos (by rw [own_ilt]; omega)) (Eq.trans (if_pos (by omega)) (if_pos ?_)))
  rw [own_ige]
  show (128 : Int32).toInt ≤ (A (off + j).toNatClampNeg &&& 255).toInt
  omega
theorem own_fin (off : Int32) (A : Nat → Int32) (k : Nat) (acc : Int64) (j : Int32) (i V : Nat) (ho : 0 ≤ off.toInt ∧ off.toInt ≤ 3) (hj : j.toInt = i) (hi : i ≤ 8) (hV : V < 9223372036854775808) (ha : acc.toInt = ((V % 2 ^ (7 * i) : Nat) : Int)) (hb : (A (off + j).toNatClampNeg &&& 255).toInt = ((V / 2 ^ (7 * i) % 128 : Nat) : Int)) (hz : i = 0 ∨ V / 2 ^ (7 * i) % 128 ≠ 0) (hs : V < 2 ^ (7 * (i + 1))) :
    ∃ r : Int64, r.toInt = (V : Int) ∧ f3_loop5 off A (k + 1) acc j = some r := by
  have e9 : (9 : Int32).toInt = 9 := rfl
  have e12 : (12 : Int32).toInt = 12 := rfl
  have e128 : (128 : Int32).toInt = 128 := rfl
  have b := c_iadd off j
  have c := rng32 (off + j)
  have m1 : ((A (off + j).toNatClampNeg &&& 255) &&& (127 : Int32)).toInt = (A (off + j).toNatClampNeg &&& 255).toInt % 128 := c_mask _ 127 7 (by decide) (by decide)
  have m2 := c_i2l ((A (off + j).toNatClampNeg &&& 255) &&& (127 : Int32))
  have hlt : V / 2 ^ (7 * i) % 128 < 128 := Nat.mod_lt _ (by decide)
  have hr := own_acc acc ((A (off + j).toNatClampNeg &&& 255) &&& (127 : Int32)).toInt64 j i V hj hi hV ha (by rw [m2]; omega)
  rw [Nat.mod_eq_of_lt hs] at hr
  refine ⟨f3_v10 off A acc j, hr, ?_⟩
  refine Eq.trans (if_neg (by rw [own_ige]; omega)) (Eq.trans (if_pos (by rw [own_ilt]; omega)) (Eq.trans (if_pos (by omega)) (Eq.trans (if_neg ?_) ?_)))
  · rw [own_ige]
    show ¬ (128 : Int32).toInt ≤ (A (off + j).toNatClampNeg &&& 255).toInt
    omega
  · by_cases h0 : (A (off + j).toNatClampNeg &&& 255).toInt = 0
    · refine Eq.trans (if_neg ?_) (if_pos ?_)
      · rw [own_ne0]
        show ¬ (A (off + j).toNatClampNeg &&& 255).toInt ≠ 0
        omega
      · rw [own_le0]
        omega
    · refine if_pos ?_
      rw [own_ne0]
      show (A (off + j).toNatClampNeg &&& 255).toInt ≠ 0
      exact h0
/-- the whole loop: the bytes from i on are v's groups, n of them in all -/
theorem own_read (off : Int32) (A : Nat → Int32) (V n : Nat) (ho : 0 ≤ off.toInt ∧ off.toInt ≤ 3) (hV : V < 9223372036854775808) (hn : n ≤ 8) (hs : V < 2 ^ (7 * (n + 1))) (hz : n = 0 ∨ V / 2 ^ (7 * n) % 128 ≠ 0)
    (hA : ∀ (j : Int32) (i : Nat), j.toInt = i → i ≤ n → (A (off + j).toNatClampNeg &&& 255).toInt = ((V / 2 ^ (7 * i) % 128 : Nat) : Int) + (if i < n then 128 else 0)) :
    ∀ (m K : Nat) (acc : Int64) (j : Int32) (i : Nat), m < K → i + m = n → j.toInt = i → acc.toInt = ((V % 2 ^ (7 * i) : Nat) : Int) → ∃ r : Int64, r.toInt = (V : Int) ∧ f3_loop5 off A K acc j = some r := by
  intro m
  induction m with
  | zero =>
    intro K acc j i hK him hj ha
    obtain ⟨k, rfl⟩ : ∃ k, K = k + 1 := ⟨K - 1, by omega⟩
    have hi : i = n := by omega
    subst hi
    have hb := hA j i hj (Nat.le_refl _)
    rw [if_neg (Nat.lt_irrefl _), Int.add_zero] at hb
    exact own_fin off A k acc j i V ho hj hn hV ha hb hz hs
  | succ m ih =>
    intro K acc j i hK him hj ha
    obtain ⟨k, rfl⟩ : ∃ k, K = k + 1 := ⟨K - 1, by omega⟩
    have hb := hA j i hj (by omega)
    rw [if_pos (by omega)] at hb
    obtain ⟨acc', a1, a2⟩ := own_go off A k acc j i V ho hj (by omega) hV ha hb
    have e1 : (1 : Int32).toInt = 1 := rfl
    have q := c_iadd j 1
    have r := rng32 (j + 1)
    rw [a2]
    exact ih k acc' (j + 1) (i + 1) (by omega) (by omega) (by omega) a1
/-- how many groups -/
theorem own_n (x0 : Int64) (x1 x2 x3 : Int32) (V : Nat) (hV : (f0_v1 x0 x1 x2 x3).toInt = V) : ∃ n : Nat, n ≤ 8 ∧ (f0_j47 x0 x1 x2 x3).toInt = (n : Int) + 1 ∧ V < 2 ^ (7 * (n + 1)) ∧ (n = 0 ∨ V / 2 ^ (7 * n) % 128 ≠ 0) := by
  have e0 : (0 : Int64).toInt = 0 := rfl
  have hv := rng64 (f0_v1 x0 x1 x2 x3)
  obtain ⟨v, hvv⟩ : ∃ v, v = f0_v1 x0 x1 x2 x3 := ⟨_, rfl⟩
  rw [← hvv] at hV hv
  have s7 : (own_lushr v 7).toInt = (v.toInt % 18446744073709551616) / 128 := c_lushr v 7 7 (by decide) (by decide)
  have s14 : (own_lushr v 14).toInt = (v.toInt % 18446744073709551616) / 16384 := c_lushr v 14 14 (by decide) (by decide)
  have s21 : (own_lushr v 21).toInt = (v.toInt % 18446744073709551616) / 2097152 := c_lushr v 21 21 (by decide) (by decide)
  have s28 : (own_lushr v 28).toInt = (v.toInt % 18446744073709551616) / 268435456 := c_lushr v 28 28 (by decide) (by decide)
  have s35 : (own_lushr v 35).toInt = (v.toInt % 18446744073709551616) / 34359738368 := c_lushr v 35 35 (by decide) (by decide)
  have s42 : (own_lushr v 42).toInt = (v.toInt % 18446744073709551616) / 4398046511104 := c_lushr v 42 42 (by decide) (by decide)
  have s49 : (own_lushr v 49).toInt = (v.toInt % 18446744073709551616) / 562949953421312 := c_lushr v 49 49 (by decide) (by decide)
  have s56 : (own_lushr v 56).toInt = (v.toInt % 18446744073709551616) / 72057594037927936 := c_lushr v 56 56 (by decide) (by decide)
  unfold f0_j47 f0_j41 f0_j35 f0_j29 f0_j23 f0_j17 f0_j11 f0_j5
  rw [← hvv]
  by_cases h56 : (own_lushr v 56).toInt = 0
  · rw [if_pos (by rw [own_ceq]; exact h56)]
    by_cases h49 : (own_lushr v 49).toInt = 0
    · rw [if_pos (by rw [own_ceq]; exact h49)]
      by_cases h42 : (own_lushr v 42).toInt = 0
      · rw [if_pos (by rw [own_ceq]; exact h42)]
        by_cases h35 : (own_lushr v 35).toInt = 0
        · rw [if_pos (by rw [own_ceq]; exact h35)]
          by_cases h28 : (own_lushr v 28).toInt = 0
          · rw [if_pos (by rw [own_ceq]; exact h28)]
            by_cases h21 : (own_lushr v 21).toInt = 0
            · rw [if_pos (by rw [own_ceq]; exact h21)]
              by_cases h14 : (own_lushr v 14).toInt = 0
              · rw [if_pos (by rw [own_ceq]; exact h14)]
                by_cases h7 : (own_lushr v 7).toInt = 0
                · rw [if_pos (by rw [own_ceq]; exact h7)]
                  exact ⟨0, by decide, rfl, by omega, Or.inl rfl⟩
                · rw [if_neg (by rw [own_ceq]; exact h7)]
                  exact ⟨1, by decide, rfl, by omega, Or.inr (by omega)⟩
              · rw [if_neg (by rw [own_ceq]; exact h14)]
                exact ⟨2, by decide, rfl, by omega, Or.inr (by omega)⟩
            · rw [if_neg (by rw [own_ceq]; exact h21)]
              exact ⟨3, by decide, rfl, by omega, Or.inr (by omega)⟩
          · rw [if_neg (by rw [own_ceq]; exact h28)]
            exact ⟨4, by decide, rfl, by omega, Or.inr (by omega)⟩
        · rw [if_neg (by rw [own_ceq]; exact h35)]
          exact ⟨5, by decide, rfl, by omega, Or.inr (by omega)⟩
      · rw [if_neg (by rw [own_ceq]; exact h42)]
        exact ⟨6, by decide, rfl, by omega, Or.inr (by omega)⟩
    · rw [if_neg (by rw [own_ceq]; exact h49)]
      exact ⟨7, by decide, rfl, by omega, Or.inr (by omega)⟩
  · rw [if_neg (by rw [own_ceq]; exact h56)]
    exact ⟨8, by decide, rfl, by omega, Or.inr (by omega)⟩
/-- nine puts: the i-th byte -/
theorem own_nine (off n : Int32) (v : Int64) (A : Nat → Int32) (ho : 0 ≤ off.toInt ∧ off.toInt ≤ 3) (j : Int32) (hj : 0 ≤ j.toInt ∧ j.toInt < 9) (hn : j.toInt < n.toInt) :
    ∃ A' : Nat → Int32, f2 off 8 n v (f2 off 7 n v (f2 off 6 n v (f2 off 5 n v (f2 off 4 n v (f2 off 3 n v (f2 off 2 n v (f2 off 1 n v (f2 off 0 n v A)))))))) (off + j).toNatClampNeg = nar .byte ((f2_j18 off j n v A').toInt8.toInt32) := by
  have q : j.toInt = 0 ∨ j.toInt = 1 ∨ j.toInt = 2 ∨ j.toInt = 3 ∨ j.toInt = 4 ∨ j.toInt = 5 ∨ j.toInt = 6 ∨ j.toInt = 7 ∨ j.toInt = 8 := by omega
  rcases q with q | q | q | q | q | q | q | q | q
  · have e : j = 0 := Int32.toInt_inj.mp q
    subst e
    refine ⟨A, ?_⟩
    rw [own_put_ne off 0 8 n v _ ho (by decide) (by decide) (by decide)]
    rw [own_put_ne off 0 7 n v _ ho (by decide) (by decide) (by decide)]
    rw [own_put_ne off 0 6 n v _ ho (by decide) (by decide) (by decide)]
    rw [own_put_ne off 0 5 n v _ ho (by decide) (by decide) (by decide)]
    rw [own_put_ne off 0 4 n v _ ho (by decide) (by decide) (by decide)]
    rw [own_put_ne off 0 3 n v _ ho (by decide) (by decide) (by decide)]
    rw [own_put_ne off 0 2 n v _ ho (by decide) (by decide) (by decide)]
    rw [own_put_ne off 0 1 n v _ ho (by decide) (by decide) (by decide)]
    exact own_put_eq off 0 n v _ hn
  · have e : j = 1 := Int32.toInt_inj.mp q
    subst e
    refine ⟨(f2 off 0 n v A), ?_⟩
    rw [own_put_ne off 1 8 n v _ ho (by decide) (by decide) (by decide)]
    rw [own_put_ne off 1 7 n v _ ho (by decide) (by decide) (by decide)]
    rw [own_put_ne off 1 6 n v _ ho (by decide) (by decide) (by decide)]
    rw [own_put_ne off 1 5 n v _ ho (by decide) (by decide) (by decide)]
    rw [own_put_ne off 1 4 n v _ ho (by decide) (by decide) (by decide)]
    rw [own_put_ne off 1 3 n v _ ho (by decide) (by decide) (by decide)]
    rw [own_put_ne off 1 2 n v _ ho (by decide) (by decide) (by decide)]
    exact own_put_eq off 1 n v _ hn
  · have e : j = 2 := Int32.toInt_inj.mp q
    subst e
    refine ⟨(f2 off 1 n v (f2 off 0 n v A)), ?_⟩
    rw [own_put_ne off 2 8 n v _ ho (by decide) (by decide) (by decide)]
    rw [own_put_ne off 2 7 n v _ ho (by decide) (by decide) (by decide)]
    rw [own_put_ne off 2 6 n v _ ho (by decide) (by decide) (by decide)]
    rw [own_put_ne off 2 5 n v _ ho (by decide) (by decide) (by decide)]
    rw [own_put_ne off 2 4 n v _ ho (by decide) (by decide) (by decide)]
    rw [own_put_ne off 2 3 n v _ ho (by decide) (by decide) (by decide)]
    exact own_put_eq off 2 n v _ hn
  · have e : j = 3 := Int32.toInt_inj.mp q
    subst e
    refine ⟨(f2 off 2 n v (f2 off 1 n v (f2 off 0 n v A))), ?_⟩
    rw [own_put_ne off 3 8 n v _ ho (by decide) (by decide) (by decide)]
    rw [own_put_ne off 3 7 n v _ ho (by decide) (by decide) (by decide)]
    rw [own_put_ne off 3 6 n v _ ho (by decide) (by decide) (by decide)]
    rw [own_put_ne off 3 5 n v _ ho (by decide) (by decide) (by decide)]
    rw [own_put_ne off 3 4 n v _ ho (by decide) (by decide) (by decide)]
    exact own_put_eq off 3 n v _ hn
  · have e : j = 4 := Int32.toInt_inj.mp q
    subst e
    refine ⟨(f2 off 3 n v (f2 off 2 n v (f2 off 1 n v (f2 off 0 n v A)))), ?_⟩
    rw [own_put_ne off 4 8 n v _ ho (by decide) (by decide) (by decide)]
    rw [own_put_ne off 4 7 n v _ ho (by decide) (by decide) (by decide)]
    rw [own_put_ne off 4 6 n v _ ho (by decide) (by decide) (by decide)]
    rw [own_put_ne off 4 5 n v _ ho (by decide) (by decide) (by decide)]
    exact own_put_eq off 4 n v _ hn
  · have e : j = 5 := Int32.toInt_inj.mp q
    subst e
    refine ⟨(f2 off 4 n v (f2 off 3 n v (f2 off 2 n v (f2 off 1 n v (f2 off 0 n v A))))), ?_⟩
    rw [own_put_ne off 5 8 n v _ ho (by decide) (by decide) (by decide)]
    rw [own_put_ne off 5 7 n v _ ho (by decide) (by decide) (by decide)]
    rw [own_put_ne off 5 6 n v _ ho (by decide) (by decide) (by decide)]
    exact own_put_eq off 5 n v _ hn
  · have e : j = 6 := Int32.toInt_inj.mp q
    subst e
    refine ⟨(f2 off 5 n v (f2 off 4 n v (f2 off 3 n v (f2 off 2 n v (f2 off 1 n v (f2 off 0 n v A)))))), ?_⟩
    rw [own_put_ne off 6 8 n v _ ho (by decide) (by decide) (by decide)]
    rw [own_put_ne off 6 7 n v _ ho (by decide) (by decide) (by decide)]
    exact own_put_eq off 6 n v _ hn
  · have e : j = 7 := Int32.toInt_inj.mp q
    subst e
    refine ⟨(f2 off 6 n v (f2 off 5 n v (f2 off 4 n v (f2 off 3 n v (f2 off 2 n v (f2 off 1 n v (f2 off 0 n v A))))))), ?_⟩
    rw [own_put_ne off 7 8 n v _ ho (by decide) (by decide) (by decide)]
    exact own_put_eq off 7 n v _ hn
  · have e : j = 8 := Int32.toInt_inj.mp q
    subst e
    refine ⟨(f2 off 7 n v (f2 off 6 n v (f2 off 5 n v (f2 off 4 n v (f2 off 3 n v (f2 off 2 n v (f2 off 1 n v (f2 off 0 n v A)))))))), ?_⟩
    exact own_put_eq off 8 n v _ hn
theorem own_is (x0 : Int64) (x1 x2 x3 : Int32) : f3 10 (f0_v2 x0 x1 x2 x3) (f0_a125 x0 x1 x2 x3) = some (f0_v1 x0 x1 x2 x3) := by
  have ho := own_off x0 x1 x2 x3
  have hv := own_vnn x0 x1 x2 x3
  have hr := rng64 (f0_v1 x0 x1 x2 x3)
  obtain ⟨V, hV⟩ : ∃ V : Nat, (f0_v1 x0 x1 x2 x3).toInt = V := ⟨(f0_v1 x0 x1 x2 x3).toInt.toNat, by omega⟩
  obtain ⟨n, n1, n2, n3, n4⟩ := own_n x0 x1 x2 x3 V hV
  obtain ⟨r, r1, r2⟩ := own_read (f0_v2 x0 x1 x2 x3) (f0_a125 x0 x1 x2 x3) V n ho (by omega) n1 n3 n4 (fun j i hj hi => by
    obtain ⟨A', hA⟩ := own_nine (f0_v2 x0 x1 x2 x3) (f0_j47 x0 x1 x2 x3) (f0_v1 x0 x1 x2 x3) (f0_a98 x0 x1 x2 x3) ho j (by omega) (by omega)
    have hA2 : f0_a125 x0 x1 x2 x3 (f0_v2 x0 x1 x2 x3 + j).toNatClampNeg = nar .byte ((f2_j18 (f0_v2 x0 x1 x2 x3) j (f0_j47 x0 x1 x2 x3) (f0_v1 x0 x1 x2 x3) A').toInt8.toInt32) := hA
    have g := own_g (f0_v2 x0 x1 x2 x3) j (f0_j47 x0 x1 x2 x3) (f0_v1 x0 x1 x2 x3) A' i V hj (by omega) (by omega) hV
    have hlt : V / 2 ^ (7 * i) % 128 < 128 := Nat.mod_lt _ (by decide)
    rw [hA2, own_bv _ (by rw [g]; split <;> omega), g]
    congr 1
    by_cases h : i < n
    · rw [if_pos h, if_pos (by omega)]
    · rw [if_neg h, if_neg (by omega)]) n 10 0 0 0 (by omega) (by omega) rfl (by rw [Nat.mul_zero, Nat.pow_zero, Nat.mod_one]; rfl)
  have e : r = f0_v1 x0 x1 x2 x3 := Int64.toInt_inj.mp (by rw [r1, hV])
  rw [e] at r2
  exact r2
theorem own_some (x0 : Int64) (x1 x2 x3 : Int32) : f3 10 (f0_v2 x0 x1 x2 x3) (f0_a125 x0 x1 x2 x3) = some ((f3 10 (f0_v2 x0 x1 x2 x3) (f0_a125 x0 x1 x2 x3)).getD 0) := by
  rw [own_is]
  rfl
def Q0 (Z : State) (x0 : Int64) (x1 : Int32) (x2 : Int32) (x3 : Int32) (h0 : Heap) (n0 : Nat) (v : Option Value) (h : Heap) (L : List Loc) : Prop := v = some (.int (f0 x0 x1 x2 x3)) ∧ Fr n0 L
set_option maxRecDepth 65536 in
set_option maxHeartbeats 40000000 in
theorem rm0 (l : Launch) (Z : State) (a0 : Array Value) (hw : ∀ d ∈ tables_1, d.before a0 Z = true) (ws : List Jvm.Cond) (x0 : Int64) (x1 : Int32) (x2 : Int32) (x3 : Int32) (h0 : Heap) (n0 : Nat) (Z0 : n0 ≤ h0.size) :
    MetFree l x (head1 (Jvm.Cond.code x code maxLocals ret :: ws) room_1) (fun a U => a = #[(.long x0), (.int x1), (.int x2), (.int x3)] ∧ Z.Warmed39 U.vm ∧ U.heap = h0) (fun _ _ _ _ _ => True) (fun _ U o U' => ∃ v L, o = .returned v ∧ Q0 Z x0 x1 x2 x3 h0 n0 v U'.heap L ∧ FrameEnd U o U' L 1 12) := by
  refine MetFree.of_bodySF (plainFor_of_name pn_0) hisR ?_
  intro p e s m args below meth c s₁ Bd hml0 hP hK0
  obtain ⟨rfl, hZ, hh⟩ := hP
  have hx := Bd.exec
  have hby := Bd.bytes
  have hml : c.maxLocals = 10 := hml0
  have hown : s.vm.findClass "com/example/keyward/keyward/codecs/VarintReadPinLaw" = some m.cls := findClass_of_methodNamed Bd.named
  have hnm := (name_of_methodNamed Bd.named Bd.method).1
  have hret : meth.sig.returnType = ret := Bd.returns
  have hlk : meth.locks = false := Bd.notSynchronized
  have X0 : Stand p l e room_1 s m #[(.long x0), (.int x1), (.int x2), (.int x3)] below meth c s₁ [] 0 0 := Stand.of_body Bd
  have e0 : s₁.heap = h0 := by rw [← hh, Bd.state]; rfl
  have N0 := Fr.nil n0
  have pre0 : ∀ t, Steps p.tables e below (s₁.setTop (mkF m 0 #[.val (.long x0), .second, .val (.int x1), .val (.int x2), .val (.int x3), .unset, .unset, .unset, .unset, .unset] [])) t → Steps p.tables e below (s₁.setTop (entryFrame m #[(.long x0), (.int x1), (.int x2), (.int x3)] maxLocals)) t := fun t k => castTop (ef_0 m x0 x1 x2 x3) k
  obtain ⟨ov1, h_ov1⟩ : ∃ z : Int64, z = (f0_v1 x0 x1 x2 x3) := ⟨_, rfl⟩
  have d_ov1 : ov1 = (own_lushr (x0 &&& (9223372036854775807 : Int64)) (x1 &&& (63 : Int32))) := by
    rw [h_ov1]
    rfl
  obtain ⟨ov2, h_ov2⟩ : ∃ z : Int32, z = (f0_v2 x0 x1 x2 x3) := ⟨_, rfl⟩
  have d_ov2 : ov2 = (x2 &&& (3 : Int32)) := by
    rw [h_ov2]
    rfl
  obtain ⟨oj5, h_oj5⟩ : ∃ z : Int32, z = (f0_j5 x0 x1 x2 x3) := ⟨_, rfl⟩
  have d_oj5 : oj5 = if ifCond.holds .eq (own_cmp (own_lushr ov1 (7 : Int32)) (0 : Int64)) = true then (1 : Int32) else (2 : Int32) := by
    rw [h_oj5, h_ov1]
    rfl
  obtain ⟨oj11, h_oj11⟩ : ∃ z : Int32, z = (f0_j11 x0 x1 x2 x3) := ⟨_, rfl⟩
  have d_oj11 : oj11 = if ifCond.holds .eq (own_cmp (own_lushr ov1 (14 : Int32)) (0 : Int64)) = true then oj5 else (3 : Int32) := by
    rw [h_oj11, h_oj5, h_ov1]
    rfl
  obtain ⟨oj17, h_oj17⟩ : ∃ z : Int32, z = (f0_j17 x0 x1 x2 x3) := ⟨_, rfl⟩
  have d_oj17 : oj17 = if ifCond.holds .eq (own_cmp (own_lushr ov1 (21 : Int32)) (0 : Int64)) = true then oj11 else (4 : Int32) := by
    rw [h_oj17, h_oj11, h_ov1]
    rfl
  obtain ⟨oj23, h_oj23⟩ : ∃ z : Int32, z = (f0_j23 x0 x1 x2 x3) := ⟨_, rfl⟩
  have d_oj23 : oj23 = if ifCond.holds .eq (own_cmp (own_lushr ov1 (28 : Int32)) (0 : Int64)) = true then oj17 else (5 : Int32) := by
    rw [h_oj23, h_oj17, h_ov1]
    rfl
  obtain ⟨oj29, h_oj29⟩ : ∃ z : Int32, z = (f0_j29 x0 x1 x2 x3) := ⟨_, rfl⟩
  have d_oj29 : oj29 = if ifCond.holds .eq (own_cmp (own_lushr ov1 (35 : Int32)) (0 : Int64)) = true then oj23 else (6 : Int32) := by
    rw [h_oj29, h_oj23, h_ov1]
    rfl
  obtain ⟨oj35, h_oj35⟩ : ∃ z : Int32, z = (f0_j35 x0 x1 x2 x3) := ⟨_, rfl⟩
  have d_oj35 : oj35 = if ifCond.holds .eq (own_cmp (own_lushr ov1 (42 : Int32)) (0 : Int64)) = true then oj29 else (7 : Int32) := by
    rw [h_oj35, h_oj29, h_ov1]
    rfl
  obtain ⟨oj41, h_oj41⟩ : ∃ z : Int32, z = (f0_j41 x0 x1 x2 x3) := ⟨_, rfl⟩
  have d_oj41 : oj41 = if ifCond.holds .eq (own_cmp (own_lushr ov1 (49 : Int32)) (0 : Int64)) = true then oj35 else (8 : Int32) := by
    rw [h_oj41, h_oj35, h_ov1]
    rfl
  obtain ⟨oj47, h_oj47⟩ : ∃ z : Int32, z = (f0_j47 x0 x1 x2 x3) := ⟨_, rfl⟩
  have d_oj47 : oj47 = if ifCond.holds .eq (own_cmp (own_lushr ov1 (56 : Int32)) (0 : Int64)) = true then oj41 else (9 : Int32) := by
    rw [h_oj47, h_oj41, h_ov1]
    rfl
  obtain ⟨oa54, h_oa54⟩ : ∃ z : Nat → Int32, z = (f0_a54 x0 x1 x2 x3) := ⟨_, rfl⟩
  have d_oa54 : oa54 = own_upd (fun _ => (0 : Int32)) ((0 : Int32)).toNatClampNeg (nar .byte (f1 x3 (0 : Int32))) := by
    rw [h_oa54]
    rfl
  obtain ⟨oa58, h_oa58⟩ : ∃ z : Nat → Int32, z = (f0_a58 x0 x1 x2 x3) := ⟨_, rfl⟩
  have d_oa58 : oa58 = own_upd oa54 ((1 : Int32)).toNatClampNeg (nar .byte (f1 x3 (1 : Int32))) := by
    rw [h_oa58, h_oa54]
    rfl
  obtain ⟨oa62, h_oa62⟩ : ∃ z : Nat → Int32, z = (f0_a62 x0 x1 x2 x3) := ⟨_, rfl⟩
  have d_oa62 : oa62 = own_upd oa58 ((2 : Int32)).toNatClampNeg (nar .byte (f1 x3 (2 : Int32))) := by
    rw [h_oa62, h_oa58]
    rfl
  obtain ⟨oa66, h_oa66⟩ : ∃ z : Nat → Int32, z = (f0_a66 x0 x1 x2 x3) := ⟨_, rfl⟩
  have d_oa66 : oa66 = own_upd oa62 ((3 : Int32)).toNatClampNeg (nar .byte (f1 x3 (3 : Int32))) := by
    rw [h_oa66, h_oa62]
    rfl
  obtain ⟨oa70, h_oa70⟩ : ∃ z : Nat → Int32, z = (f0_a70 x0 x1 x2 x3) := ⟨_, rfl⟩
  have d_oa70 : oa70 = own_upd oa66 ((4 : Int32)).toNatClampNeg (nar .byte (f1 x3 (4 : Int32))) := by
    rw [h_oa70, h_oa66]
    rfl
  obtain ⟨oa74, h_oa74⟩ : ∃ z : Nat → Int32, z = (f0_a74 x0 x1 x2 x3) := ⟨_, rfl⟩
  have d_oa74 : oa74 = own_upd oa70 ((5 : Int32)).toNatClampNeg (nar .byte (f1 x3 (5 : Int32))) := by
    rw [h_oa74, h_oa70]
    rfl
  obtain ⟨oa78, h_oa78⟩ : ∃ z : Nat → Int32, z = (f0_a78 x0 x1 x2 x3) := ⟨_, rfl⟩
  have d_oa78 : oa78 = own_upd oa74 ((6 : Int32)).toNatClampNeg (nar .byte (f1 x3 (6 : Int32))) := by
    rw [h_oa78, h_oa74]
    rfl
  obtain ⟨oa82, h_oa82⟩ : ∃ z : Nat → Int32, z = (f0_a82 x0 x1 x2 x3) := ⟨_, rfl⟩
  have d_oa82 : oa82 = own_upd oa78 ((7 : Int32)).toNatClampNeg (nar .byte (f1 x3 (7 : Int32))) := by
    rw [h_oa82, h_oa78]
    rfl
  obtain ⟨oa86, h_oa86⟩ : ∃ z : Nat → Int32, z = (f0_a86 x0 x1 x2 x3) := ⟨_, rfl⟩
  have d_oa86 : oa86 = own_upd oa82 ((8 : Int32)).toNatClampNeg (nar .byte (f1 x3 (8 : Int32))) := by
    rw [h_oa86, h_oa82]
    rfl
  obtain ⟨oa90, h_oa90⟩ : ∃ z : Nat → Int32, z = (f0_a90 x0 x1 x2 x3) := ⟨_, rfl⟩
  have d_oa90 : oa90 = own_upd oa86 ((9 : Int32)).toNatClampNeg (nar .byte (f1 x3 (9 : Int32))) := by
    rw [h_oa90, h_oa86]
    rfl
  obtain ⟨oa94, h_oa94⟩ : ∃ z : Nat → Int32, z = (f0_a94 x0 x1 x2 x3) := ⟨_, rfl⟩
  have d_oa94 : oa94 = own_upd oa90 ((10 : Int32)).toNatClampNeg (nar .byte (f1 x3 (10 : Int32))) := by
    rw [h_oa94, h_oa90]
    rfl
  obtain ⟨oa98, h_oa98⟩ : ∃ z : Nat → Int32, z = (f0_a98 x0 x1 x2 x3) := ⟨_, rfl⟩
  have d_oa98 : oa98 = own_upd oa94 ((11 : Int32)).toNatClampNeg (nar .byte (f1 x3 (11 : Int32))) := by
    rw [h_oa98, h_oa94]
    rfl
  obtain ⟨oa101, h_oa101⟩ : ∃ z : Nat → Int32, z = (f0_a101 x0 x1 x2 x3) := ⟨_, rfl⟩
  have d_oa101 : oa101 = (f2 ov2 (0 : Int32) oj47 ov1 oa98) := by
    rw [h_oa101, h_oa98, h_oj47, h_ov1, h_ov2]
    rfl
  obtain ⟨oa104, h_oa104⟩ : ∃ z : Nat → Int32, z = (f0_a104 x0 x1 x2 x3) := ⟨_, rfl⟩
  have d_oa104 : oa104 = (f2 ov2 (1 : Int32) oj47 ov1 oa101) := by
    rw [h_oa104, h_oa101, h_oj47, h_ov1, h_ov2]
    rfl
  obtain ⟨oa107, h_oa107⟩ : ∃ z : Nat → Int32, z = (f0_a107 x0 x1 x2 x3) := ⟨_, rfl⟩
  have d_oa107 : oa107 = (f2 ov2 (2 : Int32) oj47 ov1 oa104) := by
    rw [h_oa107, h_oa104, h_oj47, h_ov1, h_ov2]
    rfl
  obtain ⟨oa110, h_oa110⟩ : ∃ z : Nat → Int32, z = (f0_a110 x0 x1 x2 x3) := ⟨_, rfl⟩
  have d_oa110 : oa110 = (f2 ov2 (3 : Int32) oj47 ov1 oa107) := by
    rw [h_oa110, h_oa107, h_oj47, h_ov1, h_ov2]
    rfl
  obtain ⟨oa113, h_oa113⟩ : ∃ z : Nat → Int32, z = (f0_a113 x0 x1 x2 x3) := ⟨_, rfl⟩
  have d_oa113 : oa113 = (f2 ov2 (4 : Int32) oj47 ov1 oa110) := by
    rw [h_oa113, h_oa110, h_oj47, h_ov1, h_ov2]
    rfl
  obtain ⟨oa116, h_oa116⟩ : ∃ z : Nat → Int32, z = (f0_a116 x0 x1 x2 x3) := ⟨_, rfl⟩
  have d_oa116 : oa116 = (f2 ov2 (5 : Int32) oj47 ov1 oa113) := by
    rw [h_oa116, h_oa113, h_oj47, h_ov1, h_ov2]
    rfl
  obtain ⟨oa119, h_oa119⟩ : ∃ z : Nat → Int32, z = (f0_a119 x0 x1 x2 x3) := ⟨_, rfl⟩
  have d_oa119 : oa119 = (f2 ov2 (6 : Int32) oj47 ov1 oa116) := by
    rw [h_oa119, h_oa116, h_oj47, h_ov1, h_ov2]
    rfl
  obtain ⟨oa122, h_oa122⟩ : ∃ z : Nat → Int32, z = (f0_a122 x0 x1 x2 x3) := ⟨_, rfl⟩
  have d_oa122 : oa122 = (f2 ov2 (7 : Int32) oj47 ov1 oa119) := by
    rw [h_oa122, h_oa119, h_oj47, h_ov1, h_ov2]
    rfl
  obtain ⟨oa125, h_oa125⟩ : ∃ z : Nat → Int32, z = (f0_a125 x0 x1 x2 x3) := ⟨_, rfl⟩
  have d_oa125 : oa125 = (f2 ov2 (8 : Int32) oj47 ov1 oa122) := by
    rw [h_oa125, h_oa122, h_oj47, h_ov1, h_ov2]
    rfl
  obtain ⟨ov128, h_ov128⟩ : ∃ z : Int64, z = (f0_v128 x0 x1 x2 x3) := ⟨_, rfl⟩
  have d_ov128 : ov128 = ((f3 10 ov2 oa125).getD 0) := by
    rw [h_ov128, h_oa125, h_ov2]
    rfl
  obtain ⟨oj131, h_oj131⟩ : ∃ z : Int32, z = (f0_j131 x0 x1 x2 x3) := ⟨_, rfl⟩
  have d_oj131 : oj131 = if ifCond.holds .ne (own_cmp ov128 ov1) = true then (0 : Int32) else (1 : Int32) := by
    rw [h_oj131, h_ov1, h_ov128]
    rfl
  have hroot : f0 x0 x1 x2 x3 = (nar .boolean oj131) := by
    rw [h_oj131]
    rfl
  have prx1 : ∀ t, Steps p.tables e below (s₁.setTop (mkF m 17 #[.val (.long x0), .second, .val (.int x1), .val (.int x2), .val (.int x3), .val (.long ov1), .second, .val (.int ov2), .unset, .unset] [])) t → Steps p.tables e below (s₁.setTop (entryFrame m #[(.long x0), (.int x1), (.int x2), (.int x3)] maxLocals)) t := by
    intro t k
    refine pre0 _ ?_
    show Steps p.tables e below (s₁.setTop (mkF m 0 #[.val (.long x0), .second, .val (.int x1), .val (.int x2), .val (.int x3), .unset, .unset, .unset, .unset, .unset] [])) _
    refine XS.lloadN X0.here hx rfl (hb hby at_0) rfl ?_
    show Steps p.tables e below (s₁.setTop (mkF m 1 #[.val (.long x0), .second, .val (.int x1), .val (.int x2), .val (.int x3), .unset, .unset, .unset, .unset, .unset] [(.long x0)])) _
    refine X0.ldc2Long hx hown (mvT hZ (hw _ (List.mem_of_getElem? (i := 0) rfl))) (g := (mkF m 1 #[.val (.long x0), .second, .val (.int x1), .val (.int x2), .val (.int x3), .unset, .unset, .unset, .unset, .unset] [(.long x0)])) rfl (hb hby at_1) _ ?_
    show Steps p.tables e below (s₁.setTop (mkF m 4 #[.val (.long x0), .second, .val (.int x1), .val (.int x2), .val (.int x3), .unset, .unset, .unset, .unset, .unset] [(.long (9223372036854775807 : Int64)), (.long x0)])) _
    refine XS.land X0.here hx rfl (hb hby at_4) rfl ?_
    show Steps p.tables e below (s₁.setTop (mkF m 5 #[.val (.long x0), .second, .val (.int x1), .val (.int x2), .val (.int x3), .unset, .unset, .unset, .unset, .unset] [(.long (x0 &&& (9223372036854775807 : Int64)))])) _
    refine XS.iloadN X0.here hx rfl (hb hby at_5) rfl ?_
    show Steps p.tables e below (s₁.setTop (mkF m 6 #[.val (.long x0), .second, .val (.int x1), .val (.int x2), .val (.int x3), .unset, .unset, .unset, .unset, .unset] [(.int x1), (.long (x0 &&& (9223372036854775807 : Int64)))])) _
    refine XS.bipush X0.here hx rfl (hb hby at_6) ?_
    show Steps p.tables e below (s₁.setTop (mkF m 8 #[.val (.long x0), .second, .val (.int x1), .val (.int x2), .val (.int x3), .unset, .unset, .unset, .unset, .unset] [(.int (63 : Int32)), (.int x1), (.long (x0 &&& (9223372036854775807 : Int64)))])) _
    refine XS.iand X0.here hx rfl (hb hby at_8) rfl ?_
    show Steps p.tables e below (s₁.setTop (mkF m 9 #[.val (.long x0), .second, .val (.int x1), .val (.int x2), .val (.int x3), .unset, .unset, .unset, .unset, .unset] [(.int (x1 &&& (63 : Int32))), (.long (x0 &&& (9223372036854775807 : Int64)))])) _
    refine own_xlushr X0.here hx rfl (hb hby at_9) rfl ?_
    show Steps p.tables e below (s₁.setTop (mkF m 10 #[.val (.long x0), .second, .val (.int x1), .val (.int x2), .val (.int x3), .unset, .unset, .unset, .unset, .unset] [(.long (own_lushr (x0 &&& (9223372036854775807 : Int64)) (x1 &&& (63 : Int32))))])) _
    rw [← d_ov1]
    refine XS.lstore X0.here hx rfl (hb hby at_10) rfl (l' := #[.val (.long x0), .second, .val (.int x1), .val (.int x2), .val (.int x3), .val (.long ov1), .second, .unset, .unset, .unset]) rfl ?_
    show Steps p.tables e below (s₁.setTop (mkF m 12 #[.val (.long x0), .second, .val (.int x1), .val (.int x2), .val (.int x3), .val (.long ov1), .second, .unset, .unset, .unset] [])) _
    refine XS.iloadN X0.here hx rfl (hb hby at_12) rfl ?_
    show Steps p.tables e below (s₁.setTop (mkF m 13 #[.val (.long x0), .second, .val (.int x1), .val (.int x2), .val (.int x3), .val (.long ov1), .second, .unset, .unset, .unset] [(.int x2)])) _
    refine XS.iconst X0.here hx rfl (hb hby at_13) ?_
    show Steps p.tables e below (s₁.setTop (mkF m 14 #[.val (.long x0), .second, .val (.int x1), .val (.int x2), .val (.int x3), .val (.long ov1), .second, .unset, .unset, .unset] [(.int (3 : Int32)), (.int x2)])) _
    refine XS.iand X0.here hx rfl (hb hby at_14) rfl ?_
    show Steps p.tables e below (s₁.setTop (mkF m 15 #[.val (.long x0), .second, .val (.int x1), .val (.int x2), .val (.int x3), .val (.long ov1), .second, .unset, .unset, .unset] [(.int (x2 &&& (3 : Int32)))])) _
    rw [← d_ov2]
    refine XS.istore X0.here hx rfl (hb hby at_15) rfl (l' := #[.val (.long x0), .second, .val (.int x1), .val (.int x2), .val (.int x3), .val (.long ov1), .second, .val (.int ov2), .unset, .unset]) rfl ?_
    exact k
  have pre3 : ∀ t, Steps p.tables e below (s₁.setTop (mkF m 27 #[.val (.long x0), .second, .val (.int x1), .val (.int x2), .val (.int x3), .val (.long ov1), .second, .val (.int ov2), .val (.int (1 : Int32)), .unset] [(.int (own_cmp (own_lushr ov1 (7 : Int32)) (0 : Int64)))])) t → Steps p.tables e below (s₁.setTop (entryFrame m #[(.long x0), (.int x1), (.int x2), (.int x3)] maxLocals)) t := by
    intro t k
    refine prx1 _ ?_
    show Steps p.tables e below (s₁.setTop (mkF m 17 #[.val (.long x0), .second, .val (.int x1), .val (.int x2), .val (.int x3), .val (.long ov1), .second, .val (.int ov2), .unset, .unset] [])) _
    refine XS.iconst X0.here hx rfl (hb hby at_17) ?_
    show Steps p.tables e below (s₁.setTop (mkF m 18 #[.val (.long x0), .second, .val (.int x1), .val (.int x2), .val (.int x3), .val (.long ov1), .second, .val (.int ov2), .unset, .unset] [(.int (1 : Int32))])) _
    refine XS.istore X0.here hx rfl (hb hby at_18) rfl (l' := #[.val (.long x0), .second, .val (.int x1), .val (.int x2), .val (.int x3), .val (.long ov1), .second, .val (.int ov2), .val (.int (1 : Int32)), .unset]) rfl ?_
    show Steps p.tables e below (s₁.setTop (mkF m 20 #[.val (.long x0), .second, .val (.int x1), .val (.int x2), .val (.int x3), .val (.long ov1), .second, .val (.int ov2), .val (.int (1 : Int32)), .unset] [])) _
    refine XS.lload X0.here hx rfl (hb hby at_20) rfl ?_
    show Steps p.tables e below (s₁.setTop (mkF m 22 #[.val (.long x0), .second, .val (.int x1), .val (.int x2), .val (.int x3), .val (.long ov1), .second, .val (.int ov2), .val (.int (1 : Int32)), .unset] [(.long ov1)])) _
    refine XS.bipush X0.here hx rfl (hb hby at_22) ?_
    show Steps p.tables e below (s₁.setTop (mkF m 24 #[.val (.long x0), .second, .val (.int x1), .val (.int x2), .val (.int x3), .val (.long ov1), .second, .val (.int ov2), .val (.int (1 : Int32)), .unset] [(.int (7 : Int32)), (.long ov1)])) _
    refine own_xlushr X0.here hx rfl (hb hby at_24) rfl ?_
    show Steps p.tables e below (s₁.setTop (mkF m 25 #[.val (.long x0), .second, .val (.int x1), .val (.int x2), .val (.int x3), .val (.long ov1), .second, .val (.int ov2), .val (.int (1 : Int32)), .unset] [(.long (own_lushr ov1 (7 : Int32)))])) _
    refine XS.lconst X0.here hx rfl (hb hby at_25) ?_
    show Steps p.tables e below (s₁.setTop (mkF m 26 #[.val (.long x0), .second, .val (.int x1), .val (.int x2), .val (.int x3), .val (.long ov1), .second, .val (.int ov2), .val (.int (1 : Int32)), .unset] [(.long (0 : Int64)), (.long (own_lushr ov1 (7 : Int32)))])) _
    refine own_xlcmp X0.here hx rfl (hb hby at_26) rfl ?_
    exact k
  obtain ⟨T6, L6, X6, N6, e6, pre6⟩ : ∃ (T' : State) (L' : List Loc), Stand p l e room_1 s m #[(.long x0), (.int x1), (.int x2), (.int x3)] below meth c T' L' 0 0 ∧ Fr n0 L' ∧ T'.heap = h0 ∧ ∀ t, Steps p.tables e below (T'.setTop (mkF m 33 #[.val (.long x0), .second, .val (.int x1), .val (.int x2), .val (.int x3), .val (.long ov1), .second, .val (.int ov2), .val (.int oj5), .unset] [])) t → Steps p.tables e below (s₁.setTop (entryFrame m #[(.long x0), (.int x1), (.int x2), (.int x3)] maxLocals)) t := by
    rcases Bool.eq_false_or_eq_true (ifCond.holds .eq (own_cmp (own_lushr ov1 (7 : Int32)) (0 : Int64))) with hc4 | hc4
    · have pre7 : ∀ t, Steps p.tables e below (s₁.setTop (mkF m 33 #[.val (.long x0), .second, .val (.int x1), .val (.int x2), .val (.int x3), .val (.long ov1), .second, .val (.int ov2), .val (.int (1 : Int32)), .unset] [])) t → Steps p.tables e below (s₁.setTop (entryFrame m #[(.long x0), (.int x1), (.int x2), (.int x3)] maxLocals)) t := by
        intro t k
        refine pre3 _ ?_
        show Steps p.tables e below (s₁.setTop (mkF m 27 #[.val (.long x0), .second, .val (.int x1), .val (.int x2), .val (.int x3), .val (.long ov1), .second, .val (.int ov2), .val (.int (1 : Int32)), .unset] [(.int (own_cmp (own_lushr ov1 (7 : Int32)) (0 : Int64)))])) _
        refine XS.ifYes X0.here hx rfl (pc0 := 27) (pc' := 33) rfl (hb hby at_27) rfl hc4 (by decide) (by decide) ?_
        exact k
      have qj0 : oj5 = (1 : Int32) := Eq.trans d_oj5 (if_pos hc4)
      refine ⟨s₁, _, X0, N0, e0, fun t k => pre7 _ ?_⟩
      rw [qj0] at k
      exact k
    · have pre8 : ∀ t, Steps p.tables e below (s₁.setTop (mkF m 33 #[.val (.long x0), .second, .val (.int x1), .val (.int x2), .val (.int x3), .val (.long ov1), .second, .val (.int ov2), .val (.int (2 : Int32)), .unset] [])) t → Steps p.tables e below (s₁.setTop (entryFrame m #[(.long x0), (.int x1), (.int x2), (.int x3)] maxLocals)) t := by
        intro t k
        refine pre3 _ ?_
        show Steps p.tables e below (s₁.setTop (mkF m 27 #[.val (.long x0), .second, .val (.int x1), .val (.int x2), .val (.int x3), .val (.long ov1), .second, .val (.int ov2), .val (.int (1 : Int32)), .unset] [(.int (own_cmp (own_lushr ov1 (7 : Int32)) (0 : Int64)))])) _
        refine XS.ifNo X0.here hx rfl (hb hby at_27) rfl hc4 ?_
        show Steps p.tables e below (s₁.setTop (mkF m 30 #[.val (.long x0), .second, .val (.int x1), .val (.int x2), .val (.int x3), .val (.long ov1), .second, .val (.int ov2), .val (.int (1 : Int32)), .unset] [])) _
        refine XS.iconst X0.here hx rfl (hb hby at_30) ?_
        show Steps p.tables e below (s₁.setTop (mkF m 31 #[.val (.long x0), .second, .val (.int x1), .val (.int x2), .val (.int x3), .val (.long ov1), .second, .val (.int ov2), .val (.int (1 : Int32)), .unset] [(.int (2 : Int32))])) _
        refine XS.istore X0.here hx rfl (hb hby at_31) rfl (l' := #[.val (.long x0), .second, .val (.int x1), .val (.int x2), .val (.int x3), .val (.long ov1), .second, .val (.int ov2), .val (.int (2 : Int32)), .unset]) rfl ?_
        exact k
      have qj0 : oj5 = (2 : Int32) := Eq.trans d_oj5 (if_neg (own_nt hc4))
      refine ⟨s₁, _, X0, N0, e0, fun t k => pre8 _ ?_⟩
      rw [qj0] at k
      exact k
  have pre9 : ∀ t, Steps p.tables e below (T6.setTop (mkF m 40 #[.val (.long x0), .second, .val (.int x1), .val (.int x2), .val (.int x3), .val (.long ov1), .second, .val (.int ov2), .val (.int oj5), .unset] [(.int (own_cmp (own_lushr ov1 (14 : Int32)) (0 : Int64)))])) t → Steps p.tables e below (s₁.setTop (entryFrame m #[(.long x0), (.int x1), (.int x2), (.int x3)] maxLocals)) t := by
    intro t k
    refine pre6 _ ?_
    show Steps p.tables e below (T6.setTop (mkF m 33 #[.val (.long x0), .second, .val (.int x1), .val (.int x2), .val (.int x3), .val (.long ov1), .second, .val (.int ov2), .val (.int oj5), .unset] [])) _
    refine XS.lload X6.here hx rfl (hb hby at_33) rfl ?_
    show Steps p.tables e below (T6.setTop (mkF m 35 #[.val (.long x0), .second, .val (.int x1), .val (.int x2), .val (.int x3), .val (.long ov1), .second, .val (.int ov2), .val (.int oj5), .unset] [(.long ov1)])) _
    refine XS.bipush X6.here hx rfl (hb hby at_35) ?_
    show Steps p.tables e below (T6.setTop (mkF m 37 #[.val (.long x0), .second, .val (.int x1), .val (.int x2), .val (.int x3), .val (.long ov1), .second, .val (.int ov2), .val (.int oj5), .unset] [(.int (14 : Int32)), (.long ov1)])) _
    refine own_xlushr X6.here hx rfl (hb hby at_37) rfl ?_
    show Steps p.tables e below (T6.setTop (mkF m 38 #[.val (.long x0), .second, .val (.int x1), .val (.int x2), .val (.int x3), .val (.long ov1), .second, .val (.int ov2), .val (.int oj5), .unset] [(.long (own_lushr ov1 (14 : Int32)))])) _
    refine XS.lconst X6.here hx rfl (hb hby at_38) ?_
    show Steps p.tables e below (T6.setTop (mkF m 39 #[.val (.long x0), .second, .val (.int x1), .val (.int x2), .val (.int x3), .val (.long ov1), .second, .val (.int ov2), .val (.int oj5), .unset] [(.long (0 : Int64)), (.long (own_lushr ov1 (14 : Int32)))])) _
    refine own_xlcmp X6.here hx rfl (hb hby at_39) rfl ?_
    exact k
  obtain ⟨T12, L12, X12, N12, e12, pre12⟩ : ∃ (T' : State) (L' : List Loc), Stand p l e room_1 s m #[(.long x0), (.int x1), (.int x2), (.int x3)] below meth c T' L' 0 0 ∧ Fr n0 L' ∧ T'.heap = h0 ∧ ∀ t, Steps p.tables e below (T'.setTop (mkF m 46 #[.val (.long x0), .second, .val (.int x1), .val (.int x2), .val (.int x3), .val (.long ov1), .second, .val (.int ov2), .val (.int oj11), .unset] [])) t → Steps p.tables e below (s₁.setTop (entryFrame m #[(.long x0), (.int x1), (.int x2), (.int x3)] maxLocals)) t := by
    rcases Bool.eq_false_or_eq_true (ifCond.holds .eq (own_cmp (own_lushr ov1 (14 : Int32)) (0 : Int64))) with hc10 | hc10
    · have pre13 : ∀ t, Steps p.tables e below (T6.setTop (mkF m 46 #[.val (.long x0), .second, .val (.int x1), .val (.int x2), .val (.int x3), .val (.long ov1), .second, .val (.int ov2), .val (.int oj5), .unset] [])) t → Steps p.tables e below (s₁.setTop (entryFrame m #[(.long x0), (.int x1), (.int x2), (.int x3)] maxLocals)) t := by
        intro t k
        refine pre9 _ ?_
        show Steps p.tables e below (T6.setTop (mkF m 40 #[.val (.long x0), .second, .val (.int x1), .val (.int x2), .val (.int x3), .val (.long ov1), .second, .val (.int ov2), .val (.int oj5), .unset] [(.int (own_cmp (own_lushr ov1 (14 : Int32)) (0 : Int64)))])) _
        refine XS.ifYes X6.here hx rfl (pc0 := 40) (pc' := 46) rfl (hb hby at_40) rfl hc10 (by decide) (by decide) ?_
        exact k
      have qj0 : oj11 = oj5 := Eq.trans d_oj11 (if_pos hc10)
      refine ⟨T6, _, X6, N6, e6, fun t k => pre13 _ ?_⟩
      rw [qj0] at k
      exact k
    · have pre14 : ∀ t, Steps p.tables e below (T6.setTop (mkF m 46 #[.val (.long x0), .second, .val (.int x1), .val (.int x2), .val (.int x3), .val (.long ov1), .second, .val (.int ov2), .val (.int (3 : Int32)), .unset] [])) t → Steps p.tables e below (s₁.setTop (entryFrame m #[(.long x0), (.int x1), (.int x2), (.int x3)] maxLocals)) t := by
        intro t k
        refine pre9 _ ?_
        show Steps p.tables e below (T6.setTop (mkF m 40 #[.val (.long x0), .second, .val (.int x1), .val (.int x2), .val (.int x3), .val (.long ov1), .second, .val (.int ov2), .val (.int oj5), .unset] [(.int (own_cmp (own_lushr ov1 (14 : Int32)) (0 : Int64)))])) _
        refine XS.ifNo X6.here hx rfl (hb hby at_40) rfl hc10 ?_
        show Steps p.tables e below (T6.setTop (mkF m 43 #[.val (.long x0), .second, .val (.int x1), .val (.int x2), .val (.int x3), .val (.long ov1), .second, .val (.int ov2), .val (.int oj5), .unset] [])) _
        refine XS.iconst X6.here hx rfl (hb hby at_43) ?_
        show Steps p.tables e below (T6.setTop (mkF m 44 #[.val (.long x0), .second, .val (.int x1), .val (.int x2), .val (.int x3), .val (.long ov1), .second, .val (.int ov2), .val (.int oj5), .unset] [(.int (3 : Int32))])) _
        refine XS.istore X6.here hx rfl (hb hby at_44) rfl (l' := #[.val (.long x0), .second, .val (.int x1), .val (.int x2), .val (.int x3), .val (.long ov1), .second, .val (.int ov2), .val (.int (3 : Int32)), .unset]) rfl ?_
        exact k
      have qj0 : oj11 = (3 : Int32) := Eq.trans d_oj11 (if_neg (own_nt hc10))
      refine ⟨T6, _, X6, N6, e6, fun t k => pre14 _ ?_⟩
      rw [qj0] at k
      exact k
  have pre15 : ∀ t, Steps p.tables e below (T12.setTop (mkF m 53 #[.val (.long x0), .second, .val (.int x1), .val (.int x2), .val (.int x3), .val (.long ov1), .second, .val (.int ov2), .val (.int oj11), .unset] [(.int (own_cmp (own_lushr ov1 (21 : Int32)) (0 : Int64)))])) t → Steps p.tables e below (s₁.setTop (entryFrame m #[(.long x0), (.int x1), (.int x2), (.int x3)] maxLocals)) t := by
    intro t k
    refine pre12 _ ?_
    show Steps p.tables e below (T12.setTop (mkF m 46 #[.val (.long x0), .second, .val (.int x1), .val (.int x2), .val (.int x3), .val (.long ov1), .second, .val (.int ov2), .val (.int oj11), .unset] [])) _
    refine XS.lload X12.here hx rfl (hb hby at_46) rfl ?_
    show Steps p.tables e below (T12.setTop (mkF m 48 #[.val (.long x0), .second, .val (.int x1), .val (.int x2), .val (.int x3), .val (.long ov1), .second, .val (.int ov2), .val (.int oj11), .unset] [(.long ov1)])) _
    refine XS.bipush X12.here hx rfl (hb hby at_48) ?_
    show Steps p.tables e below (T12.setTop (mkF m 50 #[.val (.long x0), .second, .val (.int x1), .val (.int x2), .val (.int x3), .val (.long ov1), .second, .val (.int ov2), .val (.int oj11), .unset] [(.int (21 : Int32)), (.long ov1)])) _
    refine own_xlushr X12.here hx rfl (hb hby at_50) rfl ?_
    show Steps p.tables e below (T12.setTop (mkF m 51 #[.val (.long x0), .second, .val (.int x1), .val (.int x2), .val (.int x3), .val (.long ov1), .second, .val (.int ov2), .val (.int oj11), .unset] [(.long (own_lushr ov1 (21 : Int32)))])) _
    refine XS.lconst X12.here hx rfl (hb hby at_51) ?_
    show Steps p.tables e below (T12.setTop (mkF m 52 #[.val (.long x0), .second, .val (.int x1), .val (.int x2), .val (.int x3), .val (.long ov1), .second, .val (.int ov2), .val (.int oj11), .unset] [(.long (0 : Int64)), (.long (own_lushr ov1 (21 : Int32)))])) _
    refine own_xlcmp X12.here hx rfl (hb hby at_52) rfl ?_
    exact k
  obtain ⟨T18, L18, X18, N18, e18, pre18⟩ : ∃ (T' : State) (L' : List Loc), Stand p l e room_1 s m #[(.long x0), (.int x1), (.int x2), (.int x3)] below meth c T' L' 0 0 ∧ Fr n0 L' ∧ T'.heap = h0 ∧ ∀ t, Steps p.tables e below (T'.setTop (mkF m 59 #[.val (.long x0), .second, .val (.int x1), .val (.int x2), .val (.int x3), .val (.long ov1), .second, .val (.int ov2), .val (.int oj17), .unset] [])) t → Steps p.tables e below (s₁.setTop (entryFrame m #[(.long x0), (.int x1), (.int x2), (.int x3)] maxLocals)) t := by
    rcases Bool.eq_false_or_eq_true (ifCond.holds .eq (own_cmp (own_lushr ov1 (21 : Int32)) (0 : Int64))) with hc16 | hc16
    · have pre19 : ∀ t, Steps p.tables e below (T12.setTop (mkF m 59 #[.val (.long x0), .second, .val (.int x1), .val (.int x2), .val (.int x3), .val (.long ov1), .second, .val (.int ov2), .val (.int oj11), .unset] [])) t → Steps p.tables e below (s₁.setTop (entryFrame m #[(.long x0), (.int x1), (.int x2), (.int x3)] maxLocals)) t := by
        intro t k
        refine pre15 _ ?_
        show Steps p.tables e below (T12.setTop (mkF m 53 #[.val (.long x0), .second, .val (.int x1), .val (.int x2), .val (.int x3), .val (.long ov1), .second, .val (.int ov2), .val (.int oj11), .unset] [(.int (own_cmp (own_lushr ov1 (21 : Int32)) (0 : Int64)))])) _
        refine XS.ifYes X12.here hx rfl (pc0 := 53) (pc' := 59) rfl (hb hby at_53) rfl hc16 (by decide) (by decide) ?_
        exact k
      have qj0 : oj17 = oj11 := Eq.trans d_oj17 (if_pos hc16)
      refine ⟨T12, _, X12, N12, e12, fun t k => pre19 _ ?_⟩
      rw [qj0] at k
      exact k
    · have pre20 : ∀ t, Steps p.tables e below (T12.setTop (mkF m 59 #[.val (.long x0), .second, .val (.int x1), .val (.int x2), .val (.int x3), .val (.long ov1), .second, .val (.int ov2), .val (.int (4 : Int32)), .unset] [])) t → Steps p.tables e below (s₁.setTop (entryFrame m #[(.long x0), (.int x1), (.int x2), (.int x3)] maxLocals)) t := by
        intro t k
        refine pre15 _ ?_
        show Steps p.tables e below (T12.setTop (mkF m 53 #[.val (.long x0), .second, .val (.int x1), .val (.int x2), .val (.int x3), .val (.long ov1), .second, .val (.int ov2), .val (.int oj11), .unset] [(.int (own_cmp (own_lushr ov1 (21 : Int32)) (0 : Int64)))])) _
        refine XS.ifNo X12.here hx rfl (hb hby at_53) rfl hc16 ?_
        show Steps p.tables e below (T12.setTop (mkF m 56 #[.val (.long x0), .second, .val (.int x1), .val (.int x2), .val (.int x3), .val (.long ov1), .second, .val (.int ov2), .val (.int oj11), .unset] [])) _
        refine XS.iconst X12.here hx rfl (hb hby at_56) ?_
        show Steps p.tables e below (T12.setTop (mkF m 57 #[.val (.long x0), .second, .val (.int x1), .val (.int x2), .val (.int x3), .val (.long ov1), .second, .val (.int ov2), .val (.int oj11), .unset] [(.int (4 : Int32))])) _
        refine XS.istore X12.here hx rfl (hb hby at_57) rfl (l' := #[.val (.long x0), .second, .val (.int x1), .val (.int x2), .val (.int x3), .val (.long ov1), .second, .val (.int ov2), .val (.int (4 : Int32)), .unset]) rfl ?_
        exact k
      have qj0 : oj17 = (4 : Int32) := Eq.trans d_oj17 (if_neg (own_nt hc16))
      refine ⟨T12, _, X12, N12, e12, fun t k => pre20 _ ?_⟩
      rw [qj0] at k
      exact k
  have pre21 : ∀ t, Steps p.tables e below (T18.setTop (mkF m 66 #[.val (.long x0), .second, .val (.int x1), .val (.int x2), .val (.int x3), .val (.long ov1), .second, .val (.int ov2), .val (.int oj17), .unset] [(.int (own_cmp (own_lushr ov1 (28 : Int32)) (0 : Int64)))])) t → Steps p.tables e below (s₁.setTop (entryFrame m #[(.long x0), (.int x1), (.int x2), (.int x3)] maxLocals)) t := by
    intro t k
    refine pre18 _ ?_
    show Steps p.tables e below (T18.setTop (mkF m 59 #[.val (.long x0), .second, .val (.int x1), .val (.int x2), .val (.int x3), .val (.long ov1), .second, .val (.int ov2), .val (.int oj17), .unset] [])) _
    refine XS.lload X18.here hx rfl (hb hby at_59) rfl ?_
    show Steps p.tables e below (T18.setTop (mkF m 61 #[.val (.long x0), .second, .val (.int x1), .val (.int x2), .val (.int x3), .val (.long ov1), .second, .val (.int ov2), .val (.int oj17), .unset] [(.long ov1)])) _
    refine XS.bipush X18.here hx rfl (hb hby at_61) ?_
    show Steps p.tables e below (T18.setTop (mkF m 63 #[.val (.long x0), .second, .val (.int x1), .val (.int x2), .val (.int x3), .val (.long ov1), .second, .val (.int ov2), .val (.int oj17), .unset] [(.int (28 : Int32)), (.long ov1)])) _
    refine own_xlushr X18.here hx rfl (hb hby at_63) rfl ?_
    show Steps p.tables e below (T18.setTop (mkF m 64 #[.val (.long x0), .second, .val (.int x1), .val (.int x2), .val (.int x3), .val (.long ov1), .second, .val (.int ov2), .val (.int oj17), .unset] [(.long (own_lushr ov1 (28 : Int32)))])) _
    refine XS.lconst X18.here hx rfl (hb hby at_64) ?_
    show Steps p.tables e below (T18.setTop (mkF m 65 #[.val (.long x0), .second, .val (.int x1), .val (.int x2), .val (.int x3), .val (.long ov1), .second, .val (.int ov2), .val (.int oj17), .unset] [(.long (0 : Int64)), (.long (own_lushr ov1 (28 : Int32)))])) _
    refine own_xlcmp X18.here hx rfl (hb hby at_65) rfl ?_
    exact k
  obtain ⟨T24, L24, X24, N24, e24, pre24⟩ : ∃ (T' : State) (L' : List Loc), Stand p l e room_1 s m #[(.long x0), (.int x1), (.int x2), (.int x3)] below meth c T' L' 0 0 ∧ Fr n0 L' ∧ T'.heap = h0 ∧ ∀ t, Steps p.tables e below (T'.setTop (mkF m 72 #[.val (.long x0), .second, .val (.int x1), .val (.int x2), .val (.int x3), .val (.long ov1), .second, .val (.int ov2), .val (.int oj23), .unset] [])) t → Steps p.tables e below (s₁.setTop (entryFrame m #[(.long x0), (.int x1), (.int x2), (.int x3)] maxLocals)) t := by
    rcases Bool.eq_false_or_eq_true (ifCond.holds .eq (own_cmp (own_lushr ov1 (28 : Int32)) (0 : Int64))) with hc22 | hc22
    · have pre25 : ∀ t, Steps p.tables e below (T18.setTop (mkF m 72 #[.val (.long x0), .second, .val (.int x1), .val (.int x2), .val (.int x3), .val (.long ov1), .second, .val (.int ov2), .val (.int oj17), .unset] [])) t → Steps p.tables e below (s₁.setTop (entryFrame m #[(.long x0), (.int x1), (.int x2), (.int x3)] maxLocals)) t := by
        intro t k
        refine pre21 _ ?_
        show Steps p.tables e below (T18.setTop (mkF m 66 #[.val (.long x0), .second, .val (.int x1), .val (.int x2), .val (.int x3), .val (.long ov1), .second, .val (.int ov2), .val (.int oj17), .unset] [(.int (own_cmp (own_lushr ov1 (28 : Int32)) (0 : Int64)))])) _
        refine XS.ifYes X18.here hx rfl (pc0 := 66) (pc' := 72) rfl (hb hby at_66) rfl hc22 (by decide) (by decide) ?_
        exact k
      have qj0 : oj23 = oj17 := Eq.trans d_oj23 (if_pos hc22)
      refine ⟨T18, _, X18, N18, e18, fun t k => pre25 _ ?_⟩
      rw [qj0] at k
      exact k
    · have pre26 : ∀ t, Steps p.tables e below (T18.setTop (mkF m 72 #[.val (.long x0), .second, .val (.int x1), .val (.int x2), .val (.int x3), .val (.long ov1), .second, .val (.int ov2), .val (.int (5 : Int32)), .unset] [])) t → Steps p.tables e below (s₁.setTop (entryFrame m #[(.long x0), (.int x1), (.int x2), (.int x3)] maxLocals)) t := by
        intro t k
        refine pre21 _ ?_
        show Steps p.tables e below (T18.setTop (mkF m 66 #[.val (.long x0), .second, .val (.int x1), .val (.int x2), .val (.int x3), .val (.long ov1), .second, .val (.int ov2), .val (.int oj17), .unset] [(.int (own_cmp (own_lushr ov1 (28 : Int32)) (0 : Int64)))])) _
        refine XS.ifNo X18.here hx rfl (hb hby at_66) rfl hc22 ?_
        show Steps p.tables e below (T18.setTop (mkF m 69 #[.val (.long x0), .second, .val (.int x1), .val (.int x2), .val (.int x3), .val (.long ov1), .second, .val (.int ov2), .val (.int oj17), .unset] [])) _
        refine XS.iconst X18.here hx rfl (hb hby at_69) ?_
        show Steps p.tables e below (T18.setTop (mkF m 70 #[.val (.long x0), .second, .val (.int x1), .val (.int x2), .val (.int x3), .val (.long ov1), .second, .val (.int ov2), .val (.int oj17), .unset] [(.int (5 : Int32))])) _
        refine XS.istore X18.here hx rfl (hb hby at_70) rfl (l' := #[.val (.long x0), .second, .val (.int x1), .val (.int x2), .val (.int x3), .val (.long ov1), .second, .val (.int ov2), .val (.int (5 : Int32)), .unset]) rfl ?_
        exact k
      have qj0 : oj23 = (5 : Int32) := Eq.trans d_oj23 (if_neg (own_nt hc22))
      refine ⟨T18, _, X18, N18, e18, fun t k => pre26 _ ?_⟩
      rw [qj0] at k
      exact k
  have pre27 : ∀ t, Steps p.tables e below (T24.setTop (mkF m 79 #[.val (.long x0), .second, .val (.int x1), .val (.int x2), .val (.int x3), .val (.long ov1), .second, .val (.int ov2), .val (.int oj23), .unset] [(.int (own_cmp (own_lushr ov1 (35 : Int32)) (0 : Int64)))])) t → Steps p.tables e below (s₁.setTop (entryFrame m #[(.long x0), (.int x1), (.int x2), (.int x3)] maxLocals)) t := by
    intro t k
    refine pre24 _ ?_
    show Steps p.tables e below (T24.setTop (mkF m 72 #[.val (.long x0), .second, .val (.int x1), .val (.int x2), .val (.int x3), .val (.long ov1), .second, .val (.int ov2), .val (.int oj23), .unset] [])) _
    refine XS.lload X24.here hx rfl (hb hby at_72) rfl ?_
    show Steps p.tables e below (T24.setTop (mkF m 74 #[.val (.long x0), .second, .val (.int x1), .val (.int x2), .val (.int x3), .val (.long ov1), .second, .val (.int ov2), .val (.int oj23), .unset] [(.long ov1)])) _
    refine XS.bipush X24.here hx rfl (hb hby at_74) ?_
    show Steps p.tables e below (T24.setTop (mkF m 76 #[.val (.long x0), .second, .val (.int x1), .val (.int x2), .val (.int x3), .val (.long ov1), .second, .val (.int ov2), .val (.int oj23), .unset] [(.int (35 : Int32)), (.long ov1)])) _
    refine own_xlushr X24.here hx rfl (hb hby at_76) rfl ?_
    show Steps p.tables e below (T24.setTop (mkF m 77 #[.val (.long x0), .second, .val (.int x1), .val (.int x2), .val (.int x3), .val (.long ov1), .second, .val (.int ov2), .val (.int oj23), .unset] [(.long (own_lushr ov1 (35 : Int32)))])) _
    refine XS.lconst X24.here hx rfl (hb hby at_77) ?_
    show Steps p.tables e below (T24.setTop (mkF m 78 #[.val (.long x0), .second, .val (.int x1), .val (.int x2), .val (.int x3), .val (.long ov1), .second, .val (.int ov2), .val (.int oj23), .unset] [(.long (0 : Int64)), (.long (own_lushr ov1 (35 : Int32)))])) _
    refine own_xlcmp X24.here hx rfl (hb hby at_78) rfl ?_
    exact k
  obtain ⟨T30, L30, X30, N30, e30, pre30⟩ : ∃ (T' : State) (L' : List Loc), Stand p l e room_1 s m #[(.long x0), (.int x1), (.int x2), (.int x3)] below meth c T' L' 0 0 ∧ Fr n0 L' ∧ T'.heap = h0 ∧ ∀ t, Steps p.tables e below (T'.setTop (mkF m 86 #[.val (.long x0), .second, .val (.int x1), .val (.int x2), .val (.int x3), .val (.long ov1), .second, .val (.int ov2), .val (.int oj29), .unset] [])) t → Steps p.tables e below (s₁.setTop (entryFrame m #[(.long x0), (.int x1), (.int x2), (.int x3)] maxLocals)) t := by
    rcases Bool.eq_false_or_eq_true (ifCond.holds .eq (own_cmp (own_lushr ov1 (35 : Int32)) (0 : Int64))) with hc28 | hc28
    · have pre31 : ∀ t, Steps p.tables e below (T24.setTop (mkF m 86 #[.val (.long x0), .second, .val (.int x1), .val (.int x2), .val (.int x3), .val (.long ov1), .second, .val (.int ov2), .val (.int oj23), .unset] [])) t → Steps p.tables e below (s₁.setTop (entryFrame m #[(.long x0), (.int x1), (.int x2), (.int x3)] maxLocals)) t := by
        intro t k
        refine pre27 _ ?_
        show Steps p.tables e below (T24.setTop (mkF m 79 #[.val (.long x0), .second, .val (.int x1), .val (.int x2), .val (.int x3), .val (.long ov1), .second, .val (.int ov2), .val (.int oj23), .unset] [(.int (own_cmp (own_lushr ov1 (35 : Int32)) (0 : Int64)))])) _
        refine XS.ifYes X24.here hx rfl (pc0 := 79) (pc' := 86) rfl (hb hby at_79) rfl hc28 (by decide) (by decide) ?_
        exact k
      have qj0 : oj29 = oj23 := Eq.trans d_oj29 (if_pos hc28)
      refine ⟨T24, _, X24, N24, e24, fun t k => pre31 _ ?_⟩
      rw [qj0] at k
      exact k
    · have pre32 : ∀ t, Steps p.tables e below (T24.setTop (mkF m 86 #[.val (.long x0), .second, .val (.int x1), .val (.int x2), .val (.int x3), .val (.long ov1), .second, .val (.int ov2), .val (.int (6 : Int32)), .unset] [])) t → Steps p.tables e below (s₁.setTop (entryFrame m #[(.long x0), (.int x1), (.int x2), (.int x3)] maxLocals)) t := by
        intro t k
        refine pre27 _ ?_
        show Steps p.tables e below (T24.setTop (mkF m 79 #[.val (.long x0), .second, .val (.int x1), .val (.int x2), .val (.int x3), .val (.long ov1), .second, .val (.int ov2), .val (.int oj23), .unset] [(.int (own_cmp (own_lushr ov1 (35 : Int32)) (0 : Int64)))])) _
        refine XS.ifNo X24.here hx rfl (hb hby at_79) rfl hc28 ?_
        show Steps p.tables e below (T24.setTop (mkF m 82 #[.val (.long x0), .second, .val (.int x1), .val (.int x2), .val (.int x3), .val (.long ov1), .second, .val (.int ov2), .val (.int oj23), .unset] [])) _
        refine XS.bipush X24.here hx rfl (hb hby at_82) ?_
        show Steps p.tables e below (T24.setTop (mkF m 84 #[.val (.long x0), .second, .val (.int x1), .val (.int x2), .val (.int x3), .val (.long ov1), .second, .val (.int ov2), .val (.int oj23), .unset] [(.int (6 : Int32))])) _
        refine XS.istore X24.here hx rfl (hb hby at_84) rfl (l' := #[.val (.long x0), .second, .val (.int x1), .val (.int x2), .val (.int x3), .val (.long ov1), .second, .val (.int ov2), .val (.int (6 : Int32)), .unset]) rfl ?_
        exact k
      have qj0 : oj29 = (6 : Int32) := Eq.trans d_oj29 (if_neg (own_nt hc28))
      refine ⟨T24, _, X24, N24, e24, fun t k => pre32 _ ?_⟩
      rw [qj0] at k
      exact k
  have pre33 : ∀ t, Steps p.tables e below (T30.setTop (mkF m 93 #[.val (.long x0), .second, .val (.int x1), .val (.int x2), .val (.int x3), .val (.long ov1), .second, .val (.int ov2), .val (.int oj29), .unset] [(.int (own_cmp (own_lushr ov1 (42 : Int32)) (0 : Int64)))])) t → Steps p.tables e below (s₁.setTop (entryFrame m #[(.long x0), (.int x1), (.int x2), (.int x3)] maxLocals)) t := by
    intro t k
    refine pre30 _ ?_
    show Steps p.tables e below (T30.setTop (mkF m 86 #[.val (.long x0), .second, .val (.int x1), .val (.int x2), .val (.int x3), .val (.long ov1), .second, .val (.int ov2), .val (.int oj29), .unset] [])) _
    refine XS.lload X30.here hx rfl (hb hby at_86) rfl ?_
    show Steps p.tables e below (T30.setTop (mkF m 88 #[.val (.long x0), .second, .val (.int x1), .val (.int x2), .val (.int x3), .val (.long ov1), .second, .val (.int ov2), .val (.int oj29), .unset] [(.long ov1)])) _
    refine XS.bipush X30.here hx rfl (hb hby at_88) ?_
    show Steps p.tables e below (T30.setTop (mkF m 90 #[.val (.long x0), .second, .val (.int x1), .val (.int x2), .val (.int x3), .val (.long ov1), .second, .val (.int ov2), .val (.int oj29), .unset] [(.int (42 : Int32)), (.long ov1)])) _
    refine own_xlushr X30.here hx rfl (hb hby at_90) rfl ?_
    show Steps p.tables e below (T30.setTop (mkF m 91 #[.val (.long x0), .second, .val (.int x1), .val (.int x2), .val (.int x3), .val (.long ov1), .second, .val (.int ov2), .val (.int oj29), .unset] [(.long (own_lushr ov1 (42 : Int32)))])) _
    refine XS.lconst X30.here hx rfl (hb hby at_91) ?_
    show Steps p.tables e below (T30.setTop (mkF m 92 #[.val (.long x0), .second, .val (.int x1), .val (.int x2), .val (.int x3), .val (.long ov1), .second, .val (.int ov2), .val (.int oj29), .unset] [(.long (0 : Int64)), (.long (own_lushr ov1 (42 : Int32)))])) _
    refine own_xlcmp X30.here hx rfl (hb hby at_92) rfl ?_
    exact k
  obtain ⟨T36, L36, X36, N36, e36, pre36⟩ : ∃ (T' : State) (L' : List Loc), Stand p l e room_1 s m #[(.long x0), (.int x1), (.int x2), (.int x3)] below meth c T' L' 0 0 ∧ Fr n0 L' ∧ T'.heap = h0 ∧ ∀ t, Steps p.tables e below (T'.setTop (mkF m 100 #[.val (.long x0), .second, .val (.int x1), .val (.int x2), .val (.int x3), .val (.long ov1), .second, .val (.int ov2), .val (.int oj35), .unset] [])) t → Steps p.tables e below (s₁.setTop (entryFrame m #[(.long x0), (.int x1), (.int x2), (.int x3)] maxLocals)) t := by
    rcases Bool.eq_false_or_eq_true (ifCond.holds .eq (own_cmp (own_lushr ov1 (42 : Int32)) (0 : Int64))) with hc34 | hc34
    · have pre37 : ∀ t, Steps p.tables e below (T30.setTop (mkF m 100 #[.val (.long x0), .second, .val (.int x1), .val (.int x2), .val (.int x3), .val (.long ov1), .second, .val (.int ov2), .val (.int oj29), .unset] [])) t → Steps p.tables e below (s₁.setTop (entryFrame m #[(.long x0), (.int x1), (.int x2), (.int x3)] maxLocals)) t := by
        intro t k
        refine pre33 _ ?_
        show Steps p.tables e below (T30.setTop (mkF m 93 #[.val (.long x0), .second, .val (.int x1), .val (.int x2), .val (.int x3), .val (.long ov1), .second, .val (.int ov2), .val (.int oj29), .unset] [(.int (own_cmp (own_lushr ov1 (42 : Int32)) (0 : Int64)))])) _
        refine XS.ifYes X30.here hx rfl (pc0 := 93) (pc' := 100) rfl (hb hby at_93) rfl hc34 (by decide) (by decide) ?_
        exact k
      have qj0 : oj35 = oj29 := Eq.trans d_oj35 (if_pos hc34)
      refine ⟨T30, _, X30, N30, e30, fun t k => pre37 _ ?_⟩
      rw [qj0] at k
      exact k
    · have pre38 : ∀ t, Steps p.tables e below (T30.setTop (mkF m 100 #[.val (.long x0), .second, .val (.int x1), .val (.int x2), .val (.int x3), .val (.long ov1), .second, .val (.int ov2), .val (.int (7 : Int32)), .unset] [])) t → Steps p.tables e below (s₁.setTop (entryFrame m #[(.long x0), (.int x1), (.int x2), (.int x3)] maxLocals)) t := by
        intro t k
        refine pre33 _ ?_
        show Steps p.tables e below (T30.setTop (mkF m 93 #[.val (.long x0), .second, .val (.int x1), .val (.int x2), .val (.int x3), .val (.long ov1), .second, .val (.int ov2), .val (.int oj29), .unset] [(.int (own_cmp (own_lushr ov1 (42 : Int32)) (0 : Int64)))])) _
        refine XS.ifNo X30.here hx rfl (hb hby at_93) rfl hc34 ?_
        show Steps p.tables e below (T30.setTop (mkF m 96 #[.val (.long x0), .second, .val (.int x1), .val (.int x2), .val (.int x3), .val (.long ov1), .second, .val (.int ov2), .val (.int oj29), .unset] [])) _
        refine XS.bipush X30.here hx rfl (hb hby at_96) ?_
        show Steps p.tables e below (T30.setTop (mkF m 98 #[.val (.long x0), .second, .val (.int x1), .val (.int x2), .val (.int x3), .val (.long ov1), .second, .val (.int ov2), .val (.int oj29), .unset] [(.int (7 : Int32))])) _
        refine XS.istore X30.here hx rfl (hb hby at_98) rfl (l' := #[.val (.long x0), .second, .val (.int x1), .val (.int x2), .val (.int x3), .val (.long ov1), .second, .val (.int ov2), .val (.int (7 : Int32)), .unset]) rfl ?_
        exact k
      have qj0 : oj35 = (7 : Int32) := Eq.trans d_oj35 (if_neg (own_nt hc34))
      refine ⟨T30, _, X30, N30, e30, fun t k => pre38 _ ?_⟩
      rw [qj0] at k
      exact k
  have pre39 : ∀ t, Steps p.tables e below (T36.setTop (mkF m 107 #[.val (.long x0), .second, .val (.int x1), .val (.int x2), .val (.int x3), .val (.long ov1), .second, .val (.int ov2), .val (.int oj35), .unset] [(.int (own_cmp (own_lushr ov1 (49 : Int32)) (0 : Int64)))])) t → Steps p.tables e below (s₁.setTop (entryFrame m #[(.long x0), (.int x1), (.int x2), (.int x3)] maxLocals)) t := by
    intro t k
    refine pre36 _ ?_
    show Steps p.tables e below (T36.setTop (mkF m 100 #[.val (.long x0), .second, .val (.int x1), .val (.int x2), .val (.int x3), .val (.long ov1), .second, .val (.int ov2), .val (.int oj35), .unset] [])) _
    refine XS.lload X36.here hx rfl (hb hby at_100) rfl ?_
    show Steps p.tables e below (T36.setTop (mkF m 102 #[.val (.long x0), .second, .val (.int x1), .val (.int x2), .val (.int x3), .val (.long ov1), .second, .val (.int ov2), .val (.int oj35), .unset] [(.long ov1)])) _
    refine XS.bipush X36.here hx rfl (hb hby at_102) ?_
    show Steps p.tables e below (T36.setTop (mkF m 104 #[.val (.long x0), .second, .val (.int x1), .val (.int x2), .val (.int x3), .val (.long ov1), .second, .val (.int ov2), .val (.int oj35), .unset] [(.int (49 : Int32)), (.long ov1)])) _
    refine own_xlushr X36.here hx rfl (hb hby at_104) rfl ?_
    show Steps p.tables e below (T36.setTop (mkF m 105 #[.val (.long x0), .second, .val (.int x1), .val (.int x2), .val (.int x3), .val (.long ov1), .second, .val (.int ov2), .val (.int oj35), .unset] [(.long (own_lushr ov1 (49 : Int32)))])) _
    refine XS.lconst X36.here hx rfl (hb hby at_105) ?_
    show Steps p.tables e below (T36.setTop (mkF m 106 #[.val (.long x0), .second, .val (.int x1), .val (.int x2), .val (.int x3), .val (.long ov1), .second, .val (.int ov2), .val (.int oj35), .unset] [(.long (0 : Int64)), (.long (own_lushr ov1 (49 : Int32)))])) _
    refine own_xlcmp X36.here hx rfl (hb hby at_106) rfl ?_
    exact k
  obtain ⟨T42, L42, X42, N42, e42, pre42⟩ : ∃ (T' : State) (L' : List Loc), Stand p l e room_1 s m #[(.long x0), (.int x1), (.int x2), (.int x3)] below meth c T' L' 0 0 ∧ Fr n0 L' ∧ T'.heap = h0 ∧ ∀ t, Steps p.tables e below (T'.setTop (mkF m 114 #[.val (.long x0), .second, .val (.int x1), .val (.int x2), .val (.int x3), .val (.long ov1), .second, .val (.int ov2), .val (.int oj41), .unset] [])) t → Steps p.tables e below (s₁.setTop (entryFrame m #[(.long x0), (.int x1), (.int x2), (.int x3)] maxLocals)) t := by
    rcases Bool.eq_false_or_eq_true (ifCond.holds .eq (own_cmp (own_lushr ov1 (49 : Int32)) (0 : Int64))) with hc40 | hc40
    · have pre43 : ∀ t, Steps p.tables e below (T36.setTop (mkF m 114 #[.val (.long x0), .second, .val (.int x1), .val (.int x2), .val (.int x3), .val (.long ov1), .second, .val (.int ov2), .val (.int oj35), .unset] [])) t → Steps p.tables e below (s₁.setTop (entryFrame m #[(.long x0), (.int x1), (.int x2), (.int x3)] maxLocals)) t := by
        intro t k
        refine pre39 _ ?_
        show Steps p.tables e below (T36.setTop (mkF m 107 #[.val (.long x0), .second, .val (.int x1), .val (.int x2), .val (.int x3), .val (.long ov1), .second, .val (.int ov2), .val (.int oj35), .unset] [(.int (own_cmp (own_lushr ov1 (49 : Int32)) (0 : Int64)))])) _
        refine XS.ifYes X36.here hx rfl (pc0 := 107) (pc' := 114) rfl (hb hby at_107) rfl hc40 (by decide) (by decide) ?_
        exact k
      have qj0 : oj41 = oj35 := Eq.trans d_oj41 (if_pos hc40)
      refine ⟨T36, _, X36, N36, e36, fun t k => pre43 _ ?_⟩
      rw [qj0] at k
      exact k
    · have pre44 : ∀ t, Steps p.tables e below (T36.setTop (mkF m 114 #[.val (.long x0), .second, .val (.int x1), .val (.int x2), .val (.int x3), .val (.long ov1), .second, .val (.int ov2), .val (.int (8 : Int32)), .unset] [])) t → Steps p.tables e below (s₁.setTop (entryFrame m #[(.long x0), (.int x1), (.int x2), (.int x3)] maxLocals)) t := by
        intro t k
        refine pre39 _ ?_
        show Steps p.tables e below (T36.setTop (mkF m 107 #[.val (.long x0), .second, .val (.int x1), .val (.int x2), .val (.int x3), .val (.long ov1), .second, .val (.int ov2), .val (.int oj35), .unset] [(.int (own_cmp (own_lushr ov1 (49 : Int32)) (0 : Int64)))])) _
        refine XS.ifNo X36.here hx rfl (hb hby at_107) rfl hc40 ?_
        show Steps p.tables e below (T36.setTop (mkF m 110 #[.val (.long x0), .second, .val (.int x1), .val (.int x2), .val (.int x3), .val (.long ov1), .second, .val (.int ov2), .val (.int oj35), .unset] [])) _
        refine XS.bipush X36.here hx rfl (hb hby at_110) ?_
        show Steps p.tables e below (T36.setTop (mkF m 112 #[.val (.long x0), .second, .val (.int x1), .val (.int x2), .val (.int x3), .val (.long ov1), .second, .val (.int ov2), .val (.int oj35), .unset] [(.int (8 : Int32))])) _
        refine XS.istore X36.here hx rfl (hb hby at_112) rfl (l' := #[.val (.long x0), .second, .val (.int x1), .val (.int x2), .val (.int x3), .val (.long ov1), .second, .val (.int ov2), .val (.int (8 : Int32)), .unset]) rfl ?_
        exact k
      have qj0 : oj41 = (8 : Int32) := Eq.trans d_oj41 (if_neg (own_nt hc40))
      refine ⟨T36, _, X36, N36, e36, fun t k => pre44 _ ?_⟩
      rw [qj0] at k
      exact k
  have pre45 : ∀ t, Steps p.tables e below (T42.setTop (mkF m 121 #[.val (.long x0), .second, .val (.int x1), .val (.int x2), .val (.int x3), .val (.long ov1), .second, .val (.int ov2), .val (.int oj41), .unset] [(.int (own_cmp (own_lushr ov1 (56 : Int32)) (0 : Int64)))])) t → Steps p.tables e below (s₁.setTop (entryFrame m #[(.long x0), (.int x1), (.int x2), (.int x3)] maxLocals)) t := by
    intro t k
    refine pre42 _ ?_
    show Steps p.tables e below (T42.setTop (mkF m 114 #[.val (.long x0), .second, .val (.int x1), .val (.int x2), .val (.int x3), .val (.long ov1), .second, .val (.int ov2), .val (.int oj41), .unset] [])) _
    refine XS.lload X42.here hx rfl (hb hby at_114) rfl ?_
    show Steps p.tables e below (T42.setTop (mkF m 116 #[.val (.long x0), .second, .val (.int x1), .val (.int x2), .val (.int x3), .val (.long ov1), .second, .val (.int ov2), .val (.int oj41), .unset] [(.long ov1)])) _
    refine XS.bipush X42.here hx rfl (hb hby at_116) ?_
    show Steps p.tables e below (T42.setTop (mkF m 118 #[.val (.long x0), .second, .val (.int x1), .val (.int x2), .val (.int x3), .val (.long ov1), .second, .val (.int ov2), .val (.int oj41), .unset] [(.int (56 : Int32)), (.long ov1)])) _
    refine own_xlushr X42.here hx rfl (hb hby at_118) rfl ?_
    show Steps p.tables e below (T42.setTop (mkF m 119 #[.val (.long x0), .second, .val (.int x1), .val (.int x2), .val (.int x3), .val (.long ov1), .second, .val (.int ov2), .val (.int oj41), .unset] [(.long (own_lushr ov1 (56 : Int32)))])) _
    refine XS.lconst X42.here hx rfl (hb hby at_119) ?_
    show Steps p.tables e below (T42.setTop (mkF m 120 #[.val (.long x0), .second, .val (.int x1), .val (.int x2), .val (.int x3), .val (.long ov1), .second, .val (.int ov2), .val (.int oj41), .unset] [(.long (0 : Int64)), (.long (own_lushr ov1 (56 : Int32)))])) _
    refine own_xlcmp X42.here hx rfl (hb hby at_120) rfl ?_
    exact k
  obtain ⟨T48, L48, X48, N48, e48, pre48⟩ : ∃ (T' : State) (L' : List Loc), Stand p l e room_1 s m #[(.long x0), (.int x1), (.int x2), (.int x3)] below meth c T' L' 0 0 ∧ Fr n0 L' ∧ T'.heap = h0 ∧ ∀ t, Steps p.tables e below (T'.setTop (mkF m 128 #[.val (.long x0), .second, .val (.int x1), .val (.int x2), .val (.int x3), .val (.long ov1), .second, .val (.int ov2), .val (.int oj47), .unset] [])) t → Steps p.tables e below (s₁.setTop (entryFrame m #[(.long x0), (.int x1), (.int x2), (.int x3)] maxLocals)) t := by
    rcases Bool.eq_false_or_eq_true (ifCond.holds .eq (own_cmp (own_lushr ov1 (56 : Int32)) (0 : Int64))) with hc46 | hc46
    · have pre49 : ∀ t, Steps p.tables e below (T42.setTop (mkF m 128 #[.val (.long x0), .second, .val (.int x1), .val (.int x2), .val (.int x3), .val (.long ov1), .second, .val (.int ov2), .val (.int oj41), .unset] [])) t → Steps p.tables e below (s₁.setTop (entryFrame m #[(.long x0), (.int x1), (.int x2), (.int x3)] maxLocals)) t := by
        intro t k
        refine pre45 _ ?_
        show Steps p.tables e below (T42.setTop (mkF m 121 #[.val (.long x0), .second, .val (.int x1), .val (.int x2), .val (.int x3), .val (.long ov1), .second, .val (.int ov2), .val (.int oj41), .unset] [(.int (own_cmp (own_lushr ov1 (56 : Int32)) (0 : Int64)))])) _
        refine XS.ifYes X42.here hx rfl (pc0 := 121) (pc' := 128) rfl (hb hby at_121) rfl hc46 (by decide) (by decide) ?_
        exact k
      have qj0 : oj47 = oj41 := Eq.trans d_oj47 (if_pos hc46)
      refine ⟨T42, _, X42, N42, e42, fun t k => pre49 _ ?_⟩
      rw [qj0] at k
      exact k
    · have pre50 : ∀ t, Steps p.tables e below (T42.setTop (mkF m 128 #[.val (.long x0), .second, .val (.int x1), .val (.int x2), .val (.int x3), .val (.long ov1), .second, .val (.int ov2), .val (.int (9 : Int32)), .unset] [])) t → Steps p.tables e below (s₁.setTop (entryFrame m #[(.long x0), (.int x1), (.int x2), (.int x3)] maxLocals)) t := by
        intro t k
        refine pre45 _ ?_
        show Steps p.tables e below (T42.setTop (mkF m 121 #[.val (.long x0), .second, .val (.int x1), .val (.int x2), .val (.int x3), .val (.long ov1), .second, .val (.int ov2), .val (.int oj41), .unset] [(.int (own_cmp (own_lushr ov1 (56 : Int32)) (0 : Int64)))])) _
        refine XS.ifNo X42.here hx rfl (hb hby at_121) rfl hc46 ?_
        show Steps p.tables e below (T42.setTop (mkF m 124 #[.val (.long x0), .second, .val (.int x1), .val (.int x2), .val (.int x3), .val (.long ov1), .second, .val (.int ov2), .val (.int oj41), .unset] [])) _
        refine XS.bipush X42.here hx rfl (hb hby at_124) ?_
        show Steps p.tables e below (T42.setTop (mkF m 126 #[.val (.long x0), .second, .val (.int x1), .val (.int x2), .val (.int x3), .val (.long ov1), .second, .val (.int ov2), .val (.int oj41), .unset] [(.int (9 : Int32))])) _
        refine XS.istore X42.here hx rfl (hb hby at_126) rfl (l' := #[.val (.long x0), .second, .val (.int x1), .val (.int x2), .val (.int x3), .val (.long ov1), .second, .val (.int ov2), .val (.int (9 : Int32)), .unset]) rfl ?_
        exact k
      have qj0 : oj47 = (9 : Int32) := Eq.trans d_oj47 (if_neg (own_nt hc46))
      refine ⟨T42, _, X42, N42, e42, fun t k => pre50 _ ?_⟩
      rw [qj0] at k
      exact k
  obtain ⟨T51, h51, k51, X51, e51, E51, A51, st51⟩ := newP X48 hx hZ (hw _ (List.mem_of_getElem? (i := 1) rfl)) e48 (g := (mkF m 130 #[.val (.long x0), .second, .val (.int x1), .val (.int x2), .val (.int x3), .val (.long ov1), .second, .val (.int ov2), .val (.int oj47), .unset] [(.int (12 : Int32))])) rfl (hb hby at_130) rfl (by decide) (cap := 12) (by decide) (by decide) (by decide) (by decide)
  obtain ⟨b51, gg51⟩ : ∃ z, z = h0.size := ⟨_, rfl⟩
  rw [← gg51] at A51 st51
  have g_b51 : n0 ≤ b51 := Nat.le_trans Z0 (Nat.le_of_eq gg51.symm)
  have Z51 : n0 ≤ h51.size := Nat.le_trans Z0 E51.1
  have V51 : own_Arr Z h51 b51 12 (fun _ => 0) := own_Arr.new A51 rfl
  obtain ⟨_, _, ⟨T52, L52, k52, n52⟩, -, X52, ⟨Lc52, hQ52, l52, y52, z52⟩, st52⟩ := Jvm.LawKit.callS X51 hx (y := (⟨"com/example/keyward/keyward/codecs/VarintReadPinLaw", "jb", "(II)B"⟩ : MethodName)) hown (mvT hZ (hw _ (List.mem_of_getElem? (i := 2) rfl))) (mvT hZ (hw _ (List.mem_of_getElem? (i := 3) rfl))) (mvT hZ (hw _ (List.mem_of_getElem? (i := 4) rfl))) (mvT hZ (hw _ (List.mem_of_getElem? (i := 5) rfl))) (by decide) (backOf (W := 2) (rm1 l Z a0 hw [] x3 (0 : Int32) h51 n0 Z51) hZ (hw _ (List.mem_of_getElem? (i := 5) rfl)) (hw _ (List.mem_of_getElem? (i := 4) rfl)) (by decide) (by decide)) (g := (mkF m 140 #[.val (.long x0), .second, .val (.int x1), .val (.int x2), .val (.int x3), .val (.long ov1), .second, .val (.int ov2), .val (.int oj47), .val (.ref b51)] [(.int (0 : Int32)), (.int x3), (.int (0 : Int32)), (.ref b51)])) rfl (by rw [hml]; rfl) (argsL := [(.int x3), (.int (0 : Int32))]) (rest := [(.int (0 : Int32)), (.ref b51)]) (lenOf pd_0 rfl) rfl (by show 2 * 0 + _ ≤ _; exact Nat.le_of_eq rfl) (hb hby at_140) (fun _ _ => ⟨rfl, e51, (by decide : 1 + 0 ≤ _), (by decide : 12 + 0 ≤ _)⟩)
  dsimp only [Pt.U, Pt.locs, Pt.cells, Pt.slots] at X52 l52 y52 z52 st52 hQ52
  subst y52 z52
  obtain ⟨rfl, Nq52, e52⟩ := hQ52
  have N52 : Fr n0 L52 := by rw [l52]; exact Fr.app N48 Nq52
  have Vc53 := V51
  obtain ⟨cl53, Ar53, S53, H53⟩ := Vc53
  have hin53 : 0 ≤ ((0 : Int32)).toInt ∧ ((0 : Int32)).toInt < (12 : Nat) := (by decide)
  obtain ⟨T53, h53, X53, e53, W53, st53⟩ := stB X52 hx hZ e52 Ar53 (j := (0 : Int32)) (own_inb S53 hin53) (g := (mkF m 143 #[.val (.long x0), .second, .val (.int x1), .val (.int x2), .val (.int x3), .val (.long ov1), .second, .val (.int ov2), .val (.int oj47), .val (.ref b51)] [(.int (f1 x3 (0 : Int32))), (.int (0 : Int32)), (.ref b51)])) rfl rfl (hb hby at_143)
  have N53 := Fr.snoc X53 N52 g_b51
  have Z53 : n0 ≤ h53.size := Nat.le_trans Z51 (Keep.of_wr W53).1
  have P55 : own_Arr Z h53 b51 12 oa54 := by rw [d_oa54]; exact own_Arr.set Ar53 S53 H53 W53
  have prx2 : ∀ t, Steps p.tables e below (T53.setTop (mkF m 149 #[.val (.long x0), .second, .val (.int x1), .val (.int x2), .val (.int x3), .val (.long ov1), .second, .val (.int ov2), .val (.int oj47), .val (.ref b51)] [(.int x3), (.int (1 : Int32)), (.ref b51)])) t → Steps p.tables e below (s₁.setTop (entryFrame m #[(.long x0), (.int x1), (.int x2), (.int x3)] maxLocals)) t := by
    intro t k
    refine pre48 _ ?_
    show Steps p.tables e below (T48.setTop (mkF m 128 #[.val (.long x0), .second, .val (.int x1), .val (.int x2), .val (.int x3), .val (.long ov1), .second, .val (.int ov2), .val (.int oj47), .unset] [])) _
    refine XS.bipush X48.here hx rfl (hb hby at_128) ?_
    show Steps p.tables e below (T48.setTop (mkF m 130 #[.val (.long x0), .second, .val (.int x1), .val (.int x2), .val (.int x3), .val (.long ov1), .second, .val (.int ov2), .val (.int oj47), .unset] [(.int (12 : Int32))])) _
    refine st51 _ ?_
    show Steps p.tables e below (T51.setTop (mkF m 132 #[.val (.long x0), .second, .val (.int x1), .val (.int x2), .val (.int x3), .val (.long ov1), .second, .val (.int ov2), .val (.int oj47), .unset] [(.ref b51)])) _
    refine XS.astore X51.here hx rfl (hb hby at_132) rfl rfl (l' := #[.val (.long x0), .second, .val (.int x1), .val (.int x2), .val (.int x3), .val (.long ov1), .second, .val (.int ov2), .val (.int oj47), .val (.ref b51)]) rfl ?_
    show Steps p.tables e below (T51.setTop (mkF m 134 #[.val (.long x0), .second, .val (.int x1), .val (.int x2), .val (.int x3), .val (.long ov1), .second, .val (.int ov2), .val (.int oj47), .val (.ref b51)] [])) _
    refine XS.aload X51.here hx rfl (hb hby at_134) rfl rfl ?_
    show Steps p.tables e below (T51.setTop (mkF m 136 #[.val (.long x0), .second, .val (.int x1), .val (.int x2), .val (.int x3), .val (.long ov1), .second, .val (.int ov2), .val (.int oj47), .val (.ref b51)] [(.ref b51)])) _
    refine XS.iconst X51.here hx rfl (hb hby at_136) ?_
    show Steps p.tables e below (T51.setTop (mkF m 137 #[.val (.long x0), .second, .val (.int x1), .val (.int x2), .val (.int x3), .val (.long ov1), .second, .val (.int ov2), .val (.int oj47), .val (.ref b51)] [(.int (0 : Int32)), (.ref b51)])) _
    refine XS.iload X51.here hx rfl (hb hby at_137) rfl ?_
    show Steps p.tables e below (T51.setTop (mkF m 139 #[.val (.long x0), .second, .val (.int x1), .val (.int x2), .val (.int x3), .val (.long ov1), .second, .val (.int ov2), .val (.int oj47), .val (.ref b51)] [(.int x3), (.int (0 : Int32)), (.ref b51)])) _
    refine XS.iconst X51.here hx rfl (hb hby at_139) ?_
    show Steps p.tables e below (T51.setTop (mkF m 140 #[.val (.long x0), .second, .val (.int x1), .val (.int x2), .val (.int x3), .val (.long ov1), .second, .val (.int ov2), .val (.int oj47), .val (.ref b51)] [(.int (0 : Int32)), (.int x3), (.int (0 : Int32)), (.ref b51)])) _
    refine st52 _ ?_
    show Steps p.tables e below (T52.setTop (mkF m 143 #[.val (.long x0), .second, .val (.int x1), .val (.int x2), .val (.int x3), .val (.long ov1), .second, .val (.int ov2), .val (.int oj47), .val (.ref b51)] [(.int (f1 x3 (0 : Int32))), (.int (0 : Int32)), (.ref b51)])) _
    refine st53 _ ?_
    show Steps p.tables e below (T53.setTop (mkF m 144 #[.val (.long x0), .second, .val (.int x1), .val (.int x2), .val (.int x3), .val (.long ov1), .second, .val (.int ov2), .val (.int oj47), .val (.ref b51)] [])) _
    refine XS.aload X53.here hx rfl (hb hby at_144) rfl rfl ?_
    show Steps p.tables e below (T53.setTop (mkF m 146 #[.val (.long x0), .second, .val (.int x1), .val (.int x2), .val (.int x3), .val (.long ov1), .second, .val (.int ov2), .val (.int oj47), .val (.ref b51)] [(.ref b51)])) _
    refine XS.iconst X53.here hx rfl (hb hby at_146) ?_
    show Steps p.tables e below (T53.setTop (mkF m 147 #[.val (.long x0), .second, .val (.int x1), .val (.int x2), .val (.int x3), .val (.long ov1), .second, .val (.int ov2), .val (.int oj47), .val (.ref b51)] [(.int (1 : Int32)), (.ref b51)])) _
    refine XS.iload X53.here hx rfl (hb hby at_147) rfl ?_
    exact k
  obtain ⟨_, _, ⟨T56, L56, k56, n56⟩, -, X56, ⟨Lc56, hQ56, l56, y56, z56⟩, st56⟩ := Jvm.LawKit.callS X53 hx (y := (⟨"com/example/keyward/keyward/codecs/VarintReadPinLaw", "jb", "(II)B"⟩ : MethodName)) hown (mvT hZ (hw _ (List.mem_of_getElem? (i := 2) rfl))) (mvT hZ (hw _ (List.mem_of_getElem? (i := 3) rfl))) (mvT hZ (hw _ (List.mem_of_getElem? (i := 4) rfl))) (mvT hZ (hw _ (List.mem_of_getElem? (i := 5) rfl))) (by decide) (backOf (W := 2) (rm1 l Z a0 hw [] x3 (1 : Int32) h53 n0 Z53) hZ (hw _ (List.mem_of_getElem? (i := 5) rfl)) (hw _ (List.mem_of_getElem? (i := 4) rfl)) (by decide) (by decide)) (g := (mkF m 150 #[.val (.long x0), .second, .val (.int x1), .val (.int x2), .val (.int x3), .val (.long ov1), .second, .val (.int ov2), .val (.int oj47), .val (.ref b51)] [(.int (1 : Int32)), (.int x3), (.int (1 : Int32)), (.ref b51)])) rfl (by rw [hml]; rfl) (argsL := [(.int x3), (.int (1 : Int32))]) (rest := [(.int (1 : Int32)), (.ref b51)]) (lenOf pd_0 rfl) rfl (by show 2 * 0 + _ ≤ _; exact Nat.le_of_eq rfl) (hb hby at_150) (fun _ _ => ⟨rfl, e53, (by decide : 1 + 0 ≤ _), (by decide : 12 + 0 ≤ _)⟩)
  dsimp only [Pt.U, Pt.locs, Pt.cells, Pt.slots] at X56 l56 y56 z56 st56 hQ56
  subst y56 z56
  obtain ⟨rfl, Nq56, e56⟩ := hQ56
  have N56 : Fr n0 L56 := by rw [l56]; exact Fr.app N53 Nq56
  have Vc57 := P55
  obtain ⟨cl57, Ar57, S57, H57⟩ := Vc57
  have hin57 : 0 ≤ ((1 : Int32)).toInt ∧ ((1 : Int32)).toInt < (12 : Nat) := (by decide)
  obtain ⟨T57, h57, X57, e57, W57, st57⟩ := stB X56 hx hZ e56 Ar57 (j := (1 : Int32)) (own_inb S57 hin57) (g := (mkF m 153 #[.val (.long x0), .second, .val (.int x1), .val (.int x2), .val (.int x3), .val (.long ov1), .second, .val (.int ov2), .val (.int oj47), .val (.ref b51)] [(.int (f1 x3 (1 : Int32))), (.int (1 : Int32)), (.ref b51)])) rfl rfl (hb hby at_153)
  have N57 := Fr.snoc X57 N56 g_b51
  have Z57 : n0 ≤ h57.size := Nat.le_trans Z53 (Keep.of_wr W57).1
  have P59 : own_Arr Z h57 b51 12 oa58 := by rw [d_oa58]; exact own_Arr.set Ar57 S57 H57 W57
  obtain ⟨_, _, ⟨T60, L60, k60, n60⟩, -, X60, ⟨Lc60, hQ60, l60, y60, z60⟩, st60⟩ := Jvm.LawKit.callS X57 hx (y := (⟨"com/example/keyward/keyward/codecs/VarintReadPinLaw", "jb", "(II)B"⟩ : MethodName)) hown (mvT hZ (hw _ (List.mem_of_getElem? (i := 2) rfl))) (mvT hZ (hw _ (List.mem_of_getElem? (i := 3) rfl))) (mvT hZ (hw _ (List.mem_of_getElem? (i := 4) rfl))) (mvT hZ (hw _ (List.mem_of_getElem? (i := 5) rfl))) (by decide) (backOf (W := 2) (rm1 l Z a0 hw [] x3 (2 : Int32) h57 n0 Z57) hZ (hw _ (List.mem_of_getElem? (i := 5) rfl)) (hw _ (List.mem_of_getElem? (i := 4) rfl)) (by decide) (by decide)) (g := (mkF m 160 #[.val (.long x0), .second, .val (.int x1), .val (.int x2), .val (.int x3), .val (.long ov1), .second, .val (.int ov2), .val (.int oj47), .val (.ref b51)] [(.int (2 : Int32)), (.int x3), (.int (2 : Int32)), (.ref b51)])) rfl (by rw [hml]; rfl) (argsL := [(.int x3), (.int (2 : Int32))]) (rest := [(.int (2 : Int32)), (.ref b51)]) (lenOf pd_0 rfl) rfl (by show 2 * 0 + _ ≤ _; exact Nat.le_of_eq rfl) (hb hby at_160) (fun _ _ => ⟨rfl, e57, (by decide : 1 + 0 ≤ _), (by decide : 12 + 0 ≤ _)⟩)
  dsimp only [Pt.U, Pt.locs, Pt.cells, Pt.slots] at X60 l60 y60 z60 st60 hQ60
  subst y60 z60
  obtain ⟨rfl, Nq60, e60⟩ := hQ60
  have N60 : Fr n0 L60 := by rw [l60]; exact Fr.app N57 Nq60
  have Vc61 := P59
  obtain ⟨cl61, Ar61, S61, H61⟩ := Vc61
  have hin61 : 0 ≤ ((2 : Int32)).toInt ∧ ((2 : Int32)).toInt < (12 : Nat) := (by decide)
  obtain ⟨T61, h61, X61, e61, W61, st61⟩ := stB X60 hx hZ e60 Ar61 (j := (2 : Int32)) (own_inb S61 hin61) (g := (mkF m 163 #[.val (.long x0), .second, .val (.int x1), .val (.int x2), .val (.int x3), .val (.long ov1), .second, .val (.int ov2), .val (.int oj47), .val (.ref b51)] [(.int (f1 x3 (2 : Int32))), (.int (2 : Int32)), (.ref b51)])) rfl rfl (hb hby at_163)
  have N61 := Fr.snoc X61 N60 g_b51
  have Z61 : n0 ≤ h61.size := Nat.le_trans Z57 (Keep.of_wr W61).1
  have P63 : own_Arr Z h61 b51 12 oa62 := by rw [d_oa62]; exact own_Arr.set Ar61 S61 H61 W61
  have prx3 : ∀ t, Steps p.tables e below (T61.setTop (mkF m 169 #[.val (.long x0), .second, .val (.int x1), .val (.int x2), .val (.int x3), .val (.long ov1), .second, .val (.int ov2), .val (.int oj47), .val (.ref b51)] [(.int x3), (.int (3 : Int32)), (.ref b51)])) t → Steps p.tables e below (s₁.setTop (entryFrame m #[(.long x0), (.int x1), (.int x2), (.int x3)] maxLocals)) t := by
    intro t k
    refine prx2 _ ?_
    show Steps p.tables e below (T53.setTop (mkF m 149 #[.val (.long x0), .second, .val (.int x1), .val (.int x2), .val (.int x3), .val (.long ov1), .second, .val (.int ov2), .val (.int oj47), .val (.ref b51)] [(.int x3), (.int (1 : Int32)), (.ref b51)])) _
    refine XS.iconst X53.here hx rfl (hb hby at_149) ?_
    show Steps p.tables e below (T53.setTop (mkF m 150 #[.val (.long x0), .second, .val (.int x1), .val (.int x2), .val (.int x3), .val (.long ov1), .second, .val (.int ov2), .val (.int oj47), .val (.ref b51)] [(.int (1 : Int32)), (.int x3), (.int (1 : Int32)), (.ref b51)])) _
    refine st56 _ ?_
    show Steps p.tables e below (T56.setTop (mkF m 153 #[.val (.long x0), .second, .val (.int x1), .val (.int x2), .val (.int x3), .val (.long ov1), .second, .val (.int ov2), .val (.int oj47), .val (.ref b51)] [(.int (f1 x3 (1 : Int32))), (.int (1 : Int32)), (.ref b51)])) _
    refine st57 _ ?_
    show Steps p.tables e below (T57.setTop (mkF m 154 #[.val (.long x0), .second, .val (.int x1), .val (.int x2), .val (.int x3), .val (.long ov1), .second, .val (.int ov2), .val (.int oj47), .val (.ref b51)] [])) _
    refine XS.aload X57.here hx rfl (hb hby at_154) rfl rfl ?_
    show Steps p.tables e below (T57.setTop (mkF m 156 #[.val (.long x0), .second, .val (.int x1), .val (.int x2), .val (.int x3), .val (.long ov1), .second, .val (.int ov2), .val (.int oj47), .val (.ref b51)] [(.ref b51)])) _
    refine XS.iconst X57.here hx rfl (hb hby at_156) ?_
    show Steps p.tables e below (T57.setTop (mkF m 157 #[.val (.long x0), .second, .val (.int x1), .val (.int x2), .val (.int x3), .val (.long ov1), .second, .val (.int ov2), .val (.int oj47), .val (.ref b51)] [(.int (2 : Int32)), (.ref b51)])) _
    refine XS.iload X57.here hx rfl (hb hby at_157) rfl ?_
    show Steps p.tables e below (T57.setTop (mkF m 159 #[.val (.long x0), .second, .val (.int x1), .val (.int x2), .val (.int x3), .val (.long ov1), .second, .val (.int ov2), .val (.int oj47), .val (.ref b51)] [(.int x3), (.int (2 : Int32)), (.ref b51)])) _
    refine XS.iconst X57.here hx rfl (hb hby at_159) ?_
    show Steps p.tables e below (T57.setTop (mkF m 160 #[.val (.long x0), .second, .val (.int x1), .val (.int x2), .val (.int x3), .val (.long ov1), .second, .val (.int ov2), .val (.int oj47), .val (.ref b51)] [(.int (2 : Int32)), (.int x3), (.int (2 : Int32)), (.ref b51)])) _
    refine st60 _ ?_
    show Steps p.tables e below (T60.setTop (mkF m 163 #[.val (.long x0), .second, .val (.int x1), .val (.int x2), .val (.int x3), .val (.long ov1), .second, .val (.int ov2), .val (.int oj47), .val (.ref b51)] [(.int (f1 x3 (2 : Int32))), (.int (2 : Int32)), (.ref b51)])) _
    refine st61 _ ?_
    show Steps p.tables e below (T61.setTop (mkF m 164 #[.val (.long x0), .second, .val (.int x1), .val (.int x2), .val (.int x3), .val (.long ov1), .second, .val (.int ov2), .val (.int oj47), .val (.ref b51)] [])) _
    refine XS.aload X61.here hx rfl (hb hby at_164) rfl rfl ?_
    show Steps p.tables e below (T61.setTop (mkF m 166 #[.val (.long x0), .second, .val (.int x1), .val (.int x2), .val (.int x3), .val (.long ov1), .second, .val (.int ov2), .val (.int oj47), .val (.ref b51)] [(.ref b51)])) _
    refine XS.iconst X61.here hx rfl (hb hby at_166) ?_
    show Steps p.tables e below (T61.setTop (mkF m 167 #[.val (.long x0), .second, .val (.int x1), .val (.int x2), .val (.int x3), .val (.long ov1), .second, .val (.int ov2), .val (.int oj47), .val (.ref b51)] [(.int (3 : Int32)), (.ref b51)])) _
    refine XS.iload X61.here hx rfl (hb hby at_167) rfl ?_
    exact k
  obtain ⟨_, _, ⟨T64, L64, k64, n64⟩, -, X64, ⟨Lc64, hQ64, l64, y64, z64⟩, st64⟩ := Jvm.LawKit.callS X61 hx (y := (⟨"com/example/keyward/keyward/codecs/VarintReadPinLaw", "jb", "(II)B"⟩ : MethodName)) hown (mvT hZ (hw _ (List.mem_of_getElem? (i := 2) rfl))) (mvT hZ (hw _ (List.mem_of_getElem? (i := 3) rfl))) (mvT hZ (hw _ (List.mem_of_getElem? (i := 4) rfl))) (mvT hZ (hw _ (List.mem_of_getElem? (i := 5) rfl))) (by decide) (backOf (W := 2) (rm1 l Z a0 hw [] x3 (3 : Int32) h61 n0 Z61) hZ (hw _ (List.mem_of_getElem? (i := 5) rfl)) (hw _ (List.mem_of_getElem? (i := 4) rfl)) (by decide) (by decide)) (g := (mkF m 170 #[.val (.long x0), .second, .val (.int x1), .val (.int x2), .val (.int x3), .val (.long ov1), .second, .val (.int ov2), .val (.int oj47), .val (.ref b51)] [(.int (3 : Int32)), (.int x3), (.int (3 : Int32)), (.ref b51)])) rfl (by rw [hml]; rfl) (argsL := [(.int x3), (.int (3 : Int32))]) (rest := [(.int (3 : Int32)), (.ref b51)]) (lenOf pd_0 rfl) rfl (by show 2 * 0 + _ ≤ _; exact Nat.le_of_eq rfl) (hb hby at_170) (fun _ _ => ⟨rfl, e61, (by decide : 1 + 0 ≤ _), (by decide : 12 + 0 ≤ _)⟩)
  dsimp only [Pt.U, Pt.locs, Pt.cells, Pt.slots] at X64 l64 y64 z64 st64 hQ64
  subst y64 z64
  obtain ⟨rfl, Nq64, e64⟩ := hQ64
  have N64 : Fr n0 L64 := by rw [l64]; exact Fr.app N61 Nq64
  have Vc65 := P63
  obtain ⟨cl65, Ar65, S65, H65⟩ := Vc65
  have hin65 : 0 ≤ ((3 : Int32)).toInt ∧ ((3 : Int32)).toInt < (12 : Nat) := (by decide)
  obtain ⟨T65, h65, X65, e65, W65, st65⟩ := stB X64 hx hZ e64 Ar65 (j := (3 : Int32)) (own_inb S65 hin65) (g := (mkF m 173 #[.val (.long x0), .second, .val (.int x1), .val (.int x2), .val (.int x3), .val (.long ov1), .second, .val (.int ov2), .val (.int oj47), .val (.ref b51)] [(.int (f1 x3 (3 : Int32))), (.int (3 : Int32)), (.ref b51)])) rfl rfl (hb hby at_173)
  have N65 := Fr.snoc X65 N64 g_b51
  have Z65 : n0 ≤ h65.size := Nat.le_trans Z61 (Keep.of_wr W65).1
  have P67 : own_Arr Z h65 b51 12 oa66 := by rw [d_oa66]; exact own_Arr.set Ar65 S65 H65 W65
  obtain ⟨_, _, ⟨T68, L68, k68, n68⟩, -, X68, ⟨Lc68, hQ68, l68, y68, z68⟩, st68⟩ := Jvm.LawKit.callS X65 hx (y := (⟨"com/example/keyward/keyward/codecs/VarintReadPinLaw", "jb", "(II)B"⟩ : MethodName)) hown (mvT hZ (hw _ (List.mem_of_getElem? (i := 2) rfl))) (mvT hZ (hw _ (List.mem_of_getElem? (i := 3) rfl))) (mvT hZ (hw _ (List.mem_of_getElem? (i := 4) rfl))) (mvT hZ (hw _ (List.mem_of_getElem? (i := 5) rfl))) (by decide) (backOf (W := 2) (rm1 l Z a0 hw [] x3 (4 : Int32) h65 n0 Z65) hZ (hw _ (List.mem_of_getElem? (i := 5) rfl)) (hw _ (List.mem_of_getElem? (i := 4) rfl)) (by decide) (by decide)) (g := (mkF m 180 #[.val (.long x0), .second, .val (.int x1), .val (.int x2), .val (.int x3), .val (.long ov1), .second, .val (.int ov2), .val (.int oj47), .val (.ref b51)] [(.int (4 : Int32)), (.int x3), (.int (4 : Int32)), (.ref b51)])) rfl (by rw [hml]; rfl) (argsL := [(.int x3), (.int (4 : Int32))]) (rest := [(.int (4 : Int32)), (.ref b51)]) (lenOf pd_0 rfl) rfl (by show 2 * 0 + _ ≤ _; exact Nat.le_of_eq rfl) (hb hby at_180) (fun _ _ => ⟨rfl, e65, (by decide : 1 + 0 ≤ _), (by decide : 12 + 0 ≤ _)⟩)
  dsimp only [Pt.U, Pt.locs, Pt.cells, Pt.slots] at X68 l68 y68 z68 st68 hQ68
  subst y68 z68
  obtain ⟨rfl, Nq68, e68⟩ := hQ68
  have N68 : Fr n0 L68 := by rw [l68]; exact Fr.app N65 Nq68
  have Vc69 := P67
  obtain ⟨cl69, Ar69, S69, H69⟩ := Vc69
  have hin69 : 0 ≤ ((4 : Int32)).toInt ∧ ((4 : Int32)).toInt < (12 : Nat) := (by decide)
  obtain ⟨T69, h69, X69, e69, W69, st69⟩ := stB X68 hx hZ e68 Ar69 (j := (4 : Int32)) (own_inb S69 hin69) (g := (mkF m 183 #[.val (.long x0), .second, .val (.int x1), .val (.int x2), .val (.int x3), .val (.long ov1), .second, .val (.int ov2), .val (.int oj47), .val (.ref b51)] [(.int (f1 x3 (4 : Int32))), (.int (4 : Int32)), (.ref b51)])) rfl rfl (hb hby at_183)
  have N69 := Fr.snoc X69 N68 g_b51
  have Z69 : n0 ≤ h69.size := Nat.le_trans Z65 (Keep.of_wr W69).1
  have P71 : own_Arr Z h69 b51 12 oa70 := by rw [d_oa70]; exact own_Arr.set Ar69 S69 H69 W69
  have prx4 : ∀ t, Steps p.tables e below (T69.setTop (mkF m 189 #[.val (.long x0), .second, .val (.int x1), .val (.int x2), .val (.int x3), .val (.long ov1), .second, .val (.int ov2), .val (.int oj47), .val (.ref b51)] [(.int x3), (.int (5 : Int32)), (.ref b51)])) t → Steps p.tables e below (s₁.setTop (entryFrame m #[(.long x0), (.int x1), (.int x2), (.int x3)] maxLocals)) t := by
    intro t k
    refine prx3 _ ?_
    show Steps p.tables e below (T61.setTop (mkF m 169 #[.val (.long x0), .second, .val (.int x1), .val (.int x2), .val (.int x3), .val (.long ov1), .second, .val (.int ov2), .val (.int oj47), .val (.ref b51)] [(.int x3), (.int (3 : Int32)), (.ref b51)])) _
    refine XS.iconst X61.here hx rfl (hb hby at_169) ?_
    show Steps p.tables e below (T61.setTop (mkF m 170 #[.val (.long x0), .second, .val (.int x1), .val (.int x2), .val (.int x3), .val (.long ov1), .second, .val (.int ov2), .val (.int oj47), .val (.ref b51)] [(.int (3 : Int32)), (.int x3), (.int (3 : Int32)), (.ref b51)])) _
    refine st64 _ ?_
    show Steps p.tables e below (T64.setTop (mkF m 173 #[.val (.long x0), .second, .val (.int x1), .val (.int x2), .val (.int x3), .val (.long ov1), .second, .val (.int ov2), .val (.int oj47), .val (.ref b51)] [(.int (f1 x3 (3 : Int32))), (.int (3 : Int32)), (.ref b51)])) _
    refine st65 _ ?_
    show Steps p.tables e below (T65.setTop (mkF m 174 #[.val (.long x0), .second, .val (.int x1), .val (.int x2), .val (.int x3), .val (.long ov1), .second, .val (.int ov2), .val (.int oj47), .val (.ref b51)] [])) _
    refine XS.aload X65.here hx rfl (hb hby at_174) rfl rfl ?_
    show Steps p.tables e below (T65.setTop (mkF m 176 #[.val (.long x0), .second, .val (.int x1), .val (.int x2), .val (.int x3), .val (.long ov1), .second, .val (.int ov2), .val (.int oj47), .val (.ref b51)] [(.ref b51)])) _
    refine XS.iconst X65.here hx rfl (hb hby at_176) ?_
    show Steps p.tables e below (T65.setTop (mkF m 177 #[.val (.long x0), .second, .val (.int x1), .val (.int x2), .val (.int x3), .val (.long ov1), .second, .val (.int ov2), .val (.int oj47), .val (.ref b51)] [(.int (4 : Int32)), (.ref b51)])) _
    refine XS.iload X65.here hx rfl (hb hby at_177) rfl ?_
    show Steps p.tables e below (T65.setTop (mkF m 179 #[.val (.long x0), .second, .val (.int x1), .val (.int x2), .val (.int x3), .val (.long ov1), .second, .val (.int ov2), .val (.int oj47), .val (.ref b51)] [(.int x3), (.int (4 : Int32)), (.ref b51)])) _
    refine XS.iconst X65.here hx rfl (hb hby at_179) ?_
    show Steps p.tables e below (T65.setTop (mkF m 180 #[.val (.long x0), .second, .val (.int x1), .val (.int x2), .val (.int x3), .val (.long ov1), .second, .val (.int ov2), .val (.int oj47), .val (.ref b51)] [(.int (4 : Int32)), (.int x3), (.int (4 : Int32)), (.ref b51)])) _
    refine st68 _ ?_
    show Steps p.tables e below (T68.setTop (mkF m 183 #[.val (.long x0), .second, .val (.int x1), .val (.int x2), .val (.int x3), .val (.long ov1), .second, .val (.int ov2), .val (.int oj47), .val (.ref b51)] [(.int (f1 x3 (4 : Int32))), (.int (4 : Int32)), (.ref b51)])) _
    refine st69 _ ?_
    show Steps p.tables e below (T69.setTop (mkF m 184 #[.val (.long x0), .second, .val (.int x1), .val (.int x2), .val (.int x3), .val (.long ov1), .second, .val (.int ov2), .val (.int oj47), .val (.ref b51)] [])) _
    refine XS.aload X69.here hx rfl (hb hby at_184) rfl rfl ?_
    show Steps p.tables e below (T69.setTop (mkF m 186 #[.val (.long x0), .second, .val (.int x1), .val (.int x2), .val (.int x3), .val (.long ov1), .second, .val (.int ov2), .val (.int oj47), .val (.ref b51)] [(.ref b51)])) _
    refine XS.iconst X69.here hx rfl (hb hby at_186) ?_
    show Steps p.tables e below (T69.setTop (mkF m 187 #[.val (.long x0), .second, .val (.int x1), .val (.int x2), .val (.int x3), .val (.long ov1), .second, .val (.int ov2), .val (.int oj47), .val (.ref b51)] [(.int (5 : Int32)), (.ref b51)])) _
    refine XS.iload X69.here hx rfl (hb hby at_187) rfl ?_
    exact k
  obtain ⟨_, _, ⟨T72, L72, k72, n72⟩, -, X72, ⟨Lc72, hQ72, l72, y72, z72⟩, st72⟩ := Jvm.LawKit.callS X69 hx (y := (⟨"com/example/keyward/keyward/codecs/VarintReadPinLaw", "jb", "(II)B"⟩ : MethodName)) hown (mvT hZ (hw _ (List.mem_of_getElem? (i := 2) rfl))) (mvT hZ (hw _ (List.mem_of_getElem? (i := 3) rfl))) (mvT hZ (hw _ (List.mem_of_getElem? (i := 4) rfl))) (mvT hZ (hw _ (List.mem_of_getElem? (i := 5) rfl))) (by decide) (backOf (W := 2) (rm1 l Z a0 hw [] x3 (5 : Int32) h69 n0 Z69) hZ (hw _ (List.mem_of_getElem? (i := 5) rfl)) (hw _ (List.mem_of_getElem? (i := 4) rfl)) (by decide) (by decide)) (g := (mkF m 190 #[.val (.long x0), .second, .val (.int x1), .val (.int x2), .val (.int x3), .val (.long ov1), .second, .val (.int ov2), .val (.int oj47), .val (.ref b51)] [(.int (5 : Int32)), (.int x3), (.int (5 : Int32)), (.ref b51)])) rfl (by rw [hml]; rfl) (argsL := [(.int x3), (.int (5 : Int32))]) (rest := [(.int (5 : Int32)), (.ref b51)]) (lenOf pd_0 rfl) rfl (by show 2 * 0 + _ ≤ _; exact Nat.le_of_eq rfl) (hb hby at_190) (fun _ _ => ⟨rfl, e69, (by decide : 1 + 0 ≤ _), (by decide : 12 + 0 ≤ _)⟩)
  dsimp only [Pt.U, Pt.locs, Pt.cells, Pt.slots] at X72 l72 y72 z72 st72 hQ72
  subst y72 z72
  obtain ⟨rfl, Nq72, e72⟩ := hQ72
  have N72 : Fr n0 L72 := by rw [l72]; exact Fr.app N69 Nq72
  have Vc73 := P71
  obtain ⟨cl73, Ar73, S73, H73⟩ := Vc73
  have hin73 : 0 ≤ ((5 : Int32)).toInt ∧ ((5 : Int32)).toInt < (12 : Nat) := (by decide)
  obtain ⟨T73, h73, X73, e73, W73, st73⟩ := stB X72 hx hZ e72 Ar73 (j := (5 : Int32)) (own_inb S73 hin73) (g := (mkF m 193 #[.val (.long x0), .second, .val (.int x1), .val (.int x2), .val (.int x3), .val (.long ov1), .second, .val (.int ov2), .val (.int oj47), .val (.ref b51)] [(.int (f1 x3 (5 : Int32))), (.int (5 : Int32)), (.ref b51)])) rfl rfl (hb hby at_193)
  have N73 := Fr.snoc X73 N72 g_b51
  have Z73 : n0 ≤ h73.size := Nat.le_trans Z69 (Keep.of_wr W73).1
  have P75 : own_Arr Z h73 b51 12 oa74 := by rw [d_oa74]; exact own_Arr.set Ar73 S73 H73 W73
  obtain ⟨_, _, ⟨T76, L76, k76, n76⟩, -, X76, ⟨Lc76, hQ76, l76, y76, z76⟩, st76⟩ := Jvm.LawKit.callS X73 hx (y := (⟨"com/example/keyward/keyward/codecs/VarintReadPinLaw", "jb", "(II)B"⟩ : MethodName)) hown (mvT hZ (hw _ (List.mem_of_getElem? (i := 2) rfl))) (mvT hZ (hw _ (List.mem_of_getElem? (i := 3) rfl))) (mvT hZ (hw _ (List.mem_of_getElem? (i := 4) rfl))) (mvT hZ (hw _ (List.mem_of_getElem? (i := 5) rfl))) (by decide) (backOf (W := 2) (rm1 l Z a0 hw [] x3 (6 : Int32) h73 n0 Z73) hZ (hw _ (List.mem_of_getElem? (i := 5) rfl)) (hw _ (List.mem_of_getElem? (i := 4) rfl)) (by decide) (by decide)) (g := (mkF m 202 #[.val (.long x0), .second, .val (.int x1), .val (.int x2), .val (.int x3), .val (.long ov1), .second, .val (.int ov2), .val (.int oj47), .val (.ref b51)] [(.int (6 : Int32)), (.int x3), (.int (6 : Int32)), (.ref b51)])) rfl (by rw [hml]; rfl) (argsL := [(.int x3), (.int (6 : Int32))]) (rest := [(.int (6 : Int32)), (.ref b51)]) (lenOf pd_0 rfl) rfl (by show 2 * 0 + _ ≤ _; exact Nat.le_of_eq rfl) (hb hby at_202) (fun _ _ => ⟨rfl, e73, (by decide : 1 + 0 ≤ _), (by decide : 12 + 0 ≤ _)⟩)
  dsimp only [Pt.U, Pt.locs, Pt.cells, Pt.slots] at X76 l76 y76 z76 st76 hQ76
  subst y76 z76
  obtain ⟨rfl, Nq76, e76⟩ := hQ76
  have N76 : Fr n0 L76 := by rw [l76]; exact Fr.app N73 Nq76
  have Vc77 := P75
  obtain ⟨cl77, Ar77, S77, H77⟩ := Vc77
  have hin77 : 0 ≤ ((6 : Int32)).toInt ∧ ((6 : Int32)).toInt < (12 : Nat) := (by decide)
  obtain ⟨T77, h77, X77, e77, W77, st77⟩ := stB X76 hx hZ e76 Ar77 (j := (6 : Int32)) (own_inb S77 hin77) (g := (mkF m 205 #[.val (.long x0), .second, .val (.int x1), .val (.int x2), .val (.int x3), .val (.long ov1), .second, .val (.int ov2), .val (.int oj47), .val (.ref b51)] [(.int (f1 x3 (6 : Int32))), (.int (6 : Int32)), (.ref b51)])) rfl rfl (hb hby at_205)
  have N77 := Fr.snoc X77 N76 g_b51
  have Z77 : n0 ≤ h77.size := Nat.le_trans Z73 (Keep.of_wr W77).1
  have P79 : own_Arr Z h77 b51 12 oa78 := by rw [d_oa78]; exact own_Arr.set Ar77 S77 H77 W77
  have prx5 : ∀ t, Steps p.tables e below (T77.setTop (mkF m 212 #[.val (.long x0), .second, .val (.int x1), .val (.int x2), .val (.int x3), .val (.long ov1), .second, .val (.int ov2), .val (.int oj47), .val (.ref b51)] [(.int x3), (.int (7 : Int32)), (.ref b51)])) t → Steps p.tables e below (s₁.setTop (entryFrame m #[(.long x0), (.int x1), (.int x2), (.int x3)] maxLocals)) t := by
    intro t k
    refine prx4 _ ?_
    show Steps p.tables e below (T69.setTop (mkF m 189 #[.val (.long x0), .second, .val (.int x1), .val (.int x2), .val (.int x3), .val (.long ov1), .second, .val (.int ov2), .val (.int oj47), .val (.ref b51)] [(.int x3), (.int (5 : Int32)), (.ref b51)])) _
    refine XS.iconst X69.here hx rfl (hb hby at_189) ?_
    show Steps p.tables e below (T69.setTop (mkF m 190 #[.val (.long x0), .second, .val (.int x1), .val (.int x2), .val (.int x3), .val (.long ov1), .second, .val (.int ov2), .val (.int oj47), .val (.ref b51)] [(.int (5 : Int32)), (.int x3), (.int (5 : Int32)), (.ref b51)])) _
    refine st72 _ ?_
    show Steps p.tables e below (T72.setTop (mkF m 193 #[.val (.long x0), .second, .val (.int x1), .val (.int x2), .val (.int x3), .val (.long ov1), .second, .val (.int ov2), .val (.int oj47), .val (.ref b51)] [(.int (f1 x3 (5 : Int32))), (.int (5 : Int32)), (.ref b51)])) _
    refine st73 _ ?_
    show Steps p.tables e below (T73.setTop (mkF m 194 #[.val (.long x0), .second, .val (.int x1), .val (.int x2), .val (.int x3), .val (.long ov1), .second, .val (.int ov2), .val (.int oj47), .val (.ref b51)] [])) _
    refine XS.aload X73.here hx rfl (hb hby at_194) rfl rfl ?_
    show Steps p.tables e below (T73.setTop (mkF m 196 #[.val (.long x0), .second, .val (.int x1), .val (.int x2), .val (.int x3), .val (.long ov1), .second, .val (.int ov2), .val (.int oj47), .val (.ref b51)] [(.ref b51)])) _
    refine XS.bipush X73.here hx rfl (hb hby at_196) ?_
    show Steps p.tables e below (T73.setTop (mkF m 198 #[.val (.long x0), .second, .val (.int x1), .val (.int x2), .val (.int x3), .val (.long ov1), .second, .val (.int ov2), .val (.int oj47), .val (.ref b51)] [(.int (6 : Int32)), (.ref b51)])) _
    refine XS.iload X73.here hx rfl (hb hby at_198) rfl ?_
    show Steps p.tables e below (T73.setTop (mkF m 200 #[.val (.long x0), .second, .val (.int x1), .val (.int x2), .val (.int x3), .val (.long ov1), .second, .val (.int ov2), .val (.int oj47), .val (.ref b51)] [(.int x3), (.int (6 : Int32)), (.ref b51)])) _
    refine XS.bipush X73.here hx rfl (hb hby at_200) ?_
    show Steps p.tables e below (T73.setTop (mkF m 202 #[.val (.long x0), .second, .val (.int x1), .val (.int x2), .val (.int x3), .val (.long ov1), .second, .val (.int ov2), .val (.int oj47), .val (.ref b51)] [(.int (6 : Int32)), (.int x3), (.int (6 : Int32)), (.ref b51)])) _
    refine st76 _ ?_
    show Steps p.tables e below (T76.setTop (mkF m 205 #[.val (.long x0), .second, .val (.int x1), .val (.int x2), .val (.int x3), .val (.long ov1), .second, .val (.int ov2), .val (.int oj47), .val (.ref b51)] [(.int (f1 x3 (6 : Int32))), (.int (6 : Int32)), (.ref b51)])) _
    refine st77 _ ?_
    show Steps p.tables e below (T77.setTop (mkF m 206 #[.val (.long x0), .second, .val (.int x1), .val (.int x2), .val (.int x3), .val (.long ov1), .second, .val (.int ov2), .val (.int oj47), .val (.ref b51)] [])) _
    refine XS.aload X77.here hx rfl (hb hby at_206) rfl rfl ?_
    show Steps p.tables e below (T77.setTop (mkF m 208 #[.val (.long x0), .second, .val (.int x1), .val (.int x2), .val (.int x3), .val (.long ov1), .second, .val (.int ov2), .val (.int oj47), .val (.ref b51)] [(.ref b51)])) _
    refine XS.bipush X77.here hx rfl (hb hby at_208) ?_
    show Steps p.tables e below (T77.setTop (mkF m 210 #[.val (.long x0), .second, .val (.int x1), .val (.int x2), .val (.int x3), .val (.long ov1), .second, .val (.int ov2), .val (.int oj47), .val (.ref b51)] [(.int (7 : Int32)), (.ref b51)])) _
    refine XS.iload X77.here hx rfl (hb hby at_210) rfl ?_
    exact k
  obtain ⟨_, _, ⟨T80, L80, k80, n80⟩, -, X80, ⟨Lc80, hQ80, l80, y80, z80⟩, st80⟩ := Jvm.LawKit.callS X77 hx (y := (⟨"com/example/keyward/keyward/codecs/VarintReadPinLaw", "jb", "(II)B"⟩ : MethodName)) hown (mvT hZ (hw _ (List.mem_of_getElem? (i := 2) rfl))) (mvT hZ (hw _ (List.mem_of_getElem? (i := 3) rfl))) (mvT hZ (hw _ (List.mem_of_getElem? (i := 4) rfl))) (mvT hZ (hw _ (List.mem_of_getElem? (i := 5) rfl))) (by decide) (backOf (W := 2) (rm1 l Z a0 hw [] x3 (7 : Int32) h77 n0 Z77) hZ (hw _ (List.mem_of_getElem? (i := 5) rfl)) (hw _ (List.mem_of_getElem? (i := 4) rfl)) (by decide) (by decide)) (g := (mkF m 214 #[.val (.long x0), .second, .val (.int x1), .val (.int x2), .val (.int x3), .val (.long ov1), .second, .val (.int ov2), .val (.int oj47), .val (.ref b51)] [(.int (7 : Int32)), (.int x3), (.int (7 : Int32)), (.ref b51)])) rfl (by rw [hml]; rfl) (argsL := [(.int x3), (.int (7 : Int32))]) (rest := [(.int (7 : Int32)), (.ref b51)]) (lenOf pd_0 rfl) rfl (by show 2 * 0 + _ ≤ _; exact Nat.le_of_eq rfl) (hb hby at_214) (fun _ _ => ⟨rfl, e77, (by decide : 1 + 0 ≤ _), (by decide : 12 + 0 ≤ _)⟩)
  dsimp only [Pt.U, Pt.locs, Pt.cells, Pt.slots] at X80 l80 y80 z80 st80 hQ80
  subst y80 z80
  obtain ⟨rfl, Nq80, e80⟩ := hQ80
  have N80 : Fr n0 L80 := by rw [l80]; exact Fr.app N77 Nq80
  have Vc81 := P79
  obtain ⟨cl81, Ar81, S81, H81⟩ := Vc81
  have hin81 : 0 ≤ ((7 : Int32)).toInt ∧ ((7 : Int32)).toInt < (12 : Nat) := (by decide)
  obtain ⟨T81, h81, X81, e81, W81, st81⟩ := stB X80 hx hZ e80 Ar81 (j := (7 : Int32)) (own_inb S81 hin81) (g := (mkF m 217 #[.val (.long x0), .second, .val (.int x1), .val (.int x2), .val (.int x3), .val (.long ov1), .second, .val (.int ov2), .val (.int oj47), .val (.ref b51)] [(.int (f1 x3 (7 : Int32))), (.int (7 : Int32)), (.ref b51)])) rfl rfl (hb hby at_217)
  have N81 := Fr.snoc X81 N80 g_b51
  have Z81 : n0 ≤ h81.size := Nat.le_trans Z77 (Keep.of_wr W81).1
  have P83 : own_Arr Z h81 b51 12 oa82 := by rw [d_oa82]; exact own_Arr.set Ar81 S81 H81 W81
  obtain ⟨_, _, ⟨T84, L84, k84, n84⟩, -, X84, ⟨Lc84, hQ84, l84, y84, z84⟩, st84⟩ := Jvm.LawKit.callS X81 hx (y := (⟨"com/example/keyward/keyward/codecs/VarintReadPinLaw", "jb", "(II)B"⟩ : MethodName)) hown (mvT hZ (hw _ (List.mem_of_getElem? (i := 2) rfl))) (mvT hZ (hw _ (List.mem_of_getElem? (i := 3) rfl))) (mvT hZ (hw _ (List.mem_of_getElem? (i := 4) rfl))) (mvT hZ (hw _ (List.mem_of_getElem? (i := 5) rfl))) (by decide) (backOf (W := 2) (rm1 l Z a0 hw [] x3 (8 : Int32) h81 n0 Z81) hZ (hw _ (List.mem_of_getElem? (i := 5) rfl)) (hw _ (List.mem_of_getElem? (i := 4) rfl)) (by decide) (by decide)) (g := (mkF m 226 #[.val (.long x0), .second, .val (.int x1), .val (.int x2), .val (.int x3), .val (.long ov1), .second, .val (.int ov2), .val (.int oj47), .val (.ref b51)] [(.int (8 : Int32)), (.int x3), (.int (8 : Int32)), (.ref b51)])) rfl (by rw [hml]; rfl) (argsL := [(.int x3), (.int (8 : Int32))]) (rest := [(.int (8 : Int32)), (.ref b51)]) (lenOf pd_0 rfl) rfl (by show 2 * 0 + _ ≤ _; exact Nat.le_of_eq rfl) (hb hby at_226) (fun _ _ => ⟨rfl, e81, (by decide : 1 + 0 ≤ _), (by decide : 12 + 0 ≤ _)⟩)
  dsimp only [Pt.U, Pt.locs, Pt.cells, Pt.slots] at X84 l84 y84 z84 st84 hQ84
  subst y84 z84
  obtain ⟨rfl, Nq84, e84⟩ := hQ84
  have N84 : Fr n0 L84 := by rw [l84]; exact Fr.app N81 Nq84
  have Vc85 := P83
  obtain ⟨cl85, Ar85, S85, H85⟩ := Vc85
  have hin85 : 0 ≤ ((8 : Int32)).toInt ∧ ((8 : Int32)).toInt < (12 : Nat) := (by decide)
  obtain ⟨T85, h85, X85, e85, W85, st85⟩ := stB X84 hx hZ e84 Ar85 (j := (8 : Int32)) (own_inb S85 hin85) (g := (mkF m 229 #[.val (.long x0), .second, .val (.int x1), .val (.int x2), .val (.int x3), .val (.long ov1), .second, .val (.int ov2), .val (.int oj47), .val (.ref b51)] [(.int (f1 x3 (8 : Int32))), (.int (8 : Int32)), (.ref b51)])) rfl rfl (hb hby at_229)
  have N85 := Fr.snoc X85 N84 g_b51
  have Z85 : n0 ≤ h85.size := Nat.le_trans Z81 (Keep.of_wr W85).1
  have P87 : own_Arr Z h85 b51 12 oa86 := by rw [d_oa86]; exact own_Arr.set Ar85 S85 H85 W85
  have prx6 : ∀ t, Steps p.tables e below (T85.setTop (mkF m 236 #[.val (.long x0), .second, .val (.int x1), .val (.int x2), .val (.int x3), .val (.long ov1), .second, .val (.int ov2), .val (.int oj47), .val (.ref b51)] [(.int x3), (.int (9 : Int32)), (.ref b51)])) t → Steps p.tables e below (s₁.setTop (entryFrame m #[(.long x0), (.int x1), (.int x2), (.int x3)] maxLocals)) t := by
    intro t k
    refine prx5 _ ?_
    show Steps p.tables e below (T77.setTop (mkF m 212 #[.val (.long x0), .second, .val (.int x1), .val (.int x2), .val (.int x3), .val (.long ov1), .second, .val (.int ov2), .val (.int oj47), .val (.ref b51)] [(.int x3), (.int (7 : Int32)), (.ref b51)])) _
    refine XS.bipush X77.here hx rfl (hb hby at_212) ?_
    show Steps p.tables e below (T77.setTop (mkF m 214 #[.val (.long x0), .second, .val (.int x1), .val (.int x2), .val (.int x3), .val (.long ov1), .second, .val (.int ov2), .val (.int oj47), .val (.ref b51)] [(.int (7 : Int32)), (.int x3), (.int (7 : Int32)), (.ref b51)])) _
    refine st80 _ ?_
    show Steps p.tables e below (T80.setTop (mkF m 217 #[.val (.long x0), .second, .val (.int x1), .val (.int x2), .val (.int x3), .val (.long ov1), .second, .val (.int ov2), .val (.int oj47), .val (.ref b51)] [(.int (f1 x3 (7 : Int32))), (.int (7 : Int32)), (.ref b51)])) _
    refine st81 _ ?_
    show Steps p.tables e below (T81.setTop (mkF m 218 #[.val (.long x0), .second, .val (.int x1), .val (.int x2), .val (.int x3), .val (.long ov1), .second, .val (.int ov2), .val (.int oj47), .val (.ref b51)] [])) _
    refine XS.aload X81.here hx rfl (hb hby at_218) rfl rfl ?_
    show Steps p.tables e below (T81.setTop (mkF m 220 #[.val (.long x0), .second, .val (.int x1), .val (.int x2), .val (.int x3), .val (.long ov1), .second, .val (.int ov2), .val (.int oj47), .val (.ref b51)] [(.ref b51)])) _
    refine XS.bipush X81.here hx rfl (hb hby at_220) ?_
    show Steps p.tables e below (T81.setTop (mkF m 222 #[.val (.long x0), .second, .val (.int x1), .val (.int x2), .val (.int x3), .val (.long ov1), .second, .val (.int ov2), .val (.int oj47), .val (.ref b51)] [(.int (8 : Int32)), (.ref b51)])) _
    refine XS.iload X81.here hx rfl (hb hby at_222) rfl ?_
    show Steps p.tables e below (T81.setTop (mkF m 224 #[.val (.long x0), .second, .val (.int x1), .val (.int x2), .val (.int x3), .val (.long ov1), .second, .val (.int ov2), .val (.int oj47), .val (.ref b51)] [(.int x3), (.int (8 : Int32)), (.ref b51)])) _
    refine XS.bipush X81.here hx rfl (hb hby at_224) ?_
    show Steps p.tables e below (T81.setTop (mkF m 226 #[.val (.long x0), .second, .val (.int x1), .val (.int x2), .val (.int x3), .val (.long ov1), .second, .val (.int ov2), .val (.int oj47), .val (.ref b51)] [(.int (8 : Int32)), (.int x3), (.int (8 : Int32)), (.ref b51)])) _
    refine st84 _ ?_
    show Steps p.tables e below (T84.setTop (mkF m 229 #[.val (.long x0), .second, .val (.int x1), .val (.int x2), .val (.int x3), .val (.long ov1), .second, .val (.int ov2), .val (.int oj47), .val (.ref b51)] [(.int (f1 x3 (8 : Int32))), (.int (8 : Int32)), (.ref b51)])) _
    refine st85 _ ?_
    show Steps p.tables e below (T85.setTop (mkF m 230 #[.val (.long x0), .second, .val (.int x1), .val (.int x2), .val (.int x3), .val (.long ov1), .second, .val (.int ov2), .val (.int oj47), .val (.ref b51)] [])) _
    refine XS.aload X85.here hx rfl (hb hby at_230) rfl rfl ?_
    show Steps p.tables e below (T85.setTop (mkF m 232 #[.val (.long x0), .second, .val (.int x1), .val (.int x2), .val (.int x3), .val (.long ov1), .second, .val (.int ov2), .val (.int oj47), .val (.ref b51)] [(.ref b51)])) _
    refine XS.bipush X85.here hx rfl (hb hby at_232) ?_
    show Steps p.tables e below (T85.setTop (mkF m 234 #[.val (.long x0), .second, .val (.int x1), .val (.int x2), .val (.int x3), .val (.long ov1), .second, .val (.int ov2), .val (.int oj47), .val (.ref b51)] [(.int (9 : Int32)), (.ref b51)])) _
    refine XS.iload X85.here hx rfl (hb hby at_234) rfl ?_
    exact k
  obtain ⟨_, _, ⟨T88, L88, k88, n88⟩, -, X88, ⟨Lc88, hQ88, l88, y88, z88⟩, st88⟩ := Jvm.LawKit.callS X85 hx (y := (⟨"com/example/keyward/keyward/codecs/VarintReadPinLaw", "jb", "(II)B"⟩ : MethodName)) hown (mvT hZ (hw _ (List.mem_of_getElem? (i := 2) rfl))) (mvT hZ (hw _ (List.mem_of_getElem? (i := 3) rfl))) (mvT hZ (hw _ (List.mem_of_getElem? (i := 4) rfl))) (mvT hZ (hw _ (List.mem_of_getElem? (i := 5) rfl))) (by decide) (backOf (W := 2) (rm1 l Z a0 hw [] x3 (9 : Int32) h85 n0 Z85) hZ (hw _ (List.mem_of_getElem? (i := 5) rfl)) (hw _ (List.mem_of_getElem? (i := 4) rfl)) (by decide) (by decide)) (g := (mkF m 238 #[.val (.long x0), .second, .val (.int x1), .val (.int x2), .val (.int x3), .val (.long ov1), .second, .val (.int ov2), .val (.int oj47), .val (.ref b51)] [(.int (9 : Int32)), (.int x3), (.int (9 : Int32)), (.ref b51)])) rfl (by rw [hml]; rfl) (argsL := [(.int x3), (.int (9 : Int32))]) (rest := [(.int (9 : Int32)), (.ref b51)]) (lenOf pd_0 rfl) rfl (by show 2 * 0 + _ ≤ _; exact Nat.le_of_eq rfl) (hb hby at_238) (fun _ _ => ⟨rfl, e85, (by decide : 1 + 0 ≤ _), (by decide : 12 + 0 ≤ _)⟩)
  dsimp only [Pt.U, Pt.locs, Pt.cells, Pt.slots] at X88 l88 y88 z88 st88 hQ88
  subst y88 z88
  obtain ⟨rfl, Nq88, e88⟩ := hQ88
  have N88 : Fr n0 L88 := by rw [l88]; exact Fr.app N85 Nq88
  have Vc89 := P87
  obtain ⟨cl89, Ar89, S89, H89⟩ := Vc89
  have hin89 : 0 ≤ ((9 : Int32)).toInt ∧ ((9 : Int32)).toInt < (12 : Nat) := (by decide)
  obtain ⟨T89, h89, X89, e89, W89, st89⟩ := stB X88 hx hZ e88 Ar89 (j := (9 : Int32)) (own_inb S89 hin89) (g := (mkF m 241 #[.val (.long x0), .second, .val (.int x1), .val (.int x2), .val (.int x3), .val (.long ov1), .second, .val (.int ov2), .val (.int oj47), .val (.ref b51)] [(.int (f1 x3 (9 : Int32))), (.int (9 : Int32)), (.ref b51)])) rfl rfl (hb hby at_241)
  have N89 := Fr.snoc X89 N88 g_b51
  have Z89 : n0 ≤ h89.size := Nat.le_trans Z85 (Keep.of_wr W89).1
  have P91 : own_Arr Z h89 b51 12 oa90 := by rw [d_oa90]; exact own_Arr.set Ar89 S89 H89 W89
  obtain ⟨_, _, ⟨T92, L92, k92, n92⟩, -, X92, ⟨Lc92, hQ92, l92, y92, z92⟩, st92⟩ := Jvm.LawKit.callS X89 hx (y := (⟨"com/example/keyward/keyward/codecs/VarintReadPinLaw", "jb", "(II)B"⟩ : MethodName)) hown (mvT hZ (hw _ (List.mem_of_getElem? (i := 2) rfl))) (mvT hZ (hw _ (List.mem_of_getElem? (i := 3) rfl))) (mvT hZ (hw _ (List.mem_of_getElem? (i := 4) rfl))) (mvT hZ (hw _ (List.mem_of_getElem? (i := 5) rfl))) (by decide) (backOf (W := 2) (rm1 l Z a0 hw [] x3 (10 : Int32) h89 n0 Z89) hZ (hw _ (List.mem_of_getElem? (i := 5) rfl)) (hw _ (List.mem_of_getElem? (i := 4) rfl)) (by decide) (by decide)) (g := (mkF m 250 #[.val (.long x0), .second, .val (.int x1), .val (.int x2), .val (.int x3), .val (.long ov1), .second, .val (.int ov2), .val (.int oj47), .val (.ref b51)] [(.int (10 : Int32)), (.int x3), (.int (10 : Int32)), (.ref b51)])) rfl (by rw [hml]; rfl) (argsL := [(.int x3), (.int (10 : Int32))]) (rest := [(.int (10 : Int32)), (.ref b51)]) (lenOf pd_0 rfl) rfl (by show 2 * 0 + _ ≤ _; exact Nat.le_of_eq rfl) (hb hby at_250) (fun _ _ => ⟨rfl, e89, (by decide : 1 + 0 ≤ _), (by decide : 12 + 0 ≤ _)⟩)
  dsimp only [Pt.U, Pt.locs, Pt.cells, Pt.slots] at X92 l92 y92 z92 st92 hQ92
  subst y92 z92
  obtain ⟨rfl, Nq92, e92⟩ := hQ92
  have N92 : Fr n0 L92 := by rw [l92]; exact Fr.app N89 Nq92
  have Vc93 := P91
  obtain ⟨cl93, Ar93, S93, H93⟩ := Vc93
  have hin93 : 0 ≤ ((10 : Int32)).toInt ∧ ((10 : Int32)).toInt < (12 : Nat) := (by decide)
  obtain ⟨T93, h93, X93, e93, W93, st93⟩ := stB X92 hx hZ e92 Ar93 (j := (10 : Int32)) (own_inb S93 hin93) (g := (mkF m 253 #[.val (.long x0), .second, .val (.int x1), .val (.int x2), .val (.int x3), .val (.long ov1), .second, .val (.int ov2), .val (.int oj47), .val (.ref b51)] [(.int (f1 x3 (10 : Int32))), (.int (10 : Int32)), (.ref b51)])) rfl rfl (hb hby at_253)
  have N93 := Fr.snoc X93 N92 g_b51
  have Z93 : n0 ≤ h93.size := Nat.le_trans Z89 (Keep.of_wr W93).1
  have P95 : own_Arr Z h93 b51 12 oa94 := by rw [d_oa94]; exact own_Arr.set Ar93 S93 H93 W93
  have prx7 : ∀ t, Steps p.tables e below (T93.setTop (mkF m 260 #[.val (.long x0), .second, .val (.int x1), .val (.int x2), .val (.int x3), .val (.long ov1), .second, .val (.int ov2), .val (.int oj47), .val (.ref b51)] [(.int x3), (.int (11 : Int32)), (.ref b51)])) t → Steps p.tables e below (s₁.setTop (entryFrame m #[(.long x0), (.int x1), (.int x2), (.int x3)] maxLocals)) t := by
    intro t k
    refine prx6 _ ?_
    show Steps p.tables e below (T85.setTop (mkF m 236 #[.val (.long x0), .second, .val (.int x1), .val (.int x2), .val (.int x3), .val (.long ov1), .second, .val (.int ov2), .val (.int oj47), .val (.ref b51)] [(.int x3), (.int (9 : Int32)), (.ref b51)])) _
    refine XS.bipush X85.here hx rfl (hb hby at_236) ?_
    show Steps p.tables e below (T85.setTop (mkF m 238 #[.val (.long x0), .second, .val (.int x1), .val (.int x2), .val (.int x3), .val (.long ov1), .second, .val (.int ov2), .val (.int oj47), .val (.ref b51)] [(.int (9 : Int32)), (.int x3), (.int (9 : Int32)), (.ref b51)])) _
    refine st88 _ ?_
    show Steps p.tables e below (T88.setTop (mkF m 241 #[.val (.long x0), .second, .val (.int x1), .val (.int x2), .val (.int x3), .val (.long ov1), .second, .val (.int ov2), .val (.int oj47), .val (.ref b51)] [(.int (f1 x3 (9 : Int32))), (.int (9 : Int32)), (.ref b51)])) _
    refine st89 _ ?_
    show Steps p.tables e below (T89.setTop (mkF m 242 #[.val (.long x0), .second, .val (.int x1), .val (.int x2), .val (.int x3), .val (.long ov1), .second, .val (.int ov2), .val (.int oj47), .val (.ref b51)] [])) _
    refine XS.aload X89.here hx rfl (hb hby at_242) rfl rfl ?_
    show Steps p.tables e below (T89.setTop (mkF m 244 #[.val (.long x0), .second, .val (.int x1), .val (.int x2), .val (.int x3), .val (.long ov1), .second, .val (.int ov2), .val (.int oj47), .val (.ref b51)] [(.ref b51)])) _
    refine XS.bipush X89.here hx rfl (hb hby at_244) ?_
    show Steps p.tables e below (T89.setTop (mkF m 246 #[.val (.long x0), .second, .val (.int x1), .val (.int x2), .val (.int x3), .val (.long ov1), .second, .val (.int ov2), .val (.int oj47), .val (.ref b51)] [(.int (10 : Int32)), (.ref b51)])) _
    refine XS.iload X89.here hx rfl (hb hby at_246) rfl ?_
    show Steps p.tables e below (T89.setTop (mkF m 248 #[.val (.long x0), .second, .val (.int x1), .val (.int x2), .val (.int x3), .val (.long ov1), .second, .val (.int ov2), .val (.int oj47), .val (.ref b51)] [(.int x3), (.int (10 : Int32)), (.ref b51)])) _
    refine XS.bipush X89.here hx rfl (hb hby at_248) ?_
    show Steps p.tables e below (T89.setTop (mkF m 250 #[.val (.long x0), .second, .val (.int x1), .val (.int x2), .val (.int x3), .val (.long ov1), .second, .val (.int ov2), .val (.int oj47), .val (.ref b51)] [(.int (10 : Int32)), (.int x3), (.int (10 : Int32)), (.ref b51)])) _
    refine st92 _ ?_
    show Steps p.tables e below (T92.setTop (mkF m 253 #[.val (.long x0), .second, .val (.int x1), .val (.int x2), .val (.int x3), .val (.long ov1), .second, .val (.int ov2), .val (.int oj47), .val (.ref b51)] [(.int (f1 x3 (10 : Int32))), (.int (10 : Int32)), (.ref b51)])) _
    refine st93 _ ?_
    show Steps p.tables e below (T93.setTop (mkF m 254 #[.val (.long x0), .second, .val (.int x1), .val (.int x2), .val (.int x3), .val (.long ov1), .second, .val (.int ov2), .val (.int oj47), .val (.ref b51)] [])) _
    refine XS.aload X93.here hx rfl (hb hby at_254) rfl rfl ?_
    show Steps p.tables e below (T93.setTop (mkF m 256 #[.val (.long x0), .second, .val (.int x1), .val (.int x2), .val (.int x3), .val (.long ov1), .second, .val (.int ov2), .val (.int oj47), .val (.ref b51)] [(.ref b51)])) _
    refine XS.bipush X93.here hx rfl (hb hby at_256) ?_
    show Steps p.tables e below (T93.setTop (mkF m 258 #[.val (.long x0), .second, .val (.int x1), .val (.int x2), .val (.int x3), .val (.long ov1), .second, .val (.int ov2), .val (.int oj47), .val (.ref b51)] [(.int (11 : Int32)), (.ref b51)])) _
    refine XS.iload X93.here hx rfl (hb hby at_258) rfl ?_
    exact k
  obtain ⟨_, _, ⟨T96, L96, k96, n96⟩, -, X96, ⟨Lc96, hQ96, l96, y96, z96⟩, st96⟩ := Jvm.LawKit.callS X93 hx (y := (⟨"com/example/keyward/keyward/codecs/VarintReadPinLaw", "jb", "(II)B"⟩ : MethodName)) hown (mvT hZ (hw _ (List.mem_of_getElem? (i := 2) rfl))) (mvT hZ (hw _ (List.mem_of_getElem? (i := 3) rfl))) (mvT hZ (hw _ (List.mem_of_getElem? (i := 4) rfl))) (mvT hZ (hw _ (List.mem_of_getElem? (i := 5) rfl))) (by decide) (backOf (W := 2) (rm1 l Z a0 hw [] x3 (11 : Int32) h93 n0 Z93) hZ (hw _ (List.mem_of_getElem? (i := 5) rfl)) (hw _ (List.mem_of_getElem? (i := 4) rfl)) (by decide) (by decide)) (g := (mkF m 262 #[.val (.long x0), .second, .val (.int x1), .val (.int x2), .val (.int x3), .val (.long ov1), .second, .val (.int ov2), .val (.int oj47), .val (.ref b51)] [(.int (11 : Int32)), (.int x3), (.int (11 : Int32)), (.ref b51)])) rfl (by rw [hml]; rfl) (argsL := [(.int x3), (.int (11 : Int32))]) (rest := [(.int (11 : Int32)), (.ref b51)]) (lenOf pd_0 rfl) rfl (by show 2 * 0 + _ ≤ _; exact Nat.le_of_eq rfl) (hb hby at_262) (fun _ _ => ⟨rfl, e93, (by decide : 1 + 0 ≤ _), (by decide : 12 + 0 ≤ _)⟩)
  dsimp only [Pt.U, Pt.locs, Pt.cells, Pt.slots] at X96 l96 y96 z96 st96 hQ96
  subst y96 z96
  obtain ⟨rfl, Nq96, e96⟩ := hQ96
  have N96 : Fr n0 L96 := by rw [l96]; exact Fr.app N93 Nq96
  have Vc97 := P95
  obtain ⟨cl97, Ar97, S97, H97⟩ := Vc97
  have hin97 : 0 ≤ ((11 : Int32)).toInt ∧ ((11 : Int32)).toInt < (12 : Nat) := (by decide)
  obtain ⟨T97, h97, X97, e97, W97, st97⟩ := stB X96 hx hZ e96 Ar97 (j := (11 : Int32)) (own_inb S97 hin97) (g := (mkF m 265 #[.val (.long x0), .second, .val (.int x1), .val (.int x2), .val (.int x3), .val (.long ov1), .second, .val (.int ov2), .val (.int oj47), .val (.ref b51)] [(.int (f1 x3 (11 : Int32))), (.int (11 : Int32)), (.ref b51)])) rfl rfl (hb hby at_265)
  have N97 := Fr.snoc X97 N96 g_b51
  have Z97 : n0 ≤ h97.size := Nat.le_trans Z93 (Keep.of_wr W97).1
  have P99 : own_Arr Z h97 b51 12 oa98 := by rw [d_oa98]; exact own_Arr.set Ar97 S97 H97 W97
  obtain ⟨_, _, ⟨T100, L100, k100, n100⟩, -, X100, ⟨Lc100, hQ100, l100, y100, z100⟩, st100⟩ := Jvm.LawKit.callS X97 hx (y := (⟨"com/example/keyward/keyward/codecs/VarintReadPinLaw", "put", "([BIIIJ)V"⟩ : MethodName)) hown (mvT hZ (hw _ (List.mem_of_getElem? (i := 6) rfl))) (mvT hZ (hw _ (List.mem_of_getElem? (i := 7) rfl))) (mvT hZ (hw _ (List.mem_of_getElem? (i := 4) rfl))) (mvT hZ (hw _ (List.mem_of_getElem? (i := 8) rfl))) (by decide) (backOf (W := 0) (rm2 l Z a0 hw [] b51 ov2 (0 : Int32) oj47 ov1 oa98 h97 n0 Z97 P99 g_b51 (by rw [h_ov2]; exact own_put x0 x1 x2 x3 _ (by decide))) hZ (hw _ (List.mem_of_getElem? (i := 8) rfl)) (hw _ (List.mem_of_getElem? (i := 4) rfl)) (by decide) (by decide)) (g := (mkF m 275 #[.val (.long x0), .second, .val (.int x1), .val (.int x2), .val (.int x3), .val (.long ov1), .second, .val (.int ov2), .val (.int oj47), .val (.ref b51)] [(.long ov1), (.int oj47), (.int (0 : Int32)), (.int ov2), (.ref b51)])) rfl (by rw [hml]; rfl) (argsL := [(.ref b51), (.int ov2), (.int (0 : Int32)), (.int oj47), (.long ov1)]) (rest := []) (lenOf pd_1 rfl) rfl (by show 2 * 0 + _ ≤ _; exact Nat.le_of_eq rfl) (hb hby at_275) (fun _ _ => ⟨rfl, e97, (by decide : 1 + 0 ≤ _), (by decide : 12 + 0 ≤ _)⟩)
  dsimp only [Pt.U, Pt.locs, Pt.cells, Pt.slots] at X100 l100 y100 z100 st100 hQ100
  subst y100 z100
  obtain ⟨rfl, Nq100, Kq100, Gv100⟩ := hQ100
  obtain ⟨h100, e100⟩ : ∃ z, T100.heap = z := ⟨_, rfl⟩
  rw [e100] at Kq100 Gv100
  have N100 : Fr n0 L100 := by rw [l100]; exact Fr.app N97 Nq100
  have Z100 : n0 ≤ h100.size := Nat.le_trans Z97 Kq100.1
  have P102 : own_Arr Z h100 b51 12 oa101 := by rw [d_oa101]; exact Gv100
  have prx8 : ∀ t, Steps p.tables e below (T100.setTop (mkF m 283 #[.val (.long x0), .second, .val (.int x1), .val (.int x2), .val (.int x3), .val (.long ov1), .second, .val (.int ov2), .val (.int oj47), .val (.ref b51)] [(.int (1 : Int32)), (.int ov2), (.ref b51)])) t → Steps p.tables e below (s₁.setTop (entryFrame m #[(.long x0), (.int x1), (.int x2), (.int x3)] maxLocals)) t := by
    intro t k
    refine prx7 _ ?_
    show Steps p.tables e below (T93.setTop (mkF m 260 #[.val (.long x0), .second, .val (.int x1), .val (.int x2), .val (.int x3), .val (.long ov1), .second, .val (.int ov2), .val (.int oj47), .val (.ref b51)] [(.int x3), (.int (11 : Int32)), (.ref b51)])) _
    refine XS.bipush X93.here hx rfl (hb hby at_260) ?_
    show Steps p.tables e below (T93.setTop (mkF m 262 #[.val (.long x0), .second, .val (.int x1), .val (.int x2), .val (.int x3), .val (.long ov1), .second, .val (.int ov2), .val (.int oj47), .val (.ref b51)] [(.int (11 : Int32)), (.int x3), (.int (11 : Int32)), (.ref b51)])) _
    refine st96 _ ?_
    show Steps p.tables e below (T96.setTop (mkF m 265 #[.val (.long x0), .second, .val (.int x1), .val (.int x2), .val (.int x3), .val (.long ov1), .second, .val (.int ov2), .val (.int oj47), .val (.ref b51)] [(.int (f1 x3 (11 : Int32))), (.int (11 : Int32)), (.ref b51)])) _
    refine st97 _ ?_
    show Steps p.tables e below (T97.setTop (mkF m 266 #[.val (.long x0), .second, .val (.int x1), .val (.int x2), .val (.int x3), .val (.long ov1), .second, .val (.int ov2), .val (.int oj47), .val (.ref b51)] [])) _
    refine XS.aload X97.here hx rfl (hb hby at_266) rfl rfl ?_
    show Steps p.tables e below (T97.setTop (mkF m 268 #[.val (.long x0), .second, .val (.int x1), .val (.int x2), .val (.int x3), .val (.long ov1), .second, .val (.int ov2), .val (.int oj47), .val (.ref b51)] [(.ref b51)])) _
    refine XS.iload X97.here hx rfl (hb hby at_268) rfl ?_
    show Steps p.tables e below (T97.setTop (mkF m 270 #[.val (.long x0), .second, .val (.int x1), .val (.int x2), .val (.int x3), .val (.long ov1), .second, .val (.int ov2), .val (.int oj47), .val (.ref b51)] [(.int ov2), (.ref b51)])) _
    refine XS.iconst X97.here hx rfl (hb hby at_270) ?_
    show Steps p.tables e below (T97.setTop (mkF m 271 #[.val (.long x0), .second, .val (.int x1), .val (.int x2), .val (.int x3), .val (.long ov1), .second, .val (.int ov2), .val (.int oj47), .val (.ref b51)] [(.int (0 : Int32)), (.int ov2), (.ref b51)])) _
    refine XS.iload X97.here hx rfl (hb hby at_271) rfl ?_
    show Steps p.tables e below (T97.setTop (mkF m 273 #[.val (.long x0), .second, .val (.int x1), .val (.int x2), .val (.int x3), .val (.long ov1), .second, .val (.int ov2), .val (.int oj47), .val (.ref b51)] [(.int oj47), (.int (0 : Int32)), (.int ov2), (.ref b51)])) _
    refine XS.lload X97.here hx rfl (hb hby at_273) rfl ?_
    show Steps p.tables e below (T97.setTop (mkF m 275 #[.val (.long x0), .second, .val (.int x1), .val (.int x2), .val (.int x3), .val (.long ov1), .second, .val (.int ov2), .val (.int oj47), .val (.ref b51)] [(.long ov1), (.int oj47), (.int (0 : Int32)), (.int ov2), (.ref b51)])) _
    refine st100 _ ?_
    show Steps p.tables e below (T100.setTop (mkF m 278 #[.val (.long x0), .second, .val (.int x1), .val (.int x2), .val (.int x3), .val (.long ov1), .second, .val (.int ov2), .val (.int oj47), .val (.ref b51)] [])) _
    refine XS.aload X100.here hx rfl (hb hby at_278) rfl rfl ?_
    show Steps p.tables e below (T100.setTop (mkF m 280 #[.val (.long x0), .second, .val (.int x1), .val (.int x2), .val (.int x3), .val (.long ov1), .second, .val (.int ov2), .val (.int oj47), .val (.ref b51)] [(.ref b51)])) _
    refine XS.iload X100.here hx rfl (hb hby at_280) rfl ?_
    show Steps p.tables e below (T100.setTop (mkF m 282 #[.val (.long x0), .second, .val (.int x1), .val (.int x2), .val (.int x3), .val (.long ov1), .second, .val (.int ov2), .val (.int oj47), .val (.ref b51)] [(.int ov2), (.ref b51)])) _
    refine XS.iconst X100.here hx rfl (hb hby at_282) ?_
    exact k
  obtain ⟨_, _, ⟨T103, L103, k103, n103⟩, -, X103, ⟨Lc103, hQ103, l103, y103, z103⟩, st103⟩ := Jvm.LawKit.callS X100 hx (y := (⟨"com/example/keyward/keyward/codecs/VarintReadPinLaw", "put", "([BIIIJ)V"⟩ : MethodName)) hown (mvT hZ (hw _ (List.mem_of_getElem? (i := 6) rfl))) (mvT hZ (hw _ (List.mem_of_getElem? (i := 7) rfl))) (mvT hZ (hw _ (List.mem_of_getElem? (i := 4) rfl))) (mvT hZ (hw _ (List.mem_of_getElem? (i := 8) rfl))) (by decide) (backOf (W := 0) (rm2 l Z a0 hw [] b51 ov2 (1 : Int32) oj47 ov1 oa101 h100 n0 Z100 P102 g_b51 (by rw [h_ov2]; exact own_put x0 x1 x2 x3 _ (by decide))) hZ (hw _ (List.mem_of_getElem? (i := 8) rfl)) (hw _ (List.mem_of_getElem? (i := 4) rfl)) (by decide) (by decide)) (g := (mkF m 287 #[.val (.long x0), .second, .val (.int x1), .val (.int x2), .val (.int x3), .val (.long ov1), .second, .val (.int ov2), .val (.int oj47), .val (.ref b51)] [(.long ov1), (.int oj47), (.int (1 : Int32)), (.int ov2), (.ref b51)])) rfl (by rw [hml]; rfl) (argsL := [(.ref b51), (.int ov2), (.int (1 : Int32)), (.int oj47), (.long ov1)]) (rest := []) (lenOf pd_1 rfl) rfl (by show 2 * 0 + _ ≤ _; exact Nat.le_of_eq rfl) (hb hby at_287) (fun _ _ => ⟨rfl, e100, (by decide : 1 + 0 ≤ _), (by decide : 12 + 0 ≤ _)⟩)
  dsimp only [Pt.U, Pt.locs, Pt.cells, Pt.slots] at X103 l103 y103 z103 st103 hQ103
  subst y103 z103
  obtain ⟨rfl, Nq103, Kq103, Gv103⟩ := hQ103
  obtain ⟨h103, e103⟩ : ∃ z, T103.heap = z := ⟨_, rfl⟩
  rw [e103] at Kq103 Gv103
  have N103 : Fr n0 L103 := by rw [l103]; exact Fr.app N100 Nq103
  have Z103 : n0 ≤ h103.size := Nat.le_trans Z100 Kq103.1
  have P105 : own_Arr Z h103 b51 12 oa104 := by rw [d_oa104]; exact Gv103
  obtain ⟨_, _, ⟨T106, L106, k106, n106⟩, -, X106, ⟨Lc106, hQ106, l106, y106, z106⟩, st106⟩ := Jvm.LawKit.callS X103 hx (y := (⟨"com/example/keyward/keyward/codecs/VarintReadPinLaw", "put", "([BIIIJ)V"⟩ : MethodName)) hown (mvT hZ (hw _ (List.mem_of_getElem? (i := 6) rfl))) (mvT hZ (hw _ (List.mem_of_getElem? (i := 7) rfl))) (mvT hZ (hw _ (List.mem_of_getElem? (i := 4) rfl))) (mvT hZ (hw _ (List.mem_of_getElem? (i := 8) rfl))) (by decide) (backOf (W := 0) (rm2 l Z a0 hw [] b51 ov2 (2 : Int32) oj47 ov1 oa104 h103 n0 Z103 P105 g_b51 (by rw [h_ov2]; exact own_put x0 x1 x2 x3 _ (by decide))) hZ (hw _ (List.mem_of_getElem? (i := 8) rfl)) (hw _ (List.mem_of_getElem? (i := 4) rfl)) (by decide) (by decide)) (g := (mkF m 299 #[.val (.long x0), .second, .val (.int x1), .val (.int x2), .val (.int x3), .val (.long ov1), .second, .val (.int ov2), .val (.int oj47), .val (.ref b51)] [(.long ov1), (.int oj47), (.int (2 : Int32)), (.int ov2), (.ref b51)])) rfl (by rw [hml]; rfl) (argsL := [(.ref b51), (.int ov2), (.int (2 : Int32)), (.int oj47), (.long ov1)]) (rest := []) (lenOf pd_1 rfl) rfl (by show 2 * 0 + _ ≤ _; exact Nat.le_of_eq rfl) (hb hby at_299) (fun _ _ => ⟨rfl, e103, (by decide : 1 + 0 ≤ _), (by decide : 12 + 0 ≤ _)⟩)
  dsimp only [Pt.U, Pt.locs, Pt.cells, Pt.slots] at X106 l106 y106 z106 st106 hQ106
  subst y106 z106
  obtain ⟨rfl, Nq106, Kq106, Gv106⟩ := hQ106
  obtain ⟨h106, e106⟩ : ∃ z, T106.heap = z := ⟨_, rfl⟩
  rw [e106] at Kq106 Gv106
  have N106 : Fr n0 L106 := by rw [l106]; exact Fr.app N103 Nq106
  have Z106 : n0 ≤ h106.size := Nat.le_trans Z103 Kq106.1
  have P108 : own_Arr Z h106 b51 12 oa107 := by rw [d_oa107]; exact Gv106
  have prx9 : ∀ t, Steps p.tables e below (T106.setTop (mkF m 307 #[.val (.long x0), .second, .val (.int x1), .val (.int x2), .val (.int x3), .val (.long ov1), .second, .val (.int ov2), .val (.int oj47), .val (.ref b51)] [(.int (3 : Int32)), (.int ov2), (.ref b51)])) t → Steps p.tables e below (s₁.setTop (entryFrame m #[(.long x0), (.int x1), (.int x2), (.int x3)] maxLocals)) t := by
    intro t k
    refine prx8 _ ?_
    show Steps p.tables e below (T100.setTop (mkF m 283 #[.val (.long x0), .second, .val (.int x1), .val (.int x2), .val (.int x3), .val (.long ov1), .second, .val (.int ov2), .val (.int oj47), .val (.ref b51)] [(.int (1 : Int32)), (.int ov2), (.ref b51)])) _
    refine XS.iload X100.here hx rfl (hb hby at_283) rfl ?_
    show Steps p.tables e below (T100.setTop (mkF m 285 #[.val (.long x0), .second, .val (.int x1), .val (.int x2), .val (.int x3), .val (.long ov1), .second, .val (.int ov2), .val (.int oj47), .val (.ref b51)] [(.int oj47), (.int (1 : Int32)), (.int ov2), (.ref b51)])) _
    refine XS.lload X100.here hx rfl (hb hby at_285) rfl ?_
    show Steps p.tables e below (T100.setTop (mkF m 287 #[.val (.long x0), .second, .val (.int x1), .val (.int x2), .val (.int x3), .val (.long ov1), .second, .val (.int ov2), .val (.int oj47), .val (.ref b51)] [(.long ov1), (.int oj47), (.int (1 : Int32)), (.int ov2), (.ref b51)])) _
    refine st103 _ ?_
    show Steps p.tables e below (T103.setTop (mkF m 290 #[.val (.long x0), .second, .val (.int x1), .val (.int x2), .val (.int x3), .val (.long ov1), .second, .val (.int ov2), .val (.int oj47), .val (.ref b51)] [])) _
    refine XS.aload X103.here hx rfl (hb hby at_290) rfl rfl ?_
    show Steps p.tables e below (T103.setTop (mkF m 292 #[.val (.long x0), .second, .val (.int x1), .val (.int x2), .val (.int x3), .val (.long ov1), .second, .val (.int ov2), .val (.int oj47), .val (.ref b51)] [(.ref b51)])) _
    refine XS.iload X103.here hx rfl (hb hby at_292) rfl ?_
    show Steps p.tables e below (T103.setTop (mkF m 294 #[.val (.long x0), .second, .val (.int x1), .val (.int x2), .val (.int x3), .val (.long ov1), .second, .val (.int ov2), .val (.int oj47), .val (.ref b51)] [(.int ov2), (.ref b51)])) _
    refine XS.iconst X103.here hx rfl (hb hby at_294) ?_
    show Steps p.tables e below (T103.setTop (mkF m 295 #[.val (.long x0), .second, .val (.int x1), .val (.int x2), .val (.int x3), .val (.long ov1), .second, .val (.int ov2), .val (.int oj47), .val (.ref b51)] [(.int (2 : Int32)), (.int ov2), (.ref b51)])) _
    refine XS.iload X103.here hx rfl (hb hby at_295) rfl ?_
    show Steps p.tables e below (T103.setTop (mkF m 297 #[.val (.long x0), .second, .val (.int x1), .val (.int x2), .val (.int x3), .val (.long ov1), .second, .val (.int ov2), .val (.int oj47), .val (.ref b51)] [(.int oj47), (.int (2 : Int32)), (.int ov2), (.ref b51)])) _
    refine XS.lload X103.here hx rfl (hb hby at_297) rfl ?_
    show Steps p.tables e below (T103.setTop (mkF m 299 #[.val (.long x0), .second, .val (.int x1), .val (.int x2), .val (.int x3), .val (.long ov1), .second, .val (.int ov2), .val (.int oj47), .val (.ref b51)] [(.long ov1), (.int oj47), (.int (2 : Int32)), (.int ov2), (.ref b51)])) _
    refine st106 _ ?_
    show Steps p.tables e below (T106.setTop (mkF m 302 #[.val (.long x0), .second, .val (.int x1), .val (.int x2), .val (.int x3), .val (.long ov1), .second, .val (.int ov2), .val (.int oj47), .val (.ref b51)] [])) _
    refine XS.aload X106.here hx rfl (hb hby at_302) rfl rfl ?_
    show Steps p.tables e below (T106.setTop (mkF m 304 #[.val (.long x0), .second, .val (.int x1), .val (.int x2), .val (.int x3), .val (.long ov1), .second, .val (.int ov2), .val (.int oj47), .val (.ref b51)] [(.ref b51)])) _
    refine XS.iload X106.here hx rfl (hb hby at_304) rfl ?_
    show Steps p.tables e below (T106.setTop (mkF m 306 #[.val (.long x0), .second, .val (.int x1), .val (.int x2), .val (.int x3), .val (.long ov1), .second, .val (.int ov2), .val (.int oj47), .val (.ref b51)] [(.int ov2), (.ref b51)])) _
    refine XS.iconst X106.here hx rfl (hb hby at_306) ?_
    exact k
  obtain ⟨_, _, ⟨T109, L109, k109, n109⟩, -, X109, ⟨Lc109, hQ109, l109, y109, z109⟩, st109⟩ := Jvm.LawKit.callS X106 hx (y := (⟨"com/example/keyward/keyward/codecs/VarintReadPinLaw", "put", "([BIIIJ)V"⟩ : MethodName)) hown (mvT hZ (hw _ (List.mem_of_getElem? (i := 6) rfl))) (mvT hZ (hw _ (List.mem_of_getElem? (i := 7) rfl))) (mvT hZ (hw _ (List.mem_of_getElem? (i := 4) rfl))) (mvT hZ (hw _ (List.mem_of_getElem? (i := 8) rfl))) (by decide) (backOf (W := 0) (rm2 l Z a0 hw [] b51 ov2 (3 : Int32) oj47 ov1 oa107 h106 n0 Z106 P108 g_b51 (by rw [h_ov2]; exact own_put x0 x1 x2 x3 _ (by decide))) hZ (hw _ (List.mem_of_getElem? (i := 8) rfl)) (hw _ (List.mem_of_getElem? (i := 4) rfl)) (by decide) (by decide)) (g := (mkF m 311 #[.val (.long x0), .second, .val (.int x1), .val (.int x2), .val (.int x3), .val (.long ov1), .second, .val (.int ov2), .val (.int oj47), .val (.ref b51)] [(.long ov1), (.int oj47), (.int (3 : Int32)), (.int ov2), (.ref b51)])) rfl (by rw [hml]; rfl) (argsL := [(.ref b51), (.int ov2), (.int (3 : Int32)), (.int oj47), (.long ov1)]) (rest := []) (lenOf pd_1 rfl) rfl (by show 2 * 0 + _ ≤ _; exact Nat.le_of_eq rfl) (hb hby at_311) (fun _ _ => ⟨rfl, e106, (by decide : 1 + 0 ≤ _), (by decide : 12 + 0 ≤ _)⟩)
  dsimp only [Pt.U, Pt.locs, Pt.cells, Pt.slots] at X109 l109 y109 z109 st109 hQ109
  subst y109 z109
  obtain ⟨rfl, Nq109, Kq109, Gv109⟩ := hQ109
  obtain ⟨h109, e109⟩ : ∃ z, T109.heap = z := ⟨_, rfl⟩
  rw [e109] at Kq109 Gv109
  have N109 : Fr n0 L109 := by rw [l109]; exact Fr.app N106 Nq109
  have Z109 : n0 ≤ h109.size := Nat.le_trans Z106 Kq109.1
  have P111 : own_Arr Z h109 b51 12 oa110 := by rw [d_oa110]; exact Gv109
  obtain ⟨_, _, ⟨T112, L112, k112, n112⟩, -, X112, ⟨Lc112, hQ112, l112, y112, z112⟩, st112⟩ := Jvm.LawKit.callS X109 hx (y := (⟨"com/example/keyward/keyward/codecs/VarintReadPinLaw", "put", "([BIIIJ)V"⟩ : MethodName)) hown (mvT hZ (hw _ (List.mem_of_getElem? (i := 6) rfl))) (mvT hZ (hw _ (List.mem_of_getElem? (i := 7) rfl))) (mvT hZ (hw _ (List.mem_of_getElem? (i := 4) rfl))) (mvT hZ (hw _ (List.mem_of_getElem? (i := 8) rfl))) (by decide) (backOf (W := 0) (rm2 l Z a0 hw [] b51 ov2 (4 : Int32) oj47 ov1 oa110 h109 n0 Z109 P111 g_b51 (by rw [h_ov2]; exact own_put x0 x1 x2 x3 _ (by decide))) hZ (hw _ (List.mem_of_getElem? (i := 8) rfl)) (hw _ (List.mem_of_getElem? (i := 4) rfl)) (by decide) (by decide)) (g := (mkF m 323 #[.val (.long x0), .second, .val (.int x1), .val (.int x2), .val (.int x3), .val (.long ov1), .second, .val (.int ov2), .val (.int oj47), .val (.ref b51)] [(.long ov1), (.int oj47), (.int (4 : Int32)), (.int ov2), (.ref b51)])) rfl (by rw [hml]; rfl) (argsL := [(.ref b51), (.int ov2), (.int (4 : Int32)), (.int oj47), (.long ov1)]) (rest := []) (lenOf pd_1 rfl) rfl (by show 2 * 0 + _ ≤ _; exact Nat.le_of_eq rfl) (hb hby at_323) (fun _ _ => ⟨rfl, e109, (by decide : 1 + 0 ≤ _), (by decide : 12 + 0 ≤ _)⟩)
  dsimp only [Pt.U, Pt.locs, Pt.cells, Pt.slots] at X112 l112 y112 z112 st112 hQ112
  subst y112 z112
  obtain ⟨rfl, Nq112, Kq112, Gv112⟩ := hQ112
  obtain ⟨h112, e112⟩ : ∃ z, T112.heap = z := ⟨_, rfl⟩
  rw [e112] at Kq112 Gv112
  have N112 : Fr n0 L112 := by rw [l112]; exact Fr.app N109 Nq112
  have Z112 : n0 ≤ h112.size := Nat.le_trans Z109 Kq112.1
  have P114 : own_Arr Z h112 b51 12 oa113 := by rw [d_oa113]; exact Gv112
  have prx10 : ∀ t, Steps p.tables e below (T112.setTop (mkF m 331 #[.val (.long x0), .second, .val (.int x1), .val (.int x2), .val (.int x3), .val (.long ov1), .second, .val (.int ov2), .val (.int oj47), .val (.ref b51)] [(.int (5 : Int32)), (.int ov2), (.ref b51)])) t → Steps p.tables e below (s₁.setTop (entryFrame m #[(.long x0), (.int x1), (.int x2), (.int x3)] maxLocals)) t := by
    intro t k
    refine prx9 _ ?_
    show Steps p.tables e below (T106.setTop (mkF m 307 #[.val (.long x0), .second, .val (.int x1), .val (.int x2), .val (.int x3), .val (.long ov1), .second, .val (.int ov2), .val (.int oj47), .val (.ref b51)] [(.int (3 : Int32)), (.int ov2), (.ref b51)])) _
    refine XS.iload X106.here hx rfl (hb hby at_307) rfl ?_
    show Steps p.tables e below (T106.setTop (mkF m 309 #[.val (.long x0), .second, .val (.int x1), .val (.int x2), .val (.int x3), .val (.long ov1), .second, .val (.int ov2), .val (.int oj47), .val (.ref b51)] [(.int oj47), (.int (3 : Int32)), (.int ov2), (.ref b51)])) _
    refine XS.lload X106.here hx rfl (hb hby at_309) rfl ?_
    show Steps p.tables e below (T106.setTop (mkF m 311 #[.val (.long x0), .second, .val (.int x1), .val (.int x2), .val (.int x3), .val (.long ov1), .second, .val (.int ov2), .val (.int oj47), .val (.ref b51)] [(.long ov1), (.int oj47), (.int (3 : Int32)), (.int ov2), (.ref b51)])) _
    refine st109 _ ?_
    show Steps p.tables e below (T109.setTop (mkF m 314 #[.val (.long x0), .second, .val (.int x1), .val (.int x2), .val (.int x3), .val (.long ov1), .second, .val (.int ov2), .val (.int oj47), .val (.ref b51)] [])) _
    refine XS.aload X109.here hx rfl (hb hby at_314) rfl rfl ?_
    show Steps p.tables e below (T109.setTop (mkF m 316 #[.val (.long x0), .second, .val (.int x1), .val (.int x2), .val (.int x3), .val (.long ov1), .second, .val (.int ov2), .val (.int oj47), .val (.ref b51)] [(.ref b51)])) _
    refine XS.iload X109.here hx rfl (hb hby at_316) rfl ?_
    show Steps p.tables e below (T109.setTop (mkF m 318 #[.val (.long x0), .second, .val (.int x1), .val (.int x2), .val (.int x3), .val (.long ov1), .second, .val (.int ov2), .val (.int oj47), .val (.ref b51)] [(.int ov2), (.ref b51)])) _
    refine XS.iconst X109.here hx rfl (hb hby at_318) ?_
    show Steps p.tables e below (T109.setTop (mkF m 319 #[.val (.long x0), .second, .val (.int x1), .val (.int x2), .val (.int x3), .val (.long ov1), .second, .val (.int ov2), .val (.int oj47), .val (.ref b51)] [(.int (4 : Int32)), (.int ov2), (.ref b51)])) _
    refine XS.iload X109.here hx rfl (hb hby at_319) rfl ?_
    show Steps p.tables e below (T109.setTop (mkF m 321 #[.val (.long x0), .second, .val (.int x1), .val (.int x2), .val (.int x3), .val (.long ov1), .second, .val (.int ov2), .val (.int oj47), .val (.ref b51)] [(.int oj47), (.int (4 : Int32)), (.int ov2), (.ref b51)])) _
    refine XS.lload X109.here hx rfl (hb hby at_321) rfl ?_
    show Steps p.tables e below (T109.setTop (mkF m 323 #[.val (.long x0), .second, .val (.int x1), .val (.int x2), .val (.int x3), .val (.long ov1), .second, .val (.int ov2), .val (.int oj47), .val (.ref b51)] [(.long ov1), (.int oj47), (.int (4 : Int32)), (.int ov2), (.ref b51)])) _
    refine st112 _ ?_
    show Steps p.tables e below (T112.setTop (mkF m 326 #[.val (.long x0), .second, .val (.int x1), .val (.int x2), .val (.int x3), .val (.long ov1), .second, .val (.int ov2), .val (.int oj47), .val (.ref b51)] [])) _
    refine XS.aload X112.here hx rfl (hb hby at_326) rfl rfl ?_
    show Steps p.tables e below (T112.setTop (mkF m 328 #[.val (.long x0), .second, .val (.int x1), .val (.int x2), .val (.int x3), .val (.long ov1), .second, .val (.int ov2), .val (.int oj47), .val (.ref b51)] [(.ref b51)])) _
    refine XS.iload X112.here hx rfl (hb hby at_328) rfl ?_
    show Steps p.tables e below (T112.setTop (mkF m 330 #[.val (.long x0), .second, .val (.int x1), .val (.int x2), .val (.int x3), .val (.long ov1), .second, .val (.int ov2), .val (.int oj47), .val (.ref b51)] [(.int ov2), (.ref b51)])) _
    refine XS.iconst X112.here hx rfl (hb hby at_330) ?_
    exact k
  obtain ⟨_, _, ⟨T115, L115, k115, n115⟩, -, X115, ⟨Lc115, hQ115, l115, y115, z115⟩, st115⟩ := Jvm.LawKit.callS X112 hx (y := (⟨"com/example/keyward/keyward/codecs/VarintReadPinLaw", "put", "([BIIIJ)V"⟩ : MethodName)) hown (mvT hZ (hw _ (List.mem_of_getElem? (i := 6) rfl))) (mvT hZ (hw _ (List.mem_of_getElem? (i := 7) rfl))) (mvT hZ (hw _ (List.mem_of_getElem? (i := 4) rfl))) (mvT hZ (hw _ (List.mem_of_getElem? (i := 8) rfl))) (by decide) (backOf (W := 0) (rm2 l Z a0 hw [] b51 ov2 (5 : Int32) oj47 ov1 oa113 h112 n0 Z112 P114 g_b51 (by rw [h_ov2]; exact own_put x0 x1 x2 x3 _ (by decide))) hZ (hw _ (List.mem_of_getElem? (i := 8) rfl)) (hw _ (List.mem_of_getElem? (i := 4) rfl)) (by decide) (by decide)) (g := (mkF m 335 #[.val (.long x0), .second, .val (.int x1), .val (.int x2), .val (.int x3), .val (.long ov1), .second, .val (.int ov2), .val (.int oj47), .val (.ref b51)] [(.long ov1), (.int oj47), (.int (5 : Int32)), (.int ov2), (.ref b51)])) rfl (by rw [hml]; rfl) (argsL := [(.ref b51), (.int ov2), (.int (5 : Int32)), (.int oj47), (.long ov1)]) (rest := []) (lenOf pd_1 rfl) rfl (by show 2 * 0 + _ ≤ _; exact Nat.le_of_eq rfl) (hb hby at_335) (fun _ _ => ⟨rfl, e112, (by decide : 1 + 0 ≤ _), (by decide : 12 + 0 ≤ _)⟩)
  dsimp only [Pt.U, Pt.locs, Pt.cells, Pt.slots] at X115 l115 y115 z115 st115 hQ115
  subst y115 z115
  obtain ⟨rfl, Nq115, Kq115, Gv115⟩ := hQ115
  obtain ⟨h115, e115⟩ : ∃ z, T115.heap = z := ⟨_, rfl⟩
  rw [e115] at Kq115 Gv115
  have N115 : Fr n0 L115 := by rw [l115]; exact Fr.app N112 Nq115
  have Z115 : n0 ≤ h115.size := Nat.le_trans Z112 Kq115.1
  have P117 : own_Arr Z h115 b51 12 oa116 := by rw [d_oa116]; exact Gv115
  obtain ⟨_, _, ⟨T118, L118, k118, n118⟩, -, X118, ⟨Lc118, hQ118, l118, y118, z118⟩, st118⟩ := Jvm.LawKit.callS X115 hx (y := (⟨"com/example/keyward/keyward/codecs/VarintReadPinLaw", "put", "([BIIIJ)V"⟩ : MethodName)) hown (mvT hZ (hw _ (List.mem_of_getElem? (i := 6) rfl))) (mvT hZ (hw _ (List.mem_of_getElem? (i := 7) rfl))) (mvT hZ (hw _ (List.mem_of_getElem? (i := 4) rfl))) (mvT hZ (hw _ (List.mem_of_getElem? (i := 8) rfl))) (by decide) (backOf (W := 0) (rm2 l Z a0 hw [] b51 ov2 (6 : Int32) oj47 ov1 oa116 h115 n0 Z115 P117 g_b51 (by rw [h_ov2]; exact own_put x0 x1 x2 x3 _ (by decide))) hZ (hw _ (List.mem_of_getElem? (i := 8) rfl)) (hw _ (List.mem_of_getElem? (i := 4) rfl)) (by decide) (by decide)) (g := (mkF m 348 #[.val (.long x0), .second, .val (.int x1), .val (.int x2), .val (.int x3), .val (.long ov1), .second, .val (.int ov2), .val (.int oj47), .val (.ref b51)] [(.long ov1), (.int oj47), (.int (6 : Int32)), (.int ov2), (.ref b51)])) rfl (by rw [hml]; rfl) (argsL := [(.ref b51), (.int ov2), (.int (6 : Int32)), (.int oj47), (.long ov1)]) (rest := []) (lenOf pd_1 rfl) rfl (by show 2 * 0 + _ ≤ _; exact Nat.le_of_eq rfl) (hb hby at_348) (fun _ _ => ⟨rfl, e115, (by decide : 1 + 0 ≤ _), (by decide : 12 + 0 ≤ _)⟩)
  dsimp only [Pt.U, Pt.locs, Pt.cells, Pt.slots] at X118 l118 y118 z118 st118 hQ118
  subst y118 z118
  obtain ⟨rfl, Nq118, Kq118, Gv118⟩ := hQ118
  obtain ⟨h118, e118⟩ : ∃ z, T118.heap = z := ⟨_, rfl⟩
  rw [e118] at Kq118 Gv118
  have N118 : Fr n0 L118 := by rw [l118]; exact Fr.app N115 Nq118
  have Z118 : n0 ≤ h118.size := Nat.le_trans Z115 Kq118.1
  have P120 : own_Arr Z h118 b51 12 oa119 := by rw [d_oa119]; exact Gv118
  have prx11 : ∀ t, Steps p.tables e below (T118.setTop (mkF m 357 #[.val (.long x0), .second, .val (.int x1), .val (.int x2), .val (.int x3), .val (.long ov1), .second, .val (.int ov2), .val (.int oj47), .val (.ref b51)] [(.int (7 : Int32)), (.int ov2), (.ref b51)])) t → Steps p.tables e below (s₁.setTop (entryFrame m #[(.long x0), (.int x1), (.int x2), (.int x3)] maxLocals)) t := by
    intro t k
    refine prx10 _ ?_
    show Steps p.tables e below (T112.setTop (mkF m 331 #[.val (.long x0), .second, .val (.int x1), .val (.int x2), .val (.int x3), .val (.long ov1), .second, .val (.int ov2), .val (.int oj47), .val (.ref b51)] [(.int (5 : Int32)), (.int ov2), (.ref b51)])) _
    refine XS.iload X112.here hx rfl (hb hby at_331) rfl ?_
    show Steps p.tables e below (T112.setTop (mkF m 333 #[.val (.long x0), .second, .val (.int x1), .val (.int x2), .val (.int x3), .val (.long ov1), .second, .val (.int ov2), .val (.int oj47), .val (.ref b51)] [(.int oj47), (.int (5 : Int32)), (.int ov2), (.ref b51)])) _
    refine XS.lload X112.here hx rfl (hb hby at_333) rfl ?_
    show Steps p.tables e below (T112.setTop (mkF m 335 #[.val (.long x0), .second, .val (.int x1), .val (.int x2), .val (.int x3), .val (.long ov1), .second, .val (.int ov2), .val (.int oj47), .val (.ref b51)] [(.long ov1), (.int oj47), (.int (5 : Int32)), (.int ov2), (.ref b51)])) _
    refine st115 _ ?_
    show Steps p.tables e below (T115.setTop (mkF m 338 #[.val (.long x0), .second, .val (.int x1), .val (.int x2), .val (.int x3), .val (.long ov1), .second, .val (.int ov2), .val (.int oj47), .val (.ref b51)] [])) _
    refine XS.aload X115.here hx rfl (hb hby at_338) rfl rfl ?_
    show Steps p.tables e below (T115.setTop (mkF m 340 #[.val (.long x0), .second, .val (.int x1), .val (.int x2), .val (.int x3), .val (.long ov1), .second, .val (.int ov2), .val (.int oj47), .val (.ref b51)] [(.ref b51)])) _
    refine XS.iload X115.here hx rfl (hb hby at_340) rfl ?_
    show Steps p.tables e below (T115.setTop (mkF m 342 #[.val (.long x0), .second, .val (.int x1), .val (.int x2), .val (.int x3), .val (.long ov1), .second, .val (.int ov2), .val (.int oj47), .val (.ref b51)] [(.int ov2), (.ref b51)])) _
    refine XS.bipush X115.here hx rfl (hb hby at_342) ?_
    show Steps p.tables e below (T115.setTop (mkF m 344 #[.val (.long x0), .second, .val (.int x1), .val (.int x2), .val (.int x3), .val (.long ov1), .second, .val (.int ov2), .val (.int oj47), .val (.ref b51)] [(.int (6 : Int32)), (.int ov2), (.ref b51)])) _
    refine XS.iload X115.here hx rfl (hb hby at_344) rfl ?_
    show Steps p.tables e below (T115.setTop (mkF m 346 #[.val (.long x0), .second, .val (.int x1), .val (.int x2), .val (.int x3), .val (.long ov1), .second, .val (.int ov2), .val (.int oj47), .val (.ref b51)] [(.int oj47), (.int (6 : Int32)), (.int ov2), (.ref b51)])) _
    refine XS.lload X115.here hx rfl (hb hby at_346) rfl ?_
    show Steps p.tables e below (T115.setTop (mkF m 348 #[.val (.long x0), .second, .val (.int x1), .val (.int x2), .val (.int x3), .val (.long ov1), .second, .val (.int ov2), .val (.int oj47), .val (.ref b51)] [(.long ov1), (.int oj47), (.int (6 : Int32)), (.int ov2), (.ref b51)])) _
    refine st118 _ ?_
    show Steps p.tables e below (T118.setTop (mkF m 351 #[.val (.long x0), .second, .val (.int x1), .val (.int x2), .val (.int x3), .val (.long ov1), .second, .val (.int ov2), .val (.int oj47), .val (.ref b51)] [])) _
    refine XS.aload X118.here hx rfl (hb hby at_351) rfl rfl ?_
    show Steps p.tables e below (T118.setTop (mkF m 353 #[.val (.long x0), .second, .val (.int x1), .val (.int x2), .val (.int x3), .val (.long ov1), .second, .val (.int ov2), .val (.int oj47), .val (.ref b51)] [(.ref b51)])) _
    refine XS.iload X118.here hx rfl (hb hby at_353) rfl ?_
    show Steps p.tables e below (T118.setTop (mkF m 355 #[.val (.long x0), .second, .val (.int x1), .val (.int x2), .val (.int x3), .val (.long ov1), .second, .val (.int ov2), .val (.int oj47), .val (.ref b51)] [(.int ov2), (.ref b51)])) _
    refine XS.bipush X118.here hx rfl (hb hby at_355) ?_
    exact k
  obtain ⟨_, _, ⟨T121, L121, k121, n121⟩, -, X121, ⟨Lc121, hQ121, l121, y121, z121⟩, st121⟩ := Jvm.LawKit.callS X118 hx (y := (⟨"com/example/keyward/keyward/codecs/VarintReadPinLaw", "put", "([BIIIJ)V"⟩ : MethodName)) hown (mvT hZ (hw _ (List.mem_of_getElem? (i := 6) rfl))) (mvT hZ (hw _ (List.mem_of_getElem? (i := 7) rfl))) (mvT hZ (hw _ (List.mem_of_getElem? (i := 4) rfl))) (mvT hZ (hw _ (List.mem_of_getElem? (i := 8) rfl))) (by decide) (backOf (W := 0) (rm2 l Z a0 hw [] b51 ov2 (7 : Int32) oj47 ov1 oa119 h118 n0 Z118 P120 g_b51 (by rw [h_ov2]; exact own_put x0 x1 x2 x3 _ (by decide))) hZ (hw _ (List.mem_of_getElem? (i := 8) rfl)) (hw _ (List.mem_of_getElem? (i := 4) rfl)) (by decide) (by decide)) (g := (mkF m 361 #[.val (.long x0), .second, .val (.int x1), .val (.int x2), .val (.int x3), .val (.long ov1), .second, .val (.int ov2), .val (.int oj47), .val (.ref b51)] [(.long ov1), (.int oj47), (.int (7 : Int32)), (.int ov2), (.ref b51)])) rfl (by rw [hml]; rfl) (argsL := [(.ref b51), (.int ov2), (.int (7 : Int32)), (.int oj47), (.long ov1)]) (rest := []) (lenOf pd_1 rfl) rfl (by show 2 * 0 + _ ≤ _; exact Nat.le_of_eq rfl) (hb hby at_361) (fun _ _ => ⟨rfl, e118, (by decide : 1 + 0 ≤ _), (by decide : 12 + 0 ≤ _)⟩)
  dsimp only [Pt.U, Pt.locs, Pt.cells, Pt.slots] at X121 l121 y121 z121 st121 hQ121
  subst y121 z121
  obtain ⟨rfl, Nq121, Kq121, Gv121⟩ := hQ121
  obtain ⟨h121, e121⟩ : ∃ z, T121.heap = z := ⟨_, rfl⟩
  rw [e121] at Kq121 Gv121
  have N121 : Fr n0 L121 := by rw [l121]; exact Fr.app N118 Nq121
  have Z121 : n0 ≤ h121.size := Nat.le_trans Z118 Kq121.1
  have P123 : own_Arr Z h121 b51 12 oa122 := by rw [d_oa122]; exact Gv121
  obtain ⟨_, _, ⟨T124, L124, k124, n124⟩, -, X124, ⟨Lc124, hQ124, l124, y124, z124⟩, st124⟩ := Jvm.LawKit.callS X121 hx (y := (⟨"com/example/keyward/keyward/codecs/VarintReadPinLaw", "put", "([BIIIJ)V"⟩ : MethodName)) hown (mvT hZ (hw _ (List.mem_of_getElem? (i := 6) rfl))) (mvT hZ (hw _ (List.mem_of_getElem? (i := 7) rfl))) (mvT hZ (hw _ (List.mem_of_getElem? (i := 4) rfl))) (mvT hZ (hw _ (List.mem_of_getElem? (i := 8) rfl))) (by decide) (backOf (W := 0) (rm2 l Z a0 hw [] b51 ov2 (8 : Int32) oj47 ov1 oa122 h121 n0 Z121 P123 g_b51 (by rw [h_ov2]; exact own_put x0 x1 x2 x3 _ (by decide))) hZ (hw _ (List.mem_of_getElem? (i := 8) rfl)) (hw _ (List.mem_of_getElem? (i := 4) rfl)) (by decide) (by decide)) (g := (mkF m 374 #[.val (.long x0), .second, .val (.int x1), .val (.int x2), .val (.int x3), .val (.long ov1), .second, .val (.int ov2), .val (.int oj47), .val (.ref b51)] [(.long ov1), (.int oj47), (.int (8 : Int32)), (.int ov2), (.ref b51)])) rfl (by rw [hml]; rfl) (argsL := [(.ref b51), (.int ov2), (.int (8 : Int32)), (.int oj47), (.long ov1)]) (rest := []) (lenOf pd_1 rfl) rfl (by show 2 * 0 + _ ≤ _; exact Nat.le_of_eq rfl) (hb hby at_374) (fun _ _ => ⟨rfl, e121, (by decide : 1 + 0 ≤ _), (by decide : 12 + 0 ≤ _)⟩)
  dsimp only [Pt.U, Pt.locs, Pt.cells, Pt.slots] at X124 l124 y124 z124 st124 hQ124
  subst y124 z124
  obtain ⟨rfl, Nq124, Kq124, Gv124⟩ := hQ124
  obtain ⟨h124, e124⟩ : ∃ z, T124.heap = z := ⟨_, rfl⟩
  rw [e124] at Kq124 Gv124
  have N124 : Fr n0 L124 := by rw [l124]; exact Fr.app N121 Nq124
  have Z124 : n0 ≤ h124.size := Nat.le_trans Z121 Kq124.1
  have P126 : own_Arr Z h124 b51 12 oa125 := by rw [d_oa125]; exact Gv124
  obtain ⟨_, _, ⟨T127, L127, k127, n127⟩, -, X127, ⟨Lc127, hQ127, l127, y127, z127⟩, st127⟩ := Jvm.LawKit.callS X124 hx (y := (⟨"com/example/keyward/keyward/codecs/Varint", "read", "([BI)J"⟩ : MethodName)) hown (mvT hZ (hw _ (List.mem_of_getElem? (i := 10) rfl))) (mvT hZ (hw _ (List.mem_of_getElem? (i := 11) rfl))) (mvT hZ (hw _ (List.mem_of_getElem? (i := 12) rfl))) (mvT hZ (hw _ (List.mem_of_getElem? (i := 13) rfl))) (by decide) (backOf (W := 0) (rm3 l Z a0 hw [] b51 ov2 oa125 10 ov128 h124 n0 Z124 P126 (by rw [h_ov128, h_ov2, h_oa125]; exact own_some x0 x1 x2 x3)) hZ (hw _ (List.mem_of_getElem? (i := 13) rfl)) (hw _ (List.mem_of_getElem? (i := 12) rfl)) (by decide) (by decide)) (g := (mkF m 381 #[.val (.long x0), .second, .val (.int x1), .val (.int x2), .val (.int x3), .val (.long ov1), .second, .val (.int ov2), .val (.int oj47), .val (.ref b51)] [(.int ov2), (.ref b51)])) rfl (by rw [hml]; rfl) (argsL := [(.ref b51), (.int ov2)]) (rest := []) (lenOf pd_2 rfl) rfl (by show 2 * 0 + _ ≤ _; exact Nat.le_of_eq rfl) (hb hby at_381) (fun _ _ => ⟨rfl, e124, (by decide : 1 + 0 ≤ _), (by decide : 12 + 0 ≤ _)⟩)
  dsimp only [Pt.U, Pt.locs, Pt.cells, Pt.slots] at X127 l127 y127 z127 st127 hQ127
  subst y127 z127
  obtain ⟨rfl, Nq127, e127⟩ := hQ127
  have N127 : Fr n0 L127 := by rw [l127]; exact Fr.app N124 Nq127
  have prx12 : ∀ t, Steps p.tables e below (T127.setTop (mkF m 384 #[.val (.long x0), .second, .val (.int x1), .val (.int x2), .val (.int x3), .val (.long ov1), .second, .val (.int ov2), .val (.int oj47), .val (.ref b51)] [(.long ov128)])) t → Steps p.tables e below (s₁.setTop (entryFrame m #[(.long x0), (.int x1), (.int x2), (.int x3)] maxLocals)) t := by
    intro t k
    refine prx11 _ ?_
    show Steps p.tables e below (T118.setTop (mkF m 357 #[.val (.long x0), .second, .val (.int x1), .val (.int x2), .val (.int x3), .val (.long ov1), .second, .val (.int ov2), .val (.int oj47), .val (.ref b51)] [(.int (7 : Int32)), (.int ov2), (.ref b51)])) _
    refine XS.iload X118.here hx rfl (hb hby at_357) rfl ?_
    show Steps p.tables e below (T118.setTop (mkF m 359 #[.val (.long x0), .second, .val (.int x1), .val (.int x2), .val (.int x3), .val (.long ov1), .second, .val (.int ov2), .val (.int oj47), .val (.ref b51)] [(.int oj47), (.int (7 : Int32)), (.int ov2), (.ref b51)])) _
    refine XS.lload X118.here hx rfl (hb hby at_359) rfl ?_
    show Steps p.tables e below (T118.setTop (mkF m 361 #[.val (.long x0), .second, .val (.int x1), .val (.int x2), .val (.int x3), .val (.long ov1), .second, .val (.int ov2), .val (.int oj47), .val (.ref b51)] [(.long ov1), (.int oj47), (.int (7 : Int32)), (.int ov2), (.ref b51)])) _
    refine st121 _ ?_
    show Steps p.tables e below (T121.setTop (mkF m 364 #[.val (.long x0), .second, .val (.int x1), .val (.int x2), .val (.int x3), .val (.long ov1), .second, .val (.int ov2), .val (.int oj47), .val (.ref b51)] [])) _
    refine XS.aload X121.here hx rfl (hb hby at_364) rfl rfl ?_
    show Steps p.tables e below (T121.setTop (mkF m 366 #[.val (.long x0), .second, .val (.int x1), .val (.int x2), .val (.int x3), .val (.long ov1), .second, .val (.int ov2), .val (.int oj47), .val (.ref b51)] [(.ref b51)])) _
    refine XS.iload X121.here hx rfl (hb hby at_366) rfl ?_
    show Steps p.tables e below (T121.setTop (mkF m 368 #[.val (.long x0), .second, .val (.int x1), .val (.int x2), .val (.int x3), .val (.long ov1), .second, .val (.int ov2), .val (.int oj47), .val (.ref b51)] [(.int ov2), (.ref b51)])) _
    refine XS.bipush X121.here hx rfl (hb hby at_368) ?_
    show Steps p.tables e below (T121.setTop (mkF m 370 #[.val (.long x0), .second, .val (.int x1), .val (.int x2), .val (.int x3), .val (.long ov1), .second, .val (.int ov2), .val (.int oj47), .val (.ref b51)] [(.int (8 : Int32)), (.int ov2), (.ref b51)])) _
    refine XS.iload X121.here hx rfl (hb hby at_370) rfl ?_
    show Steps p.tables e below (T121.setTop (mkF m 372 #[.val (.long x0), .second, .val (.int x1), .val (.int x2), .val (.int x3), .val (.long ov1), .second, .val (.int ov2), .val (.int oj47), .val (.ref b51)] [(.int oj47), (.int (8 : Int32)), (.int ov2), (.ref b51)])) _
    refine XS.lload X121.here hx rfl (hb hby at_372) rfl ?_
    show Steps p.tables e below (T121.setTop (mkF m 374 #[.val (.long x0), .second, .val (.int x1), .val (.int x2), .val (.int x3), .val (.long ov1), .second, .val (.int ov2), .val (.int oj47), .val (.ref b51)] [(.long ov1), (.int oj47), (.int (8 : Int32)), (.int ov2), (.ref b51)])) _
    refine st124 _ ?_
    show Steps p.tables e below (T124.setTop (mkF m 377 #[.val (.long x0), .second, .val (.int x1), .val (.int x2), .val (.int x3), .val (.long ov1), .second, .val (.int ov2), .val (.int oj47), .val (.ref b51)] [])) _
    refine XS.aload X124.here hx rfl (hb hby at_377) rfl rfl ?_
    show Steps p.tables e below (T124.setTop (mkF m 379 #[.val (.long x0), .second, .val (.int x1), .val (.int x2), .val (.int x3), .val (.long ov1), .second, .val (.int ov2), .val (.int oj47), .val (.ref b51)] [(.ref b51)])) _
    refine XS.iload X124.here hx rfl (hb hby at_379) rfl ?_
    show Steps p.tables e below (T124.setTop (mkF m 381 #[.val (.long x0), .second, .val (.int x1), .val (.int x2), .val (.int x3), .val (.long ov1), .second, .val (.int ov2), .val (.int oj47), .val (.ref b51)] [(.int ov2), (.ref b51)])) _
    refine st127 _ ?_
    exact k
  have pre129 : ∀ t, Steps p.tables e below (T127.setTop (mkF m 387 #[.val (.long x0), .second, .val (.int x1), .val (.int x2), .val (.int x3), .val (.long ov1), .second, .val (.int ov2), .val (.int oj47), .val (.ref b51)] [(.int (own_cmp ov128 ov1))])) t → Steps p.tables e below (s₁.setTop (entryFrame m #[(.long x0), (.int x1), (.int x2), (.int x3)] maxLocals)) t := by
    intro t k
    refine prx12 _ ?_
    show Steps p.tables e below (T127.setTop (mkF m 384 #[.val (.long x0), .second, .val (.int x1), .val (.int x2), .val (.int x3), .val (.long ov1), .second, .val (.int ov2), .val (.int oj47), .val (.ref b51)] [(.long ov128)])) _
    refine XS.lload X127.here hx rfl (hb hby at_384) rfl ?_
    show Steps p.tables e below (T127.setTop (mkF m 386 #[.val (.long x0), .second, .val (.int x1), .val (.int x2), .val (.int x3), .val (.long ov1), .second, .val (.int ov2), .val (.int oj47), .val (.ref b51)] [(.long ov1), (.long ov128)])) _
    refine own_xlcmp X127.here hx rfl (hb hby at_386) rfl ?_
    exact k
  obtain ⟨T132, L132, X132, N132, e132, pre132⟩ : ∃ (T' : State) (L' : List Loc), Stand p l e room_1 s m #[(.long x0), (.int x1), (.int x2), (.int x3)] below meth c T' L' 1 12 ∧ Fr n0 L' ∧ T'.heap = h124 ∧ ∀ t, Steps p.tables e below (T'.setTop (mkF m 395 #[.val (.long x0), .second, .val (.int x1), .val (.int x2), .val (.int x3), .val (.long ov1), .second, .val (.int ov2), .val (.int oj47), .val (.ref b51)] [(.int oj131)])) t → Steps p.tables e below (s₁.setTop (entryFrame m #[(.long x0), (.int x1), (.int x2), (.int x3)] maxLocals)) t := by
    rcases Bool.eq_false_or_eq_true (ifCond.holds .ne (own_cmp ov128 ov1)) with hc130 | hc130
    · have pre133 : ∀ t, Steps p.tables e below (T127.setTop (mkF m 395 #[.val (.long x0), .second, .val (.int x1), .val (.int x2), .val (.int x3), .val (.long ov1), .second, .val (.int ov2), .val (.int oj47), .val (.ref b51)] [(.int (0 : Int32))])) t → Steps p.tables e below (s₁.setTop (entryFrame m #[(.long x0), (.int x1), (.int x2), (.int x3)] maxLocals)) t := by
        intro t k
        refine pre129 _ ?_
        show Steps p.tables e below (T127.setTop (mkF m 387 #[.val (.long x0), .second, .val (.int x1), .val (.int x2), .val (.int x3), .val (.long ov1), .second, .val (.int ov2), .val (.int oj47), .val (.ref b51)] [(.int (own_cmp ov128 ov1))])) _
        refine XS.ifYes X127.here hx rfl (pc0 := 387) (pc' := 394) rfl (hb hby at_387) rfl hc130 (by decide) (by decide) ?_
        show Steps p.tables e below (T127.setTop (mkF m 394 #[.val (.long x0), .second, .val (.int x1), .val (.int x2), .val (.int x3), .val (.long ov1), .second, .val (.int ov2), .val (.int oj47), .val (.ref b51)] [])) _
        refine XS.iconst X127.here hx rfl (hb hby at_394) ?_
        exact k
      have qj0 : oj131 = (0 : Int32) := Eq.trans d_oj131 (if_pos hc130)
      refine ⟨T127, _, X127, N127, e127, fun t k => pre133 _ ?_⟩
      rw [qj0] at k
      exact k
    · have pre134 : ∀ t, Steps p.tables e below (T127.setTop (mkF m 395 #[.val (.long x0), .second, .val (.int x1), .val (.int x2), .val (.int x3), .val (.long ov1), .second, .val (.int ov2), .val (.int oj47), .val (.ref b51)] [(.int (1 : Int32))])) t → Steps p.tables e below (s₁.setTop (entryFrame m #[(.long x0), (.int x1), (.int x2), (.int x3)] maxLocals)) t := by
        intro t k
        refine pre129 _ ?_
        show Steps p.tables e below (T127.setTop (mkF m 387 #[.val (.long x0), .second, .val (.int x1), .val (.int x2), .val (.int x3), .val (.long ov1), .second, .val (.int ov2), .val (.int oj47), .val (.ref b51)] [(.int (own_cmp ov128 ov1))])) _
        refine XS.ifNo X127.here hx rfl (hb hby at_387) rfl hc130 ?_
        show Steps p.tables e below (T127.setTop (mkF m 390 #[.val (.long x0), .second, .val (.int x1), .val (.int x2), .val (.int x3), .val (.long ov1), .second, .val (.int ov2), .val (.int oj47), .val (.ref b51)] [])) _
        refine XS.iconst X127.here hx rfl (hb hby at_390) ?_
        show Steps p.tables e below (T127.setTop (mkF m 391 #[.val (.long x0), .second, .val (.int x1), .val (.int x2), .val (.int x3), .val (.long ov1), .second, .val (.int ov2), .val (.int oj47), .val (.ref b51)] [(.int (1 : Int32))])) _
        refine XS.goto X127.here hx rfl (pc0 := 391) (pc' := 395) rfl (hb hby at_391) (by decide) (by decide) ?_
        exact k
      have qj0 : oj131 = (1 : Int32) := Eq.trans d_oj131 (if_neg (own_nt hc130))
      refine ⟨T127, _, X127, N127, e127, fun t k => pre134 _ ?_⟩
      rw [qj0] at k
      exact k
  obtain ⟨fs, hr, hrun, hended, hW, hsame⟩ := X132.leave (v := some (.int (nar .boolean oj131))) (fun h => by rw [hret] at h; cases h)
  refine ⟨_, _, pre132 _ ?_, hrun, hended, _, _, rfl, ?_, ⟨_, rfl⟩, hW, hsame.mono (by decide) (by decide)⟩
  · show Steps p.tables e below (T132.setTop (mkF m 395 #[.val (.long x0), .second, .val (.int x1), .val (.int x2), .val (.int x3), .val (.long ov1), .second, .val (.int ov2), .val (.int oj47), .val (.ref b51)] [(.int oj131)])) _
    exact retN X132 hx (t := .boolean) hret (by simp) (hb hby at_395) hr
  · show Q0 Z x0 x1 x2 x3 h0 n0 _ T132.heap _
    rw [e132]
    have rr : f0 x0 x1 x2 x3 = (nar .boolean oj131) := hroot
    exact ⟨congrArg (fun z => some (Value.int z)) rr.symm, N132⟩
theorem own_law (x0 : Int64) (x1 x2 x3 : Int32) : f0 x0 x1 x2 x3 = 1 := by
  unfold f0 f0_j131 f0_v128
  refine own_last ?_
  rw [own_cne, own_is]
  exact fun q => q rfl
set_option maxRecDepth 65536 in
set_option maxHeartbeats 40000000 in
theorem comes_1 {Post : Tables → Env → Array Value → State → Outcome → State → Prop} (hpost : ∀ tb e args s v u, (limb_1_1.after args s (.returned v) u = true ∧ limb_1_2.after args s (.returned v) u = true ∧ True) → FrameEnd s (.returned v) u (Jvm.fieldLocs frame_1_writes args s ++ Jvm.arrayLocs frame_1_arrays args s ++ Jvm.staticLocs frame_1_statics s) 16 128 → Post tb e args s (.returned v) u) :
    ArmFor flags0 classFile x code maxLocals ret World_1 tables_1 room_1 Calls_1 rest_1 Pre_1 Post := by
  intro l hfl _ _ p e ha hc hk s m args below hf hA hF happ hP
  obtain ⟨hcalls, hrest, hpre⟩ := hP
  obtain ⟨-, -, -, hnamed, -, -, -, hat⟩ := (Spec.applies_iff hf).mp happ
  obtain ⟨hg, hn⟩ := and_e (Cond.before_iff.mp (show (Jvm.Cond.and given_1 narrow_1).before args s = true from hpre))
  obtain ⟨g1, g2⟩ := and_e hg
  obtain ⟨g3, g4⟩ := and_e g2
  obtain ⟨g5, g6⟩ := and_e g4
  obtain ⟨g7, g8⟩ := and_e g6
  obtain ⟨w0, w1, w2, w3, rfl⟩ : ∃ w0 w1 w2 w3 : Value, args = #[w0, w1, w2, w3] := by
    have hs : args.size = 4 := by simpa [Cond.value, given_1] using g1
    obtain ⟨L⟩ := args
    match L, hs with
    | [w0, w1, w2, w3], _ => exact ⟨w0, w1, w2, w3, rfl⟩
  have hw := fun d (hd : d ∈ tables_1) => atoms_spec (ws := Jvm.Cond.code x code maxLocals ret :: tables_1) hat d (List.mem_cons_of_mem _ hd)
  obtain ⟨i0, ei0⟩ := isL_v g3
  obtain rfl : w0 = (.long i0) := Option.some.inj ei0
  obtain ⟨i1, ei1⟩ := is_v g5
  obtain rfl : w1 = (.int i1) := Option.some.inj ei1
  obtain ⟨i2, ei2⟩ := is_v g7
  obtain rfl : w2 = (.int i2) := Option.some.inj ei2
  obtain ⟨i3, ei3⟩ := is_v g8
  obtain rfl : w3 = (.int i3) := Option.some.inj ei3
  obtain ⟨n, o, h1, h2, h3, v, L, rfl, ⟨hv, N⟩, hq⟩ := rm0 l s _ hw tables_1 i0 i1 i2 i3 s.heap s.heap.size (Nat.le_refl _) p e ha hc hk s m _ below hf ((Spec.applies_iff_loose hf).mp happ).1 ⟨rfl, State.Warmed39.refl s, rfl⟩ trivial
  rw [own_law] at hv
  subst hv
  refine ⟨n, _, h1, h2, h3, hpost _ _ _ _ _ _ ⟨Cond.after_iff.mpr rfl, Cond.after_iff.mpr (eq_i res_at (Term.int_eval (1)) rfl), trivial⟩ ⟨hq.1, hq.2.1, (hq.2.2.sift fun y hy => Or.inr (N y hy)).mono (by decide) (by decide)⟩⟩
theorem main_1_1 : Claimed_1_1 := comes_1 fun _ _ _ _ _ _ h hF => ⟨h.1, hF⟩
theorem main_1_2 : Claimed_1_2 := comes_1 fun _ _ _ _ _ _ h hF => ⟨h.2.1, hF⟩
end Jvm.Pilot.@@N@@
namespace Jvm.Pilot.@@N@@
open Jvm Jvm.ClassFile Sem Op Lib Jvm.Free Jvm.Stand Jvm.Pilot.@@N@@.Jvm.D
/-! MADE BY PROGRAM (witnessworld.py) out of the Statement's table words and the real class files: 9 classes; the members and pool entries that the words name. The judged class is class 1, her method 1. -/
namespace start1
open Jvm.ClassFile
def u (s : String) : CpInfo := .utf8 (stringToUtf16 s)
/-- a pool by its gaps: so many unusable entries, then the entry; so many at the end -/
def gap : Nat → List CpInfo → List CpInfo
  | 0, r => r
  | n + 1, r => .unusable :: gap n r
def poolList (es : List (Nat × CpInfo)) (last : Nat) : List CpInfo := es.foldr (fun e r => gap e.1 (e.2 :: r)) (gap last [])
def pool (es : List (Nat × CpInfo)) (last : Nat) : Array CpInfo := ⟨poolList es last⟩
def fileOf (pool : Array CpInfo) (this : Nat) (attrs : Array Attribute := #[]) (ms : Array MethodInfo := #[]) (fl : Nat := 33) (sup : Nat := 0) (ifs : Array Nat := #[]) (fds : Array FieldInfo := #[]) : ClassFile where
  minorVersion := 0
  majorVersion := 65
  constantPool := pool
  accessFlags := fl
  thisClass := this
  superClass := sup
  interfaces := ifs
  fields := fds
  methods := ms
  attributes := attrs
def plain (name : String) (sup : Option ClassId) : Class where
  name := name
  kind := .ordinary
  loader := none
  accessFlags := 33
  super := sup
  interfaces := #[]
  cf := none
  fields := #[]
  methods := #[]
  instanceTypes := #[]
  staticTypes := #[]
  resolved := #[]
  callSites := []
  init := .initialized
  statics := none
  mirror := none

def pool0 : Array CpInfo := pool [(5, u "<init>"), (0, u "()V"), (1, .class_ 10), (1, u "java/lang/Object")] 113

def k0m0 : Method := { name := "<init>", desc := "()V", sig := { parameters := [], returnType := none }, accessFlags := 1, code := none }
/-- java/lang/Object -/
def k0 : Class := { plain "java/lang/Object" none with
  accessFlags := 33
  interfaces := #[]
  cf := some (fileOf pool0 8 #[] #[{ accessFlags := 1, nameIndex := 5, descriptorIndex := 6, attributes := #[] }] 33 0 #[] #[])
  fields := #[]
  methods := #[k0m0]
  instanceTypes := #[]
  staticTypes := #[]
  resolved := Array.replicate 124 none
  statics := none }

def pool1 : Array CpInfo := pool [(2, .class_ 4), (1, u "java/lang/Object"), (0, u "<init>"), (0, u "()V"), (2, .long 9223372036854775807), (1, .methodref 12 13), (0, .class_ 14), (0, .nameAndType 15 16), (0, u "com/example/keyward/keyward/codecs/VarintReadPinLaw"), (0, u "jb"), (0, u "(II)B"), (0, .methodref 12 18), (0, .nameAndType 19 20), (0, u "put"), (0, u "([BIIIJ)V"), (0, .methodref 22 23), (0, .class_ 24), (0, .nameAndType 25 26), (0, u "com/example/keyward/keyward/codecs/Varint"), (0, u "read"), (0, u "([BI)J"), (0, .long 127), (3, u "law"), (0, u "(JIII)Z")] 5

def k1m0 : Method := { name := "<init>", desc := "()V", sig := { parameters := [], returnType := none }, accessFlags := 1, code := none }
def k1c1 : Code := { maxStack := 6, maxLocals := 10, code := code, exceptionTable := #[], attributes := #[] }
def k1m1 : Method := { name := "law", desc := "(JIII)Z", sig := { parameters := [.long, .int, .int, .int], returnType := some .boolean }, accessFlags := 9, code := some k1c1 }
def k1c2 : Code := { maxStack := 3, maxLocals := 2, code := method_3_code, exceptionTable := #[], attributes := #[] }
def k1m2 : Method := { name := "jb", desc := "(II)B", sig := { parameters := [.int, .int], returnType := some .byte }, accessFlags := 10, code := some k1c2 }
def k1c3 : Code := { maxStack := 4, maxLocals := 7, code := method_4_code, exceptionTable := #[], attributes := #[] }
def k1m3 : Method := { name := "put", desc := "([BIIIJ)V", sig := { parameters := [(.array .byte), .int, .int, .int, .long], returnType := none }, accessFlags := 10, code := some k1c3 }
/-- com/example/keyward/keyward/codecs/VarintReadPinLaw -/
def k1 : Class := { plain "com/example/keyward/keyward/codecs/VarintReadPinLaw" (some 0) with
  accessFlags := 49
  interfaces := #[]
  cf := some (fileOf pool1 12 #[] #[{ accessFlags := 1, nameIndex := 5, descriptorIndex := 6, attributes := #[] }, { accessFlags := 9, nameIndex := 31, descriptorIndex := 32, attributes := #[] }, { accessFlags := 10, nameIndex := 15, descriptorIndex := 16, attributes := #[] }, { accessFlags := 10, nameIndex := 19, descriptorIndex := 20, attributes := #[] }] 49 2 #[] #[])
  fields := #[]
  methods := #[k1m0, k1m1, k1m2, k1m3]
  instanceTypes := #[]
  staticTypes := #[]
  resolved := Array.replicate 38 none
  statics := none }

def pool2 : Array CpInfo := pool [(2, .class_ 4), (1, u "java/lang/Object"), (0, u "<init>"), (0, u "()V"), (10, .class_ 19), (1, u "com/example/keyward/keyward/codecs/Varint"), (11, u "MAX_SIZE"), (0, u "I"), (9, u "read"), (0, u "([BI)J")] 23

def k2m0 : Method := { name := "<init>", desc := "()V", sig := { parameters := [], returnType := none }, accessFlags := 2, code := none }
def k2c1 : Code := { maxStack := 6, maxLocals := 6, code := prog_11_method_3_code, exceptionTable := #[], attributes := #[] }
def k2m1 : Method := { name := "read", desc := "([BI)J", sig := { parameters := [(.array .byte), .int], returnType := some .long }, accessFlags := 9, code := some k2c1 }
/-- com/example/keyward/keyward/codecs/Varint -/
def k2 : Class := { plain "com/example/keyward/keyward/codecs/Varint" (some 0) with
  accessFlags := 49
  interfaces := #[]
  cf := some (fileOf pool2 17 #[] #[{ accessFlags := 2, nameIndex := 5, descriptorIndex := 6, attributes := #[] }, { accessFlags := 9, nameIndex := 42, descriptorIndex := 43, attributes := #[] }] 49 2 #[] #[{ accessFlags := 25, nameIndex := 31, descriptorIndex := 32, attributes := #[] }])
  fields := #[{ name := "MAX_SIZE", type := .int, accessFlags := 25, slot := 0, constantValue := 0 }]
  methods := #[k2m0, k2m1]
  instanceTypes := #[]
  staticTypes := #[.int]
  resolved := Array.replicate 67 none
  statics := none }

def pool3 : Array CpInfo := pool [(1, u "java/lang/Cloneable"), (0, .class_ 1), (0, u "java/lang/Object"), (0, .class_ 3)] 3

/-- java/lang/Cloneable -/
def k3 : Class := { plain "java/lang/Cloneable" (some 0) with
  accessFlags := 1537
  interfaces := #[]
  cf := some (fileOf pool3 2 #[] #[] 1537 4 #[] #[])
  fields := #[]
  methods := #[]
  instanceTypes := #[]
  staticTypes := #[]
  resolved := Array.replicate 8 none
  statics := none }

def pool4 : Array CpInfo := pool [(1, u "java/io/Serializable"), (0, .class_ 1), (0, u "java/lang/Object"), (0, .class_ 3)] 3

/-- java/io/Serializable -/
def k4 : Class := { plain "java/io/Serializable" (some 0) with
  accessFlags := 1537
  interfaces := #[]
  cf := some (fileOf pool4 2 #[] #[] 1537 4 #[] #[])
  fields := #[]
  methods := #[]
  instanceTypes := #[]
  staticTypes := #[]
  resolved := Array.replicate 8 none
  statics := none }

/-- the primitive byte -/
def k5 : Class := { plain "byte" none with kind := .primitive 'B', accessFlags := 0x411 }
/-- [B -/
def k6 : Class := { plain "[B" (some 0) with kind := .array 5 .byte, interfaces := #[3, 4], accessFlags := 1041 }

/-- the primitive int -/
def k7 : Class := { plain "int" none with kind := .primitive 'I', accessFlags := 0x411 }
/-- [I -/
def k8 : Class := { plain "[I" (some 0) with kind := .array 7 .int, interfaces := #[3, 4], accessFlags := 1041 }

def heap : Heap := #[]
def classes : Array Class := #[k0, k1, k2, k3, k4, k5, k6, k7, k8]
def interned : List (Array UInt16 × Addr) := []
def slotsUsed : Nat := 0
def theMethod : MethodId := ⟨1, 1⟩
def args0 : Array Value := #[.long 5, .int 7, .int 1, .int 2]
def aboutOver (below : List Frame) : State where
  vm := { classes := classes, interned := interned.toArray }
  heap := heap
  slotsUsed := slotsUsed
  threads := #[{ frames := .invoking theMethod args0 :: below }]
def below0 : List Frame := [.native { method := ⟨0, 0⟩, args := #[] }]
def about1 : State := aboutOver below0
def p0 : Program := .bare "" "" ""
def e0 : Env := launch0.env 0 0 0
theorem w_frames : about1.frames = Frame.invoking theMethod args0 :: below0 := rfl
set_option maxRecDepth 65536 in
theorem w_args : argsFit about1.vm theMethod args0 = true := by decide +kernel
set_option maxRecDepth 65536 in
theorem w_heap : heapFits about1 = true := by decide +kernel
set_option maxRecDepth 65536 in
theorem w_runnable : about1.curStatus? = some .runnable := by decide +kernel
set_option maxRecDepth 65536 in
theorem w_alone : about1.alone = true := by decide +kernel
set_option maxRecDepth 65536 in
theorem w_named : about1.methodNamed? x = some theMethod := by decide +kernel
set_option maxRecDepth 65536 in
theorem w_hears : about1.hears theMethod below0 = true := by decide +kernel
set_option maxRecDepth 65536 in
theorem w_ripe : about1.ripe theMethod args0 below0 = true := by decide +kernel
theorem w_running : about1.status = .running := rfl
set_option maxRecDepth 65536 in
theorem w_room : about1.hasRoom e0.platform room_1 = true :=
  launch0.hasRoom_least _ room_1 (by decide +kernel) (by decide +kernel) (by decide +kernel) (by decide +kernel) (by decide +kernel) (by decide +kernel)
theorem allAtoms_all (ts : List Jvm.Cond) (a : Array Jvm.Value) (st : Jvm.State) : (allAtoms ts).before a st = ts.all (fun c => c.before a st) := by
  induction ts with
  | nil => rfl
  | cons c t ih =>
    show (Jvm.Cond.and c (allAtoms t)).before a st = _
    rw [Jvm.Cond.before_and, ih, List.all_cons]
def words1 : List Jvm.Cond := Jvm.Cond.code x code maxLocals ret :: tables_1
/-- a 'code' word, met by the world's own term for the bytes: nothing is compared byte by byte -/
theorem code_word {y : MethodName} {bytes : ByteArray} {mx : Nat} {rt : Option FieldType} {a : Array Value} {s : State} {m : MethodId} {meth : Method} {c : Code} (h1 : s.methodNamed? y = some m) (h2 : s.vm.method? m = some meth) (h3 : meth.code = some c) (h4 : c.code = bytes)
    (h5 : (c.maxLocals == mx && c.exceptionTable.isEmpty && decide (c.maxStack ≤ mostOperands) && decide (meth.sig.returnType = rt) && !meth.locks && decide (parseMethodDescriptor y.desc = some meth.sig)) = true) : (Jvm.Cond.code y bytes mx rt).before a s = true := by
  simp only [Bool.and_eq_true, beq_iff_eq, Bool.not_eq_true', decide_eq_true_eq] at h5
  obtain ⟨⟨⟨⟨⟨g1, g2⟩, g3⟩, g4⟩, g5⟩, g6⟩ := h5
  simp [Cond.before, Cond.holds, Cond.value, h1, h2, h3, h4, g1, g2, g3, g4, g5, g6]
def isCode : Jvm.Cond → Bool
  | .code _ _ _ _ => true
  | _ => false
theorem all_split {L : List Jvm.Cond} {P : Jvm.Cond → Bool} (h1 : L.all (fun c => isCode c || P c) = true) (h2 : ∀ c ∈ L.filter isCode, P c = true) : L.all P = true := by
  refine List.all_eq_true.mpr fun c hc => ?_
  have h := List.all_eq_true.mp h1 c hc
  rcases Bool.eq_false_or_eq_true (isCode c) with hi | hi
  · exact h2 c (List.mem_filter.mpr ⟨hc, hi⟩)
  · simpa [hi] using h
set_option maxRecDepth 65536 in
theorem w_c0 : (Jvm.Cond.code x code maxLocals ret).before args0 about1 = true := code_word (m := ⟨1, 1⟩) (meth := k1m1) (c := k1c1) (by decide +kernel) rfl rfl rfl (by decide +kernel)
set_option maxRecDepth 65536 in
theorem w_c1 : (Jvm.Cond.code ({ cls := "com/example/keyward/keyward/codecs/VarintReadPinLaw", name := "jb", desc := "(II)B" } : Jvm.MethodName) method_3_code (2 : Nat) (Option.some Jvm.ClassFile.FieldType.byte)).before args0 about1 = true := code_word (m := ⟨1, 2⟩) (meth := k1m2) (c := k1c2) (by decide +kernel) rfl rfl rfl (by decide +kernel)
set_option maxRecDepth 65536 in
theorem w_c2 : (Jvm.Cond.code ({ cls := "com/example/keyward/keyward/codecs/VarintReadPinLaw", name := "put", desc := "([BIIIJ)V" } : Jvm.MethodName) method_4_code (7 : Nat) (Option.none : Option Jvm.ClassFile.FieldType)).before args0 about1 = true := code_word (m := ⟨1, 3⟩) (meth := k1m3) (c := k1c3) (by decide +kernel) rfl rfl rfl (by decide +kernel)
set_option maxRecDepth 65536 in
theorem w_c3 : (Jvm.Cond.code ({ cls := "com/example/keyward/keyward/codecs/Varint", name := "read", desc := "([BI)J" } : Jvm.MethodName) prog_11_method_3_code (6 : Nat) (Option.some Jvm.ClassFile.FieldType.long)).before args0 about1 = true := code_word (m := ⟨2, 1⟩) (meth := k2m1) (c := k2c1) (by decide +kernel) rfl rfl rfl (by decide +kernel)
def codes1 : List Jvm.Cond := [Jvm.Cond.code x code maxLocals ret, Jvm.Cond.code ({ cls := "com/example/keyward/keyward/codecs/VarintReadPinLaw", name := "jb", desc := "(II)B" } : Jvm.MethodName) method_3_code (2 : Nat) (Option.some Jvm.ClassFile.FieldType.byte), Jvm.Cond.code ({ cls := "com/example/keyward/keyward/codecs/VarintReadPinLaw", name := "put", desc := "([BIIIJ)V" } : Jvm.MethodName) method_4_code (7 : Nat) (Option.none : Option Jvm.ClassFile.FieldType), Jvm.Cond.code ({ cls := "com/example/keyward/keyward/codecs/Varint", name := "read", desc := "([BI)J" } : Jvm.MethodName) prog_11_method_3_code (6 : Nat) (Option.some Jvm.ClassFile.FieldType.long)]
set_option maxRecDepth 65536 in
theorem codes_eq : words1.filter isCode = codes1 := rfl
theorem w_codes : ∀ c ∈ words1.filter isCode, c.before args0 about1 = true := by
  rw [codes_eq]
  intro c hc
  simp only [codes1, List.mem_cons, List.not_mem_nil, or_false] at hc
  rcases hc with rfl | rfl | rfl | rfl
  · exact w_c0
  · exact w_c1
  · exact w_c2
  · exact w_c3
set_option maxRecDepth 65536 in
theorem w_t1 : words1.all (fun c => isCode c || c.before args0 about1) = true := by decide +kernel
theorem w_tables : (allAtoms (Jvm.Cond.code x code maxLocals ret :: tables_1)).before args0 about1 = true := by
  rw [allAtoms_all]
  show words1.all (fun c => c.before args0 about1) = true
  refine all_split ?_ w_codes
  rw [w_t1]
set_option maxRecDepth 65536 in
theorem w_case : (Jvm.Cond.and given_1 narrow_1).before args0 about1 = true := by decide +kernel
theorem w_applies : (headSpec (Jvm.Cond.code x code maxLocals ret :: tables_1) room_1).applies x e0.platform about1 = true :=
  (Spec.applies_iff w_frames).mpr ⟨w_running, w_runnable, w_alone, w_named, w_hears, w_ripe, w_room, w_tables⟩
theorem atStart : AtStart classFile x code maxLocals ret World_1 tables_1 room_1 Calls_1 rest_1 Pre_1 launch0 p0 e0 about1 theMethod args0 below0 :=
  ⟨lists_1, trivial, launch0.admits_env _ _ _, launch0.least_env, fairChoices_fair.cas, fairChoices_fair.clock, w_frames, w_args, w_heap, w_applies, trivial, trivial, w_case⟩
end start1
theorem witness_1 : WitnessClaimed_1 := ⟨start1.p0, start1.e0, start1.about1, start1.theMethod, start1.args0, start1.below0, start1.atStart⟩
end Jvm.Pilot.@@N@@
