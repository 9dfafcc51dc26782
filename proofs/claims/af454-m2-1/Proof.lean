import JvmDerived
import JvmDerived.Pilot.@@N@@Statement
import JvmDerived.Pilot.@@N@@Code
set_option linter.unusedVariables false
set_option linter.unusedSimpArgs false
@@BLOCK:NumsL.lean.txt@@
namespace Jvm.RoadKit
open Sem ClassFile Op Lib Jvm.Stand Jvm.Free Jvm.LawKit
section New
variable {p : Program} {l : Launch} {e : Env} {R : Room} {s : State} {m : MethodId} {args : Array Value} {below : List Frame} {meth : Method} {c : Code} {T : State} {locs : List Loc} {cells slots : Nat}
theorem retI (X : Stand p l e R s m args below meth c T locs cells slots) (hx : p.tables.exec = Jvm.exec) {pc : Nat} {Ls : Array Slot} {z : Int32} {rest : List Value} (hret : meth.sig.returnType = some .int) (hd : decode c.code pc = .ok (.ireturn, 1)) {fs : List Frame}
    (hl : ∀ (f : JFrame) (acts : List Action), f.method = m → f.locked = none → f.entered = [] → (doReturn e (T.setTop f) acts (some (.int z))).1 = T.setFrames fs) : Steps p.tables e below (T.setTop (mkF m pc Ls (.int z :: rest))) (T.setFrames fs) := by
  have hm' : T.vm.method? m = some meth := X.method'
  have hn : narrow .int (.int z) = .int z := rfl
  show Steps p.tables e below (T.setTop { method := m, pc := pc, locals := Ls, stack := _ :: rest, locked := none }) _
  jvm_step X.here [X.here.top, hx, hd, hm', hret, hn]
  first | (intro acts; rw [hl _ acts rfl rfl rfl]) | rw [hl _ _ rfl rfl rfl]
  exact Steps.refl _
end New
end Jvm.RoadKit
namespace Jvm.Pilot.@@N@@
open Jvm Jvm.ClassFile Sem Op Lib Jvm.Free Jvm.Stand Jvm.LawKit Jvm.RoadKit Bundle Jvm.Pilot.@@N@@.Jvm.D
theorem own_nt {b : Bool} (h : b = false) : ¬ b = true := fun q => by rw [h] at q; cases q
theorem own_ts_ne {α : Type} {o : Option α} {a b : α} (h : o = some b) (ne : b ≠ a) : ¬ o = some a := fun q => ne (Option.some.inj (h.symm.trans q))
/-- what lcmp pushes; Java's shifts and the remainder of longs -/
def own_cmp (x y : Int64) : Int32 := lcmpW x y
def own_iushr (x y : Int32) : Int32 := (x.toUInt32 >>> (y &&& 31).toUInt32).toInt32
def own_lushr (x : Int64) (y : Int32) : Int64 := (x.toUInt64 >>> (y &&& 0x3f).toInt64.toUInt64).toInt64
def own_lshl (x : Int64) (y : Int32) : Int64 := x <<< (y &&& 0x3f).toInt64
def own_lshr (x : Int64) (y : Int32) : Int64 := x >>> (y &&& 0x3f).toInt64
def own_lrem (x y : Int64) : Int64 := x - (x / y) * y
theorem own_xlcmp {tb : Tables} [Ours tb] {e : Env} {below : List Frame} {T target : State} {m : MethodId} {c : Code} {g : JFrame} (h : At T m c below) (hx : tb.exec = Jvm.exec) (hg : g.method = m) {x : Int64} {y : Int64} {rest : List Value} (hd : decode c.code g.pc = .ok (.lcmp, 1)) (hs : g.stack = .long y :: .long x :: rest) (hr : Steps tb e below (T.setTop { g with pc := g.pc + 1, stack := .int (own_cmp x y) :: rest }) target) : Steps tb e below (T.setTop g) target := XS.lcmp h hx hg hd hs hr
theorem own_xiushr {tb : Tables} [Ours tb] {e : Env} {below : List Frame} {T target : State} {m : MethodId} {c : Code} {g : JFrame} (h : At T m c below) (hx : tb.exec = Jvm.exec) (hg : g.method = m) {x : Int32} {y : Int32} {rest : List Value} (hd : decode c.code g.pc = .ok (.iushr, 1)) (hs : g.stack = .int y :: .int x :: rest) (hr : Steps tb e below (T.setTop { g with pc := g.pc + 1, stack := .int (own_iushr x y) :: rest }) target) : Steps tb e below (T.setTop g) target := XS.iushr h hx hg hd hs hr
theorem own_xlushr {tb : Tables} [Ours tb] {e : Env} {below : List Frame} {T target : State} {m : MethodId} {c : Code} {g : JFrame} (h : At T m c below) (hx : tb.exec = Jvm.exec) (hg : g.method = m) {x : Int64} {y : Int32} {rest : List Value} (hd : decode c.code g.pc = .ok (.lushr, 1)) (hs : g.stack = .int y :: .long x :: rest) (hr : Steps tb e below (T.setTop { g with pc := g.pc + 1, stack := .long (own_lushr x y) :: rest }) target) : Steps tb e below (T.setTop g) target := XS.lushr h hx hg hd hs hr
theorem own_xlshl {tb : Tables} [Ours tb] {e : Env} {below : List Frame} {T target : State} {m : MethodId} {c : Code} {g : JFrame} (h : At T m c below) (hx : tb.exec = Jvm.exec) (hg : g.method = m) {x : Int64} {y : Int32} {rest : List Value} (hd : decode c.code g.pc = .ok (.lshl, 1)) (hs : g.stack = .int y :: .long x :: rest) (hr : Steps tb e below (T.setTop { g with pc := g.pc + 1, stack := .long (own_lshl x y) :: rest }) target) : Steps tb e below (T.setTop g) target := XS.lshl h hx hg hd hs hr
theorem own_xlshr {tb : Tables} [Ours tb] {e : Env} {below : List Frame} {T target : State} {m : MethodId} {c : Code} {g : JFrame} (h : At T m c below) (hx : tb.exec = Jvm.exec) (hg : g.method = m) {x : Int64} {y : Int32} {rest : List Value} (hd : decode c.code g.pc = .ok (.lshr, 1)) (hs : g.stack = .int y :: .long x :: rest) (hr : Steps tb e below (T.setTop { g with pc := g.pc + 1, stack := .long (own_lshr x y) :: rest }) target) : Steps tb e below (T.setTop g) target := XS.lshr h hx hg hd hs hr
theorem own_xlrem {tb : Tables} [Ours tb] {e : Env} {below : List Frame} {T target : State} {m : MethodId} {c : Code} {g : JFrame} (h : At T m c below) (hx : tb.exec = Jvm.exec) (hg : g.method = m) {x : Int64} {y : Int64} {rest : List Value} (hd : decode c.code g.pc = .ok (.lrem, 1)) (hs : g.stack = .long y :: .long x :: rest) (hy : y ≠ 0) (hr : Steps tb e below (T.setTop { g with pc := g.pc + 1, stack := .long (own_lrem x y) :: rest }) target) : Steps tb e below (T.setTop g) target := XS.lrem h hx hg hd hs hy hr
theorem own_ieq (x y : Int32) : (if_icmp.holds .eq x y = true) = (x.toInt = y.toInt) := by
  rw [show if_icmp.holds .eq x y = (x == y) from rfl, beq_iff_eq, Int32.toInt_inj]
theorem own_ine (x y : Int32) : (if_icmp.holds .ne x y = true) = (x.toInt ≠ y.toInt) := by
  rw [show if_icmp.holds .ne x y = (x != y) from rfl, bne_iff_ne, ne_eq, ne_eq, Int32.toInt_inj]
theorem own_ilt (x y : Int32) : (if_icmp.holds .lt x y = true) = (x.toInt < y.toInt) := by
  rw [show if_icmp.holds .lt x y = decide (x < y) from rfl, decide_eq_true_eq, Int32.lt_iff_toInt_lt]
theorem own_ige (x y : Int32) : (if_icmp.holds .ge x y = true) = (y.toInt ≤ x.toInt) := by
  rw [show if_icmp.holds .ge x y = decide (y ≤ x) from rfl, decide_eq_true_eq, Int32.le_iff_toInt_le]
theorem own_igt (x y : Int32) : (if_icmp.holds .gt x y = true) = (y.toInt < x.toInt) := by
  rw [show if_icmp.holds .gt x y = decide (y < x) from rfl, decide_eq_true_eq, Int32.lt_iff_toInt_lt]
theorem own_ile (x y : Int32) : (if_icmp.holds .le x y = true) = (x.toInt ≤ y.toInt) := by
  rw [show if_icmp.holds .le x y = decide (x ≤ y) from rfl, decide_eq_true_eq, Int32.le_iff_toInt_le]
theorem own_z32 : (0 : Int32).toInt = 0 := rfl
theorem own_eq0 (x : Int32) : (ifCond.holds .eq x = true) = (x.toInt = 0) := by rw [if0, own_ieq, own_z32]
theorem own_ne0 (x : Int32) : (ifCond.holds .ne x = true) = (x.toInt ≠ 0) := by rw [if0, own_ine, own_z32]
theorem own_lt0 (x : Int32) : (ifCond.holds .lt x = true) = (x.toInt < 0) := by rw [if0, own_ilt, own_z32]
theorem own_ge0 (x : Int32) : (ifCond.holds .ge x = true) = (0 ≤ x.toInt) := by rw [if0, own_ige, own_z32]
theorem own_gt0 (x : Int32) : (ifCond.holds .gt x = true) = (0 < x.toInt) := by rw [if0, own_igt, own_z32]
theorem own_le0 (x : Int32) : (ifCond.holds .le x = true) = (x.toInt ≤ 0) := by rw [if0, own_ile, own_z32]
theorem own_cmp3 (x y : Int64) : (x.toInt < y.toInt ∧ (own_cmp x y).toInt = -1) ∨ (x.toInt = y.toInt ∧ (own_cmp x y).toInt = 0) ∨ (y.toInt < x.toInt ∧ (own_cmp x y).toInt = 1) := by
  obtain ⟨h1, h2, h3⟩ := c_lcmp x y
  have e : own_cmp x y = lcmpW x y := rfl
  rw [e]
  rcases Int.lt_trichotomy x.toInt y.toInt with h | h | h
  · exact Or.inl ⟨h, h1 h⟩
  · exact Or.inr (Or.inl ⟨h, h2 h⟩)
  · exact Or.inr (Or.inr ⟨h, h3 h⟩)
theorem own_ceq (x y : Int64) : (ifCond.holds .eq (own_cmp x y) = true) = (x.toInt = y.toInt) := by
  rw [own_eq0]; have := own_cmp3 x y; exact propext ⟨fun h => by omega, fun h => by omega⟩
theorem own_cne (x y : Int64) : (ifCond.holds .ne (own_cmp x y) = true) = (x.toInt ≠ y.toInt) := by
  rw [own_ne0]; have := own_cmp3 x y; exact propext ⟨fun h => by omega, fun h => by omega⟩
theorem own_clt (x y : Int64) : (ifCond.holds .lt (own_cmp x y) = true) = (x.toInt < y.toInt) := by
  rw [own_lt0]; have := own_cmp3 x y; exact propext ⟨fun h => by omega, fun h => by omega⟩
theorem own_cge (x y : Int64) : (ifCond.holds .ge (own_cmp x y) = true) = (y.toInt ≤ x.toInt) := by
  rw [own_ge0]; have := own_cmp3 x y; exact propext ⟨fun h => by omega, fun h => by omega⟩
theorem own_cgt (x y : Int64) : (ifCond.holds .gt (own_cmp x y) = true) = (y.toInt < x.toInt) := by
  rw [own_gt0]; have := own_cmp3 x y; exact propext ⟨fun h => by omega, fun h => by omega⟩
theorem own_cle (x y : Int64) : (ifCond.holds .le (own_cmp x y) = true) = (x.toInt ≤ y.toInt) := by
  rw [own_le0]; have := own_cmp3 x y; exact propext ⟨fun h => by omega, fun h => by omega⟩
theorem own_nar1 {x : Int32} (h : x = 1) : nar .boolean x = 1 := by rw [h]; rfl
theorem own_nar0 {x : Int32} (h : x = 0) : nar .boolean x = 0 := by rw [h]; rfl
/-- the last row of a law: a comparison that isn't met gives 0, else 1 -/
theorem own_last {c : Prop} [Decidable c] (h : ¬ c) : nar .boolean (if c then (0 : Int32) else 1) = 1 := by rw [if_neg h]; rfl
theorem own_n32 (x : Int32) : (x.toBitVec.toNat : Int) = x.toInt % 4294967296 := by
  have h := x.toBitVec.isLt
  show _ = x.toBitVec.toInt % _
  rw [BitVec.toInt_eq_toNat_cond]
  split <;> omega
theorem own_n64 (x : Int64) : (x.toBitVec.toNat : Int) = x.toInt % 18446744073709551616 := by
  have h := x.toBitVec.isLt
  show _ = x.toBitVec.toInt % _
  rw [BitVec.toInt_eq_toNat_cond]
  split <;> omega
theorem own_iushr_nat (x y : Int32) : (own_iushr x y).toBitVec.toNat = x.toBitVec.toNat / 2 ^ (y.toBitVec.toNat % 32) := by
  have h1 : (y &&& 31).toBitVec.toNat = y.toBitVec.toNat % 32 := by
    show (y.toBitVec &&& (31 : Int32).toBitVec).toNat = _
    rw [BitVec.toNat_and, show (31 : Int32).toBitVec.toNat = 2 ^ 5 - 1 from by decide, Nat.and_two_pow_sub_one_eq_mod]
  show (x.toBitVec >>> ((y &&& 31).toBitVec % 32)).toNat = _
  rw [BitVec.ushiftRight_eq', BitVec.toNat_ushiftRight, Nat.shiftRight_eq_div_pow, BitVec.toNat_umod, h1, show (32 : BitVec 32).toNat = 32 from rfl, Nat.mod_mod]
theorem own_lushr_nat (x : Int64) (y : Int32) : (own_lushr x y).toBitVec.toNat = x.toBitVec.toNat / 2 ^ (y.toBitVec.toNat % 64) := by
  obtain ⟨h1, h2⟩ := sm64 y _ rfl
  show (x.toBitVec >>> ((y &&& 0x3f).toInt64.toBitVec % 64)).toNat = _
  rw [BitVec.ushiftRight_eq', BitVec.toNat_ushiftRight, Nat.shiftRight_eq_div_pow, BitVec.toNat_umod, h1, BitVec.toNat_ofNat]
  congr 2
  show y.toBitVec.toNat % 64 % 2 ^ 64 % 64 = _
  omega
theorem own_iushr_nn (x y : Int32) (h : 0 ≤ x.toInt) : 0 ≤ (own_iushr x y).toInt ∧ (own_iushr x y).toInt ≤ x.toInt := by
  have a := own_iushr_nat x y
  have b := Nat.div_le_self x.toBitVec.toNat (2 ^ (y.toBitVec.toNat % 32))
  have c := own_n32 x
  have d := own_n32 (own_iushr x y)
  have r := rng32 x
  have r2 := rng32 (own_iushr x y)
  omega
theorem own_lushr_nn (x : Int64) (y : Int32) (h : 0 ≤ x.toInt) : 0 ≤ (own_lushr x y).toInt ∧ (own_lushr x y).toInt ≤ x.toInt := by
  have a := own_lushr_nat x y
  have b := Nat.div_le_self x.toBitVec.toNat (2 ^ (y.toBitVec.toNat % 64))
  have c := own_n64 x
  have d := own_n64 (own_lushr x y)
  have r := rng64 x
  have r2 := rng64 (own_lushr x y)
  omega
theorem own_ff {b : Bool} (h : ¬ b = true) : b = false := by cases b <;> first | rfl | exact absurd rfl h
theorem own_clt_f {x y : Int64} (h : ¬ x.toInt < y.toInt) : ifCond.holds .lt (own_cmp x y) = false := own_ff fun q => h ((own_clt x y).mp q)
theorem own_nz {x : Int64} (h : (0 : Int64).toInt < x.toInt) : x ≠ 0 := fun q => by rw [q] at h; exact absurd h (Int.lt_irrefl _)
theorem own_max (x : Int64) : x.toInt ≤ (9223372036854775807 : Int64).toInt := by
  have r := rng64 x
  have e : (9223372036854775807 : Int64).toInt = 9223372036854775807 := rfl
  omega
/-- a byte array of n places; place j holds f j -/
def own_Arr (Z : State) (h : Heap) (a : Addr) (n : Nat) (f : Nat → Int32) : Prop := ∃ c : Cell, Arr Z h a c .byte ∧ c.slots.size = n ∧ ∀ j, j < n → c.slots[j]? = some (.int (f j))
def own_upd (f : Nat → Int32) (i : Nat) (x : Int32) : Nat → Int32 := fun j => if j = i then x else f j
theorem own_Arr.lt {Z : State} {h : Heap} {a : Addr} {n : Nat} {f : Nat → Int32} (F : own_Arr Z h a n f) : a < h.size := by
  obtain ⟨c, A, -⟩ := F
  exact A.lt
theorem own_Arr.ext {Z : State} {h h' : Heap} {a : Addr} {n : Nat} {f : Nat → Int32} (F : own_Arr Z h a n f) (E : Ext h h') : own_Arr Z h' a n f := by
  obtain ⟨c, A, r⟩ := F
  exact ⟨c, A.ext E, r⟩
theorem own_Arr.other {Z : State} {h h' : Heap} {a b : Addr} {n sl : Nat} {v : Value} {f : Nat → Int32} (F : own_Arr Z h a n f) (W : Wr h h' b sl v) (q : a ≠ b) : own_Arr Z h' a n f := by
  obtain ⟨c, A, r⟩ := F
  exact ⟨c, A.other W q, r⟩
theorem own_Arr.keep {Z : State} {h h' : Heap} {a : Addr} {n : Nat} {f : Nat → Int32} {ws : List Addr} (F : own_Arr Z h a n f) (K : Keep h h' ws) (q : a ∉ ws) : own_Arr Z h' a n f := by
  obtain ⟨c, A, r⟩ := F
  exact ⟨c, ⟨K.2.1 a c A.1 q, A.2⟩, r⟩
theorem own_Arr.new {Z : State} {h : Heap} {a : Addr} {n : Nat} {k : ClassId} {z : Int32} (A : Arr Z h a (newA k .byte z) .byte) (hz : z.toNatClampNeg = n) : own_Arr Z h a n (fun _ => 0) := by
  refine ⟨_, A, by rw [sz_new, hz], fun j hj => ?_⟩
  show (Array.replicate z.toNatClampNeg (defaultValue .byte))[j]? = _
  rw [hz, Array.getElem?_replicate, if_pos hj]
  rfl
theorem own_Arr.set {Z : State} {h h' : Heap} {a : Addr} {n i : Nat} {c : Cell} {x : Int32} {f : Nat → Int32} (A : Arr Z h a c .byte) (S : c.slots.size = n) (H : ∀ j, j < n → c.slots[j]? = some (.int (f j))) (W : Wr h h' a i (.int x)) : own_Arr Z h' a n (own_upd f i x) := by
  refine ⟨_, A.same W, by rw [sz_set, S], fun j hj => ?_⟩
  show (c.slots.setIfInBounds i (.int x))[j]? = some (.int (if j = i then x else f j))
  by_cases e : j = i
  · subst e
    rw [if_pos rfl, Array.getElem?_setIfInBounds_self_of_lt (by omega)]
  · rw [if_neg e, Array.getElem?_setIfInBounds_ne (fun q => e q.symm)]
    exact H j hj
theorem own_idx {n : Nat} {j : Int32} (h : 0 ≤ j.toInt ∧ j.toInt < n) : j.toNatClampNeg < n := by
  show j.toInt.toNat < n
  omega
theorem own_inb {n : Nat} {j : Int32} {c : Cell} (S : c.slots.size = n) (h : 0 ≤ j.toInt ∧ j.toInt < n) : ¬ (j < 0 ∨ c.slots.size ≤ j.toNatClampNeg) := by
  have q := own_idx h
  rw [S, Int32.lt_iff_toInt_lt, show (0 : Int32).toInt = 0 from rfl]
  omega

-- body 1: dev/stratumaudio/Lyrics3TagDecimalPinLaw.pick:(JII)B
theorem d1_0 : decode method_2_code 0 = .ok (.lload_n 0, 1) := by decide +kernel
theorem d1_1 : decode method_2_code 1 = .ok (.bipush 8, 2) := by decide +kernel
theorem d1_3 : decode method_2_code 3 = .ok (.iload_n 3, 1) := by decide +kernel
theorem d1_4 : decode method_2_code 4 = .ok (.imul, 1) := by decide +kernel
theorem d1_5 : decode method_2_code 5 = .ok (.lushr, 1) := by decide +kernel
theorem d1_6 : decode method_2_code 6 = .ok (.ldc2_w 7, 3) := by decide +kernel
theorem d1_9 : decode method_2_code 9 = .ok (.land, 1) := by decide +kernel
theorem d1_10 : decode method_2_code 10 = .ok (.l2i, 1) := by decide +kernel
theorem d1_11 : decode method_2_code 11 = .ok (.istore 4, 2) := by decide +kernel
theorem d1_13 : decode method_2_code 13 = .ok (.iload_n 2, 1) := by decide +kernel
theorem d1_14 : decode method_2_code 14 = .ok (.iload_n 3, 1) := by decide +kernel
theorem d1_15 : decode method_2_code 15 = .ok (.iushr, 1) := by decide +kernel
theorem d1_16 : decode method_2_code 16 = .ok (.iconst 1, 1) := by decide +kernel
theorem d1_17 : decode method_2_code 17 = .ok (.iand, 1) := by decide +kernel
theorem d1_18 : decode method_2_code 18 = .ok (.ifCond .eq 13, 3) := by decide +kernel
theorem d1_21 : decode method_2_code 21 = .ok (.bipush 48, 2) := by decide +kernel
theorem d1_23 : decode method_2_code 23 = .ok (.iload 4, 2) := by decide +kernel
theorem d1_25 : decode method_2_code 25 = .ok (.bipush 10, 2) := by decide +kernel
theorem d1_27 : decode method_2_code 27 = .ok (.irem, 1) := by decide +kernel
theorem d1_28 : decode method_2_code 28 = .ok (.iadd, 1) := by decide +kernel
theorem d1_29 : decode method_2_code 29 = .ok (.i2b, 1) := by decide +kernel
theorem d1_30 : decode method_2_code 30 = .ok (.ireturn, 1) := by decide +kernel
theorem d1_31 : decode method_2_code 31 = .ok (.iload 4, 2) := by decide +kernel
theorem d1_33 : decode method_2_code 33 = .ok (.i2b, 1) := by decide +kernel
theorem d1_34 : decode method_2_code 34 = .ok (.ireturn, 1) := by decide +kernel
theorem pn_0 : plainName "dev/stratumaudio/Lyrics3TagDecimalPinLaw" = true := by first | (simp [plainName, overriddenIn]; done) | decide +kernel
theorem ef_1 (m : MethodId) (x0 : Int64) (x1 : Int32) (x2 : Int32) : entryFrame m #[(.long x0), (.int x1), (.int x2)] 5 = mkF m 0 #[.val (.long x0), .second, .val (.int x1), .val (.int x2), .unset] [] := by first | (simp [entryFrame, mkF, argsToLocals, Value.category]; done) | rfl
def f1_v1 (x0 : Int64) (x1 : Int32) (x2 : Int32) : Int32 := (((own_lushr x0 ((8 : Int32) * x2)) &&& (255 : Int64)).toInt32)
def f1 (x0 : Int64) (x1 : Int32) (x2 : Int32) : Int32 := (if ifCond.holds .eq ((own_iushr x1 x2) &&& (1 : Int32)) = true then (nar .byte ((f1_v1 x0 x1 x2).toInt8.toInt32)) else (nar .byte (((48 : Int32) + ((f1_v1 x0 x1 x2) % (10 : Int32))).toInt8.toInt32)))
def Q1 (Z : State) (x0 : Int64) (x1 : Int32) (x2 : Int32) (h0 : Heap) (n0 : Nat) (v : Option Value) (h : Heap) (L : List Loc) : Prop := v = some (.int (f1 x0 x1 x2)) ∧ Fr n0 L ∧ h = h0
set_option maxRecDepth 65536 in
set_option maxHeartbeats 40000000 in
theorem rm1 (l : Launch) (Z : State) (a0 : Array Value) (hw : ∀ d ∈ tables_1, d.before a0 Z = true) (ws : List Jvm.Cond) (x0 : Int64) (x1 : Int32) (x2 : Int32) (h0 : Heap) (n0 : Nat) (Z0 : n0 ≤ h0.size) :
    MetFree l (⟨"dev/stratumaudio/Lyrics3TagDecimalPinLaw", "pick", "(JII)B"⟩ : MethodName) (head1 (Jvm.Cond.code (⟨"dev/stratumaudio/Lyrics3TagDecimalPinLaw", "pick", "(JII)B"⟩ : MethodName) method_2_code 5 (some .byte) :: ws) ({ frames := 0, cells := 0, slots := 0, locals := 0 } : Room)) (fun a U => a = #[(.long x0), (.int x1), (.int x2)] ∧ Z.Warmed39 U.vm ∧ U.heap = h0) (fun _ _ _ _ _ => True) (fun _ U o U' => ∃ v L, o = .returned v ∧ Q1 Z x0 x1 x2 h0 n0 v U'.heap L ∧ FrameEnd U o U' L ({ frames := 0, cells := 0, slots := 0, locals := 0 } : Room).cells ({ frames := 0, cells := 0, slots := 0, locals := 0 } : Room).slots) := by
  refine MetFree.of_bodySF (plainFor_of_name pn_0) hisR ?_
  intro p e s m args below meth c s₁ Bd hml0 hP hK0
  obtain ⟨rfl, hZ, hh⟩ := hP
  have hx := Bd.exec
  have hby := Bd.bytes
  have hml : c.maxLocals = 5 := hml0
  have hown : s.vm.findClass "dev/stratumaudio/Lyrics3TagDecimalPinLaw" = some m.cls := findClass_of_methodNamed Bd.named
  have hnm := (name_of_methodNamed Bd.named Bd.method).1
  have hret : meth.sig.returnType = some .byte := Bd.returns
  have hlk : meth.locks = false := Bd.notSynchronized
  have X0 : Stand p l e ({ frames := 0, cells := 0, slots := 0, locals := 0 } : Room) s m #[(.long x0), (.int x1), (.int x2)] below meth c s₁ [] 0 0 := Stand.of_body Bd
  have e0 : s₁.heap = h0 := by rw [← hh, Bd.state]; rfl
  have N0 := Fr.nil n0
  have pre0 : ∀ t, Steps p.tables e below (s₁.setTop (mkF m 0 #[.val (.long x0), .second, .val (.int x1), .val (.int x2), .unset] [])) t → Steps p.tables e below (s₁.setTop (entryFrame m #[(.long x0), (.int x1), (.int x2)] 5)) t := fun t k => castTop (ef_1 m x0 x1 x2) k
  have pre2 : ∀ t, Steps p.tables e below (s₁.setTop (mkF m 18 #[.val (.long x0), .second, .val (.int x1), .val (.int x2), .val (.int (f1_v1 x0 x1 x2))] [(.int ((own_iushr x1 x2) &&& (1 : Int32)))])) t → Steps p.tables e below (s₁.setTop (entryFrame m #[(.long x0), (.int x1), (.int x2)] 5)) t := by
    intro t k
    refine pre0 _ ?_
    show Steps p.tables e below (s₁.setTop (mkF m 0 #[.val (.long x0), .second, .val (.int x1), .val (.int x2), .unset] [])) _
    refine XS.lloadN X0.here hx rfl (hb hby d1_0) rfl ?_
    show Steps p.tables e below (s₁.setTop (mkF m 1 #[.val (.long x0), .second, .val (.int x1), .val (.int x2), .unset] [(.long x0)])) _
    refine XS.bipush X0.here hx rfl (hb hby d1_1) ?_
    show Steps p.tables e below (s₁.setTop (mkF m 3 #[.val (.long x0), .second, .val (.int x1), .val (.int x2), .unset] [(.int (8 : Int32)), (.long x0)])) _
    refine XS.iloadN X0.here hx rfl (hb hby d1_3) rfl ?_
    show Steps p.tables e below (s₁.setTop (mkF m 4 #[.val (.long x0), .second, .val (.int x1), .val (.int x2), .unset] [(.int x2), (.int (8 : Int32)), (.long x0)])) _
    refine XS.imul X0.here hx rfl (hb hby d1_4) rfl ?_
    show Steps p.tables e below (s₁.setTop (mkF m 5 #[.val (.long x0), .second, .val (.int x1), .val (.int x2), .unset] [(.int ((8 : Int32) * x2)), (.long x0)])) _
    refine own_xlushr X0.here hx rfl (hb hby d1_5) rfl ?_
    show Steps p.tables e below (s₁.setTop (mkF m 6 #[.val (.long x0), .second, .val (.int x1), .val (.int x2), .unset] [(.long (own_lushr x0 ((8 : Int32) * x2)))])) _
    refine X0.ldc2Long hx hown (mvT hZ (hw _ (List.mem_of_getElem? (i := 5) rfl))) (g := (mkF m 6 #[.val (.long x0), .second, .val (.int x1), .val (.int x2), .unset] [(.long (own_lushr x0 ((8 : Int32) * x2)))])) rfl (hb hby d1_6) _ ?_
    show Steps p.tables e below (s₁.setTop (mkF m 9 #[.val (.long x0), .second, .val (.int x1), .val (.int x2), .unset] [(.long (255 : Int64)), (.long (own_lushr x0 ((8 : Int32) * x2)))])) _
    refine XS.land X0.here hx rfl (hb hby d1_9) rfl ?_
    show Steps p.tables e below (s₁.setTop (mkF m 10 #[.val (.long x0), .second, .val (.int x1), .val (.int x2), .unset] [(.long ((own_lushr x0 ((8 : Int32) * x2)) &&& (255 : Int64)))])) _
    refine XS.l2i X0.here hx rfl (hb hby d1_10) rfl ?_
    show Steps p.tables e below (s₁.setTop (mkF m 11 #[.val (.long x0), .second, .val (.int x1), .val (.int x2), .unset] [(.int (((own_lushr x0 ((8 : Int32) * x2)) &&& (255 : Int64)).toInt32))])) _
    refine XS.istore X0.here hx rfl (hb hby d1_11) rfl (l' := #[.val (.long x0), .second, .val (.int x1), .val (.int x2), .val (.int (f1_v1 x0 x1 x2))]) rfl ?_
    show Steps p.tables e below (s₁.setTop (mkF m 13 #[.val (.long x0), .second, .val (.int x1), .val (.int x2), .val (.int (f1_v1 x0 x1 x2))] [])) _
    refine XS.iloadN X0.here hx rfl (hb hby d1_13) rfl ?_
    show Steps p.tables e below (s₁.setTop (mkF m 14 #[.val (.long x0), .second, .val (.int x1), .val (.int x2), .val (.int (f1_v1 x0 x1 x2))] [(.int x1)])) _
    refine XS.iloadN X0.here hx rfl (hb hby d1_14) rfl ?_
    show Steps p.tables e below (s₁.setTop (mkF m 15 #[.val (.long x0), .second, .val (.int x1), .val (.int x2), .val (.int (f1_v1 x0 x1 x2))] [(.int x2), (.int x1)])) _
    refine own_xiushr X0.here hx rfl (hb hby d1_15) rfl ?_
    show Steps p.tables e below (s₁.setTop (mkF m 16 #[.val (.long x0), .second, .val (.int x1), .val (.int x2), .val (.int (f1_v1 x0 x1 x2))] [(.int (own_iushr x1 x2))])) _
    refine XS.iconst X0.here hx rfl (hb hby d1_16) ?_
    show Steps p.tables e below (s₁.setTop (mkF m 17 #[.val (.long x0), .second, .val (.int x1), .val (.int x2), .val (.int (f1_v1 x0 x1 x2))] [(.int (1 : Int32)), (.int (own_iushr x1 x2))])) _
    refine XS.iand X0.here hx rfl (hb hby d1_17) rfl ?_
    exact k
  rcases Bool.eq_false_or_eq_true (ifCond.holds .eq ((own_iushr x1 x2) &&& (1 : Int32))) with hc3 | hc3
  · obtain ⟨fs, hr, hrun, hended, hW, hsame⟩ := X0.leave (v := some (.int (nar .byte ((f1_v1 x0 x1 x2).toInt8.toInt32)))) (fun h => by rw [hret] at h; cases h)
    refine ⟨_, _, pre2 _ ?_, hrun, hended, _, _, rfl, ?_, ⟨_, rfl⟩, hW, hsame.mono (by decide) (by decide)⟩
    · show Steps p.tables e below (s₁.setTop (mkF m 18 #[.val (.long x0), .second, .val (.int x1), .val (.int x2), .val (.int (f1_v1 x0 x1 x2))] [(.int ((own_iushr x1 x2) &&& (1 : Int32)))])) _
      refine XS.ifYes X0.here hx rfl (pc0 := 18) (pc' := 31) rfl (hb hby d1_18) rfl hc3 (by decide) (by decide) ?_
      show Steps p.tables e below (s₁.setTop (mkF m 31 #[.val (.long x0), .second, .val (.int x1), .val (.int x2), .val (.int (f1_v1 x0 x1 x2))] [])) _
      refine XS.iload X0.here hx rfl (hb hby d1_31) rfl ?_
      show Steps p.tables e below (s₁.setTop (mkF m 33 #[.val (.long x0), .second, .val (.int x1), .val (.int x2), .val (.int (f1_v1 x0 x1 x2))] [(.int (f1_v1 x0 x1 x2))])) _
      refine XS.i2b X0.here hx rfl (hb hby d1_33) rfl ?_
      show Steps p.tables e below (s₁.setTop (mkF m 34 #[.val (.long x0), .second, .val (.int x1), .val (.int x2), .val (.int (f1_v1 x0 x1 x2))] [(.int ((f1_v1 x0 x1 x2).toInt8.toInt32))])) _
      exact retN X0 hx (t := .byte) hret (by simp) (hb hby d1_34) hr
    · show Q1 Z x0 x1 x2 h0 n0 _ s₁.heap _
      rw [e0]
      have rr : f1 x0 x1 x2 = (nar .byte ((f1_v1 x0 x1 x2).toInt8.toInt32)) := if_pos hc3
      exact ⟨congrArg (fun z => some (Value.int z)) rr.symm, N0, rfl⟩
  · obtain ⟨fs, hr, hrun, hended, hW, hsame⟩ := X0.leave (v := some (.int (nar .byte (((48 : Int32) + ((f1_v1 x0 x1 x2) % (10 : Int32))).toInt8.toInt32)))) (fun h => by rw [hret] at h; cases h)
    refine ⟨_, _, pre2 _ ?_, hrun, hended, _, _, rfl, ?_, ⟨_, rfl⟩, hW, hsame.mono (by decide) (by decide)⟩
    · show Steps p.tables e below (s₁.setTop (mkF m 18 #[.val (.long x0), .second, .val (.int x1), .val (.int x2), .val (.int (f1_v1 x0 x1 x2))] [(.int ((own_iushr x1 x2) &&& (1 : Int32)))])) _
      refine XS.ifNo X0.here hx rfl (hb hby d1_18) rfl hc3 ?_
      show Steps p.tables e below (s₁.setTop (mkF m 21 #[.val (.long x0), .second, .val (.int x1), .val (.int x2), .val (.int (f1_v1 x0 x1 x2))] [])) _
      refine XS.bipush X0.here hx rfl (hb hby d1_21) ?_
      show Steps p.tables e below (s₁.setTop (mkF m 23 #[.val (.long x0), .second, .val (.int x1), .val (.int x2), .val (.int (f1_v1 x0 x1 x2))] [(.int (48 : Int32))])) _
      refine XS.iload X0.here hx rfl (hb hby d1_23) rfl ?_
      show Steps p.tables e below (s₁.setTop (mkF m 25 #[.val (.long x0), .second, .val (.int x1), .val (.int x2), .val (.int (f1_v1 x0 x1 x2))] [(.int (f1_v1 x0 x1 x2)), (.int (48 : Int32))])) _
      refine XS.bipush X0.here hx rfl (hb hby d1_25) ?_
      show Steps p.tables e below (s₁.setTop (mkF m 27 #[.val (.long x0), .second, .val (.int x1), .val (.int x2), .val (.int (f1_v1 x0 x1 x2))] [(.int (10 : Int32)), (.int (f1_v1 x0 x1 x2)), (.int (48 : Int32))])) _
      refine iremM X0 hx rfl (hb hby d1_27) rfl (by decide) ?_
      show Steps p.tables e below (s₁.setTop (mkF m 28 #[.val (.long x0), .second, .val (.int x1), .val (.int x2), .val (.int (f1_v1 x0 x1 x2))] [(.int ((f1_v1 x0 x1 x2) % (10 : Int32))), (.int (48 : Int32))])) _
      refine XS.iadd X0.here hx rfl (hb hby d1_28) rfl ?_
      show Steps p.tables e below (s₁.setTop (mkF m 29 #[.val (.long x0), .second, .val (.int x1), .val (.int x2), .val (.int (f1_v1 x0 x1 x2))] [(.int ((48 : Int32) + ((f1_v1 x0 x1 x2) % (10 : Int32))))])) _
      refine XS.i2b X0.here hx rfl (hb hby d1_29) rfl ?_
      show Steps p.tables e below (s₁.setTop (mkF m 30 #[.val (.long x0), .second, .val (.int x1), .val (.int x2), .val (.int (f1_v1 x0 x1 x2))] [(.int (((48 : Int32) + ((f1_v1 x0 x1 x2) % (10 : Int32))).toInt8.toInt32))])) _
      exact retN X0 hx (t := .byte) hret (by simp) (hb hby d1_30) hr
    · show Q1 Z x0 x1 x2 h0 n0 _ s₁.heap _
      rw [e0]
      have rr : f1 x0 x1 x2 = (nar .byte (((48 : Int32) + ((f1_v1 x0 x1 x2) % (10 : Int32))).toInt8.toInt32)) := if_neg (own_nt hc3)
      exact ⟨congrArg (fun z => some (Value.int z)) rr.symm, N0, rfl⟩
-- body 2: dev/stratumaudio/Lyrics3TagDecimalPinLaw.bad:(BIII)Z
theorem d2_0 : decode method_4_code 0 = .ok (.iload_n 2, 1) := by decide +kernel
theorem d2_1 : decode method_4_code 1 = .ok (.iload_n 1, 1) := by decide +kernel
theorem d2_2 : decode method_4_code 2 = .ok (.if_icmp .gt 24, 3) := by decide +kernel
theorem d2_5 : decode method_4_code 5 = .ok (.iload_n 1, 1) := by decide +kernel
theorem d2_6 : decode method_4_code 6 = .ok (.iload_n 3, 1) := by decide +kernel
theorem d2_7 : decode method_4_code 7 = .ok (.if_icmp .ge 19, 3) := by decide +kernel
theorem d2_10 : decode method_4_code 10 = .ok (.iload_n 0, 1) := by decide +kernel
theorem d2_11 : decode method_4_code 11 = .ok (.bipush 48, 2) := by decide +kernel
theorem d2_13 : decode method_4_code 13 = .ok (.if_icmp .lt 9, 3) := by decide +kernel
theorem d2_16 : decode method_4_code 16 = .ok (.iload_n 0, 1) := by decide +kernel
theorem d2_17 : decode method_4_code 17 = .ok (.bipush 57, 2) := by decide +kernel
theorem d2_19 : decode method_4_code 19 = .ok (.if_icmp .le 7, 3) := by decide +kernel
theorem d2_22 : decode method_4_code 22 = .ok (.iconst 1, 1) := by decide +kernel
theorem d2_23 : decode method_4_code 23 = .ok (.goto 4, 3) := by decide +kernel
theorem d2_26 : decode method_4_code 26 = .ok (.iconst 0, 1) := by decide +kernel
theorem d2_27 : decode method_4_code 27 = .ok (.ireturn, 1) := by decide +kernel
theorem ef_2 (m : MethodId) (x0 : Int32) (x1 : Int32) (x2 : Int32) (x3 : Int32) : entryFrame m #[(.int x0), (.int x1), (.int x2), (.int x3)] 4 = mkF m 0 #[.val (.int x0), .val (.int x1), .val (.int x2), .val (.int x3)] [] := by first | (simp [entryFrame, mkF, argsToLocals, Value.category]; done) | rfl
def f2_j9 (x0 : Int32) (x1 : Int32) (x2 : Int32) (x3 : Int32) : Int32 := if if_icmp.holds .le x0 (57 : Int32) = true then (0 : Int32) else (1 : Int32)
def f2_j13 (x0 : Int32) (x1 : Int32) (x2 : Int32) (x3 : Int32) : Int32 := if if_icmp.holds .lt x0 (48 : Int32) = true then (1 : Int32) else (f2_j9 x0 x1 x2 x3)
def f2_j16 (x0 : Int32) (x1 : Int32) (x2 : Int32) (x3 : Int32) : Int32 := if if_icmp.holds .ge x1 x3 = true then (0 : Int32) else (f2_j13 x0 x1 x2 x3)
def f2_j19 (x0 : Int32) (x1 : Int32) (x2 : Int32) (x3 : Int32) : Int32 := if if_icmp.holds .gt x2 x1 = true then (0 : Int32) else (f2_j16 x0 x1 x2 x3)
def f2 (x0 : Int32) (x1 : Int32) (x2 : Int32) (x3 : Int32) : Int32 := (nar .boolean (f2_j19 x0 x1 x2 x3))
def Q2 (Z : State) (x0 : Int32) (x1 : Int32) (x2 : Int32) (x3 : Int32) (h0 : Heap) (n0 : Nat) (v : Option Value) (h : Heap) (L : List Loc) : Prop := v = some (.int (f2 x0 x1 x2 x3)) ∧ Fr n0 L ∧ h = h0
set_option maxRecDepth 65536 in
set_option maxHeartbeats 40000000 in
theorem rm2 (l : Launch) (Z : State) (a0 : Array Value) (hw : ∀ d ∈ tables_1, d.before a0 Z = true) (ws : List Jvm.Cond) (x0 : Int32) (x1 : Int32) (x2 : Int32) (x3 : Int32) (h0 : Heap) (n0 : Nat) (Z0 : n0 ≤ h0.size) :
    MetFree l (⟨"dev/stratumaudio/Lyrics3TagDecimalPinLaw", "bad", "(BIII)Z"⟩ : MethodName) (head1 (Jvm.Cond.code (⟨"dev/stratumaudio/Lyrics3TagDecimalPinLaw", "bad", "(BIII)Z"⟩ : MethodName) method_4_code 4 (some .boolean) :: ws) ({ frames := 0, cells := 0, slots := 0, locals := 0 } : Room)) (fun a U => a = #[(.int x0), (.int x1), (.int x2), (.int x3)] ∧ Z.Warmed39 U.vm ∧ U.heap = h0) (fun _ _ _ _ _ => True) (fun _ U o U' => ∃ v L, o = .returned v ∧ Q2 Z x0 x1 x2 x3 h0 n0 v U'.heap L ∧ FrameEnd U o U' L ({ frames := 0, cells := 0, slots := 0, locals := 0 } : Room).cells ({ frames := 0, cells := 0, slots := 0, locals := 0 } : Room).slots) := by
  refine MetFree.of_bodySF (plainFor_of_name pn_0) hisR ?_
  intro p e s m args below meth c s₁ Bd hml0 hP hK0
  obtain ⟨rfl, hZ, hh⟩ := hP
  have hx := Bd.exec
  have hby := Bd.bytes
  have hml : c.maxLocals = 4 := hml0
  have hown : s.vm.findClass "dev/stratumaudio/Lyrics3TagDecimalPinLaw" = some m.cls := findClass_of_methodNamed Bd.named
  have hnm := (name_of_methodNamed Bd.named Bd.method).1
  have hret : meth.sig.returnType = some .boolean := Bd.returns
  have hlk : meth.locks = false := Bd.notSynchronized
  have X0 : Stand p l e ({ frames := 0, cells := 0, slots := 0, locals := 0 } : Room) s m #[(.int x0), (.int x1), (.int x2), (.int x3)] below meth c s₁ [] 0 0 := Stand.of_body Bd
  have e0 : s₁.heap = h0 := by rw [← hh, Bd.state]; rfl
  have N0 := Fr.nil n0
  have pre0 : ∀ t, Steps p.tables e below (s₁.setTop (mkF m 0 #[.val (.int x0), .val (.int x1), .val (.int x2), .val (.int x3)] [])) t → Steps p.tables e below (s₁.setTop (entryFrame m #[(.int x0), (.int x1), (.int x2), (.int x3)] 4)) t := fun t k => castTop (ef_2 m x0 x1 x2 x3) k
  have pre1 : ∀ t, Steps p.tables e below (s₁.setTop (mkF m 2 #[.val (.int x0), .val (.int x1), .val (.int x2), .val (.int x3)] [(.int x1), (.int x2)])) t → Steps p.tables e below (s₁.setTop (entryFrame m #[(.int x0), (.int x1), (.int x2), (.int x3)] 4)) t := by
    intro t k
    refine pre0 _ ?_
    show Steps p.tables e below (s₁.setTop (mkF m 0 #[.val (.int x0), .val (.int x1), .val (.int x2), .val (.int x3)] [])) _
    refine XS.iloadN X0.here hx rfl (hb hby d2_0) rfl ?_
    show Steps p.tables e below (s₁.setTop (mkF m 1 #[.val (.int x0), .val (.int x1), .val (.int x2), .val (.int x3)] [(.int x2)])) _
    refine XS.iloadN X0.here hx rfl (hb hby d2_1) rfl ?_
    exact k
  obtain ⟨T20, L20, X20, N20, e20, pre20⟩ : ∃ (T' : State) (L' : List Loc), Stand p l e ({ frames := 0, cells := 0, slots := 0, locals := 0 } : Room) s m #[(.int x0), (.int x1), (.int x2), (.int x3)] below meth c T' L' 0 0 ∧ Fr n0 L' ∧ T'.heap = h0 ∧ ∀ t, Steps p.tables e below (T'.setTop (mkF m 27 #[.val (.int x0), .val (.int x1), .val (.int x2), .val (.int x3)] [(.int (f2_j19 x0 x1 x2 x3))])) t → Steps p.tables e below (s₁.setTop (entryFrame m #[(.int x0), (.int x1), (.int x2), (.int x3)] 4)) t := by
    rcases Bool.eq_false_or_eq_true (if_icmp.holds .gt x2 x1) with hc2 | hc2
    · have pre21 : ∀ t, Steps p.tables e below (s₁.setTop (mkF m 27 #[.val (.int x0), .val (.int x1), .val (.int x2), .val (.int x3)] [(.int (0 : Int32))])) t → Steps p.tables e below (s₁.setTop (entryFrame m #[(.int x0), (.int x1), (.int x2), (.int x3)] 4)) t := by
        intro t k
        refine pre1 _ ?_
        show Steps p.tables e below (s₁.setTop (mkF m 2 #[.val (.int x0), .val (.int x1), .val (.int x2), .val (.int x3)] [(.int x1), (.int x2)])) _
        refine XS.icmpYes X0.here hx rfl (pc0 := 2) (pc' := 26) rfl (hb hby d2_2) rfl hc2 (by decide) (by decide) ?_
        show Steps p.tables e below (s₁.setTop (mkF m 26 #[.val (.int x0), .val (.int x1), .val (.int x2), .val (.int x3)] [])) _
        refine XS.iconst X0.here hx rfl (hb hby d2_26) ?_
        exact k
      have qj0 : (f2_j19 x0 x1 x2 x3) = (0 : Int32) := if_pos hc2
      refine ⟨s₁, _, X0, N0, e0, fun t k => pre21 _ ?_⟩
      rw [qj0] at k
      exact k
    · have pre3 : ∀ t, Steps p.tables e below (s₁.setTop (mkF m 7 #[.val (.int x0), .val (.int x1), .val (.int x2), .val (.int x3)] [(.int x3), (.int x1)])) t → Steps p.tables e below (s₁.setTop (entryFrame m #[(.int x0), (.int x1), (.int x2), (.int x3)] 4)) t := by
        intro t k
        refine pre1 _ ?_
        show Steps p.tables e below (s₁.setTop (mkF m 2 #[.val (.int x0), .val (.int x1), .val (.int x2), .val (.int x3)] [(.int x1), (.int x2)])) _
        refine XS.icmpNo X0.here hx rfl (hb hby d2_2) rfl hc2 ?_
        show Steps p.tables e below (s₁.setTop (mkF m 5 #[.val (.int x0), .val (.int x1), .val (.int x2), .val (.int x3)] [])) _
        refine XS.iloadN X0.here hx rfl (hb hby d2_5) rfl ?_
        show Steps p.tables e below (s₁.setTop (mkF m 6 #[.val (.int x0), .val (.int x1), .val (.int x2), .val (.int x3)] [(.int x1)])) _
        refine XS.iloadN X0.here hx rfl (hb hby d2_6) rfl ?_
        exact k
      obtain ⟨T17, L17, X17, N17, e17, pre17⟩ : ∃ (T' : State) (L' : List Loc), Stand p l e ({ frames := 0, cells := 0, slots := 0, locals := 0 } : Room) s m #[(.int x0), (.int x1), (.int x2), (.int x3)] below meth c T' L' 0 0 ∧ Fr n0 L' ∧ T'.heap = h0 ∧ ∀ t, Steps p.tables e below (T'.setTop (mkF m 27 #[.val (.int x0), .val (.int x1), .val (.int x2), .val (.int x3)] [(.int (f2_j16 x0 x1 x2 x3))])) t → Steps p.tables e below (s₁.setTop (entryFrame m #[(.int x0), (.int x1), (.int x2), (.int x3)] 4)) t := by
        rcases Bool.eq_false_or_eq_true (if_icmp.holds .ge x1 x3) with hc4 | hc4
        · have pre18 : ∀ t, Steps p.tables e below (s₁.setTop (mkF m 27 #[.val (.int x0), .val (.int x1), .val (.int x2), .val (.int x3)] [(.int (0 : Int32))])) t → Steps p.tables e below (s₁.setTop (entryFrame m #[(.int x0), (.int x1), (.int x2), (.int x3)] 4)) t := by
            intro t k
            refine pre3 _ ?_
            show Steps p.tables e below (s₁.setTop (mkF m 7 #[.val (.int x0), .val (.int x1), .val (.int x2), .val (.int x3)] [(.int x3), (.int x1)])) _
            refine XS.icmpYes X0.here hx rfl (pc0 := 7) (pc' := 26) rfl (hb hby d2_7) rfl hc4 (by decide) (by decide) ?_
            show Steps p.tables e below (s₁.setTop (mkF m 26 #[.val (.int x0), .val (.int x1), .val (.int x2), .val (.int x3)] [])) _
            refine XS.iconst X0.here hx rfl (hb hby d2_26) ?_
            exact k
          have qj0 : (f2_j16 x0 x1 x2 x3) = (0 : Int32) := if_pos hc4
          refine ⟨s₁, _, X0, N0, e0, fun t k => pre18 _ ?_⟩
          rw [qj0] at k
          exact k
        · have pre5 : ∀ t, Steps p.tables e below (s₁.setTop (mkF m 13 #[.val (.int x0), .val (.int x1), .val (.int x2), .val (.int x3)] [(.int (48 : Int32)), (.int x0)])) t → Steps p.tables e below (s₁.setTop (entryFrame m #[(.int x0), (.int x1), (.int x2), (.int x3)] 4)) t := by
            intro t k
            refine pre3 _ ?_
            show Steps p.tables e below (s₁.setTop (mkF m 7 #[.val (.int x0), .val (.int x1), .val (.int x2), .val (.int x3)] [(.int x3), (.int x1)])) _
            refine XS.icmpNo X0.here hx rfl (hb hby d2_7) rfl hc4 ?_
            show Steps p.tables e below (s₁.setTop (mkF m 10 #[.val (.int x0), .val (.int x1), .val (.int x2), .val (.int x3)] [])) _
            refine XS.iloadN X0.here hx rfl (hb hby d2_10) rfl ?_
            show Steps p.tables e below (s₁.setTop (mkF m 11 #[.val (.int x0), .val (.int x1), .val (.int x2), .val (.int x3)] [(.int x0)])) _
            refine XS.bipush X0.here hx rfl (hb hby d2_11) ?_
            exact k
          obtain ⟨T14, L14, X14, N14, e14, pre14⟩ : ∃ (T' : State) (L' : List Loc), Stand p l e ({ frames := 0, cells := 0, slots := 0, locals := 0 } : Room) s m #[(.int x0), (.int x1), (.int x2), (.int x3)] below meth c T' L' 0 0 ∧ Fr n0 L' ∧ T'.heap = h0 ∧ ∀ t, Steps p.tables e below (T'.setTop (mkF m 27 #[.val (.int x0), .val (.int x1), .val (.int x2), .val (.int x3)] [(.int (f2_j13 x0 x1 x2 x3))])) t → Steps p.tables e below (s₁.setTop (entryFrame m #[(.int x0), (.int x1), (.int x2), (.int x3)] 4)) t := by
            rcases Bool.eq_false_or_eq_true (if_icmp.holds .lt x0 (48 : Int32)) with hc6 | hc6
            · have pre15 : ∀ t, Steps p.tables e below (s₁.setTop (mkF m 27 #[.val (.int x0), .val (.int x1), .val (.int x2), .val (.int x3)] [(.int (1 : Int32))])) t → Steps p.tables e below (s₁.setTop (entryFrame m #[(.int x0), (.int x1), (.int x2), (.int x3)] 4)) t := by
                intro t k
                refine pre5 _ ?_
                show Steps p.tables e below (s₁.setTop (mkF m 13 #[.val (.int x0), .val (.int x1), .val (.int x2), .val (.int x3)] [(.int (48 : Int32)), (.int x0)])) _
                refine XS.icmpYes X0.here hx rfl (pc0 := 13) (pc' := 22) rfl (hb hby d2_13) rfl hc6 (by decide) (by decide) ?_
                show Steps p.tables e below (s₁.setTop (mkF m 22 #[.val (.int x0), .val (.int x1), .val (.int x2), .val (.int x3)] [])) _
                refine XS.iconst X0.here hx rfl (hb hby d2_22) ?_
                show Steps p.tables e below (s₁.setTop (mkF m 23 #[.val (.int x0), .val (.int x1), .val (.int x2), .val (.int x3)] [(.int (1 : Int32))])) _
                refine XS.goto X0.here hx rfl (pc0 := 23) (pc' := 27) rfl (hb hby d2_23) (by decide) (by decide) ?_
                exact k
              have qj0 : (f2_j13 x0 x1 x2 x3) = (1 : Int32) := if_pos hc6
              refine ⟨s₁, _, X0, N0, e0, fun t k => pre15 _ ?_⟩
              rw [qj0] at k
              exact k
            · have pre7 : ∀ t, Steps p.tables e below (s₁.setTop (mkF m 19 #[.val (.int x0), .val (.int x1), .val (.int x2), .val (.int x3)] [(.int (57 : Int32)), (.int x0)])) t → Steps p.tables e below (s₁.setTop (entryFrame m #[(.int x0), (.int x1), (.int x2), (.int x3)] 4)) t := by
                intro t k
                refine pre5 _ ?_
                show Steps p.tables e below (s₁.setTop (mkF m 13 #[.val (.int x0), .val (.int x1), .val (.int x2), .val (.int x3)] [(.int (48 : Int32)), (.int x0)])) _
                refine XS.icmpNo X0.here hx rfl (hb hby d2_13) rfl hc6 ?_
                show Steps p.tables e below (s₁.setTop (mkF m 16 #[.val (.int x0), .val (.int x1), .val (.int x2), .val (.int x3)] [])) _
                refine XS.iloadN X0.here hx rfl (hb hby d2_16) rfl ?_
                show Steps p.tables e below (s₁.setTop (mkF m 17 #[.val (.int x0), .val (.int x1), .val (.int x2), .val (.int x3)] [(.int x0)])) _
                refine XS.bipush X0.here hx rfl (hb hby d2_17) ?_
                exact k
              obtain ⟨T10, L10, X10, N10, e10, pre10⟩ : ∃ (T' : State) (L' : List Loc), Stand p l e ({ frames := 0, cells := 0, slots := 0, locals := 0 } : Room) s m #[(.int x0), (.int x1), (.int x2), (.int x3)] below meth c T' L' 0 0 ∧ Fr n0 L' ∧ T'.heap = h0 ∧ ∀ t, Steps p.tables e below (T'.setTop (mkF m 27 #[.val (.int x0), .val (.int x1), .val (.int x2), .val (.int x3)] [(.int (f2_j9 x0 x1 x2 x3))])) t → Steps p.tables e below (s₁.setTop (entryFrame m #[(.int x0), (.int x1), (.int x2), (.int x3)] 4)) t := by
                rcases Bool.eq_false_or_eq_true (if_icmp.holds .le x0 (57 : Int32)) with hc8 | hc8
                · have pre11 : ∀ t, Steps p.tables e below (s₁.setTop (mkF m 27 #[.val (.int x0), .val (.int x1), .val (.int x2), .val (.int x3)] [(.int (0 : Int32))])) t → Steps p.tables e below (s₁.setTop (entryFrame m #[(.int x0), (.int x1), (.int x2), (.int x3)] 4)) t := by
                    intro t k
                    refine pre7 _ ?_
                    show Steps p.tables e below (s₁.setTop (mkF m 19 #[.val (.int x0), .val (.int x1), .val (.int x2), .val (.int x3)] [(.int (57 : Int32)), (.int x0)])) _
                    refine XS.icmpYes X0.here hx rfl (pc0 := 19) (pc' := 26) rfl (hb hby d2_19) rfl hc8 (by decide) (by decide) ?_
                    show Steps p.tables e below (s₁.setTop (mkF m 26 #[.val (.int x0), .val (.int x1), .val (.int x2), .val (.int x3)] [])) _
                    refine XS.iconst X0.here hx rfl (hb hby d2_26) ?_
                    exact k
                  have qj0 : (f2_j9 x0 x1 x2 x3) = (0 : Int32) := if_pos hc8
                  refine ⟨s₁, _, X0, N0, e0, fun t k => pre11 _ ?_⟩
                  rw [qj0] at k
                  exact k
                · have pre12 : ∀ t, Steps p.tables e below (s₁.setTop (mkF m 27 #[.val (.int x0), .val (.int x1), .val (.int x2), .val (.int x3)] [(.int (1 : Int32))])) t → Steps p.tables e below (s₁.setTop (entryFrame m #[(.int x0), (.int x1), (.int x2), (.int x3)] 4)) t := by
                    intro t k
                    refine pre7 _ ?_
                    show Steps p.tables e below (s₁.setTop (mkF m 19 #[.val (.int x0), .val (.int x1), .val (.int x2), .val (.int x3)] [(.int (57 : Int32)), (.int x0)])) _
                    refine XS.icmpNo X0.here hx rfl (hb hby d2_19) rfl hc8 ?_
                    show Steps p.tables e below (s₁.setTop (mkF m 22 #[.val (.int x0), .val (.int x1), .val (.int x2), .val (.int x3)] [])) _
                    refine XS.iconst X0.here hx rfl (hb hby d2_22) ?_
                    show Steps p.tables e below (s₁.setTop (mkF m 23 #[.val (.int x0), .val (.int x1), .val (.int x2), .val (.int x3)] [(.int (1 : Int32))])) _
                    refine XS.goto X0.here hx rfl (pc0 := 23) (pc' := 27) rfl (hb hby d2_23) (by decide) (by decide) ?_
                    exact k
                  have qj0 : (f2_j9 x0 x1 x2 x3) = (1 : Int32) := if_neg (own_nt hc8)
                  refine ⟨s₁, _, X0, N0, e0, fun t k => pre12 _ ?_⟩
                  rw [qj0] at k
                  exact k
              have qj0 : (f2_j13 x0 x1 x2 x3) = (f2_j9 x0 x1 x2 x3) := if_neg (own_nt hc6)
              refine ⟨T10, _, X10, N10, e10, fun t k => pre10 _ ?_⟩
              rw [qj0] at k
              exact k
          have qj0 : (f2_j16 x0 x1 x2 x3) = (f2_j13 x0 x1 x2 x3) := if_neg (own_nt hc4)
          refine ⟨T14, _, X14, N14, e14, fun t k => pre14 _ ?_⟩
          rw [qj0] at k
          exact k
      have qj0 : (f2_j19 x0 x1 x2 x3) = (f2_j16 x0 x1 x2 x3) := if_neg (own_nt hc2)
      refine ⟨T17, _, X17, N17, e17, fun t k => pre17 _ ?_⟩
      rw [qj0] at k
      exact k
  obtain ⟨fs, hr, hrun, hended, hW, hsame⟩ := X20.leave (v := some (.int (nar .boolean (f2_j19 x0 x1 x2 x3)))) (fun h => by rw [hret] at h; cases h)
  refine ⟨_, _, pre20 _ ?_, hrun, hended, _, _, rfl, ?_, ⟨_, rfl⟩, hW, hsame.mono (by decide) (by decide)⟩
  · show Steps p.tables e below (T20.setTop (mkF m 27 #[.val (.int x0), .val (.int x1), .val (.int x2), .val (.int x3)] [(.int (f2_j19 x0 x1 x2 x3))])) _
    exact retN X20 hx (t := .boolean) hret (by simp) (hb hby d2_27) hr
  · show Q2 Z x0 x1 x2 x3 h0 n0 _ T20.heap _
    rw [e20]
    have rr : f2 x0 x1 x2 x3 = (nar .boolean (f2_j19 x0 x1 x2 x3)) := rfl
    exact ⟨congrArg (fun z => some (Value.int z)) rr.symm, N20, rfl⟩
-- body 5: dev/stratumaudio/Lyrics3TagDecimalPinLaw.pow10:(I)J
theorem d5_0 : decode method_3_code 0 = .ok (.iload_n 0, 1) := by decide +kernel
theorem d5_1 : decode method_3_code 1 = .ok (.ifCond .ne 5, 3) := by decide +kernel
theorem d5_4 : decode method_3_code 4 = .ok (.lconst 1, 1) := by decide +kernel
theorem d5_5 : decode method_3_code 5 = .ok (.lreturn, 1) := by decide +kernel
theorem d5_6 : decode method_3_code 6 = .ok (.iload_n 0, 1) := by decide +kernel
theorem d5_7 : decode method_3_code 7 = .ok (.iconst 1, 1) := by decide +kernel
theorem d5_8 : decode method_3_code 8 = .ok (.if_icmp .ne 7, 3) := by decide +kernel
theorem d5_11 : decode method_3_code 11 = .ok (.ldc2_w 9, 3) := by decide +kernel
theorem d5_14 : decode method_3_code 14 = .ok (.lreturn, 1) := by decide +kernel
theorem d5_15 : decode method_3_code 15 = .ok (.iload_n 0, 1) := by decide +kernel
theorem d5_16 : decode method_3_code 16 = .ok (.iconst 2, 1) := by decide +kernel
theorem d5_17 : decode method_3_code 17 = .ok (.if_icmp .ne 7, 3) := by decide +kernel
theorem d5_20 : decode method_3_code 20 = .ok (.ldc2_w 11, 3) := by decide +kernel
theorem d5_23 : decode method_3_code 23 = .ok (.lreturn, 1) := by decide +kernel
theorem d5_24 : decode method_3_code 24 = .ok (.iload_n 0, 1) := by decide +kernel
theorem d5_25 : decode method_3_code 25 = .ok (.iconst 3, 1) := by decide +kernel
theorem d5_26 : decode method_3_code 26 = .ok (.if_icmp .ne 7, 3) := by decide +kernel
theorem d5_29 : decode method_3_code 29 = .ok (.ldc2_w 13, 3) := by decide +kernel
theorem d5_32 : decode method_3_code 32 = .ok (.lreturn, 1) := by decide +kernel
theorem d5_33 : decode method_3_code 33 = .ok (.iload_n 0, 1) := by decide +kernel
theorem d5_34 : decode method_3_code 34 = .ok (.iconst 4, 1) := by decide +kernel
theorem d5_35 : decode method_3_code 35 = .ok (.if_icmp .ne 7, 3) := by decide +kernel
theorem d5_38 : decode method_3_code 38 = .ok (.ldc2_w 15, 3) := by decide +kernel
theorem d5_41 : decode method_3_code 41 = .ok (.lreturn, 1) := by decide +kernel
theorem d5_42 : decode method_3_code 42 = .ok (.ldc2_w 17, 3) := by decide +kernel
theorem d5_45 : decode method_3_code 45 = .ok (.lreturn, 1) := by decide +kernel
theorem ef_5 (m : MethodId) (x0 : Int32) : entryFrame m #[(.int x0)] 1 = mkF m 0 #[.val (.int x0)] [] := by first | (simp [entryFrame, mkF, argsToLocals, Value.category]; done) | rfl
def f5 (x0 : Int32) : Int64 := (if ifCond.holds .ne x0 = true then (if if_icmp.holds .ne x0 (1 : Int32) = true then (if if_icmp.holds .ne x0 (2 : Int32) = true then (if if_icmp.holds .ne x0 (3 : Int32) = true then (if if_icmp.holds .ne x0 (4 : Int32) = true then (100000 : Int64) else (10000 : Int64)) else (1000 : Int64)) else (100 : Int64)) else (10 : Int64)) else (1 : Int64))
def Q5 (Z : State) (x0 : Int32) (h0 : Heap) (n0 : Nat) (v : Option Value) (h : Heap) (L : List Loc) : Prop := v = some (.long (f5 x0)) ∧ Fr n0 L ∧ h = h0
set_option maxRecDepth 65536 in
set_option maxHeartbeats 40000000 in
theorem rm5 (l : Launch) (Z : State) (a0 : Array Value) (hw : ∀ d ∈ tables_1, d.before a0 Z = true) (ws : List Jvm.Cond) (x0 : Int32) (h0 : Heap) (n0 : Nat) (Z0 : n0 ≤ h0.size) :
    MetFree l (⟨"dev/stratumaudio/Lyrics3TagDecimalPinLaw", "pow10", "(I)J"⟩ : MethodName) (head1 (Jvm.Cond.code (⟨"dev/stratumaudio/Lyrics3TagDecimalPinLaw", "pow10", "(I)J"⟩ : MethodName) method_3_code 1 (some .long) :: ws) ({ frames := 0, cells := 0, slots := 0, locals := 0 } : Room)) (fun a U => a = #[(.int x0)] ∧ Z.Warmed39 U.vm ∧ U.heap = h0) (fun _ _ _ _ _ => True) (fun _ U o U' => ∃ v L, o = .returned v ∧ Q5 Z x0 h0 n0 v U'.heap L ∧ FrameEnd U o U' L ({ frames := 0, cells := 0, slots := 0, locals := 0 } : Room).cells ({ frames := 0, cells := 0, slots := 0, locals := 0 } : Room).slots) := by
  refine MetFree.of_bodySF (plainFor_of_name pn_0) hisR ?_
  intro p e s m args below meth c s₁ Bd hml0 hP hK0
  obtain ⟨rfl, hZ, hh⟩ := hP
  have hx := Bd.exec
  have hby := Bd.bytes
  have hml : c.maxLocals = 1 := hml0
  have hown : s.vm.findClass "dev/stratumaudio/Lyrics3TagDecimalPinLaw" = some m.cls := findClass_of_methodNamed Bd.named
  have hnm := (name_of_methodNamed Bd.named Bd.method).1
  have hret : meth.sig.returnType = some .long := Bd.returns
  have hlk : meth.locks = false := Bd.notSynchronized
  have X0 : Stand p l e ({ frames := 0, cells := 0, slots := 0, locals := 0 } : Room) s m #[(.int x0)] below meth c s₁ [] 0 0 := Stand.of_body Bd
  have e0 : s₁.heap = h0 := by rw [← hh, Bd.state]; rfl
  have N0 := Fr.nil n0
  have pre0 : ∀ t, Steps p.tables e below (s₁.setTop (mkF m 0 #[.val (.int x0)] [])) t → Steps p.tables e below (s₁.setTop (entryFrame m #[(.int x0)] 1)) t := fun t k => castTop (ef_5 m x0) k
  have pre1 : ∀ t, Steps p.tables e below (s₁.setTop (mkF m 1 #[.val (.int x0)] [(.int x0)])) t → Steps p.tables e below (s₁.setTop (entryFrame m #[(.int x0)] 1)) t := by
    intro t k
    refine pre0 _ ?_
    show Steps p.tables e below (s₁.setTop (mkF m 0 #[.val (.int x0)] [])) _
    refine XS.iloadN X0.here hx rfl (hb hby d5_0) rfl ?_
    exact k
  rcases Bool.eq_false_or_eq_true (ifCond.holds .ne x0) with hc2 | hc2
  · have pre3 : ∀ t, Steps p.tables e below (s₁.setTop (mkF m 8 #[.val (.int x0)] [(.int (1 : Int32)), (.int x0)])) t → Steps p.tables e below (s₁.setTop (entryFrame m #[(.int x0)] 1)) t := by
      intro t k
      refine pre1 _ ?_
      show Steps p.tables e below (s₁.setTop (mkF m 1 #[.val (.int x0)] [(.int x0)])) _
      refine XS.ifYes X0.here hx rfl (pc0 := 1) (pc' := 6) rfl (hb hby d5_1) rfl hc2 (by decide) (by decide) ?_
      show Steps p.tables e below (s₁.setTop (mkF m 6 #[.val (.int x0)] [])) _
      refine XS.iloadN X0.here hx rfl (hb hby d5_6) rfl ?_
      show Steps p.tables e below (s₁.setTop (mkF m 7 #[.val (.int x0)] [(.int x0)])) _
      refine XS.iconst X0.here hx rfl (hb hby d5_7) ?_
      exact k
    rcases Bool.eq_false_or_eq_true (if_icmp.holds .ne x0 (1 : Int32)) with hc4 | hc4
    · have pre5 : ∀ t, Steps p.tables e below (s₁.setTop (mkF m 17 #[.val (.int x0)] [(.int (2 : Int32)), (.int x0)])) t → Steps p.tables e below (s₁.setTop (entryFrame m #[(.int x0)] 1)) t := by
        intro t k
        refine pre3 _ ?_
        show Steps p.tables e below (s₁.setTop (mkF m 8 #[.val (.int x0)] [(.int (1 : Int32)), (.int x0)])) _
        refine XS.icmpYes X0.here hx rfl (pc0 := 8) (pc' := 15) rfl (hb hby d5_8) rfl hc4 (by decide) (by decide) ?_
        show Steps p.tables e below (s₁.setTop (mkF m 15 #[.val (.int x0)] [])) _
        refine XS.iloadN X0.here hx rfl (hb hby d5_15) rfl ?_
        show Steps p.tables e below (s₁.setTop (mkF m 16 #[.val (.int x0)] [(.int x0)])) _
        refine XS.iconst X0.here hx rfl (hb hby d5_16) ?_
        exact k
      rcases Bool.eq_false_or_eq_true (if_icmp.holds .ne x0 (2 : Int32)) with hc6 | hc6
      · have pre7 : ∀ t, Steps p.tables e below (s₁.setTop (mkF m 26 #[.val (.int x0)] [(.int (3 : Int32)), (.int x0)])) t → Steps p.tables e below (s₁.setTop (entryFrame m #[(.int x0)] 1)) t := by
          intro t k
          refine pre5 _ ?_
          show Steps p.tables e below (s₁.setTop (mkF m 17 #[.val (.int x0)] [(.int (2 : Int32)), (.int x0)])) _
          refine XS.icmpYes X0.here hx rfl (pc0 := 17) (pc' := 24) rfl (hb hby d5_17) rfl hc6 (by decide) (by decide) ?_
          show Steps p.tables e below (s₁.setTop (mkF m 24 #[.val (.int x0)] [])) _
          refine XS.iloadN X0.here hx rfl (hb hby d5_24) rfl ?_
          show Steps p.tables e below (s₁.setTop (mkF m 25 #[.val (.int x0)] [(.int x0)])) _
          refine XS.iconst X0.here hx rfl (hb hby d5_25) ?_
          exact k
        rcases Bool.eq_false_or_eq_true (if_icmp.holds .ne x0 (3 : Int32)) with hc8 | hc8
        · have pre9 : ∀ t, Steps p.tables e below (s₁.setTop (mkF m 35 #[.val (.int x0)] [(.int (4 : Int32)), (.int x0)])) t → Steps p.tables e below (s₁.setTop (entryFrame m #[(.int x0)] 1)) t := by
            intro t k
            refine pre7 _ ?_
            show Steps p.tables e below (s₁.setTop (mkF m 26 #[.val (.int x0)] [(.int (3 : Int32)), (.int x0)])) _
            refine XS.icmpYes X0.here hx rfl (pc0 := 26) (pc' := 33) rfl (hb hby d5_26) rfl hc8 (by decide) (by decide) ?_
            show Steps p.tables e below (s₁.setTop (mkF m 33 #[.val (.int x0)] [])) _
            refine XS.iloadN X0.here hx rfl (hb hby d5_33) rfl ?_
            show Steps p.tables e below (s₁.setTop (mkF m 34 #[.val (.int x0)] [(.int x0)])) _
            refine XS.iconst X0.here hx rfl (hb hby d5_34) ?_
            exact k
          rcases Bool.eq_false_or_eq_true (if_icmp.holds .ne x0 (4 : Int32)) with hc10 | hc10
          · obtain ⟨fs, hr, hrun, hended, hW, hsame⟩ := X0.leave (v := some (.long (100000 : Int64))) (fun h => by rw [hret] at h; cases h)
            refine ⟨_, _, pre9 _ ?_, hrun, hended, _, _, rfl, ?_, ⟨_, rfl⟩, hW, hsame.mono (by decide) (by decide)⟩
            · show Steps p.tables e below (s₁.setTop (mkF m 35 #[.val (.int x0)] [(.int (4 : Int32)), (.int x0)])) _
              refine XS.icmpYes X0.here hx rfl (pc0 := 35) (pc' := 42) rfl (hb hby d5_35) rfl hc10 (by decide) (by decide) ?_
              show Steps p.tables e below (s₁.setTop (mkF m 42 #[.val (.int x0)] [])) _
              refine X0.ldc2Long hx hown (mvT hZ (hw _ (List.mem_of_getElem? (i := 25) rfl))) (g := (mkF m 42 #[.val (.int x0)] [])) rfl (hb hby d5_42) _ ?_
              show Steps p.tables e below (s₁.setTop (mkF m 45 #[.val (.int x0)] [(.long (100000 : Int64))])) _
              exact X0.lreturnOut hx hret (hb hby d5_45) hr
            · show Q5 Z x0 h0 n0 _ s₁.heap _
              rw [e0]
              have rr : f5 x0 = (100000 : Int64) := Eq.trans (if_pos hc2) (Eq.trans (if_pos hc4) (Eq.trans (if_pos hc6) (Eq.trans (if_pos hc8) (if_pos hc10))))
              exact ⟨congrArg (fun z => some (Value.long z)) rr.symm, N0, rfl⟩
          · obtain ⟨fs, hr, hrun, hended, hW, hsame⟩ := X0.leave (v := some (.long (10000 : Int64))) (fun h => by rw [hret] at h; cases h)
            refine ⟨_, _, pre9 _ ?_, hrun, hended, _, _, rfl, ?_, ⟨_, rfl⟩, hW, hsame.mono (by decide) (by decide)⟩
            · show Steps p.tables e below (s₁.setTop (mkF m 35 #[.val (.int x0)] [(.int (4 : Int32)), (.int x0)])) _
              refine XS.icmpNo X0.here hx rfl (hb hby d5_35) rfl hc10 ?_
              show Steps p.tables e below (s₁.setTop (mkF m 38 #[.val (.int x0)] [])) _
              refine X0.ldc2Long hx hown (mvT hZ (hw _ (List.mem_of_getElem? (i := 24) rfl))) (g := (mkF m 38 #[.val (.int x0)] [])) rfl (hb hby d5_38) _ ?_
              show Steps p.tables e below (s₁.setTop (mkF m 41 #[.val (.int x0)] [(.long (10000 : Int64))])) _
              exact X0.lreturnOut hx hret (hb hby d5_41) hr
            · show Q5 Z x0 h0 n0 _ s₁.heap _
              rw [e0]
              have rr : f5 x0 = (10000 : Int64) := Eq.trans (if_pos hc2) (Eq.trans (if_pos hc4) (Eq.trans (if_pos hc6) (Eq.trans (if_pos hc8) (if_neg (own_nt hc10)))))
              exact ⟨congrArg (fun z => some (Value.long z)) rr.symm, N0, rfl⟩
        · obtain ⟨fs, hr, hrun, hended, hW, hsame⟩ := X0.leave (v := some (.long (1000 : Int64))) (fun h => by rw [hret] at h; cases h)
          refine ⟨_, _, pre7 _ ?_, hrun, hended, _, _, rfl, ?_, ⟨_, rfl⟩, hW, hsame.mono (by decide) (by decide)⟩
          · show Steps p.tables e below (s₁.setTop (mkF m 26 #[.val (.int x0)] [(.int (3 : Int32)), (.int x0)])) _
            refine XS.icmpNo X0.here hx rfl (hb hby d5_26) rfl hc8 ?_
            show Steps p.tables e below (s₁.setTop (mkF m 29 #[.val (.int x0)] [])) _
            refine X0.ldc2Long hx hown (mvT hZ (hw _ (List.mem_of_getElem? (i := 23) rfl))) (g := (mkF m 29 #[.val (.int x0)] [])) rfl (hb hby d5_29) _ ?_
            show Steps p.tables e below (s₁.setTop (mkF m 32 #[.val (.int x0)] [(.long (1000 : Int64))])) _
            exact X0.lreturnOut hx hret (hb hby d5_32) hr
          · show Q5 Z x0 h0 n0 _ s₁.heap _
            rw [e0]
            have rr : f5 x0 = (1000 : Int64) := Eq.trans (if_pos hc2) (Eq.trans (if_pos hc4) (Eq.trans (if_pos hc6) (if_neg (own_nt hc8))))
            exact ⟨congrArg (fun z => some (Value.long z)) rr.symm, N0, rfl⟩
      · obtain ⟨fs, hr, hrun, hended, hW, hsame⟩ := X0.leave (v := some (.long (100 : Int64))) (fun h => by rw [hret] at h; cases h)
        refine ⟨_, _, pre5 _ ?_, hrun, hended, _, _, rfl, ?_, ⟨_, rfl⟩, hW, hsame.mono (by decide) (by decide)⟩
        · show Steps p.tables e below (s₁.setTop (mkF m 17 #[.val (.int x0)] [(.int (2 : Int32)), (.int x0)])) _
          refine XS.icmpNo X0.here hx rfl (hb hby d5_17) rfl hc6 ?_
          show Steps p.tables e below (s₁.setTop (mkF m 20 #[.val (.int x0)] [])) _
          refine X0.ldc2Long hx hown (mvT hZ (hw _ (List.mem_of_getElem? (i := 20) rfl))) (g := (mkF m 20 #[.val (.int x0)] [])) rfl (hb hby d5_20) _ ?_
          show Steps p.tables e below (s₁.setTop (mkF m 23 #[.val (.int x0)] [(.long (100 : Int64))])) _
          exact X0.lreturnOut hx hret (hb hby d5_23) hr
        · show Q5 Z x0 h0 n0 _ s₁.heap _
          rw [e0]
          have rr : f5 x0 = (100 : Int64) := Eq.trans (if_pos hc2) (Eq.trans (if_pos hc4) (if_neg (own_nt hc6)))
          exact ⟨congrArg (fun z => some (Value.long z)) rr.symm, N0, rfl⟩
    · obtain ⟨fs, hr, hrun, hended, hW, hsame⟩ := X0.leave (v := some (.long (10 : Int64))) (fun h => by rw [hret] at h; cases h)
      refine ⟨_, _, pre3 _ ?_, hrun, hended, _, _, rfl, ?_, ⟨_, rfl⟩, hW, hsame.mono (by decide) (by decide)⟩
      · show Steps p.tables e below (s₁.setTop (mkF m 8 #[.val (.int x0)] [(.int (1 : Int32)), (.int x0)])) _
        refine XS.icmpNo X0.here hx rfl (hb hby d5_8) rfl hc4 ?_
        show Steps p.tables e below (s₁.setTop (mkF m 11 #[.val (.int x0)] [])) _
        refine X0.ldc2Long hx hown (mvT hZ (hw _ (List.mem_of_getElem? (i := 21) rfl))) (g := (mkF m 11 #[.val (.int x0)] [])) rfl (hb hby d5_11) _ ?_
        show Steps p.tables e below (s₁.setTop (mkF m 14 #[.val (.int x0)] [(.long (10 : Int64))])) _
        exact X0.lreturnOut hx hret (hb hby d5_14) hr
      · show Q5 Z x0 h0 n0 _ s₁.heap _
        rw [e0]
        have rr : f5 x0 = (10 : Int64) := Eq.trans (if_pos hc2) (if_neg (own_nt hc4))
        exact ⟨congrArg (fun z => some (Value.long z)) rr.symm, N0, rfl⟩
  · obtain ⟨fs, hr, hrun, hended, hW, hsame⟩ := X0.leave (v := some (.long (1 : Int64))) (fun h => by rw [hret] at h; cases h)
    refine ⟨_, _, pre1 _ ?_, hrun, hended, _, _, rfl, ?_, ⟨_, rfl⟩, hW, hsame.mono (by decide) (by decide)⟩
    · show Steps p.tables e below (s₁.setTop (mkF m 1 #[.val (.int x0)] [(.int x0)])) _
      refine XS.ifNo X0.here hx rfl (hb hby d5_1) rfl hc2 ?_
      show Steps p.tables e below (s₁.setTop (mkF m 4 #[.val (.int x0)] [])) _
      refine XS.lconst X0.here hx rfl (hb hby d5_4) ?_
      show Steps p.tables e below (s₁.setTop (mkF m 5 #[.val (.int x0)] [(.long (1 : Int64))])) _
      exact X0.lreturnOut hx hret (hb hby d5_5) hr
    · show Q5 Z x0 h0 n0 _ s₁.heap _
      rw [e0]
      have rr : f5 x0 = (1 : Int64) := if_neg (own_nt hc2)
      exact ⟨congrArg (fun z => some (Value.long z)) rr.symm, N0, rfl⟩
theorem pd_0 : parseMethodDescriptor "(I)J" = some ⟨[.int], some .long⟩ := by decide +kernel
-- body 3: dev/stratumaudio/Lyrics3TagDecimalPinLaw.contrib:(BIII)J
theorem d3_0 : decode method_5_code 0 = .ok (.iload_n 2, 1) := by decide +kernel
theorem d3_1 : decode method_5_code 1 = .ok (.iload_n 1, 1) := by decide +kernel
theorem d3_2 : decode method_5_code 2 = .ok (.if_icmp .gt 23, 3) := by decide +kernel
theorem d3_5 : decode method_5_code 5 = .ok (.iload_n 1, 1) := by decide +kernel
theorem d3_6 : decode method_5_code 6 = .ok (.iload_n 3, 1) := by decide +kernel
theorem d3_7 : decode method_5_code 7 = .ok (.if_icmp .ge 18, 3) := by decide +kernel
theorem d3_10 : decode method_5_code 10 = .ok (.iload_n 0, 1) := by decide +kernel
theorem d3_11 : decode method_5_code 11 = .ok (.bipush 48, 2) := by decide +kernel
theorem d3_13 : decode method_5_code 13 = .ok (.isub, 1) := by decide +kernel
theorem d3_14 : decode method_5_code 14 = .ok (.i2l, 1) := by decide +kernel
theorem d3_15 : decode method_5_code 15 = .ok (.iload_n 3, 1) := by decide +kernel
theorem d3_16 : decode method_5_code 16 = .ok (.iconst 1, 1) := by decide +kernel
theorem d3_17 : decode method_5_code 17 = .ok (.isub, 1) := by decide +kernel
theorem d3_18 : decode method_5_code 18 = .ok (.iload_n 1, 1) := by decide +kernel
theorem d3_19 : decode method_5_code 19 = .ok (.isub, 1) := by decide +kernel
theorem d3_20 : decode method_5_code 20 = .ok (.invokestatic 19, 3) := by decide +kernel
theorem d3_23 : decode method_5_code 23 = .ok (.lmul, 1) := by decide +kernel
theorem d3_24 : decode method_5_code 24 = .ok (.lreturn, 1) := by decide +kernel
theorem d3_25 : decode method_5_code 25 = .ok (.lconst 0, 1) := by decide +kernel
theorem d3_26 : decode method_5_code 26 = .ok (.lreturn, 1) := by decide +kernel
theorem ef_3 (m : MethodId) (x0 : Int32) (x1 : Int32) (x2 : Int32) (x3 : Int32) : entryFrame m #[(.int x0), (.int x1), (.int x2), (.int x3)] 4 = mkF m 0 #[.val (.int x0), .val (.int x1), .val (.int x2), .val (.int x3)] [] := by first | (simp [entryFrame, mkF, argsToLocals, Value.category]; done) | rfl
def f3 (x0 : Int32) (x1 : Int32) (x2 : Int32) (x3 : Int32) : Int64 := (if if_icmp.holds .gt x2 x1 = true then (0 : Int64) else (if if_icmp.holds .ge x1 x3 = true then (0 : Int64) else (((x0 - (48 : Int32)).toInt64) * (f5 ((x3 - (1 : Int32)) - x1)))))
def Q3 (Z : State) (x0 : Int32) (x1 : Int32) (x2 : Int32) (x3 : Int32) (h0 : Heap) (n0 : Nat) (v : Option Value) (h : Heap) (L : List Loc) : Prop := v = some (.long (f3 x0 x1 x2 x3)) ∧ Fr n0 L ∧ h = h0
set_option maxRecDepth 65536 in
set_option maxHeartbeats 40000000 in
theorem rm3 (l : Launch) (Z : State) (a0 : Array Value) (hw : ∀ d ∈ tables_1, d.before a0 Z = true) (ws : List Jvm.Cond) (x0 : Int32) (x1 : Int32) (x2 : Int32) (x3 : Int32) (h0 : Heap) (n0 : Nat) (Z0 : n0 ≤ h0.size) :
    MetFree l (⟨"dev/stratumaudio/Lyrics3TagDecimalPinLaw", "contrib", "(BIII)J"⟩ : MethodName) (head1 (Jvm.Cond.code (⟨"dev/stratumaudio/Lyrics3TagDecimalPinLaw", "contrib", "(BIII)J"⟩ : MethodName) method_5_code 4 (some .long) :: ws) ({ frames := 1, cells := 0, slots := 0, locals := 14 } : Room)) (fun a U => a = #[(.int x0), (.int x1), (.int x2), (.int x3)] ∧ Z.Warmed39 U.vm ∧ U.heap = h0) (fun _ _ _ _ _ => True) (fun _ U o U' => ∃ v L, o = .returned v ∧ Q3 Z x0 x1 x2 x3 h0 n0 v U'.heap L ∧ FrameEnd U o U' L ({ frames := 1, cells := 0, slots := 0, locals := 14 } : Room).cells ({ frames := 1, cells := 0, slots := 0, locals := 14 } : Room).slots) := by
  refine MetFree.of_bodySF (plainFor_of_name pn_0) hisR ?_
  intro p e s m args below meth c s₁ Bd hml0 hP hK0
  obtain ⟨rfl, hZ, hh⟩ := hP
  have hx := Bd.exec
  have hby := Bd.bytes
  have hml : c.maxLocals = 4 := hml0
  have hown : s.vm.findClass "dev/stratumaudio/Lyrics3TagDecimalPinLaw" = some m.cls := findClass_of_methodNamed Bd.named
  have hnm := (name_of_methodNamed Bd.named Bd.method).1
  have hret : meth.sig.returnType = some .long := Bd.returns
  have hlk : meth.locks = false := Bd.notSynchronized
  have X0 : Stand p l e ({ frames := 1, cells := 0, slots := 0, locals := 14 } : Room) s m #[(.int x0), (.int x1), (.int x2), (.int x3)] below meth c s₁ [] 0 0 := Stand.of_body Bd
  have e0 : s₁.heap = h0 := by rw [← hh, Bd.state]; rfl
  have N0 := Fr.nil n0
  have pre0 : ∀ t, Steps p.tables e below (s₁.setTop (mkF m 0 #[.val (.int x0), .val (.int x1), .val (.int x2), .val (.int x3)] [])) t → Steps p.tables e below (s₁.setTop (entryFrame m #[(.int x0), (.int x1), (.int x2), (.int x3)] 4)) t := fun t k => castTop (ef_3 m x0 x1 x2 x3) k
  have pre1 : ∀ t, Steps p.tables e below (s₁.setTop (mkF m 2 #[.val (.int x0), .val (.int x1), .val (.int x2), .val (.int x3)] [(.int x1), (.int x2)])) t → Steps p.tables e below (s₁.setTop (entryFrame m #[(.int x0), (.int x1), (.int x2), (.int x3)] 4)) t := by
    intro t k
    refine pre0 _ ?_
    show Steps p.tables e below (s₁.setTop (mkF m 0 #[.val (.int x0), .val (.int x1), .val (.int x2), .val (.int x3)] [])) _
    refine XS.iloadN X0.here hx rfl (hb hby d3_0) rfl ?_
    show Steps p.tables e below (s₁.setTop (mkF m 1 #[.val (.int x0), .val (.int x1), .val (.int x2), .val (.int x3)] [(.int x2)])) _
    refine XS.iloadN X0.here hx rfl (hb hby d3_1) rfl ?_
    exact k
  rcases Bool.eq_false_or_eq_true (if_icmp.holds .gt x2 x1) with hc2 | hc2
  · obtain ⟨fs, hr, hrun, hended, hW, hsame⟩ := X0.leave (v := some (.long (0 : Int64))) (fun h => by rw [hret] at h; cases h)
    refine ⟨_, _, pre1 _ ?_, hrun, hended, _, _, rfl, ?_, ⟨_, rfl⟩, hW, hsame.mono (by decide) (by decide)⟩
    · show Steps p.tables e below (s₁.setTop (mkF m 2 #[.val (.int x0), .val (.int x1), .val (.int x2), .val (.int x3)] [(.int x1), (.int x2)])) _
      refine XS.icmpYes X0.here hx rfl (pc0 := 2) (pc' := 25) rfl (hb hby d3_2) rfl hc2 (by decide) (by decide) ?_
      show Steps p.tables e below (s₁.setTop (mkF m 25 #[.val (.int x0), .val (.int x1), .val (.int x2), .val (.int x3)] [])) _
      refine XS.lconst X0.here hx rfl (hb hby d3_25) ?_
      show Steps p.tables e below (s₁.setTop (mkF m 26 #[.val (.int x0), .val (.int x1), .val (.int x2), .val (.int x3)] [(.long (0 : Int64))])) _
      exact X0.lreturnOut hx hret (hb hby d3_26) hr
    · show Q3 Z x0 x1 x2 x3 h0 n0 _ s₁.heap _
      rw [e0]
      have rr : f3 x0 x1 x2 x3 = (0 : Int64) := if_pos hc2
      exact ⟨congrArg (fun z => some (Value.long z)) rr.symm, N0, rfl⟩
  · have pre3 : ∀ t, Steps p.tables e below (s₁.setTop (mkF m 7 #[.val (.int x0), .val (.int x1), .val (.int x2), .val (.int x3)] [(.int x3), (.int x1)])) t → Steps p.tables e below (s₁.setTop (entryFrame m #[(.int x0), (.int x1), (.int x2), (.int x3)] 4)) t := by
      intro t k
      refine pre1 _ ?_
      show Steps p.tables e below (s₁.setTop (mkF m 2 #[.val (.int x0), .val (.int x1), .val (.int x2), .val (.int x3)] [(.int x1), (.int x2)])) _
      refine XS.icmpNo X0.here hx rfl (hb hby d3_2) rfl hc2 ?_
      show Steps p.tables e below (s₁.setTop (mkF m 5 #[.val (.int x0), .val (.int x1), .val (.int x2), .val (.int x3)] [])) _
      refine XS.iloadN X0.here hx rfl (hb hby d3_5) rfl ?_
      show Steps p.tables e below (s₁.setTop (mkF m 6 #[.val (.int x0), .val (.int x1), .val (.int x2), .val (.int x3)] [(.int x1)])) _
      refine XS.iloadN X0.here hx rfl (hb hby d3_6) rfl ?_
      exact k
    rcases Bool.eq_false_or_eq_true (if_icmp.holds .ge x1 x3) with hc4 | hc4
    · obtain ⟨fs, hr, hrun, hended, hW, hsame⟩ := X0.leave (v := some (.long (0 : Int64))) (fun h => by rw [hret] at h; cases h)
      refine ⟨_, _, pre3 _ ?_, hrun, hended, _, _, rfl, ?_, ⟨_, rfl⟩, hW, hsame.mono (by decide) (by decide)⟩
      · show Steps p.tables e below (s₁.setTop (mkF m 7 #[.val (.int x0), .val (.int x1), .val (.int x2), .val (.int x3)] [(.int x3), (.int x1)])) _
        refine XS.icmpYes X0.here hx rfl (pc0 := 7) (pc' := 25) rfl (hb hby d3_7) rfl hc4 (by decide) (by decide) ?_
        show Steps p.tables e below (s₁.setTop (mkF m 25 #[.val (.int x0), .val (.int x1), .val (.int x2), .val (.int x3)] [])) _
        refine XS.lconst X0.here hx rfl (hb hby d3_25) ?_
        show Steps p.tables e below (s₁.setTop (mkF m 26 #[.val (.int x0), .val (.int x1), .val (.int x2), .val (.int x3)] [(.long (0 : Int64))])) _
        exact X0.lreturnOut hx hret (hb hby d3_26) hr
      · show Q3 Z x0 x1 x2 x3 h0 n0 _ s₁.heap _
        rw [e0]
        have rr : f3 x0 x1 x2 x3 = (0 : Int64) := Eq.trans (if_neg (own_nt hc2)) (if_pos hc4)
        exact ⟨congrArg (fun z => some (Value.long z)) rr.symm, N0, rfl⟩
    · obtain ⟨_, _, ⟨T5, L5, k5, n5⟩, -, X5, ⟨Lc5, hQ5, l5, y5, z5⟩, st5⟩ := Jvm.LawKit.callS X0 hx (y := (⟨"dev/stratumaudio/Lyrics3TagDecimalPinLaw", "pow10", "(I)J"⟩ : MethodName)) hown (mvT hZ (hw _ (List.mem_of_getElem? (i := 17) rfl))) (mvT hZ (hw _ (List.mem_of_getElem? (i := 18) rfl))) (mvT hZ (hw _ (List.mem_of_getElem? (i := 3) rfl))) (mvT hZ (hw _ (List.mem_of_getElem? (i := 19) rfl))) (by decide) (backOf (W := 2) (rm5 l Z a0 hw [] ((x3 - (1 : Int32)) - x1) h0 n0 Z0) hZ (hw _ (List.mem_of_getElem? (i := 19) rfl)) (hw _ (List.mem_of_getElem? (i := 3) rfl)) (by decide) (by decide)) (g := (mkF m 20 #[.val (.int x0), .val (.int x1), .val (.int x2), .val (.int x3)] [(.int ((x3 - (1 : Int32)) - x1)), (.long ((x0 - (48 : Int32)).toInt64))])) rfl (by rw [hml]; rfl) (argsL := [(.int ((x3 - (1 : Int32)) - x1))]) (rest := [(.long ((x0 - (48 : Int32)).toInt64))]) (lenOf pd_0 rfl) rfl (by show 2 * 0 + _ ≤ _; exact Nat.le_of_eq rfl) (hb hby d3_20) (fun _ _ => ⟨rfl, e0, (by decide : 0 + 0 ≤ _), (by decide : 0 + 0 ≤ _)⟩)
      dsimp only [Pt.U, Pt.locs, Pt.cells, Pt.slots] at X5 l5 y5 z5 st5 hQ5
      subst l5 y5 z5
      obtain ⟨rfl, Nq5, e5⟩ := hQ5
      have N5 := Fr.app N0 Nq5
      obtain ⟨fs, hr, hrun, hended, hW, hsame⟩ := X5.leave (v := some (.long (((x0 - (48 : Int32)).toInt64) * (f5 ((x3 - (1 : Int32)) - x1))))) (fun h => by rw [hret] at h; cases h)
      refine ⟨_, _, pre3 _ ?_, hrun, hended, _, _, rfl, ?_, ⟨_, rfl⟩, hW, hsame.mono (by decide) (by decide)⟩
      · show Steps p.tables e below (s₁.setTop (mkF m 7 #[.val (.int x0), .val (.int x1), .val (.int x2), .val (.int x3)] [(.int x3), (.int x1)])) _
        refine XS.icmpNo X0.here hx rfl (hb hby d3_7) rfl hc4 ?_
        show Steps p.tables e below (s₁.setTop (mkF m 10 #[.val (.int x0), .val (.int x1), .val (.int x2), .val (.int x3)] [])) _
        refine XS.iloadN X0.here hx rfl (hb hby d3_10) rfl ?_
        show Steps p.tables e below (s₁.setTop (mkF m 11 #[.val (.int x0), .val (.int x1), .val (.int x2), .val (.int x3)] [(.int x0)])) _
        refine XS.bipush X0.here hx rfl (hb hby d3_11) ?_
        show Steps p.tables e below (s₁.setTop (mkF m 13 #[.val (.int x0), .val (.int x1), .val (.int x2), .val (.int x3)] [(.int (48 : Int32)), (.int x0)])) _
        refine XS.isub X0.here hx rfl (hb hby d3_13) rfl ?_
        show Steps p.tables e below (s₁.setTop (mkF m 14 #[.val (.int x0), .val (.int x1), .val (.int x2), .val (.int x3)] [(.int (x0 - (48 : Int32)))])) _
        refine XS.i2l X0.here hx rfl (hb hby d3_14) rfl ?_
        show Steps p.tables e below (s₁.setTop (mkF m 15 #[.val (.int x0), .val (.int x1), .val (.int x2), .val (.int x3)] [(.long ((x0 - (48 : Int32)).toInt64))])) _
        refine XS.iloadN X0.here hx rfl (hb hby d3_15) rfl ?_
        show Steps p.tables e below (s₁.setTop (mkF m 16 #[.val (.int x0), .val (.int x1), .val (.int x2), .val (.int x3)] [(.int x3), (.long ((x0 - (48 : Int32)).toInt64))])) _
        refine XS.iconst X0.here hx rfl (hb hby d3_16) ?_
        show Steps p.tables e below (s₁.setTop (mkF m 17 #[.val (.int x0), .val (.int x1), .val (.int x2), .val (.int x3)] [(.int (1 : Int32)), (.int x3), (.long ((x0 - (48 : Int32)).toInt64))])) _
        refine XS.isub X0.here hx rfl (hb hby d3_17) rfl ?_
        show Steps p.tables e below (s₁.setTop (mkF m 18 #[.val (.int x0), .val (.int x1), .val (.int x2), .val (.int x3)] [(.int (x3 - (1 : Int32))), (.long ((x0 - (48 : Int32)).toInt64))])) _
        refine XS.iloadN X0.here hx rfl (hb hby d3_18) rfl ?_
        show Steps p.tables e below (s₁.setTop (mkF m 19 #[.val (.int x0), .val (.int x1), .val (.int x2), .val (.int x3)] [(.int x1), (.int (x3 - (1 : Int32))), (.long ((x0 - (48 : Int32)).toInt64))])) _
        refine XS.isub X0.here hx rfl (hb hby d3_19) rfl ?_
        show Steps p.tables e below (s₁.setTop (mkF m 20 #[.val (.int x0), .val (.int x1), .val (.int x2), .val (.int x3)] [(.int ((x3 - (1 : Int32)) - x1)), (.long ((x0 - (48 : Int32)).toInt64))])) _
        refine st5 _ ?_
        show Steps p.tables e below (T5.setTop (mkF m 23 #[.val (.int x0), .val (.int x1), .val (.int x2), .val (.int x3)] [(.long (f5 ((x3 - (1 : Int32)) - x1))), (.long ((x0 - (48 : Int32)).toInt64))])) _
        refine XS.lmul X5.here hx rfl (hb hby d3_23) rfl ?_
        show Steps p.tables e below (T5.setTop (mkF m 24 #[.val (.int x0), .val (.int x1), .val (.int x2), .val (.int x3)] [(.long (((x0 - (48 : Int32)).toInt64) * (f5 ((x3 - (1 : Int32)) - x1))))])) _
        exact X5.lreturnOut hx hret (hb hby d3_24) hr
      · show Q3 Z x0 x1 x2 x3 h0 n0 _ T5.heap _
        rw [e5]
        have rr : f3 x0 x1 x2 x3 = (((x0 - (48 : Int32)).toInt64) * (f5 ((x3 - (1 : Int32)) - x1))) := Eq.trans (if_neg (own_nt hc2)) (if_neg (own_nt hc4))
        exact ⟨congrArg (fun z => some (Value.long z)) rr.symm, N5, rfl⟩
-- body 4: dev/stratumaudio/Lyrics3Tag.decimal:([BII)I
theorem d4_0 : decode prog_62_method_4_code 0 = .ok (.iconst 0, 1) := by decide +kernel
theorem d4_1 : decode prog_62_method_4_code 1 = .ok (.istore_n 3, 1) := by decide +kernel
theorem d4_2 : decode prog_62_method_4_code 2 = .ok (.iload_n 1, 1) := by decide +kernel
theorem d4_3 : decode prog_62_method_4_code 3 = .ok (.istore 4, 2) := by decide +kernel
theorem d4_5 : decode prog_62_method_4_code 5 = .ok (.iload 4, 2) := by decide +kernel
theorem d4_7 : decode prog_62_method_4_code 7 = .ok (.iload_n 2, 1) := by decide +kernel
theorem d4_8 : decode prog_62_method_4_code 8 = .ok (.if_icmp .ge 42, 3) := by decide +kernel
theorem d4_11 : decode prog_62_method_4_code 11 = .ok (.aload_n 0, 1) := by decide +kernel
theorem d4_12 : decode prog_62_method_4_code 12 = .ok (.iload 4, 2) := by decide +kernel
theorem d4_14 : decode prog_62_method_4_code 14 = .ok (.baload, 1) := by decide +kernel
theorem d4_15 : decode prog_62_method_4_code 15 = .ok (.bipush 48, 2) := by decide +kernel
theorem d4_17 : decode prog_62_method_4_code 17 = .ok (.if_icmp .lt 12, 3) := by decide +kernel
theorem d4_20 : decode prog_62_method_4_code 20 = .ok (.aload_n 0, 1) := by decide +kernel
theorem d4_21 : decode prog_62_method_4_code 21 = .ok (.iload 4, 2) := by decide +kernel
theorem d4_23 : decode prog_62_method_4_code 23 = .ok (.baload, 1) := by decide +kernel
theorem d4_24 : decode prog_62_method_4_code 24 = .ok (.bipush 57, 2) := by decide +kernel
theorem d4_26 : decode prog_62_method_4_code 26 = .ok (.if_icmp .le 5, 3) := by decide +kernel
theorem d4_29 : decode prog_62_method_4_code 29 = .ok (.iconst (-1), 1) := by decide +kernel
theorem d4_30 : decode prog_62_method_4_code 30 = .ok (.ireturn, 1) := by decide +kernel
theorem d4_31 : decode prog_62_method_4_code 31 = .ok (.iload_n 3, 1) := by decide +kernel
theorem d4_32 : decode prog_62_method_4_code 32 = .ok (.bipush 10, 2) := by decide +kernel
theorem d4_34 : decode prog_62_method_4_code 34 = .ok (.imul, 1) := by decide +kernel
theorem d4_35 : decode prog_62_method_4_code 35 = .ok (.aload_n 0, 1) := by decide +kernel
theorem d4_36 : decode prog_62_method_4_code 36 = .ok (.iload 4, 2) := by decide +kernel
theorem d4_38 : decode prog_62_method_4_code 38 = .ok (.baload, 1) := by decide +kernel
theorem d4_39 : decode prog_62_method_4_code 39 = .ok (.iadd, 1) := by decide +kernel
theorem d4_40 : decode prog_62_method_4_code 40 = .ok (.bipush 48, 2) := by decide +kernel
theorem d4_42 : decode prog_62_method_4_code 42 = .ok (.isub, 1) := by decide +kernel
theorem d4_43 : decode prog_62_method_4_code 43 = .ok (.istore_n 3, 1) := by decide +kernel
theorem d4_44 : decode prog_62_method_4_code 44 = .ok (.iinc 4 1, 3) := by decide +kernel
theorem d4_47 : decode prog_62_method_4_code 47 = .ok (.goto (-42), 3) := by decide +kernel
theorem d4_50 : decode prog_62_method_4_code 50 = .ok (.iload_n 3, 1) := by decide +kernel
theorem d4_51 : decode prog_62_method_4_code 51 = .ok (.ireturn, 1) := by decide +kernel
theorem pn_1 : plainName "dev/stratumaudio/Lyrics3Tag" = true := by first | (simp [plainName, overriddenIn]; done) | decide +kernel
theorem ef_4 (m : MethodId) (x0 : Addr) (x1 : Int32) (x2 : Int32) : entryFrame m #[(.ref x0), (.int x1), (.int x2)] 5 = mkF m 0 #[.val (.ref x0), .val (.int x1), .val (.int x2), .unset, .unset] [] := by first | (simp [entryFrame, mkF, argsToLocals, Value.category]; done) | rfl
def f4_v12 (x1 : Int32) (x2 : Int32) (A_x0 : Nat → Int32) (i3 : Int32) (i4 : Int32) : Int32 := (((i3 * (10 : Int32)) + (A_x0 (i4).toNatClampNeg)) - (48 : Int32))
def f4_v13 (x1 : Int32) (x2 : Int32) (A_x0 : Nat → Int32) (i3 : Int32) (i4 : Int32) : Int32 := (i4 + (1 : Int32))
def f4_loop5 (x1 : Int32) (x2 : Int32) (A_x0 : Nat → Int32) : Nat → Int32 → Int32 → Option Int32
  | 0, _, _ => none
  | k + 1, i3, i4 => (if if_icmp.holds .ge i4 x2 = true then some i3 else (if 0 ≤ (i4).toInt ∧ (i4).toInt < (6 : Nat) then (if if_icmp.holds .lt (A_x0 (i4).toNatClampNeg) (48 : Int32) = true then some (-1 : Int32) else (if if_icmp.holds .le (A_x0 (i4).toNatClampNeg) (57 : Int32) = true then (f4_loop5 x1 x2 A_x0 k (f4_v12 x1 x2 A_x0 i3 i4) (f4_v13 x1 x2 A_x0 i3 i4)) else some (-1 : Int32))) else none))
def f4 (K : Nat) (x1 : Int32) (x2 : Int32) (A_x0 : Nat → Int32) : Option Int32 := (f4_loop5 x1 x2 A_x0 K (0 : Int32) x1)
def Q4 (Z : State) (x0 : Addr) (x1 : Int32) (x2 : Int32) (A_x0 : Nat → Int32) (r : Int32) (h0 : Heap) (n0 : Nat) (v : Option Value) (h : Heap) (L : List Loc) : Prop := v = some (.int r) ∧ Fr n0 L ∧ h = h0
set_option maxRecDepth 65536 in
set_option maxHeartbeats 40000000 in
theorem lp4_5 (l : Launch) (Z : State) (a0 : Array Value) (hw : ∀ d ∈ tables_1, d.before a0 Z = true) (x0 : Addr) (x1 : Int32) (x2 : Int32) (A_x0 : Nat → Int32) (h0 : Heap) (n0 : Nat) (Z0 : n0 ≤ h0.size) (V_x0 : own_Arr Z h0 x0 6 A_x0) {p : Program} {e : Env} {s : State} {m : MethodId} {below : List Frame} {meth : Method} {c : Code} (hx : p.tables.exec = Jvm.exec) (hZ : Z.Warmed39 s.vm) (hby : c.code = prog_62_method_4_code) (hml : c.maxLocals = 5) (hown : s.vm.findClass "dev/stratumaudio/Lyrics3Tag" = some m.cls) (hret : meth.sig.returnType = some .int) (hlk : meth.locks = false) :
    ∀ (K : Nat) (r : Int32) (i3 : Int32) (i4 : Int32) (T0 : State) (locs : List Loc), Stand p l e ({ frames := 0, cells := 0, slots := 0, locals := 0 } : Room) s m #[(.ref x0), (.int x1), (.int x2)] below meth c T0 locs 0 0 → Fr n0 locs → T0.heap = h0 → f4_loop5 x1 x2 A_x0 K i3 i4 = some r →
      ∃ s₂ o, Steps p.tables e below (T0.setTop (mkF m 5 #[.val (.ref x0), .val (.int x1), .val (.int x2), .val (.int i3), .val (.int i4)] [])) s₂ ∧ s₂.status = .running ∧ Ended s₂ below o ∧ ∃ v L, o = .returned v ∧ Q4 Z x0 x1 x2 A_x0 r h0 n0 v s₂.heap L ∧ FrameEnd s o s₂ L ({ frames := 0, cells := 0, slots := 0, locals := 0 } : Room).cells ({ frames := 0, cells := 0, slots := 0, locals := 0 } : Room).slots := by
  intro K
  induction K with
  | zero =>
    intro r i3 i4 T0 locs X0 N0 e0 hK
    exact absurd (show (none : Option Int32) = some r from hK) (by simp)
  | succ k ih =>
    intro r i3 i4 T0 locs X0 N0 e0 hK
    have pre0 : ∀ t, Steps p.tables e below (T0.setTop (mkF m 5 #[.val (.ref x0), .val (.int x1), .val (.int x2), .val (.int i3), .val (.int i4)] [])) t → Steps p.tables e below (T0.setTop (mkF m 5 #[.val (.ref x0), .val (.int x1), .val (.int x2), .val (.int i3), .val (.int i4)] [])) t := fun t k => k
    have pre1 : ∀ t, Steps p.tables e below (T0.setTop (mkF m 8 #[.val (.ref x0), .val (.int x1), .val (.int x2), .val (.int i3), .val (.int i4)] [(.int x2), (.int i4)])) t → Steps p.tables e below (T0.setTop (mkF m 5 #[.val (.ref x0), .val (.int x1), .val (.int x2), .val (.int i3), .val (.int i4)] [])) t := by
      intro t k
      refine pre0 _ ?_
      show Steps p.tables e below (T0.setTop (mkF m 5 #[.val (.ref x0), .val (.int x1), .val (.int x2), .val (.int i3), .val (.int i4)] [])) _
      refine XS.iload X0.here hx rfl (hb hby d4_5) rfl ?_
      show Steps p.tables e below (T0.setTop (mkF m 7 #[.val (.ref x0), .val (.int x1), .val (.int x2), .val (.int i3), .val (.int i4)] [(.int i4)])) _
      refine XS.iloadN X0.here hx rfl (hb hby d4_7) rfl ?_
      exact k
    rcases Bool.eq_false_or_eq_true (if_icmp.holds .ge i4 x2) with hc2 | hc2
    · obtain ⟨fs, hr, hrun, hended, hW, hsame⟩ := X0.leave (v := some (.int i3)) (fun h => by rw [hret] at h; cases h)
      refine ⟨_, _, pre1 _ ?_, hrun, hended, _, _, rfl, ?_, ⟨_, rfl⟩, hW, hsame.mono (by decide) (by decide)⟩
      · show Steps p.tables e below (T0.setTop (mkF m 8 #[.val (.ref x0), .val (.int x1), .val (.int x2), .val (.int i3), .val (.int i4)] [(.int x2), (.int i4)])) _
        refine XS.icmpYes X0.here hx rfl (pc0 := 8) (pc' := 50) rfl (hb hby d4_8) rfl hc2 (by decide) (by decide) ?_
        show Steps p.tables e below (T0.setTop (mkF m 50 #[.val (.ref x0), .val (.int x1), .val (.int x2), .val (.int i3), .val (.int i4)] [])) _
        refine XS.iloadN X0.here hx rfl (hb hby d4_50) rfl ?_
        show Steps p.tables e below (T0.setTop (mkF m 51 #[.val (.ref x0), .val (.int x1), .val (.int x2), .val (.int i3), .val (.int i4)] [(.int i3)])) _
        exact retI X0 hx hret (hb hby d4_51) hr
      · show Q4 Z x0 x1 x2 A_x0 r h0 n0 _ T0.heap _
        rw [e0]
        have rr : f4_loop5 x1 x2 A_x0 (k + 1) i3 i4 = some i3 := if_pos hc2
        exact ⟨congrArg (fun z => some (Value.int z)) (Option.some.inj (rr.symm.trans hK)), N0, rfl⟩
    · have pre3 : ∀ t, Steps p.tables e below (T0.setTop (mkF m 14 #[.val (.ref x0), .val (.int x1), .val (.int x2), .val (.int i3), .val (.int i4)] [(.int i4), (.ref x0)])) t → Steps p.tables e below (T0.setTop (mkF m 5 #[.val (.ref x0), .val (.int x1), .val (.int x2), .val (.int i3), .val (.int i4)] [])) t := by
        intro t k
        refine pre1 _ ?_
        show Steps p.tables e below (T0.setTop (mkF m 8 #[.val (.ref x0), .val (.int x1), .val (.int x2), .val (.int i3), .val (.int i4)] [(.int x2), (.int i4)])) _
        refine XS.icmpNo X0.here hx rfl (hb hby d4_8) rfl hc2 ?_
        show Steps p.tables e below (T0.setTop (mkF m 11 #[.val (.ref x0), .val (.int x1), .val (.int x2), .val (.int i3), .val (.int i4)] [])) _
        refine XS.aloadN X0.here hx rfl (hb hby d4_11) rfl rfl ?_
        show Steps p.tables e below (T0.setTop (mkF m 12 #[.val (.ref x0), .val (.int x1), .val (.int x2), .val (.int i3), .val (.int i4)] [(.ref x0)])) _
        refine XS.iload X0.here hx rfl (hb hby d4_12) rfl ?_
        exact k
      by_cases hb4 : 0 ≤ (i4).toInt ∧ (i4).toInt < (6 : Nat)
      · have Vc5 := V_x0
        obtain ⟨cl5, Ar5, S5, H5⟩ := Vc5
        have hin5 : 0 ≤ (i4).toInt ∧ (i4).toInt < (6 : Nat) := hb4
        have pre6 : ∀ t, Steps p.tables e below (T0.setTop (mkF m 17 #[.val (.ref x0), .val (.int x1), .val (.int x2), .val (.int i3), .val (.int i4)] [(.int (48 : Int32)), (.int (A_x0 (i4).toNatClampNeg))])) t → Steps p.tables e below (T0.setTop (mkF m 5 #[.val (.ref x0), .val (.int x1), .val (.int x2), .val (.int i3), .val (.int i4)] [])) t := by
          intro t k
          refine pre3 _ ?_
          show Steps p.tables e below (T0.setTop (mkF m 14 #[.val (.ref x0), .val (.int x1), .val (.int x2), .val (.int i3), .val (.int i4)] [(.int i4), (.ref x0)])) _
          refine X0.baloadBytes hx (j := i4) (v := (.int (A_x0 (i4).toNatClampNeg))) (by rw [e0]; exact Ar5.1) (State.isArrayOf_alike hZ.alike Ar5.2.1) Ar5.2.2 (own_inb S5 hin5) (H5 _ (own_idx hin5)) (g := (mkF m 14 #[.val (.ref x0), .val (.int x1), .val (.int x2), .val (.int i3), .val (.int i4)] [(.int i4), (.ref x0)])) rfl rfl (hb hby d4_14) _ ?_
          show Steps p.tables e below (T0.setTop (mkF m 15 #[.val (.ref x0), .val (.int x1), .val (.int x2), .val (.int i3), .val (.int i4)] [(.int (A_x0 (i4).toNatClampNeg))])) _
          refine XS.bipush X0.here hx rfl (hb hby d4_15) ?_
          exact k
        rcases Bool.eq_false_or_eq_true (if_icmp.holds .lt (A_x0 (i4).toNatClampNeg) (48 : Int32)) with hc7 | hc7
        · obtain ⟨fs, hr, hrun, hended, hW, hsame⟩ := X0.leave (v := some (.int (-1 : Int32))) (fun h => by rw [hret] at h; cases h)
          refine ⟨_, _, pre6 _ ?_, hrun, hended, _, _, rfl, ?_, ⟨_, rfl⟩, hW, hsame.mono (by decide) (by decide)⟩
          · show Steps p.tables e below (T0.setTop (mkF m 17 #[.val (.ref x0), .val (.int x1), .val (.int x2), .val (.int i3), .val (.int i4)] [(.int (48 : Int32)), (.int (A_x0 (i4).toNatClampNeg))])) _
            refine XS.icmpYes X0.here hx rfl (pc0 := 17) (pc' := 29) rfl (hb hby d4_17) rfl hc7 (by decide) (by decide) ?_
            show Steps p.tables e below (T0.setTop (mkF m 29 #[.val (.ref x0), .val (.int x1), .val (.int x2), .val (.int i3), .val (.int i4)] [])) _
            refine XS.iconst X0.here hx rfl (hb hby d4_29) ?_
            show Steps p.tables e below (T0.setTop (mkF m 30 #[.val (.ref x0), .val (.int x1), .val (.int x2), .val (.int i3), .val (.int i4)] [(.int (-1 : Int32))])) _
            exact retI X0 hx hret (hb hby d4_30) hr
          · show Q4 Z x0 x1 x2 A_x0 r h0 n0 _ T0.heap _
            rw [e0]
            have rr : f4_loop5 x1 x2 A_x0 (k + 1) i3 i4 = some (-1 : Int32) := Eq.trans (if_neg (own_nt hc2)) (Eq.trans (if_pos hb4) (if_pos hc7))
            exact ⟨congrArg (fun z => some (Value.int z)) (Option.some.inj (rr.symm.trans hK)), N0, rfl⟩
        · have Vc8 := V_x0
          obtain ⟨cl8, Ar8, S8, H8⟩ := Vc8
          have hin8 : 0 ≤ (i4).toInt ∧ (i4).toInt < (6 : Nat) := hb4
          have pre9 : ∀ t, Steps p.tables e below (T0.setTop (mkF m 26 #[.val (.ref x0), .val (.int x1), .val (.int x2), .val (.int i3), .val (.int i4)] [(.int (57 : Int32)), (.int (A_x0 (i4).toNatClampNeg))])) t → Steps p.tables e below (T0.setTop (mkF m 5 #[.val (.ref x0), .val (.int x1), .val (.int x2), .val (.int i3), .val (.int i4)] [])) t := by
            intro t k
            refine pre6 _ ?_
            show Steps p.tables e below (T0.setTop (mkF m 17 #[.val (.ref x0), .val (.int x1), .val (.int x2), .val (.int i3), .val (.int i4)] [(.int (48 : Int32)), (.int (A_x0 (i4).toNatClampNeg))])) _
            refine XS.icmpNo X0.here hx rfl (hb hby d4_17) rfl hc7 ?_
            show Steps p.tables e below (T0.setTop (mkF m 20 #[.val (.ref x0), .val (.int x1), .val (.int x2), .val (.int i3), .val (.int i4)] [])) _
            refine XS.aloadN X0.here hx rfl (hb hby d4_20) rfl rfl ?_
            show Steps p.tables e below (T0.setTop (mkF m 21 #[.val (.ref x0), .val (.int x1), .val (.int x2), .val (.int i3), .val (.int i4)] [(.ref x0)])) _
            refine XS.iload X0.here hx rfl (hb hby d4_21) rfl ?_
            show Steps p.tables e below (T0.setTop (mkF m 23 #[.val (.ref x0), .val (.int x1), .val (.int x2), .val (.int i3), .val (.int i4)] [(.int i4), (.ref x0)])) _
            refine X0.baloadBytes hx (j := i4) (v := (.int (A_x0 (i4).toNatClampNeg))) (by rw [e0]; exact Ar8.1) (State.isArrayOf_alike hZ.alike Ar8.2.1) Ar8.2.2 (own_inb S8 hin8) (H8 _ (own_idx hin8)) (g := (mkF m 23 #[.val (.ref x0), .val (.int x1), .val (.int x2), .val (.int i3), .val (.int i4)] [(.int i4), (.ref x0)])) rfl rfl (hb hby d4_23) _ ?_
            show Steps p.tables e below (T0.setTop (mkF m 24 #[.val (.ref x0), .val (.int x1), .val (.int x2), .val (.int i3), .val (.int i4)] [(.int (A_x0 (i4).toNatClampNeg))])) _
            refine XS.bipush X0.here hx rfl (hb hby d4_24) ?_
            exact k
          rcases Bool.eq_false_or_eq_true (if_icmp.holds .le (A_x0 (i4).toNatClampNeg) (57 : Int32)) with hc10 | hc10
          · have Vc11 := V_x0
            obtain ⟨cl11, Ar11, S11, H11⟩ := Vc11
            have hin11 : 0 ≤ (i4).toInt ∧ (i4).toInt < (6 : Nat) := hb4
            have pre14 : ∀ t, Steps p.tables e below (T0.setTop (mkF m 5 #[.val (.ref x0), .val (.int x1), .val (.int x2), .val (.int (f4_v12 x1 x2 A_x0 i3 i4)), .val (.int (f4_v13 x1 x2 A_x0 i3 i4))] [])) t → Steps p.tables e below (T0.setTop (mkF m 5 #[.val (.ref x0), .val (.int x1), .val (.int x2), .val (.int i3), .val (.int i4)] [])) t := by
              intro t k
              refine pre9 _ ?_
              show Steps p.tables e below (T0.setTop (mkF m 26 #[.val (.ref x0), .val (.int x1), .val (.int x2), .val (.int i3), .val (.int i4)] [(.int (57 : Int32)), (.int (A_x0 (i4).toNatClampNeg))])) _
              refine XS.icmpYes X0.here hx rfl (pc0 := 26) (pc' := 31) rfl (hb hby d4_26) rfl hc10 (by decide) (by decide) ?_
              show Steps p.tables e below (T0.setTop (mkF m 31 #[.val (.ref x0), .val (.int x1), .val (.int x2), .val (.int i3), .val (.int i4)] [])) _
              refine XS.iloadN X0.here hx rfl (hb hby d4_31) rfl ?_
              show Steps p.tables e below (T0.setTop (mkF m 32 #[.val (.ref x0), .val (.int x1), .val (.int x2), .val (.int i3), .val (.int i4)] [(.int i3)])) _
              refine XS.bipush X0.here hx rfl (hb hby d4_32) ?_
              show Steps p.tables e below (T0.setTop (mkF m 34 #[.val (.ref x0), .val (.int x1), .val (.int x2), .val (.int i3), .val (.int i4)] [(.int (10 : Int32)), (.int i3)])) _
              refine XS.imul X0.here hx rfl (hb hby d4_34) rfl ?_
              show Steps p.tables e below (T0.setTop (mkF m 35 #[.val (.ref x0), .val (.int x1), .val (.int x2), .val (.int i3), .val (.int i4)] [(.int (i3 * (10 : Int32)))])) _
              refine XS.aloadN X0.here hx rfl (hb hby d4_35) rfl rfl ?_
              show Steps p.tables e below (T0.setTop (mkF m 36 #[.val (.ref x0), .val (.int x1), .val (.int x2), .val (.int i3), .val (.int i4)] [(.ref x0), (.int (i3 * (10 : Int32)))])) _
              refine XS.iload X0.here hx rfl (hb hby d4_36) rfl ?_
              show Steps p.tables e below (T0.setTop (mkF m 38 #[.val (.ref x0), .val (.int x1), .val (.int x2), .val (.int i3), .val (.int i4)] [(.int i4), (.ref x0), (.int (i3 * (10 : Int32)))])) _
              refine X0.baloadBytes hx (j := i4) (v := (.int (A_x0 (i4).toNatClampNeg))) (by rw [e0]; exact Ar11.1) (State.isArrayOf_alike hZ.alike Ar11.2.1) Ar11.2.2 (own_inb S11 hin11) (H11 _ (own_idx hin11)) (g := (mkF m 38 #[.val (.ref x0), .val (.int x1), .val (.int x2), .val (.int i3), .val (.int i4)] [(.int i4), (.ref x0), (.int (i3 * (10 : Int32)))])) rfl rfl (hb hby d4_38) _ ?_
              show Steps p.tables e below (T0.setTop (mkF m 39 #[.val (.ref x0), .val (.int x1), .val (.int x2), .val (.int i3), .val (.int i4)] [(.int (A_x0 (i4).toNatClampNeg)), (.int (i3 * (10 : Int32)))])) _
              refine XS.iadd X0.here hx rfl (hb hby d4_39) rfl ?_
              show Steps p.tables e below (T0.setTop (mkF m 40 #[.val (.ref x0), .val (.int x1), .val (.int x2), .val (.int i3), .val (.int i4)] [(.int ((i3 * (10 : Int32)) + (A_x0 (i4).toNatClampNeg)))])) _
              refine XS.bipush X0.here hx rfl (hb hby d4_40) ?_
              show Steps p.tables e below (T0.setTop (mkF m 42 #[.val (.ref x0), .val (.int x1), .val (.int x2), .val (.int i3), .val (.int i4)] [(.int (48 : Int32)), (.int ((i3 * (10 : Int32)) + (A_x0 (i4).toNatClampNeg)))])) _
              refine XS.isub X0.here hx rfl (hb hby d4_42) rfl ?_
              show Steps p.tables e below (T0.setTop (mkF m 43 #[.val (.ref x0), .val (.int x1), .val (.int x2), .val (.int i3), .val (.int i4)] [(.int (((i3 * (10 : Int32)) + (A_x0 (i4).toNatClampNeg)) - (48 : Int32)))])) _
              refine XS.istoreN X0.here hx rfl (hb hby d4_43) rfl (l' := #[.val (.ref x0), .val (.int x1), .val (.int x2), .val (.int (f4_v12 x1 x2 A_x0 i3 i4)), .val (.int i4)]) rfl ?_
              show Steps p.tables e below (T0.setTop (mkF m 44 #[.val (.ref x0), .val (.int x1), .val (.int x2), .val (.int (f4_v12 x1 x2 A_x0 i3 i4)), .val (.int i4)] [])) _
              refine XS.iinc X0.here hx rfl (hb hby d4_44) rfl (l' := #[.val (.ref x0), .val (.int x1), .val (.int x2), .val (.int (f4_v12 x1 x2 A_x0 i3 i4)), .val (.int (f4_v13 x1 x2 A_x0 i3 i4))]) rfl ?_
              show Steps p.tables e below (T0.setTop (mkF m 47 #[.val (.ref x0), .val (.int x1), .val (.int x2), .val (.int (f4_v12 x1 x2 A_x0 i3 i4)), .val (.int (f4_v13 x1 x2 A_x0 i3 i4))] [])) _
              refine XS.goto X0.here hx rfl (pc0 := 47) (pc' := 5) rfl (hb hby d4_47) (by decide) (by decide) ?_
              exact k
            have hk' : (f4_loop5 x1 x2 A_x0 k (f4_v12 x1 x2 A_x0 i3 i4) (f4_v13 x1 x2 A_x0 i3 i4)) = some r := Eq.trans (Eq.symm (show f4_loop5 x1 x2 A_x0 (k + 1) i3 i4 = (f4_loop5 x1 x2 A_x0 k (f4_v12 x1 x2 A_x0 i3 i4) (f4_v13 x1 x2 A_x0 i3 i4)) from Eq.trans (if_neg (own_nt hc2)) (Eq.trans (if_pos hb4) (Eq.trans (if_neg (own_nt hc7)) (if_pos hc10))))) hK
            obtain ⟨s₂, o, hst, hrest⟩ := ih r (f4_v12 x1 x2 A_x0 i3 i4) (f4_v13 x1 x2 A_x0 i3 i4) T0 _ X0 N0 e0 hk'
            exact ⟨s₂, o, pre14 _ hst, hrest⟩
          · obtain ⟨fs, hr, hrun, hended, hW, hsame⟩ := X0.leave (v := some (.int (-1 : Int32))) (fun h => by rw [hret] at h; cases h)
            refine ⟨_, _, pre9 _ ?_, hrun, hended, _, _, rfl, ?_, ⟨_, rfl⟩, hW, hsame.mono (by decide) (by decide)⟩
            · show Steps p.tables e below (T0.setTop (mkF m 26 #[.val (.ref x0), .val (.int x1), .val (.int x2), .val (.int i3), .val (.int i4)] [(.int (57 : Int32)), (.int (A_x0 (i4).toNatClampNeg))])) _
              refine XS.icmpNo X0.here hx rfl (hb hby d4_26) rfl hc10 ?_
              show Steps p.tables e below (T0.setTop (mkF m 29 #[.val (.ref x0), .val (.int x1), .val (.int x2), .val (.int i3), .val (.int i4)] [])) _
              refine XS.iconst X0.here hx rfl (hb hby d4_29) ?_
              show Steps p.tables e below (T0.setTop (mkF m 30 #[.val (.ref x0), .val (.int x1), .val (.int x2), .val (.int i3), .val (.int i4)] [(.int (-1 : Int32))])) _
              exact retI X0 hx hret (hb hby d4_30) hr
            · show Q4 Z x0 x1 x2 A_x0 r h0 n0 _ T0.heap _
              rw [e0]
              have rr : f4_loop5 x1 x2 A_x0 (k + 1) i3 i4 = some (-1 : Int32) := Eq.trans (if_neg (own_nt hc2)) (Eq.trans (if_pos hb4) (Eq.trans (if_neg (own_nt hc7)) (if_neg (own_nt hc10))))
              exact ⟨congrArg (fun z => some (Value.int z)) (Option.some.inj (rr.symm.trans hK)), N0, rfl⟩
      · exact absurd (Eq.trans (Eq.symm (show f4_loop5 x1 x2 A_x0 (k + 1) i3 i4 = none from Eq.trans (if_neg (own_nt hc2)) (if_neg hb4))) hK) (by simp)
set_option maxRecDepth 65536 in
set_option maxHeartbeats 40000000 in
theorem rm4 (l : Launch) (Z : State) (a0 : Array Value) (hw : ∀ d ∈ tables_1, d.before a0 Z = true) (ws : List Jvm.Cond) (x0 : Addr) (x1 : Int32) (x2 : Int32) (A_x0 : Nat → Int32) (K : Nat) (r : Int32) (h0 : Heap) (n0 : Nat) (Z0 : n0 ≤ h0.size) (V_x0 : own_Arr Z h0 x0 6 A_x0) (hK : f4 K x1 x2 A_x0 = some r) :
    MetFree l (⟨"dev/stratumaudio/Lyrics3Tag", "decimal", "([BII)I"⟩ : MethodName) (head1 (Jvm.Cond.code (⟨"dev/stratumaudio/Lyrics3Tag", "decimal", "([BII)I"⟩ : MethodName) prog_62_method_4_code 5 (some .int) :: ws) ({ frames := 0, cells := 0, slots := 0, locals := 0 } : Room)) (fun a U => a = #[(.ref x0), (.int x1), (.int x2)] ∧ Z.Warmed39 U.vm ∧ U.heap = h0) (fun _ _ _ _ _ => True) (fun _ U o U' => ∃ v L, o = .returned v ∧ Q4 Z x0 x1 x2 A_x0 r h0 n0 v U'.heap L ∧ FrameEnd U o U' L ({ frames := 0, cells := 0, slots := 0, locals := 0 } : Room).cells ({ frames := 0, cells := 0, slots := 0, locals := 0 } : Room).slots) := by
  refine MetFree.of_bodySF (plainFor_of_name pn_1) hisR ?_
  intro p e s m args below meth c s₁ Bd hml0 hP hK0
  obtain ⟨rfl, hZ, hh⟩ := hP
  have hx := Bd.exec
  have hby := Bd.bytes
  have hml : c.maxLocals = 5 := hml0
  have hown : s.vm.findClass "dev/stratumaudio/Lyrics3Tag" = some m.cls := findClass_of_methodNamed Bd.named
  have hnm := (name_of_methodNamed Bd.named Bd.method).1
  have hret : meth.sig.returnType = some .int := Bd.returns
  have hlk : meth.locks = false := Bd.notSynchronized
  have X0 : Stand p l e ({ frames := 0, cells := 0, slots := 0, locals := 0 } : Room) s m #[(.ref x0), (.int x1), (.int x2)] below meth c s₁ [] 0 0 := Stand.of_body Bd
  have e0 : s₁.heap = h0 := by rw [← hh, Bd.state]; rfl
  have N0 := Fr.nil n0
  have pre0 : ∀ t, Steps p.tables e below (s₁.setTop (mkF m 0 #[.val (.ref x0), .val (.int x1), .val (.int x2), .unset, .unset] [])) t → Steps p.tables e below (s₁.setTop (entryFrame m #[(.ref x0), (.int x1), (.int x2)] 5)) t := fun t k => castTop (ef_4 m x0 x1 x2) k
  have pre15 : ∀ t, Steps p.tables e below (s₁.setTop (mkF m 5 #[.val (.ref x0), .val (.int x1), .val (.int x2), .val (.int (0 : Int32)), .val (.int x1)] [])) t → Steps p.tables e below (s₁.setTop (entryFrame m #[(.ref x0), (.int x1), (.int x2)] 5)) t := by
    intro t k
    refine pre0 _ ?_
    show Steps p.tables e below (s₁.setTop (mkF m 0 #[.val (.ref x0), .val (.int x1), .val (.int x2), .unset, .unset] [])) _
    refine XS.iconst X0.here hx rfl (hb hby d4_0) ?_
    show Steps p.tables e below (s₁.setTop (mkF m 1 #[.val (.ref x0), .val (.int x1), .val (.int x2), .unset, .unset] [(.int (0 : Int32))])) _
    refine XS.istoreN X0.here hx rfl (hb hby d4_1) rfl (l' := #[.val (.ref x0), .val (.int x1), .val (.int x2), .val (.int (0 : Int32)), .unset]) rfl ?_
    show Steps p.tables e below (s₁.setTop (mkF m 2 #[.val (.ref x0), .val (.int x1), .val (.int x2), .val (.int (0 : Int32)), .unset] [])) _
    refine XS.iloadN X0.here hx rfl (hb hby d4_2) rfl ?_
    show Steps p.tables e below (s₁.setTop (mkF m 3 #[.val (.ref x0), .val (.int x1), .val (.int x2), .val (.int (0 : Int32)), .unset] [(.int x1)])) _
    refine XS.istore X0.here hx rfl (hb hby d4_3) rfl (l' := #[.val (.ref x0), .val (.int x1), .val (.int x2), .val (.int (0 : Int32)), .val (.int x1)]) rfl ?_
    exact k
  have hk' : (f4_loop5 x1 x2 A_x0 K (0 : Int32) x1) = some r := Eq.trans (Eq.symm (show f4 K x1 x2 A_x0 = (f4_loop5 x1 x2 A_x0 K (0 : Int32) x1) from rfl)) hK
  obtain ⟨s₂, o, hst, hrest⟩ := lp4_5 l Z a0 hw x0 x1 x2 A_x0 h0 n0 Z0 V_x0 hx hZ hby hml hown hret hlk K r (0 : Int32) x1 s₁ _ X0 N0 e0 hk'
  exact ⟨s₂, o, pre15 _ hst, hrest⟩
theorem pd_1 : parseMethodDescriptor "(JII)B" = some ⟨[.long, .int, .int], some .byte⟩ := by decide +kernel
theorem pd_2 : parseMethodDescriptor "(BIII)Z" = some ⟨[.byte, .int, .int, .int], some .boolean⟩ := by decide +kernel
theorem pd_3 : parseMethodDescriptor "(BIII)J" = some ⟨[.byte, .int, .int, .int], some .long⟩ := by decide +kernel
theorem pd_4 : parseMethodDescriptor "([BII)I" = some ⟨[(.array .byte), .int, .int], some .int⟩ := by decide +kernel
-- body 0: dev/stratumaudio/Lyrics3TagDecimalPinLaw.law:(JIII)Z
theorem ef_0 (m : MethodId) (x0 : Int64) (x1 : Int32) (x2 : Int32) (x3 : Int32) : entryFrame m #[(.long x0), (.int x1), (.int x2), (.int x3)] maxLocals = mkF m 0 #[.val (.long x0), .second, .val (.int x1), .val (.int x2), .val (.int x3), .unset, .unset, .unset, .unset, .unset, .unset, .unset] [] := by first | (simp [entryFrame, mkF, argsToLocals, Value.category, maxLocals]; done) | rfl
def f0_a4 (x0 : Int64) (x1 : Int32) (x2 : Int32) (x3 : Int32) : Nat → Int32 := own_upd (fun _ => (0 : Int32)) ((0 : Int32)).toNatClampNeg (nar .byte (f1 x0 x1 (0 : Int32)))
def f0_a8 (x0 : Int64) (x1 : Int32) (x2 : Int32) (x3 : Int32) : Nat → Int32 := own_upd (f0_a4 x0 x1 x2 x3) ((1 : Int32)).toNatClampNeg (nar .byte (f1 x0 x1 (1 : Int32)))
def f0_a12 (x0 : Int64) (x1 : Int32) (x2 : Int32) (x3 : Int32) : Nat → Int32 := own_upd (f0_a8 x0 x1 x2 x3) ((2 : Int32)).toNatClampNeg (nar .byte (f1 x0 x1 (2 : Int32)))
def f0_a16 (x0 : Int64) (x1 : Int32) (x2 : Int32) (x3 : Int32) : Nat → Int32 := own_upd (f0_a12 x0 x1 x2 x3) ((3 : Int32)).toNatClampNeg (nar .byte (f1 x0 x1 (3 : Int32)))
def f0_a20 (x0 : Int64) (x1 : Int32) (x2 : Int32) (x3 : Int32) : Nat → Int32 := own_upd (f0_a16 x0 x1 x2 x3) ((4 : Int32)).toNatClampNeg (nar .byte (f1 x0 x1 (4 : Int32)))
def f0_a24 (x0 : Int64) (x1 : Int32) (x2 : Int32) (x3 : Int32) : Nat → Int32 := own_upd (f0_a20 x0 x1 x2 x3) ((5 : Int32)).toNatClampNeg (nar .byte (f1 x0 x1 (5 : Int32)))
def f0_v26 (x0 : Int64) (x1 : Int32) (x2 : Int32) (x3 : Int32) : Int32 := ((x2 &&& (2147483647 : Int32)) % (7 : Int32))
def f0_v27 (x0 : Int64) (x1 : Int32) (x2 : Int32) (x3 : Int32) : Int32 := ((f0_v26 x0 x1 x2 x3) + ((x3 &&& (2147483647 : Int32)) % ((7 : Int32) - (f0_v26 x0 x1 x2 x3))))
def f0_j52 (x0 : Int64) (x1 : Int32) (x2 : Int32) (x3 : Int32) : Int32 := if ifCond.holds .eq (f2 ((f0_a24 x0 x1 x2 x3) ((5 : Int32)).toNatClampNeg) (5 : Int32) (f0_v26 x0 x1 x2 x3) (f0_v27 x0 x1 x2 x3)) = true then (0 : Int32) else (1 : Int32)
def f0_j56 (x0 : Int64) (x1 : Int32) (x2 : Int32) (x3 : Int32) : Int32 := if ifCond.holds .ne (f2 ((f0_a24 x0 x1 x2 x3) ((4 : Int32)).toNatClampNeg) (4 : Int32) (f0_v26 x0 x1 x2 x3) (f0_v27 x0 x1 x2 x3)) = true then (1 : Int32) else (f0_j52 x0 x1 x2 x3)
def f0_j59 (x0 : Int64) (x1 : Int32) (x2 : Int32) (x3 : Int32) : Int32 := if ifCond.holds .ne (f2 ((f0_a24 x0 x1 x2 x3) ((3 : Int32)).toNatClampNeg) (3 : Int32) (f0_v26 x0 x1 x2 x3) (f0_v27 x0 x1 x2 x3)) = true then (1 : Int32) else (f0_j56 x0 x1 x2 x3)
def f0_j62 (x0 : Int64) (x1 : Int32) (x2 : Int32) (x3 : Int32) : Int32 := if ifCond.holds .ne (f2 ((f0_a24 x0 x1 x2 x3) ((2 : Int32)).toNatClampNeg) (2 : Int32) (f0_v26 x0 x1 x2 x3) (f0_v27 x0 x1 x2 x3)) = true then (1 : Int32) else (f0_j59 x0 x1 x2 x3)
def f0_j65 (x0 : Int64) (x1 : Int32) (x2 : Int32) (x3 : Int32) : Int32 := if ifCond.holds .ne (f2 ((f0_a24 x0 x1 x2 x3) ((1 : Int32)).toNatClampNeg) (1 : Int32) (f0_v26 x0 x1 x2 x3) (f0_v27 x0 x1 x2 x3)) = true then (1 : Int32) else (f0_j62 x0 x1 x2 x3)
def f0_j68 (x0 : Int64) (x1 : Int32) (x2 : Int32) (x3 : Int32) : Int32 := if ifCond.holds .ne (f2 ((f0_a24 x0 x1 x2 x3) ((0 : Int32)).toNatClampNeg) (0 : Int32) (f0_v26 x0 x1 x2 x3) (f0_v27 x0 x1 x2 x3)) = true then (1 : Int32) else (f0_j65 x0 x1 x2 x3)
def f0_v85 (x0 : Int64) (x1 : Int32) (x2 : Int32) (x3 : Int32) : Int64 := ((((((f3 ((f0_a24 x0 x1 x2 x3) ((0 : Int32)).toNatClampNeg) (0 : Int32) (f0_v26 x0 x1 x2 x3) (f0_v27 x0 x1 x2 x3)) + (f3 ((f0_a24 x0 x1 x2 x3) ((1 : Int32)).toNatClampNeg) (1 : Int32) (f0_v26 x0 x1 x2 x3) (f0_v27 x0 x1 x2 x3))) + (f3 ((f0_a24 x0 x1 x2 x3) ((2 : Int32)).toNatClampNeg) (2 : Int32) (f0_v26 x0 x1 x2 x3) (f0_v27 x0 x1 x2 x3))) + (f3 ((f0_a24 x0 x1 x2 x3) ((3 : Int32)).toNatClampNeg) (3 : Int32) (f0_v26 x0 x1 x2 x3) (f0_v27 x0 x1 x2 x3))) + (f3 ((f0_a24 x0 x1 x2 x3) ((4 : Int32)).toNatClampNeg) (4 : Int32) (f0_v26 x0 x1 x2 x3) (f0_v27 x0 x1 x2 x3))) + (f3 ((f0_a24 x0 x1 x2 x3) ((5 : Int32)).toNatClampNeg) (5 : Int32) (f0_v26 x0 x1 x2 x3) (f0_v27 x0 x1 x2 x3)))
def f0_j86 (x0 : Int64) (x1 : Int32) (x2 : Int32) (x3 : Int32) : Int64 := if ifCond.holds .eq (f0_j68 x0 x1 x2 x3) = true then (f0_v85 x0 x1 x2 x3) else (-1 : Int64)
def f0_v91 (x0 : Int64) (x1 : Int32) (x2 : Int32) (x3 : Int32) : Int32 := ((f4 7 (f0_v26 x0 x1 x2 x3) (f0_v27 x0 x1 x2 x3) (f0_a24 x0 x1 x2 x3)).getD 0)
def f0_j94 (x0 : Int64) (x1 : Int32) (x2 : Int32) (x3 : Int32) : Int32 := if ifCond.holds .ne (own_cmp ((f0_v91 x0 x1 x2 x3).toInt64) (f0_j86 x0 x1 x2 x3)) = true then (0 : Int32) else (1 : Int32)
def f0 (x0 : Int64) (x1 : Int32) (x2 : Int32) (x3 : Int32) : Int32 := (nar .boolean (f0_j94 x0 x1 x2 x3))
theorem own_ft (x0 : Int64) (x1 x2 x3 : Int32) : 0 ≤ (f0_v26 x0 x1 x2 x3).toInt ∧ (f0_v26 x0 x1 x2 x3).toInt ≤ 6 := by
  have a1 : (x2 &&& (2147483647 : Int32)).toInt = x2.toInt % 2147483648 := c_mask x2 2147483647 31 (by decide) (by decide)
  have a2 := (c_irem (x2 &&& (2147483647 : Int32)) 7 7 rfl).1 (by omega)
  unfold f0_v26
  omega
theorem own_dnz (x0 : Int64) (x1 x2 x3 : Int32) : ¬ (7 : Int32) - (f0_v26 x0 x1 x2 x3) = 0 := by
  have h := own_ft x0 x1 x2 x3
  have e7 : (7 : Int32).toInt = 7 := rfl
  have e0 : (0 : Int32).toInt = 0 := rfl
  have a := c_isub 7 (f0_v26 x0 x1 x2 x3)
  intro q
  rw [q] at a
  omega
theorem own_to (x0 : Int64) (x1 x2 x3 : Int32) : (f0_v26 x0 x1 x2 x3).toInt ≤ (f0_v27 x0 x1 x2 x3).toInt ∧ (f0_v27 x0 x1 x2 x3).toInt ≤ 6 := by
  have h := own_ft x0 x1 x2 x3
  have e7 : (7 : Int32).toInt = 7 := rfl
  have a1 : (x3 &&& (2147483647 : Int32)).toInt = x3.toInt % 2147483648 := c_mask x3 2147483647 31 (by decide) (by decide)
  have b1 := c_isub 7 (f0_v26 x0 x1 x2 x3)
  have b2 := rng32 ((7 : Int32) - (f0_v26 x0 x1 x2 x3))
  have b3 := (c_iremV (x3 &&& (2147483647 : Int32)) ((7 : Int32) - (f0_v26 x0 x1 x2 x3))).1 (by omega) (by omega)
  have b4 := c_iadd (f0_v26 x0 x1 x2 x3) ((x3 &&& (2147483647 : Int32)) % ((7 : Int32) - (f0_v26 x0 x1 x2 x3)))
  have b5 := rng32 ((f0_v26 x0 x1 x2 x3) + ((x3 &&& (2147483647 : Int32)) % ((7 : Int32) - (f0_v26 x0 x1 x2 x3))))
  unfold f0_v27
  omega
/-- the loop of decimal: past the end; a sign that is no digit; a digit -/
theorem own_out (x1 x2 : Int32) (A : Nat → Int32) (k : Nat) (s i : Int32) (h : x2.toInt ≤ i.toInt) : f4_loop5 x1 x2 A (k + 1) s i = some s := if_pos (by rw [own_ige]; exact h)
theorem own_badL (x1 x2 : Int32) (A : Nat → Int32) (k : Nat) (s i : Int32) (h : i.toInt < x2.toInt) (hi : 0 ≤ i.toInt ∧ i.toInt < 6) (hb : (A i.toNatClampNeg).toInt < 48 ∨ 57 < (A i.toNatClampNeg).toInt) : f4_loop5 x1 x2 A (k + 1) s i = some (-1) := by
  have e1 : (48 : Int32).toInt = 48 := rfl
  have e2 : (57 : Int32).toInt = 57 := rfl
  refine Eq.trans (if_neg (by rw [own_ige]; omega)) (Eq.trans (if_pos hi) ?_)
  by_cases h1 : (A i.toNatClampNeg).toInt < 48
  · exact if_pos (by rw [own_ilt]; omega)
  · exact Eq.trans (if_neg (by rw [own_ilt]; omega)) (if_neg (by rw [own_ile]; omega))
theorem own_goL (x1 x2 : Int32) (A : Nat → Int32) (k : Nat) (s i : Int32) (h : i.toInt < x2.toInt) (hi : 0 ≤ i.toInt ∧ i.toInt < 6) (hb : ¬ ((A i.toNatClampNeg).toInt < 48 ∨ 57 < (A i.toNatClampNeg).toInt)) : f4_loop5 x1 x2 A (k + 1) s i = f4_loop5 x1 x2 A k (s * 10 + A i.toNatClampNeg - 48) (i + 1) := by
  have e1 : (48 : Int32).toInt = 48 := rfl
  have e2 : (57 : Int32).toInt = 57 := rfl
  refine Eq.trans (if_neg (by rw [own_ige]; omega)) (Eq.trans (if_pos hi) (Eq.trans (if_neg (by rw [own_ilt]; omega)) (if_pos (by rw [own_ile]; omega))))
/-- the digits from place i on, n of them, as a number -/
def own_S (A : Nat → Int32) : Nat → Nat → Int
  | 0, _ => 0
  | n + 1, i => ((A i).toInt - 48) * 10 ^ n + own_S A n (i + 1)
def own_ok (A : Nat → Int32) (i n : Nat) : Prop := ∀ j, i ≤ j → j < i + n → ¬ ((A j).toInt < 48 ∨ 57 < (A j).toInt)
theorem own_loop (x1 x2 : Int32) (A : Nat → Int32) (h6 : x2.toInt ≤ 6) : ∀ (n K : Nat) (s i : Int32), n < K → 0 ≤ i.toInt → i.toInt + n = x2.toInt → 0 ≤ s.toInt → s.toInt < 10 ^ (6 - n) →
    ∃ r, f4_loop5 x1 x2 A K s i = some r ∧ ((own_ok A i.toInt.toNat n ∧ r.toInt = s.toInt * 10 ^ n + own_S A n i.toInt.toNat) ∨ (¬ own_ok A i.toInt.toNat n ∧ r = -1)) := by
  intro n
  induction n with
  | zero =>
    intro K s i hK h0 h1 h2 h3
    obtain ⟨k, rfl⟩ : ∃ k, K = k + 1 := ⟨K - 1, by omega⟩
    refine ⟨s, own_out x1 x2 A k s i (by omega), Or.inl ⟨fun j q1 q2 => by omega, ?_⟩⟩
    show s.toInt = s.toInt * 10 ^ 0 + 0
    omega
  | succ n ih =>
    intro K s i hK h0 h1 h2 h3
    obtain ⟨k, rfl⟩ : ∃ k, K = k + 1 := ⟨K - 1, by omega⟩
    have hi : i.toNatClampNeg = i.toInt.toNat := rfl
    by_cases hb : (A i.toNatClampNeg).toInt < 48 ∨ 57 < (A i.toNatClampNeg).toInt
    · exact ⟨-1, own_badL x1 x2 A k s i (by omega) (by omega) hb, Or.inr ⟨fun q => q _ (Nat.le_refl _) (by omega) (by rw [← hi]; exact hb), rfl⟩⟩
    · rw [own_goL x1 x2 A k s i (by omega) (by omega) hb]
      have e10 : (10 : Int32).toInt = 10 := rfl
      have e48 : (48 : Int32).toInt = 48 := rfl
      have e1 : (1 : Int32).toInt = 1 := rfl
      have hs5 : s.toInt < 10 ^ 5 := by
        have hn : n = 0 ∨ n = 1 ∨ n = 2 ∨ n = 3 ∨ n = 4 ∨ n = 5 := by omega
        rcases hn with rfl | rfl | rfl | rfl | rfl | rfl <;> omega
      have a1 := c_imul s 10
      have a2 := rng32 (s * 10)
      have a3 := c_iadd (s * 10) (A i.toNatClampNeg)
      have a4 := rng32 (s * 10 + A i.toNatClampNeg)
      have a5 := c_isub (s * 10 + A i.toNatClampNeg) 48
      have a6 := rng32 (s * 10 + A i.toNatClampNeg - 48)
      have a7 := c_iadd i 1
      have a8 := rng32 (i + 1)
      rw [e10] at a1
      have hv : (s * 10 + A i.toNatClampNeg - 48).toInt = s.toInt * 10 + ((A i.toNatClampNeg).toInt - 48) := by omega
      have hi1 : (i + 1).toInt = i.toInt + 1 := by omega
      have hb3 : (s * 10 + A i.toNatClampNeg - 48).toInt < 10 ^ (6 - n) := by
        have hn : n = 0 ∨ n = 1 ∨ n = 2 ∨ n = 3 ∨ n = 4 ∨ n = 5 := by omega
        rcases hn with rfl | rfl | rfl | rfl | rfl | rfl <;> omega
      obtain ⟨r, r1, r2⟩ := ih k (s * 10 + A i.toNatClampNeg - 48) (i + 1) (by omega) (by omega) (by omega) (by omega) hb3
      have hin : (i + 1).toInt.toNat = i.toInt.toNat + 1 := by omega
      rw [hin] at r2
      refine ⟨r, r1, ?_⟩
      rcases r2 with ⟨q1, q2⟩ | ⟨q1, q2⟩
      · refine Or.inl ⟨fun j k1 k2 => ?_, ?_⟩
        · by_cases hj : j = i.toInt.toNat
          · rw [hj, ← hi]
            exact hb
          · exact q1 j (by omega) (by omega)
        · rw [q2, hv]
          show _ = s.toInt * 10 ^ (n + 1) + (((A i.toInt.toNat).toInt - 48) * 10 ^ n + own_S A n (i.toInt.toNat + 1))
          rw [Int.pow_succ, ← hi, Int.add_mul, Int.mul_assoc, Int.mul_comm 10 (10 ^ n), Int.add_assoc]
      · exact Or.inr ⟨fun q => q1 fun j k1 k2 => q j (by omega) (by omega), q2⟩
theorem own_f4 (f t : Int32) (A : Nat → Int32) (hf : 0 ≤ f.toInt) (hft : f.toInt ≤ t.toInt) (ht : t.toInt ≤ 6) : ∃ r, f4 7 f t A = some r ∧ ((own_ok A f.toInt.toNat (t.toInt - f.toInt).toNat ∧ r.toInt = own_S A (t.toInt - f.toInt).toNat f.toInt.toNat) ∨ (¬ own_ok A f.toInt.toNat (t.toInt - f.toInt).toNat ∧ r = -1)) := by
  have e0 : (0 : Int32).toInt = 0 := rfl
  obtain ⟨r, r1, r2⟩ := own_loop f t A ht (t.toInt - f.toInt).toNat 7 0 f (by omega) hf (by omega) (by decide) (by rw [e0]; exact Int.pow_pos (by decide))
  refine ⟨r, r1, ?_⟩
  rw [e0, Int.zero_mul, Int.zero_add] at r2
  exact r2
theorem own_some (f t : Int32) (A : Nat → Int32) (hf : 0 ≤ f.toInt) (hft : f.toInt ≤ t.toInt ∧ t.toInt ≤ 6) : f4 7 f t A = some ((f4 7 f t A).getD 0) := by
  obtain ⟨r, r1, -⟩ := own_f4 f t A hf hft.1 hft.2
  rw [r1]
  rfl
def Q0 (Z : State) (x0 : Int64) (x1 : Int32) (x2 : Int32) (x3 : Int32) (h0 : Heap) (n0 : Nat) (v : Option Value) (h : Heap) (L : List Loc) : Prop := v = some (.int (f0 x0 x1 x2 x3)) ∧ Fr n0 L
set_option maxRecDepth 65536 in
set_option maxHeartbeats 40000000 in
theorem rm0 (l : Launch) (Z : State) (a0 : Array Value) (hw : ∀ d ∈ tables_1, d.before a0 Z = true) (ws : List Jvm.Cond) (x0 : Int64) (x1 : Int32) (x2 : Int32) (x3 : Int32) (h0 : Heap) (n0 : Nat) (Z0 : n0 ≤ h0.size) :
    MetFree l x (head1 (Jvm.Cond.code x code maxLocals ret :: ws) room_1) (fun a U => a = #[(.long x0), (.int x1), (.int x2), (.int x3)] ∧ Z.Warmed39 U.vm ∧ U.heap = h0) (fun _ _ _ _ _ => True) (fun _ U o U' => ∃ v L, o = .returned v ∧ Q0 Z x0 x1 x2 x3 h0 n0 v U'.heap L ∧ FrameEnd U o U' L 1 6) := by
  refine MetFree.of_bodySF (plainFor_of_name pn_0) hisR ?_
  intro p e s m args below meth c s₁ Bd hml0 hP hK0
  obtain ⟨rfl, hZ, hh⟩ := hP
  have hx := Bd.exec
  have hby := Bd.bytes
  have hml : c.maxLocals = 12 := hml0
  have hown : s.vm.findClass "dev/stratumaudio/Lyrics3TagDecimalPinLaw" = some m.cls := findClass_of_methodNamed Bd.named
  have hnm := (name_of_methodNamed Bd.named Bd.method).1
  have hret : meth.sig.returnType = ret := Bd.returns
  have hlk : meth.locks = false := Bd.notSynchronized
  have X0 : Stand p l e room_1 s m #[(.long x0), (.int x1), (.int x2), (.int x3)] below meth c s₁ [] 0 0 := Stand.of_body Bd
  have e0 : s₁.heap = h0 := by rw [← hh, Bd.state]; rfl
  have N0 := Fr.nil n0
  have pre0 : ∀ t, Steps p.tables e below (s₁.setTop (mkF m 0 #[.val (.long x0), .second, .val (.int x1), .val (.int x2), .val (.int x3), .unset, .unset, .unset, .unset, .unset, .unset, .unset] [])) t → Steps p.tables e below (s₁.setTop (entryFrame m #[(.long x0), (.int x1), (.int x2), (.int x3)] maxLocals)) t := fun t k => castTop (ef_0 m x0 x1 x2 x3) k
  obtain ⟨T1, h1, k1, X1, e1, E1, A1, st1⟩ := newP X0 hx hZ (hw _ (List.mem_of_getElem? (i := 0) rfl)) e0 (g := (mkF m 2 #[.val (.long x0), .second, .val (.int x1), .val (.int x2), .val (.int x3), .unset, .unset, .unset, .unset, .unset, .unset, .unset] [(.int (6 : Int32))])) rfl (hb hby at_2) rfl (by decide) (cap := 6) (by decide) (by decide) (by decide) (by decide)
  obtain ⟨b1, gg1⟩ : ∃ z, z = h0.size := ⟨_, rfl⟩
  rw [← gg1] at A1 st1
  have g_b1 : n0 ≤ b1 := Nat.le_trans Z0 (Nat.le_of_eq gg1.symm)
  have Z1 : n0 ≤ h1.size := Nat.le_trans Z0 E1.1
  have V1 : own_Arr Z h1 b1 6 (fun _ => 0) := own_Arr.new A1 rfl
  obtain ⟨_, _, ⟨T2, L2, k2, n2⟩, -, X2, ⟨Lc2, hQ2, l2, y2, z2⟩, st2⟩ := Jvm.LawKit.callS X1 hx (y := (⟨"dev/stratumaudio/Lyrics3TagDecimalPinLaw", "pick", "(JII)B"⟩ : MethodName)) hown (mvT hZ (hw _ (List.mem_of_getElem? (i := 1) rfl))) (mvT hZ (hw _ (List.mem_of_getElem? (i := 2) rfl))) (mvT hZ (hw _ (List.mem_of_getElem? (i := 3) rfl))) (mvT hZ (hw _ (List.mem_of_getElem? (i := 4) rfl))) (by decide) (backOf (W := 2) (rm1 l Z a0 hw [] x0 x1 (0 : Int32) h1 n0 Z1) hZ (hw _ (List.mem_of_getElem? (i := 4) rfl)) (hw _ (List.mem_of_getElem? (i := 3) rfl)) (by decide) (by decide)) (g := (mkF m 12 #[.val (.long x0), .second, .val (.int x1), .val (.int x2), .val (.int x3), .val (.ref b1), .unset, .unset, .unset, .unset, .unset, .unset] [(.int (0 : Int32)), (.int x1), (.long x0), (.int (0 : Int32)), (.ref b1)])) rfl (by rw [hml]; rfl) (argsL := [(.long x0), (.int x1), (.int (0 : Int32))]) (rest := [(.int (0 : Int32)), (.ref b1)]) (lenOf pd_1 rfl) rfl (by show 2 * 0 + _ ≤ _; exact Nat.le_of_eq rfl) (hb hby at_12) (fun _ _ => ⟨rfl, e1, (by decide : 1 + 0 ≤ _), (by decide : 6 + 0 ≤ _)⟩)
  dsimp only [Pt.U, Pt.locs, Pt.cells, Pt.slots] at X2 l2 y2 z2 st2 hQ2
  subst l2 y2 z2
  obtain ⟨rfl, Nq2, e2⟩ := hQ2
  have N2 := Fr.app N0 Nq2
  have Vc3 := V1
  obtain ⟨cl3, Ar3, S3, H3⟩ := Vc3
  have hin3 : 0 ≤ ((0 : Int32)).toInt ∧ ((0 : Int32)).toInt < (6 : Nat) := (by decide)
  obtain ⟨T3, h3, X3, e3, W3, st3⟩ := stB X2 hx hZ e2 Ar3 (j := (0 : Int32)) (own_inb S3 hin3) (g := (mkF m 15 #[.val (.long x0), .second, .val (.int x1), .val (.int x2), .val (.int x3), .val (.ref b1), .unset, .unset, .unset, .unset, .unset, .unset] [(.int (f1 x0 x1 (0 : Int32))), (.int (0 : Int32)), (.ref b1)])) rfl rfl (hb hby at_15)
  have N3 := Fr.snoc X3 N2 g_b1
  have Z3 : n0 ≤ h3.size := Nat.le_trans Z1 (Keep.of_wr W3).1
  have P5 : own_Arr Z h3 b1 6 (f0_a4 x0 x1 x2 x3) := own_Arr.set Ar3 S3 H3 W3
  obtain ⟨_, _, ⟨T6, L6, k6, n6⟩, -, X6, ⟨Lc6, hQ6, l6, y6, z6⟩, st6⟩ := Jvm.LawKit.callS X3 hx (y := (⟨"dev/stratumaudio/Lyrics3TagDecimalPinLaw", "pick", "(JII)B"⟩ : MethodName)) hown (mvT hZ (hw _ (List.mem_of_getElem? (i := 1) rfl))) (mvT hZ (hw _ (List.mem_of_getElem? (i := 2) rfl))) (mvT hZ (hw _ (List.mem_of_getElem? (i := 3) rfl))) (mvT hZ (hw _ (List.mem_of_getElem? (i := 4) rfl))) (by decide) (backOf (W := 2) (rm1 l Z a0 hw [] x0 x1 (1 : Int32) h3 n0 Z3) hZ (hw _ (List.mem_of_getElem? (i := 4) rfl)) (hw _ (List.mem_of_getElem? (i := 3) rfl)) (by decide) (by decide)) (g := (mkF m 22 #[.val (.long x0), .second, .val (.int x1), .val (.int x2), .val (.int x3), .val (.ref b1), .unset, .unset, .unset, .unset, .unset, .unset] [(.int (1 : Int32)), (.int x1), (.long x0), (.int (1 : Int32)), (.ref b1)])) rfl (by rw [hml]; rfl) (argsL := [(.long x0), (.int x1), (.int (1 : Int32))]) (rest := [(.int (1 : Int32)), (.ref b1)]) (lenOf pd_1 rfl) rfl (by show 2 * 0 + _ ≤ _; exact Nat.le_of_eq rfl) (hb hby at_22) (fun _ _ => ⟨rfl, e3, (by decide : 1 + 0 ≤ _), (by decide : 6 + 0 ≤ _)⟩)
  dsimp only [Pt.U, Pt.locs, Pt.cells, Pt.slots] at X6 l6 y6 z6 st6 hQ6
  subst l6 y6 z6
  obtain ⟨rfl, Nq6, e6⟩ := hQ6
  have N6 := Fr.app N3 Nq6
  have Vc7 := P5
  obtain ⟨cl7, Ar7, S7, H7⟩ := Vc7
  have hin7 : 0 ≤ ((1 : Int32)).toInt ∧ ((1 : Int32)).toInt < (6 : Nat) := (by decide)
  obtain ⟨T7, h7, X7, e7, W7, st7⟩ := stB X6 hx hZ e6 Ar7 (j := (1 : Int32)) (own_inb S7 hin7) (g := (mkF m 25 #[.val (.long x0), .second, .val (.int x1), .val (.int x2), .val (.int x3), .val (.ref b1), .unset, .unset, .unset, .unset, .unset, .unset] [(.int (f1 x0 x1 (1 : Int32))), (.int (1 : Int32)), (.ref b1)])) rfl rfl (hb hby at_25)
  have N7 := Fr.snoc X7 N6 g_b1
  have Z7 : n0 ≤ h7.size := Nat.le_trans Z3 (Keep.of_wr W7).1
  have P9 : own_Arr Z h7 b1 6 (f0_a8 x0 x1 x2 x3) := own_Arr.set Ar7 S7 H7 W7
  obtain ⟨_, _, ⟨T10, L10, k10, n10⟩, -, X10, ⟨Lc10, hQ10, l10, y10, z10⟩, st10⟩ := Jvm.LawKit.callS X7 hx (y := (⟨"dev/stratumaudio/Lyrics3TagDecimalPinLaw", "pick", "(JII)B"⟩ : MethodName)) hown (mvT hZ (hw _ (List.mem_of_getElem? (i := 1) rfl))) (mvT hZ (hw _ (List.mem_of_getElem? (i := 2) rfl))) (mvT hZ (hw _ (List.mem_of_getElem? (i := 3) rfl))) (mvT hZ (hw _ (List.mem_of_getElem? (i := 4) rfl))) (by decide) (backOf (W := 2) (rm1 l Z a0 hw [] x0 x1 (2 : Int32) h7 n0 Z7) hZ (hw _ (List.mem_of_getElem? (i := 4) rfl)) (hw _ (List.mem_of_getElem? (i := 3) rfl)) (by decide) (by decide)) (g := (mkF m 32 #[.val (.long x0), .second, .val (.int x1), .val (.int x2), .val (.int x3), .val (.ref b1), .unset, .unset, .unset, .unset, .unset, .unset] [(.int (2 : Int32)), (.int x1), (.long x0), (.int (2 : Int32)), (.ref b1)])) rfl (by rw [hml]; rfl) (argsL := [(.long x0), (.int x1), (.int (2 : Int32))]) (rest := [(.int (2 : Int32)), (.ref b1)]) (lenOf pd_1 rfl) rfl (by show 2 * 0 + _ ≤ _; exact Nat.le_of_eq rfl) (hb hby at_32) (fun _ _ => ⟨rfl, e7, (by decide : 1 + 0 ≤ _), (by decide : 6 + 0 ≤ _)⟩)
  dsimp only [Pt.U, Pt.locs, Pt.cells, Pt.slots] at X10 l10 y10 z10 st10 hQ10
  subst l10 y10 z10
  obtain ⟨rfl, Nq10, e10⟩ := hQ10
  have N10 := Fr.app N7 Nq10
  have Vc11 := P9
  obtain ⟨cl11, Ar11, S11, H11⟩ := Vc11
  have hin11 : 0 ≤ ((2 : Int32)).toInt ∧ ((2 : Int32)).toInt < (6 : Nat) := (by decide)
  obtain ⟨T11, h11, X11, e11, W11, st11⟩ := stB X10 hx hZ e10 Ar11 (j := (2 : Int32)) (own_inb S11 hin11) (g := (mkF m 35 #[.val (.long x0), .second, .val (.int x1), .val (.int x2), .val (.int x3), .val (.ref b1), .unset, .unset, .unset, .unset, .unset, .unset] [(.int (f1 x0 x1 (2 : Int32))), (.int (2 : Int32)), (.ref b1)])) rfl rfl (hb hby at_35)
  have N11 := Fr.snoc X11 N10 g_b1
  have Z11 : n0 ≤ h11.size := Nat.le_trans Z7 (Keep.of_wr W11).1
  have P13 : own_Arr Z h11 b1 6 (f0_a12 x0 x1 x2 x3) := own_Arr.set Ar11 S11 H11 W11
  obtain ⟨_, _, ⟨T14, L14, k14, n14⟩, -, X14, ⟨Lc14, hQ14, l14, y14, z14⟩, st14⟩ := Jvm.LawKit.callS X11 hx (y := (⟨"dev/stratumaudio/Lyrics3TagDecimalPinLaw", "pick", "(JII)B"⟩ : MethodName)) hown (mvT hZ (hw _ (List.mem_of_getElem? (i := 1) rfl))) (mvT hZ (hw _ (List.mem_of_getElem? (i := 2) rfl))) (mvT hZ (hw _ (List.mem_of_getElem? (i := 3) rfl))) (mvT hZ (hw _ (List.mem_of_getElem? (i := 4) rfl))) (by decide) (backOf (W := 2) (rm1 l Z a0 hw [] x0 x1 (3 : Int32) h11 n0 Z11) hZ (hw _ (List.mem_of_getElem? (i := 4) rfl)) (hw _ (List.mem_of_getElem? (i := 3) rfl)) (by decide) (by decide)) (g := (mkF m 42 #[.val (.long x0), .second, .val (.int x1), .val (.int x2), .val (.int x3), .val (.ref b1), .unset, .unset, .unset, .unset, .unset, .unset] [(.int (3 : Int32)), (.int x1), (.long x0), (.int (3 : Int32)), (.ref b1)])) rfl (by rw [hml]; rfl) (argsL := [(.long x0), (.int x1), (.int (3 : Int32))]) (rest := [(.int (3 : Int32)), (.ref b1)]) (lenOf pd_1 rfl) rfl (by show 2 * 0 + _ ≤ _; exact Nat.le_of_eq rfl) (hb hby at_42) (fun _ _ => ⟨rfl, e11, (by decide : 1 + 0 ≤ _), (by decide : 6 + 0 ≤ _)⟩)
  dsimp only [Pt.U, Pt.locs, Pt.cells, Pt.slots] at X14 l14 y14 z14 st14 hQ14
  subst l14 y14 z14
  obtain ⟨rfl, Nq14, e14⟩ := hQ14
  have N14 := Fr.app N11 Nq14
  have Vc15 := P13
  obtain ⟨cl15, Ar15, S15, H15⟩ := Vc15
  have hin15 : 0 ≤ ((3 : Int32)).toInt ∧ ((3 : Int32)).toInt < (6 : Nat) := (by decide)
  obtain ⟨T15, h15, X15, e15, W15, st15⟩ := stB X14 hx hZ e14 Ar15 (j := (3 : Int32)) (own_inb S15 hin15) (g := (mkF m 45 #[.val (.long x0), .second, .val (.int x1), .val (.int x2), .val (.int x3), .val (.ref b1), .unset, .unset, .unset, .unset, .unset, .unset] [(.int (f1 x0 x1 (3 : Int32))), (.int (3 : Int32)), (.ref b1)])) rfl rfl (hb hby at_45)
  have N15 := Fr.snoc X15 N14 g_b1
  have Z15 : n0 ≤ h15.size := Nat.le_trans Z11 (Keep.of_wr W15).1
  have P17 : own_Arr Z h15 b1 6 (f0_a16 x0 x1 x2 x3) := own_Arr.set Ar15 S15 H15 W15
  obtain ⟨_, _, ⟨T18, L18, k18, n18⟩, -, X18, ⟨Lc18, hQ18, l18, y18, z18⟩, st18⟩ := Jvm.LawKit.callS X15 hx (y := (⟨"dev/stratumaudio/Lyrics3TagDecimalPinLaw", "pick", "(JII)B"⟩ : MethodName)) hown (mvT hZ (hw _ (List.mem_of_getElem? (i := 1) rfl))) (mvT hZ (hw _ (List.mem_of_getElem? (i := 2) rfl))) (mvT hZ (hw _ (List.mem_of_getElem? (i := 3) rfl))) (mvT hZ (hw _ (List.mem_of_getElem? (i := 4) rfl))) (by decide) (backOf (W := 2) (rm1 l Z a0 hw [] x0 x1 (4 : Int32) h15 n0 Z15) hZ (hw _ (List.mem_of_getElem? (i := 4) rfl)) (hw _ (List.mem_of_getElem? (i := 3) rfl)) (by decide) (by decide)) (g := (mkF m 52 #[.val (.long x0), .second, .val (.int x1), .val (.int x2), .val (.int x3), .val (.ref b1), .unset, .unset, .unset, .unset, .unset, .unset] [(.int (4 : Int32)), (.int x1), (.long x0), (.int (4 : Int32)), (.ref b1)])) rfl (by rw [hml]; rfl) (argsL := [(.long x0), (.int x1), (.int (4 : Int32))]) (rest := [(.int (4 : Int32)), (.ref b1)]) (lenOf pd_1 rfl) rfl (by show 2 * 0 + _ ≤ _; exact Nat.le_of_eq rfl) (hb hby at_52) (fun _ _ => ⟨rfl, e15, (by decide : 1 + 0 ≤ _), (by decide : 6 + 0 ≤ _)⟩)
  dsimp only [Pt.U, Pt.locs, Pt.cells, Pt.slots] at X18 l18 y18 z18 st18 hQ18
  subst l18 y18 z18
  obtain ⟨rfl, Nq18, e18⟩ := hQ18
  have N18 := Fr.app N15 Nq18
  have Vc19 := P17
  obtain ⟨cl19, Ar19, S19, H19⟩ := Vc19
  have hin19 : 0 ≤ ((4 : Int32)).toInt ∧ ((4 : Int32)).toInt < (6 : Nat) := (by decide)
  obtain ⟨T19, h19, X19, e19, W19, st19⟩ := stB X18 hx hZ e18 Ar19 (j := (4 : Int32)) (own_inb S19 hin19) (g := (mkF m 55 #[.val (.long x0), .second, .val (.int x1), .val (.int x2), .val (.int x3), .val (.ref b1), .unset, .unset, .unset, .unset, .unset, .unset] [(.int (f1 x0 x1 (4 : Int32))), (.int (4 : Int32)), (.ref b1)])) rfl rfl (hb hby at_55)
  have N19 := Fr.snoc X19 N18 g_b1
  have Z19 : n0 ≤ h19.size := Nat.le_trans Z15 (Keep.of_wr W19).1
  have P21 : own_Arr Z h19 b1 6 (f0_a20 x0 x1 x2 x3) := own_Arr.set Ar19 S19 H19 W19
  obtain ⟨_, _, ⟨T22, L22, k22, n22⟩, -, X22, ⟨Lc22, hQ22, l22, y22, z22⟩, st22⟩ := Jvm.LawKit.callS X19 hx (y := (⟨"dev/stratumaudio/Lyrics3TagDecimalPinLaw", "pick", "(JII)B"⟩ : MethodName)) hown (mvT hZ (hw _ (List.mem_of_getElem? (i := 1) rfl))) (mvT hZ (hw _ (List.mem_of_getElem? (i := 2) rfl))) (mvT hZ (hw _ (List.mem_of_getElem? (i := 3) rfl))) (mvT hZ (hw _ (List.mem_of_getElem? (i := 4) rfl))) (by decide) (backOf (W := 2) (rm1 l Z a0 hw [] x0 x1 (5 : Int32) h19 n0 Z19) hZ (hw _ (List.mem_of_getElem? (i := 4) rfl)) (hw _ (List.mem_of_getElem? (i := 3) rfl)) (by decide) (by decide)) (g := (mkF m 62 #[.val (.long x0), .second, .val (.int x1), .val (.int x2), .val (.int x3), .val (.ref b1), .unset, .unset, .unset, .unset, .unset, .unset] [(.int (5 : Int32)), (.int x1), (.long x0), (.int (5 : Int32)), (.ref b1)])) rfl (by rw [hml]; rfl) (argsL := [(.long x0), (.int x1), (.int (5 : Int32))]) (rest := [(.int (5 : Int32)), (.ref b1)]) (lenOf pd_1 rfl) rfl (by show 2 * 0 + _ ≤ _; exact Nat.le_of_eq rfl) (hb hby at_62) (fun _ _ => ⟨rfl, e19, (by decide : 1 + 0 ≤ _), (by decide : 6 + 0 ≤ _)⟩)
  dsimp only [Pt.U, Pt.locs, Pt.cells, Pt.slots] at X22 l22 y22 z22 st22 hQ22
  subst l22 y22 z22
  obtain ⟨rfl, Nq22, e22⟩ := hQ22
  have N22 := Fr.app N19 Nq22
  have Vc23 := P21
  obtain ⟨cl23, Ar23, S23, H23⟩ := Vc23
  have hin23 : 0 ≤ ((5 : Int32)).toInt ∧ ((5 : Int32)).toInt < (6 : Nat) := (by decide)
  obtain ⟨T23, h23, X23, e23, W23, st23⟩ := stB X22 hx hZ e22 Ar23 (j := (5 : Int32)) (own_inb S23 hin23) (g := (mkF m 65 #[.val (.long x0), .second, .val (.int x1), .val (.int x2), .val (.int x3), .val (.ref b1), .unset, .unset, .unset, .unset, .unset, .unset] [(.int (f1 x0 x1 (5 : Int32))), (.int (5 : Int32)), (.ref b1)])) rfl rfl (hb hby at_65)
  have N23 := Fr.snoc X23 N22 g_b1
  have Z23 : n0 ≤ h23.size := Nat.le_trans Z19 (Keep.of_wr W23).1
  have P25 : own_Arr Z h23 b1 6 (f0_a24 x0 x1 x2 x3) := own_Arr.set Ar23 S23 H23 W23
  have Vc28 := P25
  obtain ⟨cl28, Ar28, S28, H28⟩ := Vc28
  have hin28 : 0 ≤ ((0 : Int32)).toInt ∧ ((0 : Int32)).toInt < (6 : Nat) := (by decide)
  obtain ⟨_, _, ⟨T29, L29, k29, n29⟩, -, X29, ⟨Lc29, hQ29, l29, y29, z29⟩, st29⟩ := Jvm.LawKit.callS X23 hx (y := (⟨"dev/stratumaudio/Lyrics3TagDecimalPinLaw", "bad", "(BIII)Z"⟩ : MethodName)) hown (mvT hZ (hw _ (List.mem_of_getElem? (i := 7) rfl))) (mvT hZ (hw _ (List.mem_of_getElem? (i := 8) rfl))) (mvT hZ (hw _ (List.mem_of_getElem? (i := 3) rfl))) (mvT hZ (hw _ (List.mem_of_getElem? (i := 9) rfl))) (by decide) (backOf (W := 0) (rm2 l Z a0 hw [] ((f0_a24 x0 x1 x2 x3) ((0 : Int32)).toNatClampNeg) (0 : Int32) (f0_v26 x0 x1 x2 x3) (f0_v27 x0 x1 x2 x3) h23 n0 Z23) hZ (hw _ (List.mem_of_getElem? (i := 9) rfl)) (hw _ (List.mem_of_getElem? (i := 3) rfl)) (by decide) (by decide)) (g := (mkF m 100 #[.val (.long x0), .second, .val (.int x1), .val (.int x2), .val (.int x3), .val (.ref b1), .val (.int (f0_v26 x0 x1 x2 x3)), .val (.int (f0_v27 x0 x1 x2 x3)), .unset, .unset, .unset, .unset] [(.int (f0_v27 x0 x1 x2 x3)), (.int (f0_v26 x0 x1 x2 x3)), (.int (0 : Int32)), (.int ((f0_a24 x0 x1 x2 x3) ((0 : Int32)).toNatClampNeg))])) rfl (by rw [hml]; rfl) (argsL := [(.int ((f0_a24 x0 x1 x2 x3) ((0 : Int32)).toNatClampNeg)), (.int (0 : Int32)), (.int (f0_v26 x0 x1 x2 x3)), (.int (f0_v27 x0 x1 x2 x3))]) (rest := []) (lenOf pd_2 rfl) rfl (by show 2 * 0 + _ ≤ _; exact Nat.le_of_eq rfl) (hb hby at_100) (fun _ _ => ⟨rfl, e23, (by decide : 1 + 0 ≤ _), (by decide : 6 + 0 ≤ _)⟩)
  dsimp only [Pt.U, Pt.locs, Pt.cells, Pt.slots] at X29 l29 y29 z29 st29 hQ29
  subst l29 y29 z29
  obtain ⟨rfl, Nq29, e29⟩ := hQ29
  have N29 := Fr.app N23 Nq29
  have pre30 : ∀ t, Steps p.tables e below (T29.setTop (mkF m 103 #[.val (.long x0), .second, .val (.int x1), .val (.int x2), .val (.int x3), .val (.ref b1), .val (.int (f0_v26 x0 x1 x2 x3)), .val (.int (f0_v27 x0 x1 x2 x3)), .unset, .unset, .unset, .unset] [(.int (f2 ((f0_a24 x0 x1 x2 x3) ((0 : Int32)).toNatClampNeg) (0 : Int32) (f0_v26 x0 x1 x2 x3) (f0_v27 x0 x1 x2 x3)))])) t → Steps p.tables e below (s₁.setTop (entryFrame m #[(.long x0), (.int x1), (.int x2), (.int x3)] maxLocals)) t := by
    intro t k
    refine pre0 _ ?_
    show Steps p.tables e below (s₁.setTop (mkF m 0 #[.val (.long x0), .second, .val (.int x1), .val (.int x2), .val (.int x3), .unset, .unset, .unset, .unset, .unset, .unset, .unset] [])) _
    refine XS.bipush X0.here hx rfl (hb hby at_0) ?_
    show Steps p.tables e below (s₁.setTop (mkF m 2 #[.val (.long x0), .second, .val (.int x1), .val (.int x2), .val (.int x3), .unset, .unset, .unset, .unset, .unset, .unset, .unset] [(.int (6 : Int32))])) _
    refine st1 _ ?_
    show Steps p.tables e below (T1.setTop (mkF m 4 #[.val (.long x0), .second, .val (.int x1), .val (.int x2), .val (.int x3), .unset, .unset, .unset, .unset, .unset, .unset, .unset] [(.ref b1)])) _
    refine XS.astore X1.here hx rfl (hb hby at_4) rfl rfl (l' := #[.val (.long x0), .second, .val (.int x1), .val (.int x2), .val (.int x3), .val (.ref b1), .unset, .unset, .unset, .unset, .unset, .unset]) rfl ?_
    show Steps p.tables e below (T1.setTop (mkF m 6 #[.val (.long x0), .second, .val (.int x1), .val (.int x2), .val (.int x3), .val (.ref b1), .unset, .unset, .unset, .unset, .unset, .unset] [])) _
    refine XS.aload X1.here hx rfl (hb hby at_6) rfl rfl ?_
    show Steps p.tables e below (T1.setTop (mkF m 8 #[.val (.long x0), .second, .val (.int x1), .val (.int x2), .val (.int x3), .val (.ref b1), .unset, .unset, .unset, .unset, .unset, .unset] [(.ref b1)])) _
    refine XS.iconst X1.here hx rfl (hb hby at_8) ?_
    show Steps p.tables e below (T1.setTop (mkF m 9 #[.val (.long x0), .second, .val (.int x1), .val (.int x2), .val (.int x3), .val (.ref b1), .unset, .unset, .unset, .unset, .unset, .unset] [(.int (0 : Int32)), (.ref b1)])) _
    refine XS.lloadN X1.here hx rfl (hb hby at_9) rfl ?_
    show Steps p.tables e below (T1.setTop (mkF m 10 #[.val (.long x0), .second, .val (.int x1), .val (.int x2), .val (.int x3), .val (.ref b1), .unset, .unset, .unset, .unset, .unset, .unset] [(.long x0), (.int (0 : Int32)), (.ref b1)])) _
    refine XS.iloadN X1.here hx rfl (hb hby at_10) rfl ?_
    show Steps p.tables e below (T1.setTop (mkF m 11 #[.val (.long x0), .second, .val (.int x1), .val (.int x2), .val (.int x3), .val (.ref b1), .unset, .unset, .unset, .unset, .unset, .unset] [(.int x1), (.long x0), (.int (0 : Int32)), (.ref b1)])) _
    refine XS.iconst X1.here hx rfl (hb hby at_11) ?_
    show Steps p.tables e below (T1.setTop (mkF m 12 #[.val (.long x0), .second, .val (.int x1), .val (.int x2), .val (.int x3), .val (.ref b1), .unset, .unset, .unset, .unset, .unset, .unset] [(.int (0 : Int32)), (.int x1), (.long x0), (.int (0 : Int32)), (.ref b1)])) _
    refine st2 _ ?_
    show Steps p.tables e below (T2.setTop (mkF m 15 #[.val (.long x0), .second, .val (.int x1), .val (.int x2), .val (.int x3), .val (.ref b1), .unset, .unset, .unset, .unset, .unset, .unset] [(.int (f1 x0 x1 (0 : Int32))), (.int (0 : Int32)), (.ref b1)])) _
    refine st3 _ ?_
    show Steps p.tables e below (T3.setTop (mkF m 16 #[.val (.long x0), .second, .val (.int x1), .val (.int x2), .val (.int x3), .val (.ref b1), .unset, .unset, .unset, .unset, .unset, .unset] [])) _
    refine XS.aload X3.here hx rfl (hb hby at_16) rfl rfl ?_
    show Steps p.tables e below (T3.setTop (mkF m 18 #[.val (.long x0), .second, .val (.int x1), .val (.int x2), .val (.int x3), .val (.ref b1), .unset, .unset, .unset, .unset, .unset, .unset] [(.ref b1)])) _
    refine XS.iconst X3.here hx rfl (hb hby at_18) ?_
    show Steps p.tables e below (T3.setTop (mkF m 19 #[.val (.long x0), .second, .val (.int x1), .val (.int x2), .val (.int x3), .val (.ref b1), .unset, .unset, .unset, .unset, .unset, .unset] [(.int (1 : Int32)), (.ref b1)])) _
    refine XS.lloadN X3.here hx rfl (hb hby at_19) rfl ?_
    show Steps p.tables e below (T3.setTop (mkF m 20 #[.val (.long x0), .second, .val (.int x1), .val (.int x2), .val (.int x3), .val (.ref b1), .unset, .unset, .unset, .unset, .unset, .unset] [(.long x0), (.int (1 : Int32)), (.ref b1)])) _
    refine XS.iloadN X3.here hx rfl (hb hby at_20) rfl ?_
    show Steps p.tables e below (T3.setTop (mkF m 21 #[.val (.long x0), .second, .val (.int x1), .val (.int x2), .val (.int x3), .val (.ref b1), .unset, .unset, .unset, .unset, .unset, .unset] [(.int x1), (.long x0), (.int (1 : Int32)), (.ref b1)])) _
    refine XS.iconst X3.here hx rfl (hb hby at_21) ?_
    show Steps p.tables e below (T3.setTop (mkF m 22 #[.val (.long x0), .second, .val (.int x1), .val (.int x2), .val (.int x3), .val (.ref b1), .unset, .unset, .unset, .unset, .unset, .unset] [(.int (1 : Int32)), (.int x1), (.long x0), (.int (1 : Int32)), (.ref b1)])) _
    refine st6 _ ?_
    show Steps p.tables e below (T6.setTop (mkF m 25 #[.val (.long x0), .second, .val (.int x1), .val (.int x2), .val (.int x3), .val (.ref b1), .unset, .unset, .unset, .unset, .unset, .unset] [(.int (f1 x0 x1 (1 : Int32))), (.int (1 : Int32)), (.ref b1)])) _
    refine st7 _ ?_
    show Steps p.tables e below (T7.setTop (mkF m 26 #[.val (.long x0), .second, .val (.int x1), .val (.int x2), .val (.int x3), .val (.ref b1), .unset, .unset, .unset, .unset, .unset, .unset] [])) _
    refine XS.aload X7.here hx rfl (hb hby at_26) rfl rfl ?_
    show Steps p.tables e below (T7.setTop (mkF m 28 #[.val (.long x0), .second, .val (.int x1), .val (.int x2), .val (.int x3), .val (.ref b1), .unset, .unset, .unset, .unset, .unset, .unset] [(.ref b1)])) _
    refine XS.iconst X7.here hx rfl (hb hby at_28) ?_
    show Steps p.tables e below (T7.setTop (mkF m 29 #[.val (.long x0), .second, .val (.int x1), .val (.int x2), .val (.int x3), .val (.ref b1), .unset, .unset, .unset, .unset, .unset, .unset] [(.int (2 : Int32)), (.ref b1)])) _
    refine XS.lloadN X7.here hx rfl (hb hby at_29) rfl ?_
    show Steps p.tables e below (T7.setTop (mkF m 30 #[.val (.long x0), .second, .val (.int x1), .val (.int x2), .val (.int x3), .val (.ref b1), .unset, .unset, .unset, .unset, .unset, .unset] [(.long x0), (.int (2 : Int32)), (.ref b1)])) _
    refine XS.iloadN X7.here hx rfl (hb hby at_30) rfl ?_
    show Steps p.tables e below (T7.setTop (mkF m 31 #[.val (.long x0), .second, .val (.int x1), .val (.int x2), .val (.int x3), .val (.ref b1), .unset, .unset, .unset, .unset, .unset, .unset] [(.int x1), (.long x0), (.int (2 : Int32)), (.ref b1)])) _
    refine XS.iconst X7.here hx rfl (hb hby at_31) ?_
    show Steps p.tables e below (T7.setTop (mkF m 32 #[.val (.long x0), .second, .val (.int x1), .val (.int x2), .val (.int x3), .val (.ref b1), .unset, .unset, .unset, .unset, .unset, .unset] [(.int (2 : Int32)), (.int x1), (.long x0), (.int (2 : Int32)), (.ref b1)])) _
    refine st10 _ ?_
    show Steps p.tables e below (T10.setTop (mkF m 35 #[.val (.long x0), .second, .val (.int x1), .val (.int x2), .val (.int x3), .val (.ref b1), .unset, .unset, .unset, .unset, .unset, .unset] [(.int (f1 x0 x1 (2 : Int32))), (.int (2 : Int32)), (.ref b1)])) _
    refine st11 _ ?_
    show Steps p.tables e below (T11.setTop (mkF m 36 #[.val (.long x0), .second, .val (.int x1), .val (.int x2), .val (.int x3), .val (.ref b1), .unset, .unset, .unset, .unset, .unset, .unset] [])) _
    refine XS.aload X11.here hx rfl (hb hby at_36) rfl rfl ?_
    show Steps p.tables e below (T11.setTop (mkF m 38 #[.val (.long x0), .second, .val (.int x1), .val (.int x2), .val (.int x3), .val (.ref b1), .unset, .unset, .unset, .unset, .unset, .unset] [(.ref b1)])) _
    refine XS.iconst X11.here hx rfl (hb hby at_38) ?_
    show Steps p.tables e below (T11.setTop (mkF m 39 #[.val (.long x0), .second, .val (.int x1), .val (.int x2), .val (.int x3), .val (.ref b1), .unset, .unset, .unset, .unset, .unset, .unset] [(.int (3 : Int32)), (.ref b1)])) _
    refine XS.lloadN X11.here hx rfl (hb hby at_39) rfl ?_
    show Steps p.tables e below (T11.setTop (mkF m 40 #[.val (.long x0), .second, .val (.int x1), .val (.int x2), .val (.int x3), .val (.ref b1), .unset, .unset, .unset, .unset, .unset, .unset] [(.long x0), (.int (3 : Int32)), (.ref b1)])) _
    refine XS.iloadN X11.here hx rfl (hb hby at_40) rfl ?_
    show Steps p.tables e below (T11.setTop (mkF m 41 #[.val (.long x0), .second, .val (.int x1), .val (.int x2), .val (.int x3), .val (.ref b1), .unset, .unset, .unset, .unset, .unset, .unset] [(.int x1), (.long x0), (.int (3 : Int32)), (.ref b1)])) _
    refine XS.iconst X11.here hx rfl (hb hby at_41) ?_
    show Steps p.tables e below (T11.setTop (mkF m 42 #[.val (.long x0), .second, .val (.int x1), .val (.int x2), .val (.int x3), .val (.ref b1), .unset, .unset, .unset, .unset, .unset, .unset] [(.int (3 : Int32)), (.int x1), (.long x0), (.int (3 : Int32)), (.ref b1)])) _
    refine st14 _ ?_
    show Steps p.tables e below (T14.setTop (mkF m 45 #[.val (.long x0), .second, .val (.int x1), .val (.int x2), .val (.int x3), .val (.ref b1), .unset, .unset, .unset, .unset, .unset, .unset] [(.int (f1 x0 x1 (3 : Int32))), (.int (3 : Int32)), (.ref b1)])) _
    refine st15 _ ?_
    show Steps p.tables e below (T15.setTop (mkF m 46 #[.val (.long x0), .second, .val (.int x1), .val (.int x2), .val (.int x3), .val (.ref b1), .unset, .unset, .unset, .unset, .unset, .unset] [])) _
    refine XS.aload X15.here hx rfl (hb hby at_46) rfl rfl ?_
    show Steps p.tables e below (T15.setTop (mkF m 48 #[.val (.long x0), .second, .val (.int x1), .val (.int x2), .val (.int x3), .val (.ref b1), .unset, .unset, .unset, .unset, .unset, .unset] [(.ref b1)])) _
    refine XS.iconst X15.here hx rfl (hb hby at_48) ?_
    show Steps p.tables e below (T15.setTop (mkF m 49 #[.val (.long x0), .second, .val (.int x1), .val (.int x2), .val (.int x3), .val (.ref b1), .unset, .unset, .unset, .unset, .unset, .unset] [(.int (4 : Int32)), (.ref b1)])) _
    refine XS.lloadN X15.here hx rfl (hb hby at_49) rfl ?_
    show Steps p.tables e below (T15.setTop (mkF m 50 #[.val (.long x0), .second, .val (.int x1), .val (.int x2), .val (.int x3), .val (.ref b1), .unset, .unset, .unset, .unset, .unset, .unset] [(.long x0), (.int (4 : Int32)), (.ref b1)])) _
    refine XS.iloadN X15.here hx rfl (hb hby at_50) rfl ?_
    show Steps p.tables e below (T15.setTop (mkF m 51 #[.val (.long x0), .second, .val (.int x1), .val (.int x2), .val (.int x3), .val (.ref b1), .unset, .unset, .unset, .unset, .unset, .unset] [(.int x1), (.long x0), (.int (4 : Int32)), (.ref b1)])) _
    refine XS.iconst X15.here hx rfl (hb hby at_51) ?_
    show Steps p.tables e below (T15.setTop (mkF m 52 #[.val (.long x0), .second, .val (.int x1), .val (.int x2), .val (.int x3), .val (.ref b1), .unset, .unset, .unset, .unset, .unset, .unset] [(.int (4 : Int32)), (.int x1), (.long x0), (.int (4 : Int32)), (.ref b1)])) _
    refine st18 _ ?_
    show Steps p.tables e below (T18.setTop (mkF m 55 #[.val (.long x0), .second, .val (.int x1), .val (.int x2), .val (.int x3), .val (.ref b1), .unset, .unset, .unset, .unset, .unset, .unset] [(.int (f1 x0 x1 (4 : Int32))), (.int (4 : Int32)), (.ref b1)])) _
    refine st19 _ ?_
    show Steps p.tables e below (T19.setTop (mkF m 56 #[.val (.long x0), .second, .val (.int x1), .val (.int x2), .val (.int x3), .val (.ref b1), .unset, .unset, .unset, .unset, .unset, .unset] [])) _
    refine XS.aload X19.here hx rfl (hb hby at_56) rfl rfl ?_
    show Steps p.tables e below (T19.setTop (mkF m 58 #[.val (.long x0), .second, .val (.int x1), .val (.int x2), .val (.int x3), .val (.ref b1), .unset, .unset, .unset, .unset, .unset, .unset] [(.ref b1)])) _
    refine XS.iconst X19.here hx rfl (hb hby at_58) ?_
    show Steps p.tables e below (T19.setTop (mkF m 59 #[.val (.long x0), .second, .val (.int x1), .val (.int x2), .val (.int x3), .val (.ref b1), .unset, .unset, .unset, .unset, .unset, .unset] [(.int (5 : Int32)), (.ref b1)])) _
    refine XS.lloadN X19.here hx rfl (hb hby at_59) rfl ?_
    show Steps p.tables e below (T19.setTop (mkF m 60 #[.val (.long x0), .second, .val (.int x1), .val (.int x2), .val (.int x3), .val (.ref b1), .unset, .unset, .unset, .unset, .unset, .unset] [(.long x0), (.int (5 : Int32)), (.ref b1)])) _
    refine XS.iloadN X19.here hx rfl (hb hby at_60) rfl ?_
    show Steps p.tables e below (T19.setTop (mkF m 61 #[.val (.long x0), .second, .val (.int x1), .val (.int x2), .val (.int x3), .val (.ref b1), .unset, .unset, .unset, .unset, .unset, .unset] [(.int x1), (.long x0), (.int (5 : Int32)), (.ref b1)])) _
    refine XS.iconst X19.here hx rfl (hb hby at_61) ?_
    show Steps p.tables e below (T19.setTop (mkF m 62 #[.val (.long x0), .second, .val (.int x1), .val (.int x2), .val (.int x3), .val (.ref b1), .unset, .unset, .unset, .unset, .unset, .unset] [(.int (5 : Int32)), (.int x1), (.long x0), (.int (5 : Int32)), (.ref b1)])) _
    refine st22 _ ?_
    show Steps p.tables e below (T22.setTop (mkF m 65 #[.val (.long x0), .second, .val (.int x1), .val (.int x2), .val (.int x3), .val (.ref b1), .unset, .unset, .unset, .unset, .unset, .unset] [(.int (f1 x0 x1 (5 : Int32))), (.int (5 : Int32)), (.ref b1)])) _
    refine st23 _ ?_
    show Steps p.tables e below (T23.setTop (mkF m 66 #[.val (.long x0), .second, .val (.int x1), .val (.int x2), .val (.int x3), .val (.ref b1), .unset, .unset, .unset, .unset, .unset, .unset] [])) _
    refine XS.iloadN X23.here hx rfl (hb hby at_66) rfl ?_
    show Steps p.tables e below (T23.setTop (mkF m 67 #[.val (.long x0), .second, .val (.int x1), .val (.int x2), .val (.int x3), .val (.ref b1), .unset, .unset, .unset, .unset, .unset, .unset] [(.int x2)])) _
    refine X23.ldcInt hx hown (mvT hZ (hw _ (List.mem_of_getElem? (i := 6) rfl))) (g := (mkF m 67 #[.val (.long x0), .second, .val (.int x1), .val (.int x2), .val (.int x3), .val (.ref b1), .unset, .unset, .unset, .unset, .unset, .unset] [(.int x2)])) rfl (hb hby at_67) _ ?_
    show Steps p.tables e below (T23.setTop (mkF m 69 #[.val (.long x0), .second, .val (.int x1), .val (.int x2), .val (.int x3), .val (.ref b1), .unset, .unset, .unset, .unset, .unset, .unset] [(.int (2147483647 : Int32)), (.int x2)])) _
    refine XS.iand X23.here hx rfl (hb hby at_69) rfl ?_
    show Steps p.tables e below (T23.setTop (mkF m 70 #[.val (.long x0), .second, .val (.int x1), .val (.int x2), .val (.int x3), .val (.ref b1), .unset, .unset, .unset, .unset, .unset, .unset] [(.int (x2 &&& (2147483647 : Int32)))])) _
    refine XS.bipush X23.here hx rfl (hb hby at_70) ?_
    show Steps p.tables e below (T23.setTop (mkF m 72 #[.val (.long x0), .second, .val (.int x1), .val (.int x2), .val (.int x3), .val (.ref b1), .unset, .unset, .unset, .unset, .unset, .unset] [(.int (7 : Int32)), (.int (x2 &&& (2147483647 : Int32)))])) _
    refine iremM X23 hx rfl (hb hby at_72) rfl (by decide) ?_
    show Steps p.tables e below (T23.setTop (mkF m 73 #[.val (.long x0), .second, .val (.int x1), .val (.int x2), .val (.int x3), .val (.ref b1), .unset, .unset, .unset, .unset, .unset, .unset] [(.int ((x2 &&& (2147483647 : Int32)) % (7 : Int32)))])) _
    refine XS.istore X23.here hx rfl (hb hby at_73) rfl (l' := #[.val (.long x0), .second, .val (.int x1), .val (.int x2), .val (.int x3), .val (.ref b1), .val (.int (f0_v26 x0 x1 x2 x3)), .unset, .unset, .unset, .unset, .unset]) rfl ?_
    show Steps p.tables e below (T23.setTop (mkF m 75 #[.val (.long x0), .second, .val (.int x1), .val (.int x2), .val (.int x3), .val (.ref b1), .val (.int (f0_v26 x0 x1 x2 x3)), .unset, .unset, .unset, .unset, .unset] [])) _
    refine XS.iload X23.here hx rfl (hb hby at_75) rfl ?_
    show Steps p.tables e below (T23.setTop (mkF m 77 #[.val (.long x0), .second, .val (.int x1), .val (.int x2), .val (.int x3), .val (.ref b1), .val (.int (f0_v26 x0 x1 x2 x3)), .unset, .unset, .unset, .unset, .unset] [(.int (f0_v26 x0 x1 x2 x3))])) _
    refine XS.iload X23.here hx rfl (hb hby at_77) rfl ?_
    show Steps p.tables e below (T23.setTop (mkF m 79 #[.val (.long x0), .second, .val (.int x1), .val (.int x2), .val (.int x3), .val (.ref b1), .val (.int (f0_v26 x0 x1 x2 x3)), .unset, .unset, .unset, .unset, .unset] [(.int x3), (.int (f0_v26 x0 x1 x2 x3))])) _
    refine X23.ldcInt hx hown (mvT hZ (hw _ (List.mem_of_getElem? (i := 6) rfl))) (g := (mkF m 79 #[.val (.long x0), .second, .val (.int x1), .val (.int x2), .val (.int x3), .val (.ref b1), .val (.int (f0_v26 x0 x1 x2 x3)), .unset, .unset, .unset, .unset, .unset] [(.int x3), (.int (f0_v26 x0 x1 x2 x3))])) rfl (hb hby at_79) _ ?_
    show Steps p.tables e below (T23.setTop (mkF m 81 #[.val (.long x0), .second, .val (.int x1), .val (.int x2), .val (.int x3), .val (.ref b1), .val (.int (f0_v26 x0 x1 x2 x3)), .unset, .unset, .unset, .unset, .unset] [(.int (2147483647 : Int32)), (.int x3), (.int (f0_v26 x0 x1 x2 x3))])) _
    refine XS.iand X23.here hx rfl (hb hby at_81) rfl ?_
    show Steps p.tables e below (T23.setTop (mkF m 82 #[.val (.long x0), .second, .val (.int x1), .val (.int x2), .val (.int x3), .val (.ref b1), .val (.int (f0_v26 x0 x1 x2 x3)), .unset, .unset, .unset, .unset, .unset] [(.int (x3 &&& (2147483647 : Int32))), (.int (f0_v26 x0 x1 x2 x3))])) _
    refine XS.bipush X23.here hx rfl (hb hby at_82) ?_
    show Steps p.tables e below (T23.setTop (mkF m 84 #[.val (.long x0), .second, .val (.int x1), .val (.int x2), .val (.int x3), .val (.ref b1), .val (.int (f0_v26 x0 x1 x2 x3)), .unset, .unset, .unset, .unset, .unset] [(.int (7 : Int32)), (.int (x3 &&& (2147483647 : Int32))), (.int (f0_v26 x0 x1 x2 x3))])) _
    refine XS.iload X23.here hx rfl (hb hby at_84) rfl ?_
    show Steps p.tables e below (T23.setTop (mkF m 86 #[.val (.long x0), .second, .val (.int x1), .val (.int x2), .val (.int x3), .val (.ref b1), .val (.int (f0_v26 x0 x1 x2 x3)), .unset, .unset, .unset, .unset, .unset] [(.int (f0_v26 x0 x1 x2 x3)), (.int (7 : Int32)), (.int (x3 &&& (2147483647 : Int32))), (.int (f0_v26 x0 x1 x2 x3))])) _
    refine XS.isub X23.here hx rfl (hb hby at_86) rfl ?_
    show Steps p.tables e below (T23.setTop (mkF m 87 #[.val (.long x0), .second, .val (.int x1), .val (.int x2), .val (.int x3), .val (.ref b1), .val (.int (f0_v26 x0 x1 x2 x3)), .unset, .unset, .unset, .unset, .unset] [(.int ((7 : Int32) - (f0_v26 x0 x1 x2 x3))), (.int (x3 &&& (2147483647 : Int32))), (.int (f0_v26 x0 x1 x2 x3))])) _
    refine iremM X23 hx rfl (hb hby at_87) rfl (own_dnz x0 x1 x2 x3) ?_
    show Steps p.tables e below (T23.setTop (mkF m 88 #[.val (.long x0), .second, .val (.int x1), .val (.int x2), .val (.int x3), .val (.ref b1), .val (.int (f0_v26 x0 x1 x2 x3)), .unset, .unset, .unset, .unset, .unset] [(.int ((x3 &&& (2147483647 : Int32)) % ((7 : Int32) - (f0_v26 x0 x1 x2 x3)))), (.int (f0_v26 x0 x1 x2 x3))])) _
    refine XS.iadd X23.here hx rfl (hb hby at_88) rfl ?_
    show Steps p.tables e below (T23.setTop (mkF m 89 #[.val (.long x0), .second, .val (.int x1), .val (.int x2), .val (.int x3), .val (.ref b1), .val (.int (f0_v26 x0 x1 x2 x3)), .unset, .unset, .unset, .unset, .unset] [(.int ((f0_v26 x0 x1 x2 x3) + ((x3 &&& (2147483647 : Int32)) % ((7 : Int32) - (f0_v26 x0 x1 x2 x3)))))])) _
    refine XS.istore X23.here hx rfl (hb hby at_89) rfl (l' := #[.val (.long x0), .second, .val (.int x1), .val (.int x2), .val (.int x3), .val (.ref b1), .val (.int (f0_v26 x0 x1 x2 x3)), .val (.int (f0_v27 x0 x1 x2 x3)), .unset, .unset, .unset, .unset]) rfl ?_
    show Steps p.tables e below (T23.setTop (mkF m 91 #[.val (.long x0), .second, .val (.int x1), .val (.int x2), .val (.int x3), .val (.ref b1), .val (.int (f0_v26 x0 x1 x2 x3)), .val (.int (f0_v27 x0 x1 x2 x3)), .unset, .unset, .unset, .unset] [])) _
    refine XS.aload X23.here hx rfl (hb hby at_91) rfl rfl ?_
    show Steps p.tables e below (T23.setTop (mkF m 93 #[.val (.long x0), .second, .val (.int x1), .val (.int x2), .val (.int x3), .val (.ref b1), .val (.int (f0_v26 x0 x1 x2 x3)), .val (.int (f0_v27 x0 x1 x2 x3)), .unset, .unset, .unset, .unset] [(.ref b1)])) _
    refine XS.iconst X23.here hx rfl (hb hby at_93) ?_
    show Steps p.tables e below (T23.setTop (mkF m 94 #[.val (.long x0), .second, .val (.int x1), .val (.int x2), .val (.int x3), .val (.ref b1), .val (.int (f0_v26 x0 x1 x2 x3)), .val (.int (f0_v27 x0 x1 x2 x3)), .unset, .unset, .unset, .unset] [(.int (0 : Int32)), (.ref b1)])) _
    refine X23.baloadBytes hx (j := (0 : Int32)) (v := (.int ((f0_a24 x0 x1 x2 x3) ((0 : Int32)).toNatClampNeg))) (by rw [e23]; exact Ar28.1) (State.isArrayOf_alike hZ.alike Ar28.2.1) Ar28.2.2 (own_inb S28 hin28) (H28 _ (own_idx hin28)) (g := (mkF m 94 #[.val (.long x0), .second, .val (.int x1), .val (.int x2), .val (.int x3), .val (.ref b1), .val (.int (f0_v26 x0 x1 x2 x3)), .val (.int (f0_v27 x0 x1 x2 x3)), .unset, .unset, .unset, .unset] [(.int (0 : Int32)), (.ref b1)])) rfl rfl (hb hby at_94) _ ?_
    show Steps p.tables e below (T23.setTop (mkF m 95 #[.val (.long x0), .second, .val (.int x1), .val (.int x2), .val (.int x3), .val (.ref b1), .val (.int (f0_v26 x0 x1 x2 x3)), .val (.int (f0_v27 x0 x1 x2 x3)), .unset, .unset, .unset, .unset] [(.int ((f0_a24 x0 x1 x2 x3) ((0 : Int32)).toNatClampNeg))])) _
    refine XS.iconst X23.here hx rfl (hb hby at_95) ?_
    show Steps p.tables e below (T23.setTop (mkF m 96 #[.val (.long x0), .second, .val (.int x1), .val (.int x2), .val (.int x3), .val (.ref b1), .val (.int (f0_v26 x0 x1 x2 x3)), .val (.int (f0_v27 x0 x1 x2 x3)), .unset, .unset, .unset, .unset] [(.int (0 : Int32)), (.int ((f0_a24 x0 x1 x2 x3) ((0 : Int32)).toNatClampNeg))])) _
    refine XS.iload X23.here hx rfl (hb hby at_96) rfl ?_
    show Steps p.tables e below (T23.setTop (mkF m 98 #[.val (.long x0), .second, .val (.int x1), .val (.int x2), .val (.int x3), .val (.ref b1), .val (.int (f0_v26 x0 x1 x2 x3)), .val (.int (f0_v27 x0 x1 x2 x3)), .unset, .unset, .unset, .unset] [(.int (f0_v26 x0 x1 x2 x3)), (.int (0 : Int32)), (.int ((f0_a24 x0 x1 x2 x3) ((0 : Int32)).toNatClampNeg))])) _
    refine XS.iload X23.here hx rfl (hb hby at_98) rfl ?_
    show Steps p.tables e below (T23.setTop (mkF m 100 #[.val (.long x0), .second, .val (.int x1), .val (.int x2), .val (.int x3), .val (.ref b1), .val (.int (f0_v26 x0 x1 x2 x3)), .val (.int (f0_v27 x0 x1 x2 x3)), .unset, .unset, .unset, .unset] [(.int (f0_v27 x0 x1 x2 x3)), (.int (f0_v26 x0 x1 x2 x3)), (.int (0 : Int32)), (.int ((f0_a24 x0 x1 x2 x3) ((0 : Int32)).toNatClampNeg))])) _
    refine st29 _ ?_
    exact k
  obtain ⟨T69, L69, X69, N69, e69, pre69⟩ : ∃ (T' : State) (L' : List Loc), Stand p l e room_1 s m #[(.long x0), (.int x1), (.int x2), (.int x3)] below meth c T' L' 1 6 ∧ Fr n0 L' ∧ T'.heap = h23 ∧ ∀ t, Steps p.tables e below (T'.setTop (mkF m 186 #[.val (.long x0), .second, .val (.int x1), .val (.int x2), .val (.int x3), .val (.ref b1), .val (.int (f0_v26 x0 x1 x2 x3)), .val (.int (f0_v27 x0 x1 x2 x3)), .unset, .unset, .unset, .unset] [(.int (f0_j68 x0 x1 x2 x3))])) t → Steps p.tables e below (s₁.setTop (entryFrame m #[(.long x0), (.int x1), (.int x2), (.int x3)] maxLocals)) t := by
    rcases Bool.eq_false_or_eq_true (ifCond.holds .ne (f2 ((f0_a24 x0 x1 x2 x3) ((0 : Int32)).toNatClampNeg) (0 : Int32) (f0_v26 x0 x1 x2 x3) (f0_v27 x0 x1 x2 x3))) with hc31 | hc31
    · have pre70 : ∀ t, Steps p.tables e below (T29.setTop (mkF m 186 #[.val (.long x0), .second, .val (.int x1), .val (.int x2), .val (.int x3), .val (.ref b1), .val (.int (f0_v26 x0 x1 x2 x3)), .val (.int (f0_v27 x0 x1 x2 x3)), .unset, .unset, .unset, .unset] [(.int (1 : Int32))])) t → Steps p.tables e below (s₁.setTop (entryFrame m #[(.long x0), (.int x1), (.int x2), (.int x3)] maxLocals)) t := by
        intro t k
        refine pre30 _ ?_
        show Steps p.tables e below (T29.setTop (mkF m 103 #[.val (.long x0), .second, .val (.int x1), .val (.int x2), .val (.int x3), .val (.ref b1), .val (.int (f0_v26 x0 x1 x2 x3)), .val (.int (f0_v27 x0 x1 x2 x3)), .unset, .unset, .unset, .unset] [(.int (f2 ((f0_a24 x0 x1 x2 x3) ((0 : Int32)).toNatClampNeg) (0 : Int32) (f0_v26 x0 x1 x2 x3) (f0_v27 x0 x1 x2 x3)))])) _
        refine XS.ifYes X29.here hx rfl (pc0 := 103) (pc' := 181) rfl (hb hby at_103) rfl hc31 (by decide) (by decide) ?_
        show Steps p.tables e below (T29.setTop (mkF m 181 #[.val (.long x0), .second, .val (.int x1), .val (.int x2), .val (.int x3), .val (.ref b1), .val (.int (f0_v26 x0 x1 x2 x3)), .val (.int (f0_v27 x0 x1 x2 x3)), .unset, .unset, .unset, .unset] [])) _
        refine XS.iconst X29.here hx rfl (hb hby at_181) ?_
        show Steps p.tables e below (T29.setTop (mkF m 182 #[.val (.long x0), .second, .val (.int x1), .val (.int x2), .val (.int x3), .val (.ref b1), .val (.int (f0_v26 x0 x1 x2 x3)), .val (.int (f0_v27 x0 x1 x2 x3)), .unset, .unset, .unset, .unset] [(.int (1 : Int32))])) _
        refine XS.goto X29.here hx rfl (pc0 := 182) (pc' := 186) rfl (hb hby at_182) (by decide) (by decide) ?_
        exact k
      have qj0 : (f0_j68 x0 x1 x2 x3) = (1 : Int32) := if_pos hc31
      refine ⟨T29, _, X29, N29, e29, fun t k => pre70 _ ?_⟩
      rw [qj0] at k
      exact k
    · have Vc32 := P25
      obtain ⟨cl32, Ar32, S32, H32⟩ := Vc32
      have hin32 : 0 ≤ ((1 : Int32)).toInt ∧ ((1 : Int32)).toInt < (6 : Nat) := (by decide)
      obtain ⟨_, _, ⟨T33, L33, k33, n33⟩, -, X33, ⟨Lc33, hQ33, l33, y33, z33⟩, st33⟩ := Jvm.LawKit.callS X29 hx (y := (⟨"dev/stratumaudio/Lyrics3TagDecimalPinLaw", "bad", "(BIII)Z"⟩ : MethodName)) hown (mvT hZ (hw _ (List.mem_of_getElem? (i := 7) rfl))) (mvT hZ (hw _ (List.mem_of_getElem? (i := 8) rfl))) (mvT hZ (hw _ (List.mem_of_getElem? (i := 3) rfl))) (mvT hZ (hw _ (List.mem_of_getElem? (i := 9) rfl))) (by decide) (backOf (W := 0) (rm2 l Z a0 hw [] ((f0_a24 x0 x1 x2 x3) ((1 : Int32)).toNatClampNeg) (1 : Int32) (f0_v26 x0 x1 x2 x3) (f0_v27 x0 x1 x2 x3) h23 n0 Z23) hZ (hw _ (List.mem_of_getElem? (i := 9) rfl)) (hw _ (List.mem_of_getElem? (i := 3) rfl)) (by decide) (by decide)) (g := (mkF m 115 #[.val (.long x0), .second, .val (.int x1), .val (.int x2), .val (.int x3), .val (.ref b1), .val (.int (f0_v26 x0 x1 x2 x3)), .val (.int (f0_v27 x0 x1 x2 x3)), .unset, .unset, .unset, .unset] [(.int (f0_v27 x0 x1 x2 x3)), (.int (f0_v26 x0 x1 x2 x3)), (.int (1 : Int32)), (.int ((f0_a24 x0 x1 x2 x3) ((1 : Int32)).toNatClampNeg))])) rfl (by rw [hml]; rfl) (argsL := [(.int ((f0_a24 x0 x1 x2 x3) ((1 : Int32)).toNatClampNeg)), (.int (1 : Int32)), (.int (f0_v26 x0 x1 x2 x3)), (.int (f0_v27 x0 x1 x2 x3))]) (rest := []) (lenOf pd_2 rfl) rfl (by show 2 * 0 + _ ≤ _; exact Nat.le_of_eq rfl) (hb hby at_115) (fun _ _ => ⟨rfl, e29, (by decide : 1 + 0 ≤ _), (by decide : 6 + 0 ≤ _)⟩)
      dsimp only [Pt.U, Pt.locs, Pt.cells, Pt.slots] at X33 l33 y33 z33 st33 hQ33
      subst l33 y33 z33
      obtain ⟨rfl, Nq33, e33⟩ := hQ33
      have N33 := Fr.app N29 Nq33
      have pre34 : ∀ t, Steps p.tables e below (T33.setTop (mkF m 118 #[.val (.long x0), .second, .val (.int x1), .val (.int x2), .val (.int x3), .val (.ref b1), .val (.int (f0_v26 x0 x1 x2 x3)), .val (.int (f0_v27 x0 x1 x2 x3)), .unset, .unset, .unset, .unset] [(.int (f2 ((f0_a24 x0 x1 x2 x3) ((1 : Int32)).toNatClampNeg) (1 : Int32) (f0_v26 x0 x1 x2 x3) (f0_v27 x0 x1 x2 x3)))])) t → Steps p.tables e below (s₁.setTop (entryFrame m #[(.long x0), (.int x1), (.int x2), (.int x3)] maxLocals)) t := by
        intro t k
        refine pre30 _ ?_
        show Steps p.tables e below (T29.setTop (mkF m 103 #[.val (.long x0), .second, .val (.int x1), .val (.int x2), .val (.int x3), .val (.ref b1), .val (.int (f0_v26 x0 x1 x2 x3)), .val (.int (f0_v27 x0 x1 x2 x3)), .unset, .unset, .unset, .unset] [(.int (f2 ((f0_a24 x0 x1 x2 x3) ((0 : Int32)).toNatClampNeg) (0 : Int32) (f0_v26 x0 x1 x2 x3) (f0_v27 x0 x1 x2 x3)))])) _
        refine XS.ifNo X29.here hx rfl (hb hby at_103) rfl hc31 ?_
        show Steps p.tables e below (T29.setTop (mkF m 106 #[.val (.long x0), .second, .val (.int x1), .val (.int x2), .val (.int x3), .val (.ref b1), .val (.int (f0_v26 x0 x1 x2 x3)), .val (.int (f0_v27 x0 x1 x2 x3)), .unset, .unset, .unset, .unset] [])) _
        refine XS.aload X29.here hx rfl (hb hby at_106) rfl rfl ?_
        show Steps p.tables e below (T29.setTop (mkF m 108 #[.val (.long x0), .second, .val (.int x1), .val (.int x2), .val (.int x3), .val (.ref b1), .val (.int (f0_v26 x0 x1 x2 x3)), .val (.int (f0_v27 x0 x1 x2 x3)), .unset, .unset, .unset, .unset] [(.ref b1)])) _
        refine XS.iconst X29.here hx rfl (hb hby at_108) ?_
        show Steps p.tables e below (T29.setTop (mkF m 109 #[.val (.long x0), .second, .val (.int x1), .val (.int x2), .val (.int x3), .val (.ref b1), .val (.int (f0_v26 x0 x1 x2 x3)), .val (.int (f0_v27 x0 x1 x2 x3)), .unset, .unset, .unset, .unset] [(.int (1 : Int32)), (.ref b1)])) _
        refine X29.baloadBytes hx (j := (1 : Int32)) (v := (.int ((f0_a24 x0 x1 x2 x3) ((1 : Int32)).toNatClampNeg))) (by rw [e29]; exact Ar32.1) (State.isArrayOf_alike hZ.alike Ar32.2.1) Ar32.2.2 (own_inb S32 hin32) (H32 _ (own_idx hin32)) (g := (mkF m 109 #[.val (.long x0), .second, .val (.int x1), .val (.int x2), .val (.int x3), .val (.ref b1), .val (.int (f0_v26 x0 x1 x2 x3)), .val (.int (f0_v27 x0 x1 x2 x3)), .unset, .unset, .unset, .unset] [(.int (1 : Int32)), (.ref b1)])) rfl rfl (hb hby at_109) _ ?_
        show Steps p.tables e below (T29.setTop (mkF m 110 #[.val (.long x0), .second, .val (.int x1), .val (.int x2), .val (.int x3), .val (.ref b1), .val (.int (f0_v26 x0 x1 x2 x3)), .val (.int (f0_v27 x0 x1 x2 x3)), .unset, .unset, .unset, .unset] [(.int ((f0_a24 x0 x1 x2 x3) ((1 : Int32)).toNatClampNeg))])) _
        refine XS.iconst X29.here hx rfl (hb hby at_110) ?_
        show Steps p.tables e below (T29.setTop (mkF m 111 #[.val (.long x0), .second, .val (.int x1), .val (.int x2), .val (.int x3), .val (.ref b1), .val (.int (f0_v26 x0 x1 x2 x3)), .val (.int (f0_v27 x0 x1 x2 x3)), .unset, .unset, .unset, .unset] [(.int (1 : Int32)), (.int ((f0_a24 x0 x1 x2 x3) ((1 : Int32)).toNatClampNeg))])) _
        refine XS.iload X29.here hx rfl (hb hby at_111) rfl ?_
        show Steps p.tables e below (T29.setTop (mkF m 113 #[.val (.long x0), .second, .val (.int x1), .val (.int x2), .val (.int x3), .val (.ref b1), .val (.int (f0_v26 x0 x1 x2 x3)), .val (.int (f0_v27 x0 x1 x2 x3)), .unset, .unset, .unset, .unset] [(.int (f0_v26 x0 x1 x2 x3)), (.int (1 : Int32)), (.int ((f0_a24 x0 x1 x2 x3) ((1 : Int32)).toNatClampNeg))])) _
        refine XS.iload X29.here hx rfl (hb hby at_113) rfl ?_
        show Steps p.tables e below (T29.setTop (mkF m 115 #[.val (.long x0), .second, .val (.int x1), .val (.int x2), .val (.int x3), .val (.ref b1), .val (.int (f0_v26 x0 x1 x2 x3)), .val (.int (f0_v27 x0 x1 x2 x3)), .unset, .unset, .unset, .unset] [(.int (f0_v27 x0 x1 x2 x3)), (.int (f0_v26 x0 x1 x2 x3)), (.int (1 : Int32)), (.int ((f0_a24 x0 x1 x2 x3) ((1 : Int32)).toNatClampNeg))])) _
        refine st33 _ ?_
        exact k
      obtain ⟨T66, L66, X66, N66, e66, pre66⟩ : ∃ (T' : State) (L' : List Loc), Stand p l e room_1 s m #[(.long x0), (.int x1), (.int x2), (.int x3)] below meth c T' L' 1 6 ∧ Fr n0 L' ∧ T'.heap = h23 ∧ ∀ t, Steps p.tables e below (T'.setTop (mkF m 186 #[.val (.long x0), .second, .val (.int x1), .val (.int x2), .val (.int x3), .val (.ref b1), .val (.int (f0_v26 x0 x1 x2 x3)), .val (.int (f0_v27 x0 x1 x2 x3)), .unset, .unset, .unset, .unset] [(.int (f0_j65 x0 x1 x2 x3))])) t → Steps p.tables e below (s₁.setTop (entryFrame m #[(.long x0), (.int x1), (.int x2), (.int x3)] maxLocals)) t := by
        rcases Bool.eq_false_or_eq_true (ifCond.holds .ne (f2 ((f0_a24 x0 x1 x2 x3) ((1 : Int32)).toNatClampNeg) (1 : Int32) (f0_v26 x0 x1 x2 x3) (f0_v27 x0 x1 x2 x3))) with hc35 | hc35
        · have pre67 : ∀ t, Steps p.tables e below (T33.setTop (mkF m 186 #[.val (.long x0), .second, .val (.int x1), .val (.int x2), .val (.int x3), .val (.ref b1), .val (.int (f0_v26 x0 x1 x2 x3)), .val (.int (f0_v27 x0 x1 x2 x3)), .unset, .unset, .unset, .unset] [(.int (1 : Int32))])) t → Steps p.tables e below (s₁.setTop (entryFrame m #[(.long x0), (.int x1), (.int x2), (.int x3)] maxLocals)) t := by
            intro t k
            refine pre34 _ ?_
            show Steps p.tables e below (T33.setTop (mkF m 118 #[.val (.long x0), .second, .val (.int x1), .val (.int x2), .val (.int x3), .val (.ref b1), .val (.int (f0_v26 x0 x1 x2 x3)), .val (.int (f0_v27 x0 x1 x2 x3)), .unset, .unset, .unset, .unset] [(.int (f2 ((f0_a24 x0 x1 x2 x3) ((1 : Int32)).toNatClampNeg) (1 : Int32) (f0_v26 x0 x1 x2 x3) (f0_v27 x0 x1 x2 x3)))])) _
            refine XS.ifYes X33.here hx rfl (pc0 := 118) (pc' := 181) rfl (hb hby at_118) rfl hc35 (by decide) (by decide) ?_
            show Steps p.tables e below (T33.setTop (mkF m 181 #[.val (.long x0), .second, .val (.int x1), .val (.int x2), .val (.int x3), .val (.ref b1), .val (.int (f0_v26 x0 x1 x2 x3)), .val (.int (f0_v27 x0 x1 x2 x3)), .unset, .unset, .unset, .unset] [])) _
            refine XS.iconst X33.here hx rfl (hb hby at_181) ?_
            show Steps p.tables e below (T33.setTop (mkF m 182 #[.val (.long x0), .second, .val (.int x1), .val (.int x2), .val (.int x3), .val (.ref b1), .val (.int (f0_v26 x0 x1 x2 x3)), .val (.int (f0_v27 x0 x1 x2 x3)), .unset, .unset, .unset, .unset] [(.int (1 : Int32))])) _
            refine XS.goto X33.here hx rfl (pc0 := 182) (pc' := 186) rfl (hb hby at_182) (by decide) (by decide) ?_
            exact k
          have qj0 : (f0_j65 x0 x1 x2 x3) = (1 : Int32) := if_pos hc35
          refine ⟨T33, _, X33, N33, e33, fun t k => pre67 _ ?_⟩
          rw [qj0] at k
          exact k
        · have Vc36 := P25
          obtain ⟨cl36, Ar36, S36, H36⟩ := Vc36
          have hin36 : 0 ≤ ((2 : Int32)).toInt ∧ ((2 : Int32)).toInt < (6 : Nat) := (by decide)
          obtain ⟨_, _, ⟨T37, L37, k37, n37⟩, -, X37, ⟨Lc37, hQ37, l37, y37, z37⟩, st37⟩ := Jvm.LawKit.callS X33 hx (y := (⟨"dev/stratumaudio/Lyrics3TagDecimalPinLaw", "bad", "(BIII)Z"⟩ : MethodName)) hown (mvT hZ (hw _ (List.mem_of_getElem? (i := 7) rfl))) (mvT hZ (hw _ (List.mem_of_getElem? (i := 8) rfl))) (mvT hZ (hw _ (List.mem_of_getElem? (i := 3) rfl))) (mvT hZ (hw _ (List.mem_of_getElem? (i := 9) rfl))) (by decide) (backOf (W := 0) (rm2 l Z a0 hw [] ((f0_a24 x0 x1 x2 x3) ((2 : Int32)).toNatClampNeg) (2 : Int32) (f0_v26 x0 x1 x2 x3) (f0_v27 x0 x1 x2 x3) h23 n0 Z23) hZ (hw _ (List.mem_of_getElem? (i := 9) rfl)) (hw _ (List.mem_of_getElem? (i := 3) rfl)) (by decide) (by decide)) (g := (mkF m 130 #[.val (.long x0), .second, .val (.int x1), .val (.int x2), .val (.int x3), .val (.ref b1), .val (.int (f0_v26 x0 x1 x2 x3)), .val (.int (f0_v27 x0 x1 x2 x3)), .unset, .unset, .unset, .unset] [(.int (f0_v27 x0 x1 x2 x3)), (.int (f0_v26 x0 x1 x2 x3)), (.int (2 : Int32)), (.int ((f0_a24 x0 x1 x2 x3) ((2 : Int32)).toNatClampNeg))])) rfl (by rw [hml]; rfl) (argsL := [(.int ((f0_a24 x0 x1 x2 x3) ((2 : Int32)).toNatClampNeg)), (.int (2 : Int32)), (.int (f0_v26 x0 x1 x2 x3)), (.int (f0_v27 x0 x1 x2 x3))]) (rest := []) (lenOf pd_2 rfl) rfl (by show 2 * 0 + _ ≤ _; exact Nat.le_of_eq rfl) (hb hby at_130) (fun _ _ => ⟨rfl, e33, (by decide : 1 + 0 ≤ _), (by decide : 6 + 0 ≤ _)⟩)
          dsimp only [Pt.U, Pt.locs, Pt.cells, Pt.slots] at X37 l37 y37 z37 st37 hQ37
          subst l37 y37 z37
          obtain ⟨rfl, Nq37, e37⟩ := hQ37
          have N37 := Fr.app N33 Nq37
          have pre38 : ∀ t, Steps p.tables e below (T37.setTop (mkF m 133 #[.val (.long x0), .second, .val (.int x1), .val (.int x2), .val (.int x3), .val (.ref b1), .val (.int (f0_v26 x0 x1 x2 x3)), .val (.int (f0_v27 x0 x1 x2 x3)), .unset, .unset, .unset, .unset] [(.int (f2 ((f0_a24 x0 x1 x2 x3) ((2 : Int32)).toNatClampNeg) (2 : Int32) (f0_v26 x0 x1 x2 x3) (f0_v27 x0 x1 x2 x3)))])) t → Steps p.tables e below (s₁.setTop (entryFrame m #[(.long x0), (.int x1), (.int x2), (.int x3)] maxLocals)) t := by
            intro t k
            refine pre34 _ ?_
            show Steps p.tables e below (T33.setTop (mkF m 118 #[.val (.long x0), .second, .val (.int x1), .val (.int x2), .val (.int x3), .val (.ref b1), .val (.int (f0_v26 x0 x1 x2 x3)), .val (.int (f0_v27 x0 x1 x2 x3)), .unset, .unset, .unset, .unset] [(.int (f2 ((f0_a24 x0 x1 x2 x3) ((1 : Int32)).toNatClampNeg) (1 : Int32) (f0_v26 x0 x1 x2 x3) (f0_v27 x0 x1 x2 x3)))])) _
            refine XS.ifNo X33.here hx rfl (hb hby at_118) rfl hc35 ?_
            show Steps p.tables e below (T33.setTop (mkF m 121 #[.val (.long x0), .second, .val (.int x1), .val (.int x2), .val (.int x3), .val (.ref b1), .val (.int (f0_v26 x0 x1 x2 x3)), .val (.int (f0_v27 x0 x1 x2 x3)), .unset, .unset, .unset, .unset] [])) _
            refine XS.aload X33.here hx rfl (hb hby at_121) rfl rfl ?_
            show Steps p.tables e below (T33.setTop (mkF m 123 #[.val (.long x0), .second, .val (.int x1), .val (.int x2), .val (.int x3), .val (.ref b1), .val (.int (f0_v26 x0 x1 x2 x3)), .val (.int (f0_v27 x0 x1 x2 x3)), .unset, .unset, .unset, .unset] [(.ref b1)])) _
            refine XS.iconst X33.here hx rfl (hb hby at_123) ?_
            show Steps p.tables e below (T33.setTop (mkF m 124 #[.val (.long x0), .second, .val (.int x1), .val (.int x2), .val (.int x3), .val (.ref b1), .val (.int (f0_v26 x0 x1 x2 x3)), .val (.int (f0_v27 x0 x1 x2 x3)), .unset, .unset, .unset, .unset] [(.int (2 : Int32)), (.ref b1)])) _
            refine X33.baloadBytes hx (j := (2 : Int32)) (v := (.int ((f0_a24 x0 x1 x2 x3) ((2 : Int32)).toNatClampNeg))) (by rw [e33]; exact Ar36.1) (State.isArrayOf_alike hZ.alike Ar36.2.1) Ar36.2.2 (own_inb S36 hin36) (H36 _ (own_idx hin36)) (g := (mkF m 124 #[.val (.long x0), .second, .val (.int x1), .val (.int x2), .val (.int x3), .val (.ref b1), .val (.int (f0_v26 x0 x1 x2 x3)), .val (.int (f0_v27 x0 x1 x2 x3)), .unset, .unset, .unset, .unset] [(.int (2 : Int32)), (.ref b1)])) rfl rfl (hb hby at_124) _ ?_
            show Steps p.tables e below (T33.setTop (mkF m 125 #[.val (.long x0), .second, .val (.int x1), .val (.int x2), .val (.int x3), .val (.ref b1), .val (.int (f0_v26 x0 x1 x2 x3)), .val (.int (f0_v27 x0 x1 x2 x3)), .unset, .unset, .unset, .unset] [(.int ((f0_a24 x0 x1 x2 x3) ((2 : Int32)).toNatClampNeg))])) _
            refine XS.iconst X33.here hx rfl (hb hby at_125) ?_
            show Steps p.tables e below (T33.setTop (mkF m 126 #[.val (.long x0), .second, .val (.int x1), .val (.int x2), .val (.int x3), .val (.ref b1), .val (.int (f0_v26 x0 x1 x2 x3)), .val (.int (f0_v27 x0 x1 x2 x3)), .unset, .unset, .unset, .unset] [(.int (2 : Int32)), (.int ((f0_a24 x0 x1 x2 x3) ((2 : Int32)).toNatClampNeg))])) _
            refine XS.iload X33.here hx rfl (hb hby at_126) rfl ?_
            show Steps p.tables e below (T33.setTop (mkF m 128 #[.val (.long x0), .second, .val (.int x1), .val (.int x2), .val (.int x3), .val (.ref b1), .val (.int (f0_v26 x0 x1 x2 x3)), .val (.int (f0_v27 x0 x1 x2 x3)), .unset, .unset, .unset, .unset] [(.int (f0_v26 x0 x1 x2 x3)), (.int (2 : Int32)), (.int ((f0_a24 x0 x1 x2 x3) ((2 : Int32)).toNatClampNeg))])) _
            refine XS.iload X33.here hx rfl (hb hby at_128) rfl ?_
            show Steps p.tables e below (T33.setTop (mkF m 130 #[.val (.long x0), .second, .val (.int x1), .val (.int x2), .val (.int x3), .val (.ref b1), .val (.int (f0_v26 x0 x1 x2 x3)), .val (.int (f0_v27 x0 x1 x2 x3)), .unset, .unset, .unset, .unset] [(.int (f0_v27 x0 x1 x2 x3)), (.int (f0_v26 x0 x1 x2 x3)), (.int (2 : Int32)), (.int ((f0_a24 x0 x1 x2 x3) ((2 : Int32)).toNatClampNeg))])) _
            refine st37 _ ?_
            exact k
          obtain ⟨T63, L63, X63, N63, e63, pre63⟩ : ∃ (T' : State) (L' : List Loc), Stand p l e room_1 s m #[(.long x0), (.int x1), (.int x2), (.int x3)] below meth c T' L' 1 6 ∧ Fr n0 L' ∧ T'.heap = h23 ∧ ∀ t, Steps p.tables e below (T'.setTop (mkF m 186 #[.val (.long x0), .second, .val (.int x1), .val (.int x2), .val (.int x3), .val (.ref b1), .val (.int (f0_v26 x0 x1 x2 x3)), .val (.int (f0_v27 x0 x1 x2 x3)), .unset, .unset, .unset, .unset] [(.int (f0_j62 x0 x1 x2 x3))])) t → Steps p.tables e below (s₁.setTop (entryFrame m #[(.long x0), (.int x1), (.int x2), (.int x3)] maxLocals)) t := by
            rcases Bool.eq_false_or_eq_true (ifCond.holds .ne (f2 ((f0_a24 x0 x1 x2 x3) ((2 : Int32)).toNatClampNeg) (2 : Int32) (f0_v26 x0 x1 x2 x3) (f0_v27 x0 x1 x2 x3))) with hc39 | hc39
            · have pre64 : ∀ t, Steps p.tables e below (T37.setTop (mkF m 186 #[.val (.long x0), .second, .val (.int x1), .val (.int x2), .val (.int x3), .val (.ref b1), .val (.int (f0_v26 x0 x1 x2 x3)), .val (.int (f0_v27 x0 x1 x2 x3)), .unset, .unset, .unset, .unset] [(.int (1 : Int32))])) t → Steps p.tables e below (s₁.setTop (entryFrame m #[(.long x0), (.int x1), (.int x2), (.int x3)] maxLocals)) t := by
                intro t k
                refine pre38 _ ?_
                show Steps p.tables e below (T37.setTop (mkF m 133 #[.val (.long x0), .second, .val (.int x1), .val (.int x2), .val (.int x3), .val (.ref b1), .val (.int (f0_v26 x0 x1 x2 x3)), .val (.int (f0_v27 x0 x1 x2 x3)), .unset, .unset, .unset, .unset] [(.int (f2 ((f0_a24 x0 x1 x2 x3) ((2 : Int32)).toNatClampNeg) (2 : Int32) (f0_v26 x0 x1 x2 x3) (f0_v27 x0 x1 x2 x3)))])) _
                refine XS.ifYes X37.here hx rfl (pc0 := 133) (pc' := 181) rfl (hb hby at_133) rfl hc39 (by decide) (by decide) ?_
                show Steps p.tables e below (T37.setTop (mkF m 181 #[.val (.long x0), .second, .val (.int x1), .val (.int x2), .val (.int x3), .val (.ref b1), .val (.int (f0_v26 x0 x1 x2 x3)), .val (.int (f0_v27 x0 x1 x2 x3)), .unset, .unset, .unset, .unset] [])) _
                refine XS.iconst X37.here hx rfl (hb hby at_181) ?_
                show Steps p.tables e below (T37.setTop (mkF m 182 #[.val (.long x0), .second, .val (.int x1), .val (.int x2), .val (.int x3), .val (.ref b1), .val (.int (f0_v26 x0 x1 x2 x3)), .val (.int (f0_v27 x0 x1 x2 x3)), .unset, .unset, .unset, .unset] [(.int (1 : Int32))])) _
                refine XS.goto X37.here hx rfl (pc0 := 182) (pc' := 186) rfl (hb hby at_182) (by decide) (by decide) ?_
                exact k
              have qj0 : (f0_j62 x0 x1 x2 x3) = (1 : Int32) := if_pos hc39
              refine ⟨T37, _, X37, N37, e37, fun t k => pre64 _ ?_⟩
              rw [qj0] at k
              exact k
            · have Vc40 := P25
              obtain ⟨cl40, Ar40, S40, H40⟩ := Vc40
              have hin40 : 0 ≤ ((3 : Int32)).toInt ∧ ((3 : Int32)).toInt < (6 : Nat) := (by decide)
              obtain ⟨_, _, ⟨T41, L41, k41, n41⟩, -, X41, ⟨Lc41, hQ41, l41, y41, z41⟩, st41⟩ := Jvm.LawKit.callS X37 hx (y := (⟨"dev/stratumaudio/Lyrics3TagDecimalPinLaw", "bad", "(BIII)Z"⟩ : MethodName)) hown (mvT hZ (hw _ (List.mem_of_getElem? (i := 7) rfl))) (mvT hZ (hw _ (List.mem_of_getElem? (i := 8) rfl))) (mvT hZ (hw _ (List.mem_of_getElem? (i := 3) rfl))) (mvT hZ (hw _ (List.mem_of_getElem? (i := 9) rfl))) (by decide) (backOf (W := 0) (rm2 l Z a0 hw [] ((f0_a24 x0 x1 x2 x3) ((3 : Int32)).toNatClampNeg) (3 : Int32) (f0_v26 x0 x1 x2 x3) (f0_v27 x0 x1 x2 x3) h23 n0 Z23) hZ (hw _ (List.mem_of_getElem? (i := 9) rfl)) (hw _ (List.mem_of_getElem? (i := 3) rfl)) (by decide) (by decide)) (g := (mkF m 145 #[.val (.long x0), .second, .val (.int x1), .val (.int x2), .val (.int x3), .val (.ref b1), .val (.int (f0_v26 x0 x1 x2 x3)), .val (.int (f0_v27 x0 x1 x2 x3)), .unset, .unset, .unset, .unset] [(.int (f0_v27 x0 x1 x2 x3)), (.int (f0_v26 x0 x1 x2 x3)), (.int (3 : Int32)), (.int ((f0_a24 x0 x1 x2 x3) ((3 : Int32)).toNatClampNeg))])) rfl (by rw [hml]; rfl) (argsL := [(.int ((f0_a24 x0 x1 x2 x3) ((3 : Int32)).toNatClampNeg)), (.int (3 : Int32)), (.int (f0_v26 x0 x1 x2 x3)), (.int (f0_v27 x0 x1 x2 x3))]) (rest := []) (lenOf pd_2 rfl) rfl (by show 2 * 0 + _ ≤ _; exact Nat.le_of_eq rfl) (hb hby at_145) (fun _ _ => ⟨rfl, e37, (by decide : 1 + 0 ≤ _), (by decide : 6 + 0 ≤ _)⟩)
              dsimp only [Pt.U, Pt.locs, Pt.cells, Pt.slots] at X41 l41 y41 z41 st41 hQ41
              subst l41 y41 z41
              obtain ⟨rfl, Nq41, e41⟩ := hQ41
              have N41 := Fr.app N37 Nq41
              have pre42 : ∀ t, Steps p.tables e below (T41.setTop (mkF m 148 #[.val (.long x0), .second, .val (.int x1), .val (.int x2), .val (.int x3), .val (.ref b1), .val (.int (f0_v26 x0 x1 x2 x3)), .val (.int (f0_v27 x0 x1 x2 x3)), .unset, .unset, .unset, .unset] [(.int (f2 ((f0_a24 x0 x1 x2 x3) ((3 : Int32)).toNatClampNeg) (3 : Int32) (f0_v26 x0 x1 x2 x3) (f0_v27 x0 x1 x2 x3)))])) t → Steps p.tables e below (s₁.setTop (entryFrame m #[(.long x0), (.int x1), (.int x2), (.int x3)] maxLocals)) t := by
                intro t k
                refine pre38 _ ?_
                show Steps p.tables e below (T37.setTop (mkF m 133 #[.val (.long x0), .second, .val (.int x1), .val (.int x2), .val (.int x3), .val (.ref b1), .val (.int (f0_v26 x0 x1 x2 x3)), .val (.int (f0_v27 x0 x1 x2 x3)), .unset, .unset, .unset, .unset] [(.int (f2 ((f0_a24 x0 x1 x2 x3) ((2 : Int32)).toNatClampNeg) (2 : Int32) (f0_v26 x0 x1 x2 x3) (f0_v27 x0 x1 x2 x3)))])) _
                refine XS.ifNo X37.here hx rfl (hb hby at_133) rfl hc39 ?_
                show Steps p.tables e below (T37.setTop (mkF m 136 #[.val (.long x0), .second, .val (.int x1), .val (.int x2), .val (.int x3), .val (.ref b1), .val (.int (f0_v26 x0 x1 x2 x3)), .val (.int (f0_v27 x0 x1 x2 x3)), .unset, .unset, .unset, .unset] [])) _
                refine XS.aload X37.here hx rfl (hb hby at_136) rfl rfl ?_
                show Steps p.tables e below (T37.setTop (mkF m 138 #[.val (.long x0), .second, .val (.int x1), .val (.int x2), .val (.int x3), .val (.ref b1), .val (.int (f0_v26 x0 x1 x2 x3)), .val (.int (f0_v27 x0 x1 x2 x3)), .unset, .unset, .unset, .unset] [(.ref b1)])) _
                refine XS.iconst X37.here hx rfl (hb hby at_138) ?_
                show Steps p.tables e below (T37.setTop (mkF m 139 #[.val (.long x0), .second, .val (.int x1), .val (.int x2), .val (.int x3), .val (.ref b1), .val (.int (f0_v26 x0 x1 x2 x3)), .val (.int (f0_v27 x0 x1 x2 x3)), .unset, .unset, .unset, .unset] [(.int (3 : Int32)), (.ref b1)])) _
                refine X37.baloadBytes hx (j := (3 : Int32)) (v := (.int ((f0_a24 x0 x1 x2 x3) ((3 : Int32)).toNatClampNeg))) (by rw [e37]; exact Ar40.1) (State.isArrayOf_alike hZ.alike Ar40.2.1) Ar40.2.2 (own_inb S40 hin40) (H40 _ (own_idx hin40)) (g := (mkF m 139 #[.val (.long x0), .second, .val (.int x1), .val (.int x2), .val (.int x3), .val (.ref b1), .val (.int (f0_v26 x0 x1 x2 x3)), .val (.int (f0_v27 x0 x1 x2 x3)), .unset, .unset, .unset, .unset] [(.int (3 : Int32)), (.ref b1)])) rfl rfl (hb hby at_139) _ ?_
                show Steps p.tables e below (T37.setTop (mkF m 140 #[.val (.long x0), .second, .val (.int x1), .val (.int x2), .val (.int x3), .val (.ref b1), .val (.int (f0_v26 x0 x1 x2 x3)), .val (.int (f0_v27 x0 x1 x2 x3)), .unset, .unset, .unset, .unset] [(.int ((f0_a24 x0 x1 x2 x3) ((3 : Int32)).toNatClampNeg))])) _
                refine XS.iconst X37.here hx rfl (hb hby at_140) ?_
                show Steps p.tables e below (T37.setTop (mkF m 141 #[.val (.long x0), .second, .val (.int x1), .val (.int x2), .val (.int x3), .val (.ref b1), .val (.int (f0_v26 x0 x1 x2 x3)), .val (.int (f0_v27 x0 x1 x2 x3)), .unset, .unset, .unset, .unset] [(.int (3 : Int32)), (.int ((f0_a24 x0 x1 x2 x3) ((3 : Int32)).toNatClampNeg))])) _
                refine XS.iload X37.here hx rfl (hb hby at_141) rfl ?_
                show Steps p.tables e below (T37.setTop (mkF m 143 #[.val (.long x0), .second, .val (.int x1), .val (.int x2), .val (.int x3), .val (.ref b1), .val (.int (f0_v26 x0 x1 x2 x3)), .val (.int (f0_v27 x0 x1 x2 x3)), .unset, .unset, .unset, .unset] [(.int (f0_v26 x0 x1 x2 x3)), (.int (3 : Int32)), (.int ((f0_a24 x0 x1 x2 x3) ((3 : Int32)).toNatClampNeg))])) _
                refine XS.iload X37.here hx rfl (hb hby at_143) rfl ?_
                show Steps p.tables e below (T37.setTop (mkF m 145 #[.val (.long x0), .second, .val (.int x1), .val (.int x2), .val (.int x3), .val (.ref b1), .val (.int (f0_v26 x0 x1 x2 x3)), .val (.int (f0_v27 x0 x1 x2 x3)), .unset, .unset, .unset, .unset] [(.int (f0_v27 x0 x1 x2 x3)), (.int (f0_v26 x0 x1 x2 x3)), (.int (3 : Int32)), (.int ((f0_a24 x0 x1 x2 x3) ((3 : Int32)).toNatClampNeg))])) _
                refine st41 _ ?_
                exact k
              obtain ⟨T60, L60, X60, N60, e60, pre60⟩ : ∃ (T' : State) (L' : List Loc), Stand p l e room_1 s m #[(.long x0), (.int x1), (.int x2), (.int x3)] below meth c T' L' 1 6 ∧ Fr n0 L' ∧ T'.heap = h23 ∧ ∀ t, Steps p.tables e below (T'.setTop (mkF m 186 #[.val (.long x0), .second, .val (.int x1), .val (.int x2), .val (.int x3), .val (.ref b1), .val (.int (f0_v26 x0 x1 x2 x3)), .val (.int (f0_v27 x0 x1 x2 x3)), .unset, .unset, .unset, .unset] [(.int (f0_j59 x0 x1 x2 x3))])) t → Steps p.tables e below (s₁.setTop (entryFrame m #[(.long x0), (.int x1), (.int x2), (.int x3)] maxLocals)) t := by
                rcases Bool.eq_false_or_eq_true (ifCond.holds .ne (f2 ((f0_a24 x0 x1 x2 x3) ((3 : Int32)).toNatClampNeg) (3 : Int32) (f0_v26 x0 x1 x2 x3) (f0_v27 x0 x1 x2 x3))) with hc43 | hc43
                · have pre61 : ∀ t, Steps p.tables e below (T41.setTop (mkF m 186 #[.val (.long x0), .second, .val (.int x1), .val (.int x2), .val (.int x3), .val (.ref b1), .val (.int (f0_v26 x0 x1 x2 x3)), .val (.int (f0_v27 x0 x1 x2 x3)), .unset, .unset, .unset, .unset] [(.int (1 : Int32))])) t → Steps p.tables e below (s₁.setTop (entryFrame m #[(.long x0), (.int x1), (.int x2), (.int x3)] maxLocals)) t := by
                    intro t k
                    refine pre42 _ ?_
                    show Steps p.tables e below (T41.setTop (mkF m 148 #[.val (.long x0), .second, .val (.int x1), .val (.int x2), .val (.int x3), .val (.ref b1), .val (.int (f0_v26 x0 x1 x2 x3)), .val (.int (f0_v27 x0 x1 x2 x3)), .unset, .unset, .unset, .unset] [(.int (f2 ((f0_a24 x0 x1 x2 x3) ((3 : Int32)).toNatClampNeg) (3 : Int32) (f0_v26 x0 x1 x2 x3) (f0_v27 x0 x1 x2 x3)))])) _
                    refine XS.ifYes X41.here hx rfl (pc0 := 148) (pc' := 181) rfl (hb hby at_148) rfl hc43 (by decide) (by decide) ?_
                    show Steps p.tables e below (T41.setTop (mkF m 181 #[.val (.long x0), .second, .val (.int x1), .val (.int x2), .val (.int x3), .val (.ref b1), .val (.int (f0_v26 x0 x1 x2 x3)), .val (.int (f0_v27 x0 x1 x2 x3)), .unset, .unset, .unset, .unset] [])) _
                    refine XS.iconst X41.here hx rfl (hb hby at_181) ?_
                    show Steps p.tables e below (T41.setTop (mkF m 182 #[.val (.long x0), .second, .val (.int x1), .val (.int x2), .val (.int x3), .val (.ref b1), .val (.int (f0_v26 x0 x1 x2 x3)), .val (.int (f0_v27 x0 x1 x2 x3)), .unset, .unset, .unset, .unset] [(.int (1 : Int32))])) _
                    refine XS.goto X41.here hx rfl (pc0 := 182) (pc' := 186) rfl (hb hby at_182) (by decide) (by decide) ?_
                    exact k
                  have qj0 : (f0_j59 x0 x1 x2 x3) = (1 : Int32) := if_pos hc43
                  refine ⟨T41, _, X41, N41, e41, fun t k => pre61 _ ?_⟩
                  rw [qj0] at k
                  exact k
                · have Vc44 := P25
                  obtain ⟨cl44, Ar44, S44, H44⟩ := Vc44
                  have hin44 : 0 ≤ ((4 : Int32)).toInt ∧ ((4 : Int32)).toInt < (6 : Nat) := (by decide)
                  obtain ⟨_, _, ⟨T45, L45, k45, n45⟩, -, X45, ⟨Lc45, hQ45, l45, y45, z45⟩, st45⟩ := Jvm.LawKit.callS X41 hx (y := (⟨"dev/stratumaudio/Lyrics3TagDecimalPinLaw", "bad", "(BIII)Z"⟩ : MethodName)) hown (mvT hZ (hw _ (List.mem_of_getElem? (i := 7) rfl))) (mvT hZ (hw _ (List.mem_of_getElem? (i := 8) rfl))) (mvT hZ (hw _ (List.mem_of_getElem? (i := 3) rfl))) (mvT hZ (hw _ (List.mem_of_getElem? (i := 9) rfl))) (by decide) (backOf (W := 0) (rm2 l Z a0 hw [] ((f0_a24 x0 x1 x2 x3) ((4 : Int32)).toNatClampNeg) (4 : Int32) (f0_v26 x0 x1 x2 x3) (f0_v27 x0 x1 x2 x3) h23 n0 Z23) hZ (hw _ (List.mem_of_getElem? (i := 9) rfl)) (hw _ (List.mem_of_getElem? (i := 3) rfl)) (by decide) (by decide)) (g := (mkF m 160 #[.val (.long x0), .second, .val (.int x1), .val (.int x2), .val (.int x3), .val (.ref b1), .val (.int (f0_v26 x0 x1 x2 x3)), .val (.int (f0_v27 x0 x1 x2 x3)), .unset, .unset, .unset, .unset] [(.int (f0_v27 x0 x1 x2 x3)), (.int (f0_v26 x0 x1 x2 x3)), (.int (4 : Int32)), (.int ((f0_a24 x0 x1 x2 x3) ((4 : Int32)).toNatClampNeg))])) rfl (by rw [hml]; rfl) (argsL := [(.int ((f0_a24 x0 x1 x2 x3) ((4 : Int32)).toNatClampNeg)), (.int (4 : Int32)), (.int (f0_v26 x0 x1 x2 x3)), (.int (f0_v27 x0 x1 x2 x3))]) (rest := []) (lenOf pd_2 rfl) rfl (by show 2 * 0 + _ ≤ _; exact Nat.le_of_eq rfl) (hb hby at_160) (fun _ _ => ⟨rfl, e41, (by decide : 1 + 0 ≤ _), (by decide : 6 + 0 ≤ _)⟩)
                  dsimp only [Pt.U, Pt.locs, Pt.cells, Pt.slots] at X45 l45 y45 z45 st45 hQ45
                  subst l45 y45 z45
                  obtain ⟨rfl, Nq45, e45⟩ := hQ45
                  have N45 := Fr.app N41 Nq45
                  have pre46 : ∀ t, Steps p.tables e below (T45.setTop (mkF m 163 #[.val (.long x0), .second, .val (.int x1), .val (.int x2), .val (.int x3), .val (.ref b1), .val (.int (f0_v26 x0 x1 x2 x3)), .val (.int (f0_v27 x0 x1 x2 x3)), .unset, .unset, .unset, .unset] [(.int (f2 ((f0_a24 x0 x1 x2 x3) ((4 : Int32)).toNatClampNeg) (4 : Int32) (f0_v26 x0 x1 x2 x3) (f0_v27 x0 x1 x2 x3)))])) t → Steps p.tables e below (s₁.setTop (entryFrame m #[(.long x0), (.int x1), (.int x2), (.int x3)] maxLocals)) t := by
                    intro t k
                    refine pre42 _ ?_
                    show Steps p.tables e below (T41.setTop (mkF m 148 #[.val (.long x0), .second, .val (.int x1), .val (.int x2), .val (.int x3), .val (.ref b1), .val (.int (f0_v26 x0 x1 x2 x3)), .val (.int (f0_v27 x0 x1 x2 x3)), .unset, .unset, .unset, .unset] [(.int (f2 ((f0_a24 x0 x1 x2 x3) ((3 : Int32)).toNatClampNeg) (3 : Int32) (f0_v26 x0 x1 x2 x3) (f0_v27 x0 x1 x2 x3)))])) _
                    refine XS.ifNo X41.here hx rfl (hb hby at_148) rfl hc43 ?_
                    show Steps p.tables e below (T41.setTop (mkF m 151 #[.val (.long x0), .second, .val (.int x1), .val (.int x2), .val (.int x3), .val (.ref b1), .val (.int (f0_v26 x0 x1 x2 x3)), .val (.int (f0_v27 x0 x1 x2 x3)), .unset, .unset, .unset, .unset] [])) _
                    refine XS.aload X41.here hx rfl (hb hby at_151) rfl rfl ?_
                    show Steps p.tables e below (T41.setTop (mkF m 153 #[.val (.long x0), .second, .val (.int x1), .val (.int x2), .val (.int x3), .val (.ref b1), .val (.int (f0_v26 x0 x1 x2 x3)), .val (.int (f0_v27 x0 x1 x2 x3)), .unset, .unset, .unset, .unset] [(.ref b1)])) _
                    refine XS.iconst X41.here hx rfl (hb hby at_153) ?_
                    show Steps p.tables e below (T41.setTop (mkF m 154 #[.val (.long x0), .second, .val (.int x1), .val (.int x2), .val (.int x3), .val (.ref b1), .val (.int (f0_v26 x0 x1 x2 x3)), .val (.int (f0_v27 x0 x1 x2 x3)), .unset, .unset, .unset, .unset] [(.int (4 : Int32)), (.ref b1)])) _
                    refine X41.baloadBytes hx (j := (4 : Int32)) (v := (.int ((f0_a24 x0 x1 x2 x3) ((4 : Int32)).toNatClampNeg))) (by rw [e41]; exact Ar44.1) (State.isArrayOf_alike hZ.alike Ar44.2.1) Ar44.2.2 (own_inb S44 hin44) (H44 _ (own_idx hin44)) (g := (mkF m 154 #[.val (.long x0), .second, .val (.int x1), .val (.int x2), .val (.int x3), .val (.ref b1), .val (.int (f0_v26 x0 x1 x2 x3)), .val (.int (f0_v27 x0 x1 x2 x3)), .unset, .unset, .unset, .unset] [(.int (4 : Int32)), (.ref b1)])) rfl rfl (hb hby at_154) _ ?_
                    show Steps p.tables e below (T41.setTop (mkF m 155 #[.val (.long x0), .second, .val (.int x1), .val (.int x2), .val (.int x3), .val (.ref b1), .val (.int (f0_v26 x0 x1 x2 x3)), .val (.int (f0_v27 x0 x1 x2 x3)), .unset, .unset, .unset, .unset] [(.int ((f0_a24 x0 x1 x2 x3) ((4 : Int32)).toNatClampNeg))])) _
                    refine XS.iconst X41.here hx rfl (hb hby at_155) ?_
                    show Steps p.tables e below (T41.setTop (mkF m 156 #[.val (.long x0), .second, .val (.int x1), .val (.int x2), .val (.int x3), .val (.ref b1), .val (.int (f0_v26 x0 x1 x2 x3)), .val (.int (f0_v27 x0 x1 x2 x3)), .unset, .unset, .unset, .unset] [(.int (4 : Int32)), (.int ((f0_a24 x0 x1 x2 x3) ((4 : Int32)).toNatClampNeg))])) _
                    refine XS.iload X41.here hx rfl (hb hby at_156) rfl ?_
                    show Steps p.tables e below (T41.setTop (mkF m 158 #[.val (.long x0), .second, .val (.int x1), .val (.int x2), .val (.int x3), .val (.ref b1), .val (.int (f0_v26 x0 x1 x2 x3)), .val (.int (f0_v27 x0 x1 x2 x3)), .unset, .unset, .unset, .unset] [(.int (f0_v26 x0 x1 x2 x3)), (.int (4 : Int32)), (.int ((f0_a24 x0 x1 x2 x3) ((4 : Int32)).toNatClampNeg))])) _
                    refine XS.iload X41.here hx rfl (hb hby at_158) rfl ?_
                    show Steps p.tables e below (T41.setTop (mkF m 160 #[.val (.long x0), .second, .val (.int x1), .val (.int x2), .val (.int x3), .val (.ref b1), .val (.int (f0_v26 x0 x1 x2 x3)), .val (.int (f0_v27 x0 x1 x2 x3)), .unset, .unset, .unset, .unset] [(.int (f0_v27 x0 x1 x2 x3)), (.int (f0_v26 x0 x1 x2 x3)), (.int (4 : Int32)), (.int ((f0_a24 x0 x1 x2 x3) ((4 : Int32)).toNatClampNeg))])) _
                    refine st45 _ ?_
                    exact k
                  obtain ⟨T57, L57, X57, N57, e57, pre57⟩ : ∃ (T' : State) (L' : List Loc), Stand p l e room_1 s m #[(.long x0), (.int x1), (.int x2), (.int x3)] below meth c T' L' 1 6 ∧ Fr n0 L' ∧ T'.heap = h23 ∧ ∀ t, Steps p.tables e below (T'.setTop (mkF m 186 #[.val (.long x0), .second, .val (.int x1), .val (.int x2), .val (.int x3), .val (.ref b1), .val (.int (f0_v26 x0 x1 x2 x3)), .val (.int (f0_v27 x0 x1 x2 x3)), .unset, .unset, .unset, .unset] [(.int (f0_j56 x0 x1 x2 x3))])) t → Steps p.tables e below (s₁.setTop (entryFrame m #[(.long x0), (.int x1), (.int x2), (.int x3)] maxLocals)) t := by
                    rcases Bool.eq_false_or_eq_true (ifCond.holds .ne (f2 ((f0_a24 x0 x1 x2 x3) ((4 : Int32)).toNatClampNeg) (4 : Int32) (f0_v26 x0 x1 x2 x3) (f0_v27 x0 x1 x2 x3))) with hc47 | hc47
                    · have pre58 : ∀ t, Steps p.tables e below (T45.setTop (mkF m 186 #[.val (.long x0), .second, .val (.int x1), .val (.int x2), .val (.int x3), .val (.ref b1), .val (.int (f0_v26 x0 x1 x2 x3)), .val (.int (f0_v27 x0 x1 x2 x3)), .unset, .unset, .unset, .unset] [(.int (1 : Int32))])) t → Steps p.tables e below (s₁.setTop (entryFrame m #[(.long x0), (.int x1), (.int x2), (.int x3)] maxLocals)) t := by
                        intro t k
                        refine pre46 _ ?_
                        show Steps p.tables e below (T45.setTop (mkF m 163 #[.val (.long x0), .second, .val (.int x1), .val (.int x2), .val (.int x3), .val (.ref b1), .val (.int (f0_v26 x0 x1 x2 x3)), .val (.int (f0_v27 x0 x1 x2 x3)), .unset, .unset, .unset, .unset] [(.int (f2 ((f0_a24 x0 x1 x2 x3) ((4 : Int32)).toNatClampNeg) (4 : Int32) (f0_v26 x0 x1 x2 x3) (f0_v27 x0 x1 x2 x3)))])) _
                        refine XS.ifYes X45.here hx rfl (pc0 := 163) (pc' := 181) rfl (hb hby at_163) rfl hc47 (by decide) (by decide) ?_
                        show Steps p.tables e below (T45.setTop (mkF m 181 #[.val (.long x0), .second, .val (.int x1), .val (.int x2), .val (.int x3), .val (.ref b1), .val (.int (f0_v26 x0 x1 x2 x3)), .val (.int (f0_v27 x0 x1 x2 x3)), .unset, .unset, .unset, .unset] [])) _
                        refine XS.iconst X45.here hx rfl (hb hby at_181) ?_
                        show Steps p.tables e below (T45.setTop (mkF m 182 #[.val (.long x0), .second, .val (.int x1), .val (.int x2), .val (.int x3), .val (.ref b1), .val (.int (f0_v26 x0 x1 x2 x3)), .val (.int (f0_v27 x0 x1 x2 x3)), .unset, .unset, .unset, .unset] [(.int (1 : Int32))])) _
                        refine XS.goto X45.here hx rfl (pc0 := 182) (pc' := 186) rfl (hb hby at_182) (by decide) (by decide) ?_
                        exact k
                      have qj0 : (f0_j56 x0 x1 x2 x3) = (1 : Int32) := if_pos hc47
                      refine ⟨T45, _, X45, N45, e45, fun t k => pre58 _ ?_⟩
                      rw [qj0] at k
                      exact k
                    · have Vc48 := P25
                      obtain ⟨cl48, Ar48, S48, H48⟩ := Vc48
                      have hin48 : 0 ≤ ((5 : Int32)).toInt ∧ ((5 : Int32)).toInt < (6 : Nat) := (by decide)
                      obtain ⟨_, _, ⟨T49, L49, k49, n49⟩, -, X49, ⟨Lc49, hQ49, l49, y49, z49⟩, st49⟩ := Jvm.LawKit.callS X45 hx (y := (⟨"dev/stratumaudio/Lyrics3TagDecimalPinLaw", "bad", "(BIII)Z"⟩ : MethodName)) hown (mvT hZ (hw _ (List.mem_of_getElem? (i := 7) rfl))) (mvT hZ (hw _ (List.mem_of_getElem? (i := 8) rfl))) (mvT hZ (hw _ (List.mem_of_getElem? (i := 3) rfl))) (mvT hZ (hw _ (List.mem_of_getElem? (i := 9) rfl))) (by decide) (backOf (W := 0) (rm2 l Z a0 hw [] ((f0_a24 x0 x1 x2 x3) ((5 : Int32)).toNatClampNeg) (5 : Int32) (f0_v26 x0 x1 x2 x3) (f0_v27 x0 x1 x2 x3) h23 n0 Z23) hZ (hw _ (List.mem_of_getElem? (i := 9) rfl)) (hw _ (List.mem_of_getElem? (i := 3) rfl)) (by decide) (by decide)) (g := (mkF m 175 #[.val (.long x0), .second, .val (.int x1), .val (.int x2), .val (.int x3), .val (.ref b1), .val (.int (f0_v26 x0 x1 x2 x3)), .val (.int (f0_v27 x0 x1 x2 x3)), .unset, .unset, .unset, .unset] [(.int (f0_v27 x0 x1 x2 x3)), (.int (f0_v26 x0 x1 x2 x3)), (.int (5 : Int32)), (.int ((f0_a24 x0 x1 x2 x3) ((5 : Int32)).toNatClampNeg))])) rfl (by rw [hml]; rfl) (argsL := [(.int ((f0_a24 x0 x1 x2 x3) ((5 : Int32)).toNatClampNeg)), (.int (5 : Int32)), (.int (f0_v26 x0 x1 x2 x3)), (.int (f0_v27 x0 x1 x2 x3))]) (rest := []) (lenOf pd_2 rfl) rfl (by show 2 * 0 + _ ≤ _; exact Nat.le_of_eq rfl) (hb hby at_175) (fun _ _ => ⟨rfl, e45, (by decide : 1 + 0 ≤ _), (by decide : 6 + 0 ≤ _)⟩)
                      dsimp only [Pt.U, Pt.locs, Pt.cells, Pt.slots] at X49 l49 y49 z49 st49 hQ49
                      subst l49 y49 z49
                      obtain ⟨rfl, Nq49, e49⟩ := hQ49
                      have N49 := Fr.app N45 Nq49
                      have pre50 : ∀ t, Steps p.tables e below (T49.setTop (mkF m 178 #[.val (.long x0), .second, .val (.int x1), .val (.int x2), .val (.int x3), .val (.ref b1), .val (.int (f0_v26 x0 x1 x2 x3)), .val (.int (f0_v27 x0 x1 x2 x3)), .unset, .unset, .unset, .unset] [(.int (f2 ((f0_a24 x0 x1 x2 x3) ((5 : Int32)).toNatClampNeg) (5 : Int32) (f0_v26 x0 x1 x2 x3) (f0_v27 x0 x1 x2 x3)))])) t → Steps p.tables e below (s₁.setTop (entryFrame m #[(.long x0), (.int x1), (.int x2), (.int x3)] maxLocals)) t := by
                        intro t k
                        refine pre46 _ ?_
                        show Steps p.tables e below (T45.setTop (mkF m 163 #[.val (.long x0), .second, .val (.int x1), .val (.int x2), .val (.int x3), .val (.ref b1), .val (.int (f0_v26 x0 x1 x2 x3)), .val (.int (f0_v27 x0 x1 x2 x3)), .unset, .unset, .unset, .unset] [(.int (f2 ((f0_a24 x0 x1 x2 x3) ((4 : Int32)).toNatClampNeg) (4 : Int32) (f0_v26 x0 x1 x2 x3) (f0_v27 x0 x1 x2 x3)))])) _
                        refine XS.ifNo X45.here hx rfl (hb hby at_163) rfl hc47 ?_
                        show Steps p.tables e below (T45.setTop (mkF m 166 #[.val (.long x0), .second, .val (.int x1), .val (.int x2), .val (.int x3), .val (.ref b1), .val (.int (f0_v26 x0 x1 x2 x3)), .val (.int (f0_v27 x0 x1 x2 x3)), .unset, .unset, .unset, .unset] [])) _
                        refine XS.aload X45.here hx rfl (hb hby at_166) rfl rfl ?_
                        show Steps p.tables e below (T45.setTop (mkF m 168 #[.val (.long x0), .second, .val (.int x1), .val (.int x2), .val (.int x3), .val (.ref b1), .val (.int (f0_v26 x0 x1 x2 x3)), .val (.int (f0_v27 x0 x1 x2 x3)), .unset, .unset, .unset, .unset] [(.ref b1)])) _
                        refine XS.iconst X45.here hx rfl (hb hby at_168) ?_
                        show Steps p.tables e below (T45.setTop (mkF m 169 #[.val (.long x0), .second, .val (.int x1), .val (.int x2), .val (.int x3), .val (.ref b1), .val (.int (f0_v26 x0 x1 x2 x3)), .val (.int (f0_v27 x0 x1 x2 x3)), .unset, .unset, .unset, .unset] [(.int (5 : Int32)), (.ref b1)])) _
                        refine X45.baloadBytes hx (j := (5 : Int32)) (v := (.int ((f0_a24 x0 x1 x2 x3) ((5 : Int32)).toNatClampNeg))) (by rw [e45]; exact Ar48.1) (State.isArrayOf_alike hZ.alike Ar48.2.1) Ar48.2.2 (own_inb S48 hin48) (H48 _ (own_idx hin48)) (g := (mkF m 169 #[.val (.long x0), .second, .val (.int x1), .val (.int x2), .val (.int x3), .val (.ref b1), .val (.int (f0_v26 x0 x1 x2 x3)), .val (.int (f0_v27 x0 x1 x2 x3)), .unset, .unset, .unset, .unset] [(.int (5 : Int32)), (.ref b1)])) rfl rfl (hb hby at_169) _ ?_
                        show Steps p.tables e below (T45.setTop (mkF m 170 #[.val (.long x0), .second, .val (.int x1), .val (.int x2), .val (.int x3), .val (.ref b1), .val (.int (f0_v26 x0 x1 x2 x3)), .val (.int (f0_v27 x0 x1 x2 x3)), .unset, .unset, .unset, .unset] [(.int ((f0_a24 x0 x1 x2 x3) ((5 : Int32)).toNatClampNeg))])) _
                        refine XS.iconst X45.here hx rfl (hb hby at_170) ?_
                        show Steps p.tables e below (T45.setTop (mkF m 171 #[.val (.long x0), .second, .val (.int x1), .val (.int x2), .val (.int x3), .val (.ref b1), .val (.int (f0_v26 x0 x1 x2 x3)), .val (.int (f0_v27 x0 x1 x2 x3)), .unset, .unset, .unset, .unset] [(.int (5 : Int32)), (.int ((f0_a24 x0 x1 x2 x3) ((5 : Int32)).toNatClampNeg))])) _
                        refine XS.iload X45.here hx rfl (hb hby at_171) rfl ?_
                        show Steps p.tables e below (T45.setTop (mkF m 173 #[.val (.long x0), .second, .val (.int x1), .val (.int x2), .val (.int x3), .val (.ref b1), .val (.int (f0_v26 x0 x1 x2 x3)), .val (.int (f0_v27 x0 x1 x2 x3)), .unset, .unset, .unset, .unset] [(.int (f0_v26 x0 x1 x2 x3)), (.int (5 : Int32)), (.int ((f0_a24 x0 x1 x2 x3) ((5 : Int32)).toNatClampNeg))])) _
                        refine XS.iload X45.here hx rfl (hb hby at_173) rfl ?_
                        show Steps p.tables e below (T45.setTop (mkF m 175 #[.val (.long x0), .second, .val (.int x1), .val (.int x2), .val (.int x3), .val (.ref b1), .val (.int (f0_v26 x0 x1 x2 x3)), .val (.int (f0_v27 x0 x1 x2 x3)), .unset, .unset, .unset, .unset] [(.int (f0_v27 x0 x1 x2 x3)), (.int (f0_v26 x0 x1 x2 x3)), (.int (5 : Int32)), (.int ((f0_a24 x0 x1 x2 x3) ((5 : Int32)).toNatClampNeg))])) _
                        refine st49 _ ?_
                        exact k
                      obtain ⟨T53, L53, X53, N53, e53, pre53⟩ : ∃ (T' : State) (L' : List Loc), Stand p l e room_1 s m #[(.long x0), (.int x1), (.int x2), (.int x3)] below meth c T' L' 1 6 ∧ Fr n0 L' ∧ T'.heap = h23 ∧ ∀ t, Steps p.tables e below (T'.setTop (mkF m 186 #[.val (.long x0), .second, .val (.int x1), .val (.int x2), .val (.int x3), .val (.ref b1), .val (.int (f0_v26 x0 x1 x2 x3)), .val (.int (f0_v27 x0 x1 x2 x3)), .unset, .unset, .unset, .unset] [(.int (f0_j52 x0 x1 x2 x3))])) t → Steps p.tables e below (s₁.setTop (entryFrame m #[(.long x0), (.int x1), (.int x2), (.int x3)] maxLocals)) t := by
                        rcases Bool.eq_false_or_eq_true (ifCond.holds .eq (f2 ((f0_a24 x0 x1 x2 x3) ((5 : Int32)).toNatClampNeg) (5 : Int32) (f0_v26 x0 x1 x2 x3) (f0_v27 x0 x1 x2 x3))) with hc51 | hc51
                        · have pre54 : ∀ t, Steps p.tables e below (T49.setTop (mkF m 186 #[.val (.long x0), .second, .val (.int x1), .val (.int x2), .val (.int x3), .val (.ref b1), .val (.int (f0_v26 x0 x1 x2 x3)), .val (.int (f0_v27 x0 x1 x2 x3)), .unset, .unset, .unset, .unset] [(.int (0 : Int32))])) t → Steps p.tables e below (s₁.setTop (entryFrame m #[(.long x0), (.int x1), (.int x2), (.int x3)] maxLocals)) t := by
                            intro t k
                            refine pre50 _ ?_
                            show Steps p.tables e below (T49.setTop (mkF m 178 #[.val (.long x0), .second, .val (.int x1), .val (.int x2), .val (.int x3), .val (.ref b1), .val (.int (f0_v26 x0 x1 x2 x3)), .val (.int (f0_v27 x0 x1 x2 x3)), .unset, .unset, .unset, .unset] [(.int (f2 ((f0_a24 x0 x1 x2 x3) ((5 : Int32)).toNatClampNeg) (5 : Int32) (f0_v26 x0 x1 x2 x3) (f0_v27 x0 x1 x2 x3)))])) _
                            refine XS.ifYes X49.here hx rfl (pc0 := 178) (pc' := 185) rfl (hb hby at_178) rfl hc51 (by decide) (by decide) ?_
                            show Steps p.tables e below (T49.setTop (mkF m 185 #[.val (.long x0), .second, .val (.int x1), .val (.int x2), .val (.int x3), .val (.ref b1), .val (.int (f0_v26 x0 x1 x2 x3)), .val (.int (f0_v27 x0 x1 x2 x3)), .unset, .unset, .unset, .unset] [])) _
                            refine XS.iconst X49.here hx rfl (hb hby at_185) ?_
                            exact k
                          have qj0 : (f0_j52 x0 x1 x2 x3) = (0 : Int32) := if_pos hc51
                          refine ⟨T49, _, X49, N49, e49, fun t k => pre54 _ ?_⟩
                          rw [qj0] at k
                          exact k
                        · have pre55 : ∀ t, Steps p.tables e below (T49.setTop (mkF m 186 #[.val (.long x0), .second, .val (.int x1), .val (.int x2), .val (.int x3), .val (.ref b1), .val (.int (f0_v26 x0 x1 x2 x3)), .val (.int (f0_v27 x0 x1 x2 x3)), .unset, .unset, .unset, .unset] [(.int (1 : Int32))])) t → Steps p.tables e below (s₁.setTop (entryFrame m #[(.long x0), (.int x1), (.int x2), (.int x3)] maxLocals)) t := by
                            intro t k
                            refine pre50 _ ?_
                            show Steps p.tables e below (T49.setTop (mkF m 178 #[.val (.long x0), .second, .val (.int x1), .val (.int x2), .val (.int x3), .val (.ref b1), .val (.int (f0_v26 x0 x1 x2 x3)), .val (.int (f0_v27 x0 x1 x2 x3)), .unset, .unset, .unset, .unset] [(.int (f2 ((f0_a24 x0 x1 x2 x3) ((5 : Int32)).toNatClampNeg) (5 : Int32) (f0_v26 x0 x1 x2 x3) (f0_v27 x0 x1 x2 x3)))])) _
                            refine XS.ifNo X49.here hx rfl (hb hby at_178) rfl hc51 ?_
                            show Steps p.tables e below (T49.setTop (mkF m 181 #[.val (.long x0), .second, .val (.int x1), .val (.int x2), .val (.int x3), .val (.ref b1), .val (.int (f0_v26 x0 x1 x2 x3)), .val (.int (f0_v27 x0 x1 x2 x3)), .unset, .unset, .unset, .unset] [])) _
                            refine XS.iconst X49.here hx rfl (hb hby at_181) ?_
                            show Steps p.tables e below (T49.setTop (mkF m 182 #[.val (.long x0), .second, .val (.int x1), .val (.int x2), .val (.int x3), .val (.ref b1), .val (.int (f0_v26 x0 x1 x2 x3)), .val (.int (f0_v27 x0 x1 x2 x3)), .unset, .unset, .unset, .unset] [(.int (1 : Int32))])) _
                            refine XS.goto X49.here hx rfl (pc0 := 182) (pc' := 186) rfl (hb hby at_182) (by decide) (by decide) ?_
                            exact k
                          have qj0 : (f0_j52 x0 x1 x2 x3) = (1 : Int32) := if_neg (own_nt hc51)
                          refine ⟨T49, _, X49, N49, e49, fun t k => pre55 _ ?_⟩
                          rw [qj0] at k
                          exact k
                      have qj0 : (f0_j56 x0 x1 x2 x3) = (f0_j52 x0 x1 x2 x3) := if_neg (own_nt hc47)
                      refine ⟨T53, _, X53, N53, e53, fun t k => pre53 _ ?_⟩
                      rw [qj0] at k
                      exact k
                  have qj0 : (f0_j59 x0 x1 x2 x3) = (f0_j56 x0 x1 x2 x3) := if_neg (own_nt hc43)
                  refine ⟨T57, _, X57, N57, e57, fun t k => pre57 _ ?_⟩
                  rw [qj0] at k
                  exact k
              have qj0 : (f0_j62 x0 x1 x2 x3) = (f0_j59 x0 x1 x2 x3) := if_neg (own_nt hc39)
              refine ⟨T60, _, X60, N60, e60, fun t k => pre60 _ ?_⟩
              rw [qj0] at k
              exact k
          have qj0 : (f0_j65 x0 x1 x2 x3) = (f0_j62 x0 x1 x2 x3) := if_neg (own_nt hc35)
          refine ⟨T63, _, X63, N63, e63, fun t k => pre63 _ ?_⟩
          rw [qj0] at k
          exact k
      have qj0 : (f0_j68 x0 x1 x2 x3) = (f0_j65 x0 x1 x2 x3) := if_neg (own_nt hc31)
      refine ⟨T66, _, X66, N66, e66, fun t k => pre66 _ ?_⟩
      rw [qj0] at k
      exact k
  have pre71 : ∀ t, Steps p.tables e below (T69.setTop (mkF m 190 #[.val (.long x0), .second, .val (.int x1), .val (.int x2), .val (.int x3), .val (.ref b1), .val (.int (f0_v26 x0 x1 x2 x3)), .val (.int (f0_v27 x0 x1 x2 x3)), .val (.int (f0_j68 x0 x1 x2 x3)), .unset, .unset, .unset] [(.int (f0_j68 x0 x1 x2 x3))])) t → Steps p.tables e below (s₁.setTop (entryFrame m #[(.long x0), (.int x1), (.int x2), (.int x3)] maxLocals)) t := by
    intro t k
    refine pre69 _ ?_
    show Steps p.tables e below (T69.setTop (mkF m 186 #[.val (.long x0), .second, .val (.int x1), .val (.int x2), .val (.int x3), .val (.ref b1), .val (.int (f0_v26 x0 x1 x2 x3)), .val (.int (f0_v27 x0 x1 x2 x3)), .unset, .unset, .unset, .unset] [(.int (f0_j68 x0 x1 x2 x3))])) _
    refine XS.istore X69.here hx rfl (hb hby at_186) rfl (l' := #[.val (.long x0), .second, .val (.int x1), .val (.int x2), .val (.int x3), .val (.ref b1), .val (.int (f0_v26 x0 x1 x2 x3)), .val (.int (f0_v27 x0 x1 x2 x3)), .val (.int (f0_j68 x0 x1 x2 x3)), .unset, .unset, .unset]) rfl ?_
    show Steps p.tables e below (T69.setTop (mkF m 188 #[.val (.long x0), .second, .val (.int x1), .val (.int x2), .val (.int x3), .val (.ref b1), .val (.int (f0_v26 x0 x1 x2 x3)), .val (.int (f0_v27 x0 x1 x2 x3)), .val (.int (f0_j68 x0 x1 x2 x3)), .unset, .unset, .unset] [])) _
    refine XS.iload X69.here hx rfl (hb hby at_188) rfl ?_
    exact k
  obtain ⟨T87, L87, X87, N87, e87, pre87⟩ : ∃ (T' : State) (L' : List Loc), Stand p l e room_1 s m #[(.long x0), (.int x1), (.int x2), (.int x3)] below meth c T' L' 1 6 ∧ Fr n0 L' ∧ T'.heap = h23 ∧ ∀ t, Steps p.tables e below (T'.setTop (mkF m 280 #[.val (.long x0), .second, .val (.int x1), .val (.int x2), .val (.int x3), .val (.ref b1), .val (.int (f0_v26 x0 x1 x2 x3)), .val (.int (f0_v27 x0 x1 x2 x3)), .val (.int (f0_j68 x0 x1 x2 x3)), .val (.long (f0_j86 x0 x1 x2 x3)), .second, .unset] [])) t → Steps p.tables e below (s₁.setTop (entryFrame m #[(.long x0), (.int x1), (.int x2), (.int x3)] maxLocals)) t := by
    rcases Bool.eq_false_or_eq_true (ifCond.holds .eq (f0_j68 x0 x1 x2 x3)) with hc72 | hc72
    · have Vc73 := P25
      obtain ⟨cl73, Ar73, S73, H73⟩ := Vc73
      have hin73 : 0 ≤ ((0 : Int32)).toInt ∧ ((0 : Int32)).toInt < (6 : Nat) := (by decide)
      obtain ⟨_, _, ⟨T74, L74, k74, n74⟩, -, X74, ⟨Lc74, hQ74, l74, y74, z74⟩, st74⟩ := Jvm.LawKit.callS X69 hx (y := (⟨"dev/stratumaudio/Lyrics3TagDecimalPinLaw", "contrib", "(BIII)J"⟩ : MethodName)) hown (mvT hZ (hw _ (List.mem_of_getElem? (i := 10) rfl))) (mvT hZ (hw _ (List.mem_of_getElem? (i := 11) rfl))) (mvT hZ (hw _ (List.mem_of_getElem? (i := 3) rfl))) (mvT hZ (hw _ (List.mem_of_getElem? (i := 12) rfl))) (by decide) (backOf (W := 0) (rm3 l Z a0 hw [] ((f0_a24 x0 x1 x2 x3) ((0 : Int32)).toNatClampNeg) (0 : Int32) (f0_v26 x0 x1 x2 x3) (f0_v27 x0 x1 x2 x3) h23 n0 Z23) hZ (hw _ (List.mem_of_getElem? (i := 12) rfl)) (hw _ (List.mem_of_getElem? (i := 3) rfl)) (by decide) (by decide)) (g := (mkF m 210 #[.val (.long x0), .second, .val (.int x1), .val (.int x2), .val (.int x3), .val (.ref b1), .val (.int (f0_v26 x0 x1 x2 x3)), .val (.int (f0_v27 x0 x1 x2 x3)), .val (.int (f0_j68 x0 x1 x2 x3)), .unset, .unset, .unset] [(.int (f0_v27 x0 x1 x2 x3)), (.int (f0_v26 x0 x1 x2 x3)), (.int (0 : Int32)), (.int ((f0_a24 x0 x1 x2 x3) ((0 : Int32)).toNatClampNeg))])) rfl (by rw [hml]; rfl) (argsL := [(.int ((f0_a24 x0 x1 x2 x3) ((0 : Int32)).toNatClampNeg)), (.int (0 : Int32)), (.int (f0_v26 x0 x1 x2 x3)), (.int (f0_v27 x0 x1 x2 x3))]) (rest := []) (lenOf pd_3 rfl) rfl (by show 2 * 0 + _ ≤ _; exact Nat.le_of_eq rfl) (hb hby at_210) (fun _ _ => ⟨rfl, e69, (by decide : 1 + 0 ≤ _), (by decide : 6 + 0 ≤ _)⟩)
      dsimp only [Pt.U, Pt.locs, Pt.cells, Pt.slots] at X74 l74 y74 z74 st74 hQ74
      subst l74 y74 z74
      obtain ⟨rfl, Nq74, e74⟩ := hQ74
      have N74 := Fr.app N69 Nq74
      have Vc75 := P25
      obtain ⟨cl75, Ar75, S75, H75⟩ := Vc75
      have hin75 : 0 ≤ ((1 : Int32)).toInt ∧ ((1 : Int32)).toInt < (6 : Nat) := (by decide)
      obtain ⟨_, _, ⟨T76, L76, k76, n76⟩, -, X76, ⟨Lc76, hQ76, l76, y76, z76⟩, st76⟩ := Jvm.LawKit.callS X74 hx (y := (⟨"dev/stratumaudio/Lyrics3TagDecimalPinLaw", "contrib", "(BIII)J"⟩ : MethodName)) hown (mvT hZ (hw _ (List.mem_of_getElem? (i := 10) rfl))) (mvT hZ (hw _ (List.mem_of_getElem? (i := 11) rfl))) (mvT hZ (hw _ (List.mem_of_getElem? (i := 3) rfl))) (mvT hZ (hw _ (List.mem_of_getElem? (i := 12) rfl))) (by decide) (backOf (W := 2) (rm3 l Z a0 hw [] ((f0_a24 x0 x1 x2 x3) ((1 : Int32)).toNatClampNeg) (1 : Int32) (f0_v26 x0 x1 x2 x3) (f0_v27 x0 x1 x2 x3) h23 n0 Z23) hZ (hw _ (List.mem_of_getElem? (i := 12) rfl)) (hw _ (List.mem_of_getElem? (i := 3) rfl)) (by decide) (by decide)) (g := (mkF m 222 #[.val (.long x0), .second, .val (.int x1), .val (.int x2), .val (.int x3), .val (.ref b1), .val (.int (f0_v26 x0 x1 x2 x3)), .val (.int (f0_v27 x0 x1 x2 x3)), .val (.int (f0_j68 x0 x1 x2 x3)), .unset, .unset, .unset] [(.int (f0_v27 x0 x1 x2 x3)), (.int (f0_v26 x0 x1 x2 x3)), (.int (1 : Int32)), (.int ((f0_a24 x0 x1 x2 x3) ((1 : Int32)).toNatClampNeg)), (.long (f3 ((f0_a24 x0 x1 x2 x3) ((0 : Int32)).toNatClampNeg) (0 : Int32) (f0_v26 x0 x1 x2 x3) (f0_v27 x0 x1 x2 x3)))])) rfl (by rw [hml]; rfl) (argsL := [(.int ((f0_a24 x0 x1 x2 x3) ((1 : Int32)).toNatClampNeg)), (.int (1 : Int32)), (.int (f0_v26 x0 x1 x2 x3)), (.int (f0_v27 x0 x1 x2 x3))]) (rest := [(.long (f3 ((f0_a24 x0 x1 x2 x3) ((0 : Int32)).toNatClampNeg) (0 : Int32) (f0_v26 x0 x1 x2 x3) (f0_v27 x0 x1 x2 x3)))]) (lenOf pd_3 rfl) rfl (by show 2 * 0 + _ ≤ _; exact Nat.le_of_eq rfl) (hb hby at_222) (fun _ _ => ⟨rfl, e74, (by decide : 1 + 0 ≤ _), (by decide : 6 + 0 ≤ _)⟩)
      dsimp only [Pt.U, Pt.locs, Pt.cells, Pt.slots] at X76 l76 y76 z76 st76 hQ76
      subst l76 y76 z76
      obtain ⟨rfl, Nq76, e76⟩ := hQ76
      have N76 := Fr.app N74 Nq76
      have Vc77 := P25
      obtain ⟨cl77, Ar77, S77, H77⟩ := Vc77
      have hin77 : 0 ≤ ((2 : Int32)).toInt ∧ ((2 : Int32)).toInt < (6 : Nat) := (by decide)
      obtain ⟨_, _, ⟨T78, L78, k78, n78⟩, -, X78, ⟨Lc78, hQ78, l78, y78, z78⟩, st78⟩ := Jvm.LawKit.callS X76 hx (y := (⟨"dev/stratumaudio/Lyrics3TagDecimalPinLaw", "contrib", "(BIII)J"⟩ : MethodName)) hown (mvT hZ (hw _ (List.mem_of_getElem? (i := 10) rfl))) (mvT hZ (hw _ (List.mem_of_getElem? (i := 11) rfl))) (mvT hZ (hw _ (List.mem_of_getElem? (i := 3) rfl))) (mvT hZ (hw _ (List.mem_of_getElem? (i := 12) rfl))) (by decide) (backOf (W := 2) (rm3 l Z a0 hw [] ((f0_a24 x0 x1 x2 x3) ((2 : Int32)).toNatClampNeg) (2 : Int32) (f0_v26 x0 x1 x2 x3) (f0_v27 x0 x1 x2 x3) h23 n0 Z23) hZ (hw _ (List.mem_of_getElem? (i := 12) rfl)) (hw _ (List.mem_of_getElem? (i := 3) rfl)) (by decide) (by decide)) (g := (mkF m 235 #[.val (.long x0), .second, .val (.int x1), .val (.int x2), .val (.int x3), .val (.ref b1), .val (.int (f0_v26 x0 x1 x2 x3)), .val (.int (f0_v27 x0 x1 x2 x3)), .val (.int (f0_j68 x0 x1 x2 x3)), .unset, .unset, .unset] [(.int (f0_v27 x0 x1 x2 x3)), (.int (f0_v26 x0 x1 x2 x3)), (.int (2 : Int32)), (.int ((f0_a24 x0 x1 x2 x3) ((2 : Int32)).toNatClampNeg)), (.long ((f3 ((f0_a24 x0 x1 x2 x3) ((0 : Int32)).toNatClampNeg) (0 : Int32) (f0_v26 x0 x1 x2 x3) (f0_v27 x0 x1 x2 x3)) + (f3 ((f0_a24 x0 x1 x2 x3) ((1 : Int32)).toNatClampNeg) (1 : Int32) (f0_v26 x0 x1 x2 x3) (f0_v27 x0 x1 x2 x3))))])) rfl (by rw [hml]; rfl) (argsL := [(.int ((f0_a24 x0 x1 x2 x3) ((2 : Int32)).toNatClampNeg)), (.int (2 : Int32)), (.int (f0_v26 x0 x1 x2 x3)), (.int (f0_v27 x0 x1 x2 x3))]) (rest := [(.long ((f3 ((f0_a24 x0 x1 x2 x3) ((0 : Int32)).toNatClampNeg) (0 : Int32) (f0_v26 x0 x1 x2 x3) (f0_v27 x0 x1 x2 x3)) + (f3 ((f0_a24 x0 x1 x2 x3) ((1 : Int32)).toNatClampNeg) (1 : Int32) (f0_v26 x0 x1 x2 x3) (f0_v27 x0 x1 x2 x3))))]) (lenOf pd_3 rfl) rfl (by show 2 * 0 + _ ≤ _; exact Nat.le_of_eq rfl) (hb hby at_235) (fun _ _ => ⟨rfl, e76, (by decide : 1 + 0 ≤ _), (by decide : 6 + 0 ≤ _)⟩)
      dsimp only [Pt.U, Pt.locs, Pt.cells, Pt.slots] at X78 l78 y78 z78 st78 hQ78
      subst l78 y78 z78
      obtain ⟨rfl, Nq78, e78⟩ := hQ78
      have N78 := Fr.app N76 Nq78
      have Vc79 := P25
      obtain ⟨cl79, Ar79, S79, H79⟩ := Vc79
      have hin79 : 0 ≤ ((3 : Int32)).toInt ∧ ((3 : Int32)).toInt < (6 : Nat) := (by decide)
      obtain ⟨_, _, ⟨T80, L80, k80, n80⟩, -, X80, ⟨Lc80, hQ80, l80, y80, z80⟩, st80⟩ := Jvm.LawKit.callS X78 hx (y := (⟨"dev/stratumaudio/Lyrics3TagDecimalPinLaw", "contrib", "(BIII)J"⟩ : MethodName)) hown (mvT hZ (hw _ (List.mem_of_getElem? (i := 10) rfl))) (mvT hZ (hw _ (List.mem_of_getElem? (i := 11) rfl))) (mvT hZ (hw _ (List.mem_of_getElem? (i := 3) rfl))) (mvT hZ (hw _ (List.mem_of_getElem? (i := 12) rfl))) (by decide) (backOf (W := 2) (rm3 l Z a0 hw [] ((f0_a24 x0 x1 x2 x3) ((3 : Int32)).toNatClampNeg) (3 : Int32) (f0_v26 x0 x1 x2 x3) (f0_v27 x0 x1 x2 x3) h23 n0 Z23) hZ (hw _ (List.mem_of_getElem? (i := 12) rfl)) (hw _ (List.mem_of_getElem? (i := 3) rfl)) (by decide) (by decide)) (g := (mkF m 248 #[.val (.long x0), .second, .val (.int x1), .val (.int x2), .val (.int x3), .val (.ref b1), .val (.int (f0_v26 x0 x1 x2 x3)), .val (.int (f0_v27 x0 x1 x2 x3)), .val (.int (f0_j68 x0 x1 x2 x3)), .unset, .unset, .unset] [(.int (f0_v27 x0 x1 x2 x3)), (.int (f0_v26 x0 x1 x2 x3)), (.int (3 : Int32)), (.int ((f0_a24 x0 x1 x2 x3) ((3 : Int32)).toNatClampNeg)), (.long (((f3 ((f0_a24 x0 x1 x2 x3) ((0 : Int32)).toNatClampNeg) (0 : Int32) (f0_v26 x0 x1 x2 x3) (f0_v27 x0 x1 x2 x3)) + (f3 ((f0_a24 x0 x1 x2 x3) ((1 : Int32)).toNatClampNeg) (1 : Int32) (f0_v26 x0 x1 x2 x3) (f0_v27 x0 x1 x2 x3))) + (f3 ((f0_a24 x0 x1 x2 x3) ((2 : Int32)).toNatClampNeg) (2 : Int32) (f0_v26 x0 x1 x2 x3) (f0_v27 x0 x1 x2 x3))))])) rfl (by rw [hml]; rfl) (argsL := [(.int ((f0_a24 x0 x1 x2 x3) ((3 : Int32)).toNatClampNeg)), (.int (3 : Int32)), (.int (f0_v26 x0 x1 x2 x3)), (.int (f0_v27 x0 x1 x2 x3))]) (rest := [(.long (((f3 ((f0_a24 x0 x1 x2 x3) ((0 : Int32)).toNatClampNeg) (0 : Int32) (f0_v26 x0 x1 x2 x3) (f0_v27 x0 x1 x2 x3)) + (f3 ((f0_a24 x0 x1 x2 x3) ((1 : Int32)).toNatClampNeg) (1 : Int32) (f0_v26 x0 x1 x2 x3) (f0_v27 x0 x1 x2 x3))) + (f3 ((f0_a24 x0 x1 x2 x3) ((2 : Int32)).toNatClampNeg) (2 : Int32) (f0_v26 x0 x1 x2 x3) (f0_v27 x0 x1 x2 x3))))]) (lenOf pd_3 rfl) rfl (by show 2 * 0 + _ ≤ _; exact Nat.le_of_eq rfl) (hb hby at_248) (fun _ _ => ⟨rfl, e78, (by decide : 1 + 0 ≤ _), (by decide : 6 + 0 ≤ _)⟩)
      dsimp only [Pt.U, Pt.locs, Pt.cells, Pt.slots] at X80 l80 y80 z80 st80 hQ80
      subst l80 y80 z80
      obtain ⟨rfl, Nq80, e80⟩ := hQ80
      have N80 := Fr.app N78 Nq80
      have Vc81 := P25
      obtain ⟨cl81, Ar81, S81, H81⟩ := Vc81
      have hin81 : 0 ≤ ((4 : Int32)).toInt ∧ ((4 : Int32)).toInt < (6 : Nat) := (by decide)
      obtain ⟨_, _, ⟨T82, L82, k82, n82⟩, -, X82, ⟨Lc82, hQ82, l82, y82, z82⟩, st82⟩ := Jvm.LawKit.callS X80 hx (y := (⟨"dev/stratumaudio/Lyrics3TagDecimalPinLaw", "contrib", "(BIII)J"⟩ : MethodName)) hown (mvT hZ (hw _ (List.mem_of_getElem? (i := 10) rfl))) (mvT hZ (hw _ (List.mem_of_getElem? (i := 11) rfl))) (mvT hZ (hw _ (List.mem_of_getElem? (i := 3) rfl))) (mvT hZ (hw _ (List.mem_of_getElem? (i := 12) rfl))) (by decide) (backOf (W := 2) (rm3 l Z a0 hw [] ((f0_a24 x0 x1 x2 x3) ((4 : Int32)).toNatClampNeg) (4 : Int32) (f0_v26 x0 x1 x2 x3) (f0_v27 x0 x1 x2 x3) h23 n0 Z23) hZ (hw _ (List.mem_of_getElem? (i := 12) rfl)) (hw _ (List.mem_of_getElem? (i := 3) rfl)) (by decide) (by decide)) (g := (mkF m 261 #[.val (.long x0), .second, .val (.int x1), .val (.int x2), .val (.int x3), .val (.ref b1), .val (.int (f0_v26 x0 x1 x2 x3)), .val (.int (f0_v27 x0 x1 x2 x3)), .val (.int (f0_j68 x0 x1 x2 x3)), .unset, .unset, .unset] [(.int (f0_v27 x0 x1 x2 x3)), (.int (f0_v26 x0 x1 x2 x3)), (.int (4 : Int32)), (.int ((f0_a24 x0 x1 x2 x3) ((4 : Int32)).toNatClampNeg)), (.long ((((f3 ((f0_a24 x0 x1 x2 x3) ((0 : Int32)).toNatClampNeg) (0 : Int32) (f0_v26 x0 x1 x2 x3) (f0_v27 x0 x1 x2 x3)) + (f3 ((f0_a24 x0 x1 x2 x3) ((1 : Int32)).toNatClampNeg) (1 : Int32) (f0_v26 x0 x1 x2 x3) (f0_v27 x0 x1 x2 x3))) + (f3 ((f0_a24 x0 x1 x2 x3) ((2 : Int32)).toNatClampNeg) (2 : Int32) (f0_v26 x0 x1 x2 x3) (f0_v27 x0 x1 x2 x3))) + (f3 ((f0_a24 x0 x1 x2 x3) ((3 : Int32)).toNatClampNeg) (3 : Int32) (f0_v26 x0 x1 x2 x3) (f0_v27 x0 x1 x2 x3))))])) rfl (by rw [hml]; rfl) (argsL := [(.int ((f0_a24 x0 x1 x2 x3) ((4 : Int32)).toNatClampNeg)), (.int (4 : Int32)), (.int (f0_v26 x0 x1 x2 x3)), (.int (f0_v27 x0 x1 x2 x3))]) (rest := [(.long ((((f3 ((f0_a24 x0 x1 x2 x3) ((0 : Int32)).toNatClampNeg) (0 : Int32) (f0_v26 x0 x1 x2 x3) (f0_v27 x0 x1 x2 x3)) + (f3 ((f0_a24 x0 x1 x2 x3) ((1 : Int32)).toNatClampNeg) (1 : Int32) (f0_v26 x0 x1 x2 x3) (f0_v27 x0 x1 x2 x3))) + (f3 ((f0_a24 x0 x1 x2 x3) ((2 : Int32)).toNatClampNeg) (2 : Int32) (f0_v26 x0 x1 x2 x3) (f0_v27 x0 x1 x2 x3))) + (f3 ((f0_a24 x0 x1 x2 x3) ((3 : Int32)).toNatClampNeg) (3 : Int32) (f0_v26 x0 x1 x2 x3) (f0_v27 x0 x1 x2 x3))))]) (lenOf pd_3 rfl) rfl (by show 2 * 0 + _ ≤ _; exact Nat.le_of_eq rfl) (hb hby at_261) (fun _ _ => ⟨rfl, e80, (by decide : 1 + 0 ≤ _), (by decide : 6 + 0 ≤ _)⟩)
      dsimp only [Pt.U, Pt.locs, Pt.cells, Pt.slots] at X82 l82 y82 z82 st82 hQ82
      subst l82 y82 z82
      obtain ⟨rfl, Nq82, e82⟩ := hQ82
      have N82 := Fr.app N80 Nq82
      have Vc83 := P25
      obtain ⟨cl83, Ar83, S83, H83⟩ := Vc83
      have hin83 : 0 ≤ ((5 : Int32)).toInt ∧ ((5 : Int32)).toInt < (6 : Nat) := (by decide)
      obtain ⟨_, _, ⟨T84, L84, k84, n84⟩, -, X84, ⟨Lc84, hQ84, l84, y84, z84⟩, st84⟩ := Jvm.LawKit.callS X82 hx (y := (⟨"dev/stratumaudio/Lyrics3TagDecimalPinLaw", "contrib", "(BIII)J"⟩ : MethodName)) hown (mvT hZ (hw _ (List.mem_of_getElem? (i := 10) rfl))) (mvT hZ (hw _ (List.mem_of_getElem? (i := 11) rfl))) (mvT hZ (hw _ (List.mem_of_getElem? (i := 3) rfl))) (mvT hZ (hw _ (List.mem_of_getElem? (i := 12) rfl))) (by decide) (backOf (W := 2) (rm3 l Z a0 hw [] ((f0_a24 x0 x1 x2 x3) ((5 : Int32)).toNatClampNeg) (5 : Int32) (f0_v26 x0 x1 x2 x3) (f0_v27 x0 x1 x2 x3) h23 n0 Z23) hZ (hw _ (List.mem_of_getElem? (i := 12) rfl)) (hw _ (List.mem_of_getElem? (i := 3) rfl)) (by decide) (by decide)) (g := (mkF m 274 #[.val (.long x0), .second, .val (.int x1), .val (.int x2), .val (.int x3), .val (.ref b1), .val (.int (f0_v26 x0 x1 x2 x3)), .val (.int (f0_v27 x0 x1 x2 x3)), .val (.int (f0_j68 x0 x1 x2 x3)), .unset, .unset, .unset] [(.int (f0_v27 x0 x1 x2 x3)), (.int (f0_v26 x0 x1 x2 x3)), (.int (5 : Int32)), (.int ((f0_a24 x0 x1 x2 x3) ((5 : Int32)).toNatClampNeg)), (.long (((((f3 ((f0_a24 x0 x1 x2 x3) ((0 : Int32)).toNatClampNeg) (0 : Int32) (f0_v26 x0 x1 x2 x3) (f0_v27 x0 x1 x2 x3)) + (f3 ((f0_a24 x0 x1 x2 x3) ((1 : Int32)).toNatClampNeg) (1 : Int32) (f0_v26 x0 x1 x2 x3) (f0_v27 x0 x1 x2 x3))) + (f3 ((f0_a24 x0 x1 x2 x3) ((2 : Int32)).toNatClampNeg) (2 : Int32) (f0_v26 x0 x1 x2 x3) (f0_v27 x0 x1 x2 x3))) + (f3 ((f0_a24 x0 x1 x2 x3) ((3 : Int32)).toNatClampNeg) (3 : Int32) (f0_v26 x0 x1 x2 x3) (f0_v27 x0 x1 x2 x3))) + (f3 ((f0_a24 x0 x1 x2 x3) ((4 : Int32)).toNatClampNeg) (4 : Int32) (f0_v26 x0 x1 x2 x3) (f0_v27 x0 x1 x2 x3))))])) rfl (by rw [hml]; rfl) (argsL := [(.int ((f0_a24 x0 x1 x2 x3) ((5 : Int32)).toNatClampNeg)), (.int (5 : Int32)), (.int (f0_v26 x0 x1 x2 x3)), (.int (f0_v27 x0 x1 x2 x3))]) (rest := [(.long (((((f3 ((f0_a24 x0 x1 x2 x3) ((0 : Int32)).toNatClampNeg) (0 : Int32) (f0_v26 x0 x1 x2 x3) (f0_v27 x0 x1 x2 x3)) + (f3 ((f0_a24 x0 x1 x2 x3) ((1 : Int32)).toNatClampNeg) (1 : Int32) (f0_v26 x0 x1 x2 x3) (f0_v27 x0 x1 x2 x3))) + (f3 ((f0_a24 x0 x1 x2 x3) ((2 : Int32)).toNatClampNeg) (2 : Int32) (f0_v26 x0 x1 x2 x3) (f0_v27 x0 x1 x2 x3))) + (f3 ((f0_a24 x0 x1 x2 x3) ((3 : Int32)).toNatClampNeg) (3 : Int32) (f0_v26 x0 x1 x2 x3) (f0_v27 x0 x1 x2 x3))) + (f3 ((f0_a24 x0 x1 x2 x3) ((4 : Int32)).toNatClampNeg) (4 : Int32) (f0_v26 x0 x1 x2 x3) (f0_v27 x0 x1 x2 x3))))]) (lenOf pd_3 rfl) rfl (by show 2 * 0 + _ ≤ _; exact Nat.le_of_eq rfl) (hb hby at_274) (fun _ _ => ⟨rfl, e82, (by decide : 1 + 0 ≤ _), (by decide : 6 + 0 ≤ _)⟩)
      dsimp only [Pt.U, Pt.locs, Pt.cells, Pt.slots] at X84 l84 y84 z84 st84 hQ84
      subst l84 y84 z84
      obtain ⟨rfl, Nq84, e84⟩ := hQ84
      have N84 := Fr.app N82 Nq84
      have pre88 : ∀ t, Steps p.tables e below (T84.setTop (mkF m 280 #[.val (.long x0), .second, .val (.int x1), .val (.int x2), .val (.int x3), .val (.ref b1), .val (.int (f0_v26 x0 x1 x2 x3)), .val (.int (f0_v27 x0 x1 x2 x3)), .val (.int (f0_j68 x0 x1 x2 x3)), .val (.long (f0_v85 x0 x1 x2 x3)), .second, .unset] [])) t → Steps p.tables e below (s₁.setTop (entryFrame m #[(.long x0), (.int x1), (.int x2), (.int x3)] maxLocals)) t := by
        intro t k
        refine pre71 _ ?_
        show Steps p.tables e below (T69.setTop (mkF m 190 #[.val (.long x0), .second, .val (.int x1), .val (.int x2), .val (.int x3), .val (.ref b1), .val (.int (f0_v26 x0 x1 x2 x3)), .val (.int (f0_v27 x0 x1 x2 x3)), .val (.int (f0_j68 x0 x1 x2 x3)), .unset, .unset, .unset] [(.int (f0_j68 x0 x1 x2 x3))])) _
        refine XS.ifYes X69.here hx rfl (pc0 := 190) (pc' := 201) rfl (hb hby at_190) rfl hc72 (by decide) (by decide) ?_
        show Steps p.tables e below (T69.setTop (mkF m 201 #[.val (.long x0), .second, .val (.int x1), .val (.int x2), .val (.int x3), .val (.ref b1), .val (.int (f0_v26 x0 x1 x2 x3)), .val (.int (f0_v27 x0 x1 x2 x3)), .val (.int (f0_j68 x0 x1 x2 x3)), .unset, .unset, .unset] [])) _
        refine XS.aload X69.here hx rfl (hb hby at_201) rfl rfl ?_
        show Steps p.tables e below (T69.setTop (mkF m 203 #[.val (.long x0), .second, .val (.int x1), .val (.int x2), .val (.int x3), .val (.ref b1), .val (.int (f0_v26 x0 x1 x2 x3)), .val (.int (f0_v27 x0 x1 x2 x3)), .val (.int (f0_j68 x0 x1 x2 x3)), .unset, .unset, .unset] [(.ref b1)])) _
        refine XS.iconst X69.here hx rfl (hb hby at_203) ?_
        show Steps p.tables e below (T69.setTop (mkF m 204 #[.val (.long x0), .second, .val (.int x1), .val (.int x2), .val (.int x3), .val (.ref b1), .val (.int (f0_v26 x0 x1 x2 x3)), .val (.int (f0_v27 x0 x1 x2 x3)), .val (.int (f0_j68 x0 x1 x2 x3)), .unset, .unset, .unset] [(.int (0 : Int32)), (.ref b1)])) _
        refine X69.baloadBytes hx (j := (0 : Int32)) (v := (.int ((f0_a24 x0 x1 x2 x3) ((0 : Int32)).toNatClampNeg))) (by rw [e69]; exact Ar73.1) (State.isArrayOf_alike hZ.alike Ar73.2.1) Ar73.2.2 (own_inb S73 hin73) (H73 _ (own_idx hin73)) (g := (mkF m 204 #[.val (.long x0), .second, .val (.int x1), .val (.int x2), .val (.int x3), .val (.ref b1), .val (.int (f0_v26 x0 x1 x2 x3)), .val (.int (f0_v27 x0 x1 x2 x3)), .val (.int (f0_j68 x0 x1 x2 x3)), .unset, .unset, .unset] [(.int (0 : Int32)), (.ref b1)])) rfl rfl (hb hby at_204) _ ?_
        show Steps p.tables e below (T69.setTop (mkF m 205 #[.val (.long x0), .second, .val (.int x1), .val (.int x2), .val (.int x3), .val (.ref b1), .val (.int (f0_v26 x0 x1 x2 x3)), .val (.int (f0_v27 x0 x1 x2 x3)), .val (.int (f0_j68 x0 x1 x2 x3)), .unset, .unset, .unset] [(.int ((f0_a24 x0 x1 x2 x3) ((0 : Int32)).toNatClampNeg))])) _
        refine XS.iconst X69.here hx rfl (hb hby at_205) ?_
        show Steps p.tables e below (T69.setTop (mkF m 206 #[.val (.long x0), .second, .val (.int x1), .val (.int x2), .val (.int x3), .val (.ref b1), .val (.int (f0_v26 x0 x1 x2 x3)), .val (.int (f0_v27 x0 x1 x2 x3)), .val (.int (f0_j68 x0 x1 x2 x3)), .unset, .unset, .unset] [(.int (0 : Int32)), (.int ((f0_a24 x0 x1 x2 x3) ((0 : Int32)).toNatClampNeg))])) _
        refine XS.iload X69.here hx rfl (hb hby at_206) rfl ?_
        show Steps p.tables e below (T69.setTop (mkF m 208 #[.val (.long x0), .second, .val (.int x1), .val (.int x2), .val (.int x3), .val (.ref b1), .val (.int (f0_v26 x0 x1 x2 x3)), .val (.int (f0_v27 x0 x1 x2 x3)), .val (.int (f0_j68 x0 x1 x2 x3)), .unset, .unset, .unset] [(.int (f0_v26 x0 x1 x2 x3)), (.int (0 : Int32)), (.int ((f0_a24 x0 x1 x2 x3) ((0 : Int32)).toNatClampNeg))])) _
        refine XS.iload X69.here hx rfl (hb hby at_208) rfl ?_
        show Steps p.tables e below (T69.setTop (mkF m 210 #[.val (.long x0), .second, .val (.int x1), .val (.int x2), .val (.int x3), .val (.ref b1), .val (.int (f0_v26 x0 x1 x2 x3)), .val (.int (f0_v27 x0 x1 x2 x3)), .val (.int (f0_j68 x0 x1 x2 x3)), .unset, .unset, .unset] [(.int (f0_v27 x0 x1 x2 x3)), (.int (f0_v26 x0 x1 x2 x3)), (.int (0 : Int32)), (.int ((f0_a24 x0 x1 x2 x3) ((0 : Int32)).toNatClampNeg))])) _
        refine st74 _ ?_
        show Steps p.tables e below (T74.setTop (mkF m 213 #[.val (.long x0), .second, .val (.int x1), .val (.int x2), .val (.int x3), .val (.ref b1), .val (.int (f0_v26 x0 x1 x2 x3)), .val (.int (f0_v27 x0 x1 x2 x3)), .val (.int (f0_j68 x0 x1 x2 x3)), .unset, .unset, .unset] [(.long (f3 ((f0_a24 x0 x1 x2 x3) ((0 : Int32)).toNatClampNeg) (0 : Int32) (f0_v26 x0 x1 x2 x3) (f0_v27 x0 x1 x2 x3)))])) _
        refine XS.aload X74.here hx rfl (hb hby at_213) rfl rfl ?_
        show Steps p.tables e below (T74.setTop (mkF m 215 #[.val (.long x0), .second, .val (.int x1), .val (.int x2), .val (.int x3), .val (.ref b1), .val (.int (f0_v26 x0 x1 x2 x3)), .val (.int (f0_v27 x0 x1 x2 x3)), .val (.int (f0_j68 x0 x1 x2 x3)), .unset, .unset, .unset] [(.ref b1), (.long (f3 ((f0_a24 x0 x1 x2 x3) ((0 : Int32)).toNatClampNeg) (0 : Int32) (f0_v26 x0 x1 x2 x3) (f0_v27 x0 x1 x2 x3)))])) _
        refine XS.iconst X74.here hx rfl (hb hby at_215) ?_
        show Steps p.tables e below (T74.setTop (mkF m 216 #[.val (.long x0), .second, .val (.int x1), .val (.int x2), .val (.int x3), .val (.ref b1), .val (.int (f0_v26 x0 x1 x2 x3)), .val (.int (f0_v27 x0 x1 x2 x3)), .val (.int (f0_j68 x0 x1 x2 x3)), .unset, .unset, .unset] [(.int (1 : Int32)), (.ref b1), (.long (f3 ((f0_a24 x0 x1 x2 x3) ((0 : Int32)).toNatClampNeg) (0 : Int32) (f0_v26 x0 x1 x2 x3) (f0_v27 x0 x1 x2 x3)))])) _
        refine X74.baloadBytes hx (j := (1 : Int32)) (v := (.int ((f0_a24 x0 x1 x2 x3) ((1 : Int32)).toNatClampNeg))) (by rw [e74]; exact Ar75.1) (State.isArrayOf_alike hZ.alike Ar75.2.1) Ar75.2.2 (own_inb S75 hin75) (H75 _ (own_idx hin75)) (g := (mkF m 216 #[.val (.long x0), .second, .val (.int x1), .val (.int x2), .val (.int x3), .val (.ref b1), .val (.int (f0_v26 x0 x1 x2 x3)), .val (.int (f0_v27 x0 x1 x2 x3)), .val (.int (f0_j68 x0 x1 x2 x3)), .unset, .unset, .unset] [(.int (1 : Int32)), (.ref b1), (.long (f3 ((f0_a24 x0 x1 x2 x3) ((0 : Int32)).toNatClampNeg) (0 : Int32) (f0_v26 x0 x1 x2 x3) (f0_v27 x0 x1 x2 x3)))])) rfl rfl (hb hby at_216) _ ?_
        show Steps p.tables e below (T74.setTop (mkF m 217 #[.val (.long x0), .second, .val (.int x1), .val (.int x2), .val (.int x3), .val (.ref b1), .val (.int (f0_v26 x0 x1 x2 x3)), .val (.int (f0_v27 x0 x1 x2 x3)), .val (.int (f0_j68 x0 x1 x2 x3)), .unset, .unset, .unset] [(.int ((f0_a24 x0 x1 x2 x3) ((1 : Int32)).toNatClampNeg)), (.long (f3 ((f0_a24 x0 x1 x2 x3) ((0 : Int32)).toNatClampNeg) (0 : Int32) (f0_v26 x0 x1 x2 x3) (f0_v27 x0 x1 x2 x3)))])) _
        refine XS.iconst X74.here hx rfl (hb hby at_217) ?_
        show Steps p.tables e below (T74.setTop (mkF m 218 #[.val (.long x0), .second, .val (.int x1), .val (.int x2), .val (.int x3), .val (.ref b1), .val (.int (f0_v26 x0 x1 x2 x3)), .val (.int (f0_v27 x0 x1 x2 x3)), .val (.int (f0_j68 x0 x1 x2 x3)), .unset, .unset, .unset] [(.int (1 : Int32)), (.int ((f0_a24 x0 x1 x2 x3) ((1 : Int32)).toNatClampNeg)), (.long (f3 ((f0_a24 x0 x1 x2 x3) ((0 : Int32)).toNatClampNeg) (0 : Int32) (f0_v26 x0 x1 x2 x3) (f0_v27 x0 x1 x2 x3)))])) _
        refine XS.iload X74.here hx rfl (hb hby at_218) rfl ?_
        show Steps p.tables e below (T74.setTop (mkF m 220 #[.val (.long x0), .second, .val (.int x1), .val (.int x2), .val (.int x3), .val (.ref b1), .val (.int (f0_v26 x0 x1 x2 x3)), .val (.int (f0_v27 x0 x1 x2 x3)), .val (.int (f0_j68 x0 x1 x2 x3)), .unset, .unset, .unset] [(.int (f0_v26 x0 x1 x2 x3)), (.int (1 : Int32)), (.int ((f0_a24 x0 x1 x2 x3) ((1 : Int32)).toNatClampNeg)), (.long (f3 ((f0_a24 x0 x1 x2 x3) ((0 : Int32)).toNatClampNeg) (0 : Int32) (f0_v26 x0 x1 x2 x3) (f0_v27 x0 x1 x2 x3)))])) _
        refine XS.iload X74.here hx rfl (hb hby at_220) rfl ?_
        show Steps p.tables e below (T74.setTop (mkF m 222 #[.val (.long x0), .second, .val (.int x1), .val (.int x2), .val (.int x3), .val (.ref b1), .val (.int (f0_v26 x0 x1 x2 x3)), .val (.int (f0_v27 x0 x1 x2 x3)), .val (.int (f0_j68 x0 x1 x2 x3)), .unset, .unset, .unset] [(.int (f0_v27 x0 x1 x2 x3)), (.int (f0_v26 x0 x1 x2 x3)), (.int (1 : Int32)), (.int ((f0_a24 x0 x1 x2 x3) ((1 : Int32)).toNatClampNeg)), (.long (f3 ((f0_a24 x0 x1 x2 x3) ((0 : Int32)).toNatClampNeg) (0 : Int32) (f0_v26 x0 x1 x2 x3) (f0_v27 x0 x1 x2 x3)))])) _
        refine st76 _ ?_
        show Steps p.tables e below (T76.setTop (mkF m 225 #[.val (.long x0), .second, .val (.int x1), .val (.int x2), .val (.int x3), .val (.ref b1), .val (.int (f0_v26 x0 x1 x2 x3)), .val (.int (f0_v27 x0 x1 x2 x3)), .val (.int (f0_j68 x0 x1 x2 x3)), .unset, .unset, .unset] [(.long (f3 ((f0_a24 x0 x1 x2 x3) ((1 : Int32)).toNatClampNeg) (1 : Int32) (f0_v26 x0 x1 x2 x3) (f0_v27 x0 x1 x2 x3))), (.long (f3 ((f0_a24 x0 x1 x2 x3) ((0 : Int32)).toNatClampNeg) (0 : Int32) (f0_v26 x0 x1 x2 x3) (f0_v27 x0 x1 x2 x3)))])) _
        refine XS.ladd X76.here hx rfl (hb hby at_225) rfl ?_
        show Steps p.tables e below (T76.setTop (mkF m 226 #[.val (.long x0), .second, .val (.int x1), .val (.int x2), .val (.int x3), .val (.ref b1), .val (.int (f0_v26 x0 x1 x2 x3)), .val (.int (f0_v27 x0 x1 x2 x3)), .val (.int (f0_j68 x0 x1 x2 x3)), .unset, .unset, .unset] [(.long ((f3 ((f0_a24 x0 x1 x2 x3) ((0 : Int32)).toNatClampNeg) (0 : Int32) (f0_v26 x0 x1 x2 x3) (f0_v27 x0 x1 x2 x3)) + (f3 ((f0_a24 x0 x1 x2 x3) ((1 : Int32)).toNatClampNeg) (1 : Int32) (f0_v26 x0 x1 x2 x3) (f0_v27 x0 x1 x2 x3))))])) _
        refine XS.aload X76.here hx rfl (hb hby at_226) rfl rfl ?_
        show Steps p.tables e below (T76.setTop (mkF m 228 #[.val (.long x0), .second, .val (.int x1), .val (.int x2), .val (.int x3), .val (.ref b1), .val (.int (f0_v26 x0 x1 x2 x3)), .val (.int (f0_v27 x0 x1 x2 x3)), .val (.int (f0_j68 x0 x1 x2 x3)), .unset, .unset, .unset] [(.ref b1), (.long ((f3 ((f0_a24 x0 x1 x2 x3) ((0 : Int32)).toNatClampNeg) (0 : Int32) (f0_v26 x0 x1 x2 x3) (f0_v27 x0 x1 x2 x3)) + (f3 ((f0_a24 x0 x1 x2 x3) ((1 : Int32)).toNatClampNeg) (1 : Int32) (f0_v26 x0 x1 x2 x3) (f0_v27 x0 x1 x2 x3))))])) _
        refine XS.iconst X76.here hx rfl (hb hby at_228) ?_
        show Steps p.tables e below (T76.setTop (mkF m 229 #[.val (.long x0), .second, .val (.int x1), .val (.int x2), .val (.int x3), .val (.ref b1), .val (.int (f0_v26 x0 x1 x2 x3)), .val (.int (f0_v27 x0 x1 x2 x3)), .val (.int (f0_j68 x0 x1 x2 x3)), .unset, .unset, .unset] [(.int (2 : Int32)), (.ref b1), (.long ((f3 ((f0_a24 x0 x1 x2 x3) ((0 : Int32)).toNatClampNeg) (0 : Int32) (f0_v26 x0 x1 x2 x3) (f0_v27 x0 x1 x2 x3)) + (f3 ((f0_a24 x0 x1 x2 x3) ((1 : Int32)).toNatClampNeg) (1 : Int32) (f0_v26 x0 x1 x2 x3) (f0_v27 x0 x1 x2 x3))))])) _
        refine X76.baloadBytes hx (j := (2 : Int32)) (v := (.int ((f0_a24 x0 x1 x2 x3) ((2 : Int32)).toNatClampNeg))) (by rw [e76]; exact Ar77.1) (State.isArrayOf_alike hZ.alike Ar77.2.1) Ar77.2.2 (own_inb S77 hin77) (H77 _ (own_idx hin77)) (g := (mkF m 229 #[.val (.long x0), .second, .val (.int x1), .val (.int x2), .val (.int x3), .val (.ref b1), .val (.int (f0_v26 x0 x1 x2 x3)), .val (.int (f0_v27 x0 x1 x2 x3)), .val (.int (f0_j68 x0 x1 x2 x3)), .unset, .unset, .unset] [(.int (2 : Int32)), (.ref b1), (.long ((f3 ((f0_a24 x0 x1 x2 x3) ((0 : Int32)).toNatClampNeg) (0 : Int32) (f0_v26 x0 x1 x2 x3) (f0_v27 x0 x1 x2 x3)) + (f3 ((f0_a24 x0 x1 x2 x3) ((1 : Int32)).toNatClampNeg) (1 : Int32) (f0_v26 x0 x1 x2 x3) (f0_v27 x0 x1 x2 x3))))])) rfl rfl (hb hby at_229) _ ?_
        show Steps p.tables e below (T76.setTop (mkF m 230 #[.val (.long x0), .second, .val (.int x1), .val (.int x2), .val (.int x3), .val (.ref b1), .val (.int (f0_v26 x0 x1 x2 x3)), .val (.int (f0_v27 x0 x1 x2 x3)), .val (.int (f0_j68 x0 x1 x2 x3)), .unset, .unset, .unset] [(.int ((f0_a24 x0 x1 x2 x3) ((2 : Int32)).toNatClampNeg)), (.long ((f3 ((f0_a24 x0 x1 x2 x3) ((0 : Int32)).toNatClampNeg) (0 : Int32) (f0_v26 x0 x1 x2 x3) (f0_v27 x0 x1 x2 x3)) + (f3 ((f0_a24 x0 x1 x2 x3) ((1 : Int32)).toNatClampNeg) (1 : Int32) (f0_v26 x0 x1 x2 x3) (f0_v27 x0 x1 x2 x3))))])) _
        refine XS.iconst X76.here hx rfl (hb hby at_230) ?_
        show Steps p.tables e below (T76.setTop (mkF m 231 #[.val (.long x0), .second, .val (.int x1), .val (.int x2), .val (.int x3), .val (.ref b1), .val (.int (f0_v26 x0 x1 x2 x3)), .val (.int (f0_v27 x0 x1 x2 x3)), .val (.int (f0_j68 x0 x1 x2 x3)), .unset, .unset, .unset] [(.int (2 : Int32)), (.int ((f0_a24 x0 x1 x2 x3) ((2 : Int32)).toNatClampNeg)), (.long ((f3 ((f0_a24 x0 x1 x2 x3) ((0 : Int32)).toNatClampNeg) (0 : Int32) (f0_v26 x0 x1 x2 x3) (f0_v27 x0 x1 x2 x3)) + (f3 ((f0_a24 x0 x1 x2 x3) ((1 : Int32)).toNatClampNeg) (1 : Int32) (f0_v26 x0 x1 x2 x3) (f0_v27 x0 x1 x2 x3))))])) _
        refine XS.iload X76.here hx rfl (hb hby at_231) rfl ?_
        show Steps p.tables e below (T76.setTop (mkF m 233 #[.val (.long x0), .second, .val (.int x1), .val (.int x2), .val (.int x3), .val (.ref b1), .val (.int (f0_v26 x0 x1 x2 x3)), .val (.int (f0_v27 x0 x1 x2 x3)), .val (.int (f0_j68 x0 x1 x2 x3)), .unset, .unset, .unset] [(.int (f0_v26 x0 x1 x2 x3)), (.int (2 : Int32)), (.int ((f0_a24 x0 x1 x2 x3) ((2 : Int32)).toNatClampNeg)), (.long ((f3 ((f0_a24 x0 x1 x2 x3) ((0 : Int32)).toNatClampNeg) (0 : Int32) (f0_v26 x0 x1 x2 x3) (f0_v27 x0 x1 x2 x3)) + (f3 ((f0_a24 x0 x1 x2 x3) ((1 : Int32)).toNatClampNeg) (1 : Int32) (f0_v26 x0 x1 x2 x3) (f0_v27 x0 x1 x2 x3))))])) _
        refine XS.iload X76.here hx rfl (hb hby at_233) rfl ?_
        show Steps p.tables e below (T76.setTop (mkF m 235 #[.val (.long x0), .second, .val (.int x1), .val (.int x2), .val (.int x3), .val (.ref b1), .val (.int (f0_v26 x0 x1 x2 x3)), .val (.int (f0_v27 x0 x1 x2 x3)), .val (.int (f0_j68 x0 x1 x2 x3)), .unset, .unset, .unset] [(.int (f0_v27 x0 x1 x2 x3)), (.int (f0_v26 x0 x1 x2 x3)), (.int (2 : Int32)), (.int ((f0_a24 x0 x1 x2 x3) ((2 : Int32)).toNatClampNeg)), (.long ((f3 ((f0_a24 x0 x1 x2 x3) ((0 : Int32)).toNatClampNeg) (0 : Int32) (f0_v26 x0 x1 x2 x3) (f0_v27 x0 x1 x2 x3)) + (f3 ((f0_a24 x0 x1 x2 x3) ((1 : Int32)).toNatClampNeg) (1 : Int32) (f0_v26 x0 x1 x2 x3) (f0_v27 x0 x1 x2 x3))))])) _
        refine st78 _ ?_
        show Steps p.tables e below (T78.setTop (mkF m 238 #[.val (.long x0), .second, .val (.int x1), .val (.int x2), .val (.int x3), .val (.ref b1), .val (.int (f0_v26 x0 x1 x2 x3)), .val (.int (f0_v27 x0 x1 x2 x3)), .val (.int (f0_j68 x0 x1 x2 x3)), .unset, .unset, .unset] [(.long (f3 ((f0_a24 x0 x1 x2 x3) ((2 : Int32)).toNatClampNeg) (2 : Int32) (f0_v26 x0 x1 x2 x3) (f0_v27 x0 x1 x2 x3))), (.long ((f3 ((f0_a24 x0 x1 x2 x3) ((0 : Int32)).toNatClampNeg) (0 : Int32) (f0_v26 x0 x1 x2 x3) (f0_v27 x0 x1 x2 x3)) + (f3 ((f0_a24 x0 x1 x2 x3) ((1 : Int32)).toNatClampNeg) (1 : Int32) (f0_v26 x0 x1 x2 x3) (f0_v27 x0 x1 x2 x3))))])) _
        refine XS.ladd X78.here hx rfl (hb hby at_238) rfl ?_
        show Steps p.tables e below (T78.setTop (mkF m 239 #[.val (.long x0), .second, .val (.int x1), .val (.int x2), .val (.int x3), .val (.ref b1), .val (.int (f0_v26 x0 x1 x2 x3)), .val (.int (f0_v27 x0 x1 x2 x3)), .val (.int (f0_j68 x0 x1 x2 x3)), .unset, .unset, .unset] [(.long (((f3 ((f0_a24 x0 x1 x2 x3) ((0 : Int32)).toNatClampNeg) (0 : Int32) (f0_v26 x0 x1 x2 x3) (f0_v27 x0 x1 x2 x3)) + (f3 ((f0_a24 x0 x1 x2 x3) ((1 : Int32)).toNatClampNeg) (1 : Int32) (f0_v26 x0 x1 x2 x3) (f0_v27 x0 x1 x2 x3))) + (f3 ((f0_a24 x0 x1 x2 x3) ((2 : Int32)).toNatClampNeg) (2 : Int32) (f0_v26 x0 x1 x2 x3) (f0_v27 x0 x1 x2 x3))))])) _
        refine XS.aload X78.here hx rfl (hb hby at_239) rfl rfl ?_
        show Steps p.tables e below (T78.setTop (mkF m 241 #[.val (.long x0), .second, .val (.int x1), .val (.int x2), .val (.int x3), .val (.ref b1), .val (.int (f0_v26 x0 x1 x2 x3)), .val (.int (f0_v27 x0 x1 x2 x3)), .val (.int (f0_j68 x0 x1 x2 x3)), .unset, .unset, .unset] [(.ref b1), (.long (((f3 ((f0_a24 x0 x1 x2 x3) ((0 : Int32)).toNatClampNeg) (0 : Int32) (f0_v26 x0 x1 x2 x3) (f0_v27 x0 x1 x2 x3)) + (f3 ((f0_a24 x0 x1 x2 x3) ((1 : Int32)).toNatClampNeg) (1 : Int32) (f0_v26 x0 x1 x2 x3) (f0_v27 x0 x1 x2 x3))) + (f3 ((f0_a24 x0 x1 x2 x3) ((2 : Int32)).toNatClampNeg) (2 : Int32) (f0_v26 x0 x1 x2 x3) (f0_v27 x0 x1 x2 x3))))])) _
        refine XS.iconst X78.here hx rfl (hb hby at_241) ?_
        show Steps p.tables e below (T78.setTop (mkF m 242 #[.val (.long x0), .second, .val (.int x1), .val (.int x2), .val (.int x3), .val (.ref b1), .val (.int (f0_v26 x0 x1 x2 x3)), .val (.int (f0_v27 x0 x1 x2 x3)), .val (.int (f0_j68 x0 x1 x2 x3)), .unset, .unset, .unset] [(.int (3 : Int32)), (.ref b1), (.long (((f3 ((f0_a24 x0 x1 x2 x3) ((0 : Int32)).toNatClampNeg) (0 : Int32) (f0_v26 x0 x1 x2 x3) (f0_v27 x0 x1 x2 x3)) + (f3 ((f0_a24 x0 x1 x2 x3) ((1 : Int32)).toNatClampNeg) (1 : Int32) (f0_v26 x0 x1 x2 x3) (f0_v27 x0 x1 x2 x3))) + (f3 ((f0_a24 x0 x1 x2 x3) ((2 : Int32)).toNatClampNeg) (2 : Int32) (f0_v26 x0 x1 x2 x3) (f0_v27 x0 x1 x2 x3))))])) _
        refine X78.baloadBytes hx (j := (3 : Int32)) (v := (.int ((f0_a24 x0 x1 x2 x3) ((3 : Int32)).toNatClampNeg))) (by rw [e78]; exact Ar79.1) (State.isArrayOf_alike hZ.alike Ar79.2.1) Ar79.2.2 (own_inb S79 hin79) (H79 _ (own_idx hin79)) (g := (mkF m 242 #[.val (.long x0), .second, .val (.int x1), .val (.int x2), .val (.int x3), .val (.ref b1), .val (.int (f0_v26 x0 x1 x2 x3)), .val (.int (f0_v27 x0 x1 x2 x3)), .val (.int (f0_j68 x0 x1 x2 x3)), .unset, .unset, .unset] [(.int (3 : Int32)), (.ref b1), (.long (((f3 ((f0_a24 x0 x1 x2 x3) ((0 : Int32)).toNatClampNeg) (0 : Int32) (f0_v26 x0 x1 x2 x3) (f0_v27 x0 x1 x2 x3)) + (f3 ((f0_a24 x0 x1 x2 x3) ((1 : Int32)).toNatClampNeg) (1 : Int32) (f0_v26 x0 x1 x2 x3) (f0_v27 x0 x1 x2 x3))) + (f3 ((f0_a24 x0 x1 x2 x3) ((2 : Int32)).toNatClampNeg) (2 : Int32) (f0_v26 x0 x1 x2 x3) (f0_v27 x0 x1 x2 x3))))])) rfl rfl (hb hby at_242) _ ?_
        show Steps p.tables e below (T78.setTop (mkF m 243 #[.val (.long x0), .second, .val (.int x1), .val (.int x2), .val (.int x3), .val (.ref b1), .val (.int (f0_v26 x0 x1 x2 x3)), .val (.int (f0_v27 x0 x1 x2 x3)), .val (.int (f0_j68 x0 x1 x2 x3)), .unset, .unset, .unset] [(.int ((f0_a24 x0 x1 x2 x3) ((3 : Int32)).toNatClampNeg)), (.long (((f3 ((f0_a24 x0 x1 x2 x3) ((0 : Int32)).toNatClampNeg) (0 : Int32) (f0_v26 x0 x1 x2 x3) (f0_v27 x0 x1 x2 x3)) + (f3 ((f0_a24 x0 x1 x2 x3) ((1 : Int32)).toNatClampNeg) (1 : Int32) (f0_v26 x0 x1 x2 x3) (f0_v27 x0 x1 x2 x3))) + (f3 ((f0_a24 x0 x1 x2 x3) ((2 : Int32)).toNatClampNeg) (2 : Int32) (f0_v26 x0 x1 x2 x3) (f0_v27 x0 x1 x2 x3))))])) _
        refine XS.iconst X78.here hx rfl (hb hby at_243) ?_
        show Steps p.tables e below (T78.setTop (mkF m 244 #[.val (.long x0), .second, .val (.int x1), .val (.int x2), .val (.int x3), .val (.ref b1), .val (.int (f0_v26 x0 x1 x2 x3)), .val (.int (f0_v27 x0 x1 x2 x3)), .val (.int (f0_j68 x0 x1 x2 x3)), .unset, .unset, .unset] [(.int (3 : Int32)), (.int ((f0_a24 x0 x1 x2 x3) ((3 : Int32)).toNatClampNeg)), (.long (((f3 ((f0_a24 x0 x1 x2 x3) ((0 : Int32)).toNatClampNeg) (0 : Int32) (f0_v26 x0 x1 x2 x3) (f0_v27 x0 x1 x2 x3)) + (f3 ((f0_a24 x0 x1 x2 x3) ((1 : Int32)).toNatClampNeg) (1 : Int32) (f0_v26 x0 x1 x2 x3) (f0_v27 x0 x1 x2 x3))) + (f3 ((f0_a24 x0 x1 x2 x3) ((2 : Int32)).toNatClampNeg) (2 : Int32) (f0_v26 x0 x1 x2 x3) (f0_v27 x0 x1 x2 x3))))])) _
        refine XS.iload X78.here hx rfl (hb hby at_244) rfl ?_
        show Steps p.tables e below (T78.setTop (mkF m 246 #[.val (.long x0), .second, .val (.int x1), .val (.int x2), .val (.int x3), .val (.ref b1), .val (.int (f0_v26 x0 x1 x2 x3)), .val (.int (f0_v27 x0 x1 x2 x3)), .val (.int (f0_j68 x0 x1 x2 x3)), .unset, .unset, .unset] [(.int (f0_v26 x0 x1 x2 x3)), (.int (3 : Int32)), (.int ((f0_a24 x0 x1 x2 x3) ((3 : Int32)).toNatClampNeg)), (.long (((f3 ((f0_a24 x0 x1 x2 x3) ((0 : Int32)).toNatClampNeg) (0 : Int32) (f0_v26 x0 x1 x2 x3) (f0_v27 x0 x1 x2 x3)) + (f3 ((f0_a24 x0 x1 x2 x3) ((1 : Int32)).toNatClampNeg) (1 : Int32) (f0_v26 x0 x1 x2 x3) (f0_v27 x0 x1 x2 x3))) + (f3 ((f0_a24 x0 x1 x2 x3) ((2 : Int32)).toNatClampNeg) (2 : Int32) (f0_v26 x0 x1 x2 x3) (f0_v27 x0 x1 x2 x3))))])) _
        refine XS.iload X78.here hx rfl (hb hby at_246) rfl ?_
        show Steps p.tables e below (T78.setTop (mkF m 248 #[.val (.long x0), .second, .val (.int x1), .val (.int x2), .val (.int x3), .val (.ref b1), .val (.int (f0_v26 x0 x1 x2 x3)), .val (.int (f0_v27 x0 x1 x2 x3)), .val (.int (f0_j68 x0 x1 x2 x3)), .unset, .unset, .unset] [(.int (f0_v27 x0 x1 x2 x3)), (.int (f0_v26 x0 x1 x2 x3)), (.int (3 : Int32)), (.int ((f0_a24 x0 x1 x2 x3) ((3 : Int32)).toNatClampNeg)), (.long (((f3 ((f0_a24 x0 x1 x2 x3) ((0 : Int32)).toNatClampNeg) (0 : Int32) (f0_v26 x0 x1 x2 x3) (f0_v27 x0 x1 x2 x3)) + (f3 ((f0_a24 x0 x1 x2 x3) ((1 : Int32)).toNatClampNeg) (1 : Int32) (f0_v26 x0 x1 x2 x3) (f0_v27 x0 x1 x2 x3))) + (f3 ((f0_a24 x0 x1 x2 x3) ((2 : Int32)).toNatClampNeg) (2 : Int32) (f0_v26 x0 x1 x2 x3) (f0_v27 x0 x1 x2 x3))))])) _
        refine st80 _ ?_
        show Steps p.tables e below (T80.setTop (mkF m 251 #[.val (.long x0), .second, .val (.int x1), .val (.int x2), .val (.int x3), .val (.ref b1), .val (.int (f0_v26 x0 x1 x2 x3)), .val (.int (f0_v27 x0 x1 x2 x3)), .val (.int (f0_j68 x0 x1 x2 x3)), .unset, .unset, .unset] [(.long (f3 ((f0_a24 x0 x1 x2 x3) ((3 : Int32)).toNatClampNeg) (3 : Int32) (f0_v26 x0 x1 x2 x3) (f0_v27 x0 x1 x2 x3))), (.long (((f3 ((f0_a24 x0 x1 x2 x3) ((0 : Int32)).toNatClampNeg) (0 : Int32) (f0_v26 x0 x1 x2 x3) (f0_v27 x0 x1 x2 x3)) + (f3 ((f0_a24 x0 x1 x2 x3) ((1 : Int32)).toNatClampNeg) (1 : Int32) (f0_v26 x0 x1 x2 x3) (f0_v27 x0 x1 x2 x3))) + (f3 ((f0_a24 x0 x1 x2 x3) ((2 : Int32)).toNatClampNeg) (2 : Int32) (f0_v26 x0 x1 x2 x3) (f0_v27 x0 x1 x2 x3))))])) _
        refine XS.ladd X80.here hx rfl (hb hby at_251) rfl ?_
        show Steps p.tables e below (T80.setTop (mkF m 252 #[.val (.long x0), .second, .val (.int x1), .val (.int x2), .val (.int x3), .val (.ref b1), .val (.int (f0_v26 x0 x1 x2 x3)), .val (.int (f0_v27 x0 x1 x2 x3)), .val (.int (f0_j68 x0 x1 x2 x3)), .unset, .unset, .unset] [(.long ((((f3 ((f0_a24 x0 x1 x2 x3) ((0 : Int32)).toNatClampNeg) (0 : Int32) (f0_v26 x0 x1 x2 x3) (f0_v27 x0 x1 x2 x3)) + (f3 ((f0_a24 x0 x1 x2 x3) ((1 : Int32)).toNatClampNeg) (1 : Int32) (f0_v26 x0 x1 x2 x3) (f0_v27 x0 x1 x2 x3))) + (f3 ((f0_a24 x0 x1 x2 x3) ((2 : Int32)).toNatClampNeg) (2 : Int32) (f0_v26 x0 x1 x2 x3) (f0_v27 x0 x1 x2 x3))) + (f3 ((f0_a24 x0 x1 x2 x3) ((3 : Int32)).toNatClampNeg) (3 : Int32) (f0_v26 x0 x1 x2 x3) (f0_v27 x0 x1 x2 x3))))])) _
        refine XS.aload X80.here hx rfl (hb hby at_252) rfl rfl ?_
        show Steps p.tables e below (T80.setTop (mkF m 254 #[.val (.long x0), .second, .val (.int x1), .val (.int x2), .val (.int x3), .val (.ref b1), .val (.int (f0_v26 x0 x1 x2 x3)), .val (.int (f0_v27 x0 x1 x2 x3)), .val (.int (f0_j68 x0 x1 x2 x3)), .unset, .unset, .unset] [(.ref b1), (.long ((((f3 ((f0_a24 x0 x1 x2 x3) ((0 : Int32)).toNatClampNeg) (0 : Int32) (f0_v26 x0 x1 x2 x3) (f0_v27 x0 x1 x2 x3)) + (f3 ((f0_a24 x0 x1 x2 x3) ((1 : Int32)).toNatClampNeg) (1 : Int32) (f0_v26 x0 x1 x2 x3) (f0_v27 x0 x1 x2 x3))) + (f3 ((f0_a24 x0 x1 x2 x3) ((2 : Int32)).toNatClampNeg) (2 : Int32) (f0_v26 x0 x1 x2 x3) (f0_v27 x0 x1 x2 x3))) + (f3 ((f0_a24 x0 x1 x2 x3) ((3 : Int32)).toNatClampNeg) (3 : Int32) (f0_v26 x0 x1 x2 x3) (f0_v27 x0 x1 x2 x3))))])) _
        refine XS.iconst X80.here hx rfl (hb hby at_254) ?_
        show Steps p.tables e below (T80.setTop (mkF m 255 #[.val (.long x0), .second, .val (.int x1), .val (.int x2), .val (.int x3), .val (.ref b1), .val (.int (f0_v26 x0 x1 x2 x3)), .val (.int (f0_v27 x0 x1 x2 x3)), .val (.int (f0_j68 x0 x1 x2 x3)), .unset, .unset, .unset] [(.int (4 : Int32)), (.ref b1), (.long ((((f3 ((f0_a24 x0 x1 x2 x3) ((0 : Int32)).toNatClampNeg) (0 : Int32) (f0_v26 x0 x1 x2 x3) (f0_v27 x0 x1 x2 x3)) + (f3 ((f0_a24 x0 x1 x2 x3) ((1 : Int32)).toNatClampNeg) (1 : Int32) (f0_v26 x0 x1 x2 x3) (f0_v27 x0 x1 x2 x3))) + (f3 ((f0_a24 x0 x1 x2 x3) ((2 : Int32)).toNatClampNeg) (2 : Int32) (f0_v26 x0 x1 x2 x3) (f0_v27 x0 x1 x2 x3))) + (f3 ((f0_a24 x0 x1 x2 x3) ((3 : Int32)).toNatClampNeg) (3 : Int32) (f0_v26 x0 x1 x2 x3) (f0_v27 x0 x1 x2 x3))))])) _
        refine X80.baloadBytes hx (j := (4 : Int32)) (v := (.int ((f0_a24 x0 x1 x2 x3) ((4 : Int32)).toNatClampNeg))) (by rw [e80]; exact Ar81.1) (State.isArrayOf_alike hZ.alike Ar81.2.1) Ar81.2.2 (own_inb S81 hin81) (H81 _ (own_idx hin81)) (g := (mkF m 255 #[.val (.long x0), .second, .val (.int x1), .val (.int x2), .val (.int x3), .val (.ref b1), .val (.int (f0_v26 x0 x1 x2 x3)), .val (.int (f0_v27 x0 x1 x2 x3)), .val (.int (f0_j68 x0 x1 x2 x3)), .unset, .unset, .unset] [(.int (4 : Int32)), (.ref b1), (.long ((((f3 ((f0_a24 x0 x1 x2 x3) ((0 : Int32)).toNatClampNeg) (0 : Int32) (f0_v26 x0 x1 x2 x3) (f0_v27 x0 x1 x2 x3)) + (f3 ((f0_a24 x0 x1 x2 x3) ((1 : Int32)).toNatClampNeg) (1 : Int32) (f0_v26 x0 x1 x2 x3) (f0_v27 x0 x1 x2 x3))) + (f3 ((f0_a24 x0 x1 x2 x3) ((2 : Int32)).toNatClampNeg) (2 : Int32) (f0_v26 x0 x1 x2 x3) (f0_v27 x0 x1 x2 x3))) + (f3 ((f0_a24 x0 x1 x2 x3) ((3 : Int32)).toNatClampNeg) (3 : Int32) (f0_v26 x0 x1 x2 x3) (f0_v27 x0 x1 x2 x3))))])) rfl rfl (hb hby at_255) _ ?_
        show Steps p.tables e below (T80.setTop (mkF m 256 #[.val (.long x0), .second, .val (.int x1), .val (.int x2), .val (.int x3), .val (.ref b1), .val (.int (f0_v26 x0 x1 x2 x3)), .val (.int (f0_v27 x0 x1 x2 x3)), .val (.int (f0_j68 x0 x1 x2 x3)), .unset, .unset, .unset] [(.int ((f0_a24 x0 x1 x2 x3) ((4 : Int32)).toNatClampNeg)), (.long ((((f3 ((f0_a24 x0 x1 x2 x3) ((0 : Int32)).toNatClampNeg) (0 : Int32) (f0_v26 x0 x1 x2 x3) (f0_v27 x0 x1 x2 x3)) + (f3 ((f0_a24 x0 x1 x2 x3) ((1 : Int32)).toNatClampNeg) (1 : Int32) (f0_v26 x0 x1 x2 x3) (f0_v27 x0 x1 x2 x3))) + (f3 ((f0_a24 x0 x1 x2 x3) ((2 : Int32)).toNatClampNeg) (2 : Int32) (f0_v26 x0 x1 x2 x3) (f0_v27 x0 x1 x2 x3))) + (f3 ((f0_a24 x0 x1 x2 x3) ((3 : Int32)).toNatClampNeg) (3 : Int32) (f0_v26 x0 x1 x2 x3) (f0_v27 x0 x1 x2 x3))))])) _
        refine XS.iconst X80.here hx rfl (hb hby at_256) ?_
        show Steps p.tables e below (T80.setTop (mkF m 257 #[.val (.long x0), .second, .val (.int x1), .val (.int x2), .val (.int x3), .val (.ref b1), .val (.int (f0_v26 x0 x1 x2 x3)), .val (.int (f0_v27 x0 x1 x2 x3)), .val (.int (f0_j68 x0 x1 x2 x3)), .unset, .unset, .unset] [(.int (4 : Int32)), (.int ((f0_a24 x0 x1 x2 x3) ((4 : Int32)).toNatClampNeg)), (.long ((((f3 ((f0_a24 x0 x1 x2 x3) ((0 : Int32)).toNatClampNeg) (0 : Int32) (f0_v26 x0 x1 x2 x3) (f0_v27 x0 x1 x2 x3)) + (f3 ((f0_a24 x0 x1 x2 x3) ((1 : Int32)).toNatClampNeg) (1 : Int32) (f0_v26 x0 x1 x2 x3) (f0_v27 x0 x1 x2 x3))) + (f3 ((f0_a24 x0 x1 x2 x3) ((2 : Int32)).toNatClampNeg) (2 : Int32) (f0_v26 x0 x1 x2 x3) (f0_v27 x0 x1 x2 x3))) + (f3 ((f0_a24 x0 x1 x2 x3) ((3 : Int32)).toNatClampNeg) (3 : Int32) (f0_v26 x0 x1 x2 x3) (f0_v27 x0 x1 x2 x3))))])) _
        refine XS.iload X80.here hx rfl (hb hby at_257) rfl ?_
        show Steps p.tables e below (T80.setTop (mkF m 259 #[.val (.long x0), .second, .val (.int x1), .val (.int x2), .val (.int x3), .val (.ref b1), .val (.int (f0_v26 x0 x1 x2 x3)), .val (.int (f0_v27 x0 x1 x2 x3)), .val (.int (f0_j68 x0 x1 x2 x3)), .unset, .unset, .unset] [(.int (f0_v26 x0 x1 x2 x3)), (.int (4 : Int32)), (.int ((f0_a24 x0 x1 x2 x3) ((4 : Int32)).toNatClampNeg)), (.long ((((f3 ((f0_a24 x0 x1 x2 x3) ((0 : Int32)).toNatClampNeg) (0 : Int32) (f0_v26 x0 x1 x2 x3) (f0_v27 x0 x1 x2 x3)) + (f3 ((f0_a24 x0 x1 x2 x3) ((1 : Int32)).toNatClampNeg) (1 : Int32) (f0_v26 x0 x1 x2 x3) (f0_v27 x0 x1 x2 x3))) + (f3 ((f0_a24 x0 x1 x2 x3) ((2 : Int32)).toNatClampNeg) (2 : Int32) (f0_v26 x0 x1 x2 x3) (f0_v27 x0 x1 x2 x3))) + (f3 ((f0_a24 x0 x1 x2 x3) ((3 : Int32)).toNatClampNeg) (3 : Int32) (f0_v26 x0 x1 x2 x3) (f0_v27 x0 x1 x2 x3))))])) _
        refine XS.iload X80.here hx rfl (hb hby at_259) rfl ?_
        show Steps p.tables e below (T80.setTop (mkF m 261 #[.val (.long x0), .second, .val (.int x1), .val (.int x2), .val (.int x3), .val (.ref b1), .val (.int (f0_v26 x0 x1 x2 x3)), .val (.int (f0_v27 x0 x1 x2 x3)), .val (.int (f0_j68 x0 x1 x2 x3)), .unset, .unset, .unset] [(.int (f0_v27 x0 x1 x2 x3)), (.int (f0_v26 x0 x1 x2 x3)), (.int (4 : Int32)), (.int ((f0_a24 x0 x1 x2 x3) ((4 : Int32)).toNatClampNeg)), (.long ((((f3 ((f0_a24 x0 x1 x2 x3) ((0 : Int32)).toNatClampNeg) (0 : Int32) (f0_v26 x0 x1 x2 x3) (f0_v27 x0 x1 x2 x3)) + (f3 ((f0_a24 x0 x1 x2 x3) ((1 : Int32)).toNatClampNeg) (1 : Int32) (f0_v26 x0 x1 x2 x3) (f0_v27 x0 x1 x2 x3))) + (f3 ((f0_a24 x0 x1 x2 x3) ((2 : Int32)).toNatClampNeg) (2 : Int32) (f0_v26 x0 x1 x2 x3) (f0_v27 x0 x1 x2 x3))) + (f3 ((f0_a24 x0 x1 x2 x3) ((3 : Int32)).toNatClampNeg) (3 : Int32) (f0_v26 x0 x1 x2 x3) (f0_v27 x0 x1 x2 x3))))])) _
        refine st82 _ ?_
        show Steps p.tables e below (T82.setTop (mkF m 264 #[.val (.long x0), .second, .val (.int x1), .val (.int x2), .val (.int x3), .val (.ref b1), .val (.int (f0_v26 x0 x1 x2 x3)), .val (.int (f0_v27 x0 x1 x2 x3)), .val (.int (f0_j68 x0 x1 x2 x3)), .unset, .unset, .unset] [(.long (f3 ((f0_a24 x0 x1 x2 x3) ((4 : Int32)).toNatClampNeg) (4 : Int32) (f0_v26 x0 x1 x2 x3) (f0_v27 x0 x1 x2 x3))), (.long ((((f3 ((f0_a24 x0 x1 x2 x3) ((0 : Int32)).toNatClampNeg) (0 : Int32) (f0_v26 x0 x1 x2 x3) (f0_v27 x0 x1 x2 x3)) + (f3 ((f0_a24 x0 x1 x2 x3) ((1 : Int32)).toNatClampNeg) (1 : Int32) (f0_v26 x0 x1 x2 x3) (f0_v27 x0 x1 x2 x3))) + (f3 ((f0_a24 x0 x1 x2 x3) ((2 : Int32)).toNatClampNeg) (2 : Int32) (f0_v26 x0 x1 x2 x3) (f0_v27 x0 x1 x2 x3))) + (f3 ((f0_a24 x0 x1 x2 x3) ((3 : Int32)).toNatClampNeg) (3 : Int32) (f0_v26 x0 x1 x2 x3) (f0_v27 x0 x1 x2 x3))))])) _
        refine XS.ladd X82.here hx rfl (hb hby at_264) rfl ?_
        show Steps p.tables e below (T82.setTop (mkF m 265 #[.val (.long x0), .second, .val (.int x1), .val (.int x2), .val (.int x3), .val (.ref b1), .val (.int (f0_v26 x0 x1 x2 x3)), .val (.int (f0_v27 x0 x1 x2 x3)), .val (.int (f0_j68 x0 x1 x2 x3)), .unset, .unset, .unset] [(.long (((((f3 ((f0_a24 x0 x1 x2 x3) ((0 : Int32)).toNatClampNeg) (0 : Int32) (f0_v26 x0 x1 x2 x3) (f0_v27 x0 x1 x2 x3)) + (f3 ((f0_a24 x0 x1 x2 x3) ((1 : Int32)).toNatClampNeg) (1 : Int32) (f0_v26 x0 x1 x2 x3) (f0_v27 x0 x1 x2 x3))) + (f3 ((f0_a24 x0 x1 x2 x3) ((2 : Int32)).toNatClampNeg) (2 : Int32) (f0_v26 x0 x1 x2 x3) (f0_v27 x0 x1 x2 x3))) + (f3 ((f0_a24 x0 x1 x2 x3) ((3 : Int32)).toNatClampNeg) (3 : Int32) (f0_v26 x0 x1 x2 x3) (f0_v27 x0 x1 x2 x3))) + (f3 ((f0_a24 x0 x1 x2 x3) ((4 : Int32)).toNatClampNeg) (4 : Int32) (f0_v26 x0 x1 x2 x3) (f0_v27 x0 x1 x2 x3))))])) _
        refine XS.aload X82.here hx rfl (hb hby at_265) rfl rfl ?_
        show Steps p.tables e below (T82.setTop (mkF m 267 #[.val (.long x0), .second, .val (.int x1), .val (.int x2), .val (.int x3), .val (.ref b1), .val (.int (f0_v26 x0 x1 x2 x3)), .val (.int (f0_v27 x0 x1 x2 x3)), .val (.int (f0_j68 x0 x1 x2 x3)), .unset, .unset, .unset] [(.ref b1), (.long (((((f3 ((f0_a24 x0 x1 x2 x3) ((0 : Int32)).toNatClampNeg) (0 : Int32) (f0_v26 x0 x1 x2 x3) (f0_v27 x0 x1 x2 x3)) + (f3 ((f0_a24 x0 x1 x2 x3) ((1 : Int32)).toNatClampNeg) (1 : Int32) (f0_v26 x0 x1 x2 x3) (f0_v27 x0 x1 x2 x3))) + (f3 ((f0_a24 x0 x1 x2 x3) ((2 : Int32)).toNatClampNeg) (2 : Int32) (f0_v26 x0 x1 x2 x3) (f0_v27 x0 x1 x2 x3))) + (f3 ((f0_a24 x0 x1 x2 x3) ((3 : Int32)).toNatClampNeg) (3 : Int32) (f0_v26 x0 x1 x2 x3) (f0_v27 x0 x1 x2 x3))) + (f3 ((f0_a24 x0 x1 x2 x3) ((4 : Int32)).toNatClampNeg) (4 : Int32) (f0_v26 x0 x1 x2 x3) (f0_v27 x0 x1 x2 x3))))])) _
        refine XS.iconst X82.here hx rfl (hb hby at_267) ?_
        show Steps p.tables e below (T82.setTop (mkF m 268 #[.val (.long x0), .second, .val (.int x1), .val (.int x2), .val (.int x3), .val (.ref b1), .val (.int (f0_v26 x0 x1 x2 x3)), .val (.int (f0_v27 x0 x1 x2 x3)), .val (.int (f0_j68 x0 x1 x2 x3)), .unset, .unset, .unset] [(.int (5 : Int32)), (.ref b1), (.long (((((f3 ((f0_a24 x0 x1 x2 x3) ((0 : Int32)).toNatClampNeg) (0 : Int32) (f0_v26 x0 x1 x2 x3) (f0_v27 x0 x1 x2 x3)) + (f3 ((f0_a24 x0 x1 x2 x3) ((1 : Int32)).toNatClampNeg) (1 : Int32) (f0_v26 x0 x1 x2 x3) (f0_v27 x0 x1 x2 x3))) + (f3 ((f0_a24 x0 x1 x2 x3) ((2 : Int32)).toNatClampNeg) (2 : Int32) (f0_v26 x0 x1 x2 x3) (f0_v27 x0 x1 x2 x3))) + (f3 ((f0_a24 x0 x1 x2 x3) ((3 : Int32)).toNatClampNeg) (3 : Int32) (f0_v26 x0 x1 x2 x3) (f0_v27 x0 x1 x2 x3))) + (f3 ((f0_a24 x0 x1 x2 x3) ((4 : Int32)).toNatClampNeg) (4 : Int32) (f0_v26 x0 x1 x2 x3) (f0_v27 x0 x1 x2 x3))))])) _
        refine X82.baloadBytes hx (j := (5 : Int32)) (v := (.int ((f0_a24 x0 x1 x2 x3) ((5 : Int32)).toNatClampNeg))) (by rw [e82]; exact Ar83.1) (State.isArrayOf_alike hZ.alike Ar83.2.1) Ar83.2.2 (own_inb S83 hin83) (H83 _ (own_idx hin83)) (g := (mkF m 268 #[.val (.long x0), .second, .val (.int x1), .val (.int x2), .val (.int x3), .val (.ref b1), .val (.int (f0_v26 x0 x1 x2 x3)), .val (.int (f0_v27 x0 x1 x2 x3)), .val (.int (f0_j68 x0 x1 x2 x3)), .unset, .unset, .unset] [(.int (5 : Int32)), (.ref b1), (.long (((((f3 ((f0_a24 x0 x1 x2 x3) ((0 : Int32)).toNatClampNeg) (0 : Int32) (f0_v26 x0 x1 x2 x3) (f0_v27 x0 x1 x2 x3)) + (f3 ((f0_a24 x0 x1 x2 x3) ((1 : Int32)).toNatClampNeg) (1 : Int32) (f0_v26 x0 x1 x2 x3) (f0_v27 x0 x1 x2 x3))) + (f3 ((f0_a24 x0 x1 x2 x3) ((2 : Int32)).toNatClampNeg) (2 : Int32) (f0_v26 x0 x1 x2 x3) (f0_v27 x0 x1 x2 x3))) + (f3 ((f0_a24 x0 x1 x2 x3) ((3 : Int32)).toNatClampNeg) (3 : Int32) (f0_v26 x0 x1 x2 x3) (f0_v27 x0 x1 x2 x3))) + (f3 ((f0_a24 x0 x1 x2 x3) ((4 : Int32)).toNatClampNeg) (4 : Int32) (f0_v26 x0 x1 x2 x3) (f0_v27 x0 x1 x2 x3))))])) rfl rfl (hb hby at_268) _ ?_
        show Steps p.tables e below (T82.setTop (mkF m 269 #[.val (.long x0), .second, .val (.int x1), .val (.int x2), .val (.int x3), .val (.ref b1), .val (.int (f0_v26 x0 x1 x2 x3)), .val (.int (f0_v27 x0 x1 x2 x3)), .val (.int (f0_j68 x0 x1 x2 x3)), .unset, .unset, .unset] [(.int ((f0_a24 x0 x1 x2 x3) ((5 : Int32)).toNatClampNeg)), (.long (((((f3 ((f0_a24 x0 x1 x2 x3) ((0 : Int32)).toNatClampNeg) (0 : Int32) (f0_v26 x0 x1 x2 x3) (f0_v27 x0 x1 x2 x3)) + (f3 ((f0_a24 x0 x1 x2 x3) ((1 : Int32)).toNatClampNeg) (1 : Int32) (f0_v26 x0 x1 x2 x3) (f0_v27 x0 x1 x2 x3))) + (f3 ((f0_a24 x0 x1 x2 x3) ((2 : Int32)).toNatClampNeg) (2 : Int32) (f0_v26 x0 x1 x2 x3) (f0_v27 x0 x1 x2 x3))) + (f3 ((f0_a24 x0 x1 x2 x3) ((3 : Int32)).toNatClampNeg) (3 : Int32) (f0_v26 x0 x1 x2 x3) (f0_v27 x0 x1 x2 x3))) + (f3 ((f0_a24 x0 x1 x2 x3) ((4 : Int32)).toNatClampNeg) (4 : Int32) (f0_v26 x0 x1 x2 x3) (f0_v27 x0 x1 x2 x3))))])) _
        refine XS.iconst X82.here hx rfl (hb hby at_269) ?_
        show Steps p.tables e below (T82.setTop (mkF m 270 #[.val (.long x0), .second, .val (.int x1), .val (.int x2), .val (.int x3), .val (.ref b1), .val (.int (f0_v26 x0 x1 x2 x3)), .val (.int (f0_v27 x0 x1 x2 x3)), .val (.int (f0_j68 x0 x1 x2 x3)), .unset, .unset, .unset] [(.int (5 : Int32)), (.int ((f0_a24 x0 x1 x2 x3) ((5 : Int32)).toNatClampNeg)), (.long (((((f3 ((f0_a24 x0 x1 x2 x3) ((0 : Int32)).toNatClampNeg) (0 : Int32) (f0_v26 x0 x1 x2 x3) (f0_v27 x0 x1 x2 x3)) + (f3 ((f0_a24 x0 x1 x2 x3) ((1 : Int32)).toNatClampNeg) (1 : Int32) (f0_v26 x0 x1 x2 x3) (f0_v27 x0 x1 x2 x3))) + (f3 ((f0_a24 x0 x1 x2 x3) ((2 : Int32)).toNatClampNeg) (2 : Int32) (f0_v26 x0 x1 x2 x3) (f0_v27 x0 x1 x2 x3))) + (f3 ((f0_a24 x0 x1 x2 x3) ((3 : Int32)).toNatClampNeg) (3 : Int32) (f0_v26 x0 x1 x2 x3) (f0_v27 x0 x1 x2 x3))) + (f3 ((f0_a24 x0 x1 x2 x3) ((4 : Int32)).toNatClampNeg) (4 : Int32) (f0_v26 x0 x1 x2 x3) (f0_v27 x0 x1 x2 x3))))])) _
        refine XS.iload X82.here hx rfl (hb hby at_270) rfl ?_
        show Steps p.tables e below (T82.setTop (mkF m 272 #[.val (.long x0), .second, .val (.int x1), .val (.int x2), .val (.int x3), .val (.ref b1), .val (.int (f0_v26 x0 x1 x2 x3)), .val (.int (f0_v27 x0 x1 x2 x3)), .val (.int (f0_j68 x0 x1 x2 x3)), .unset, .unset, .unset] [(.int (f0_v26 x0 x1 x2 x3)), (.int (5 : Int32)), (.int ((f0_a24 x0 x1 x2 x3) ((5 : Int32)).toNatClampNeg)), (.long (((((f3 ((f0_a24 x0 x1 x2 x3) ((0 : Int32)).toNatClampNeg) (0 : Int32) (f0_v26 x0 x1 x2 x3) (f0_v27 x0 x1 x2 x3)) + (f3 ((f0_a24 x0 x1 x2 x3) ((1 : Int32)).toNatClampNeg) (1 : Int32) (f0_v26 x0 x1 x2 x3) (f0_v27 x0 x1 x2 x3))) + (f3 ((f0_a24 x0 x1 x2 x3) ((2 : Int32)).toNatClampNeg) (2 : Int32) (f0_v26 x0 x1 x2 x3) (f0_v27 x0 x1 x2 x3))) + (f3 ((f0_a24 x0 x1 x2 x3) ((3 : Int32)).toNatClampNeg) (3 : Int32) (f0_v26 x0 x1 x2 x3) (f0_v27 x0 x1 x2 x3))) + (f3 ((f0_a24 x0 x1 x2 x3) ((4 : Int32)).toNatClampNeg) (4 : Int32) (f0_v26 x0 x1 x2 x3) (f0_v27 x0 x1 x2 x3))))])) _
        refine XS.iload X82.here hx rfl (hb hby at_272) rfl ?_
        show Steps p.tables e below (T82.setTop (mkF m 274 #[.val (.long x0), .second, .val (.int x1), .val (.int x2), .val (.int x3), .val (.ref b1), .val (.int (f0_v26 x0 x1 x2 x3)), .val (.int (f0_v27 x0 x1 x2 x3)), .val (.int (f0_j68 x0 x1 x2 x3)), .unset, .unset, .unset] [(.int (f0_v27 x0 x1 x2 x3)), (.int (f0_v26 x0 x1 x2 x3)), (.int (5 : Int32)), (.int ((f0_a24 x0 x1 x2 x3) ((5 : Int32)).toNatClampNeg)), (.long (((((f3 ((f0_a24 x0 x1 x2 x3) ((0 : Int32)).toNatClampNeg) (0 : Int32) (f0_v26 x0 x1 x2 x3) (f0_v27 x0 x1 x2 x3)) + (f3 ((f0_a24 x0 x1 x2 x3) ((1 : Int32)).toNatClampNeg) (1 : Int32) (f0_v26 x0 x1 x2 x3) (f0_v27 x0 x1 x2 x3))) + (f3 ((f0_a24 x0 x1 x2 x3) ((2 : Int32)).toNatClampNeg) (2 : Int32) (f0_v26 x0 x1 x2 x3) (f0_v27 x0 x1 x2 x3))) + (f3 ((f0_a24 x0 x1 x2 x3) ((3 : Int32)).toNatClampNeg) (3 : Int32) (f0_v26 x0 x1 x2 x3) (f0_v27 x0 x1 x2 x3))) + (f3 ((f0_a24 x0 x1 x2 x3) ((4 : Int32)).toNatClampNeg) (4 : Int32) (f0_v26 x0 x1 x2 x3) (f0_v27 x0 x1 x2 x3))))])) _
        refine st84 _ ?_
        show Steps p.tables e below (T84.setTop (mkF m 277 #[.val (.long x0), .second, .val (.int x1), .val (.int x2), .val (.int x3), .val (.ref b1), .val (.int (f0_v26 x0 x1 x2 x3)), .val (.int (f0_v27 x0 x1 x2 x3)), .val (.int (f0_j68 x0 x1 x2 x3)), .unset, .unset, .unset] [(.long (f3 ((f0_a24 x0 x1 x2 x3) ((5 : Int32)).toNatClampNeg) (5 : Int32) (f0_v26 x0 x1 x2 x3) (f0_v27 x0 x1 x2 x3))), (.long (((((f3 ((f0_a24 x0 x1 x2 x3) ((0 : Int32)).toNatClampNeg) (0 : Int32) (f0_v26 x0 x1 x2 x3) (f0_v27 x0 x1 x2 x3)) + (f3 ((f0_a24 x0 x1 x2 x3) ((1 : Int32)).toNatClampNeg) (1 : Int32) (f0_v26 x0 x1 x2 x3) (f0_v27 x0 x1 x2 x3))) + (f3 ((f0_a24 x0 x1 x2 x3) ((2 : Int32)).toNatClampNeg) (2 : Int32) (f0_v26 x0 x1 x2 x3) (f0_v27 x0 x1 x2 x3))) + (f3 ((f0_a24 x0 x1 x2 x3) ((3 : Int32)).toNatClampNeg) (3 : Int32) (f0_v26 x0 x1 x2 x3) (f0_v27 x0 x1 x2 x3))) + (f3 ((f0_a24 x0 x1 x2 x3) ((4 : Int32)).toNatClampNeg) (4 : Int32) (f0_v26 x0 x1 x2 x3) (f0_v27 x0 x1 x2 x3))))])) _
        refine XS.ladd X84.here hx rfl (hb hby at_277) rfl ?_
        show Steps p.tables e below (T84.setTop (mkF m 278 #[.val (.long x0), .second, .val (.int x1), .val (.int x2), .val (.int x3), .val (.ref b1), .val (.int (f0_v26 x0 x1 x2 x3)), .val (.int (f0_v27 x0 x1 x2 x3)), .val (.int (f0_j68 x0 x1 x2 x3)), .unset, .unset, .unset] [(.long ((((((f3 ((f0_a24 x0 x1 x2 x3) ((0 : Int32)).toNatClampNeg) (0 : Int32) (f0_v26 x0 x1 x2 x3) (f0_v27 x0 x1 x2 x3)) + (f3 ((f0_a24 x0 x1 x2 x3) ((1 : Int32)).toNatClampNeg) (1 : Int32) (f0_v26 x0 x1 x2 x3) (f0_v27 x0 x1 x2 x3))) + (f3 ((f0_a24 x0 x1 x2 x3) ((2 : Int32)).toNatClampNeg) (2 : Int32) (f0_v26 x0 x1 x2 x3) (f0_v27 x0 x1 x2 x3))) + (f3 ((f0_a24 x0 x1 x2 x3) ((3 : Int32)).toNatClampNeg) (3 : Int32) (f0_v26 x0 x1 x2 x3) (f0_v27 x0 x1 x2 x3))) + (f3 ((f0_a24 x0 x1 x2 x3) ((4 : Int32)).toNatClampNeg) (4 : Int32) (f0_v26 x0 x1 x2 x3) (f0_v27 x0 x1 x2 x3))) + (f3 ((f0_a24 x0 x1 x2 x3) ((5 : Int32)).toNatClampNeg) (5 : Int32) (f0_v26 x0 x1 x2 x3) (f0_v27 x0 x1 x2 x3))))])) _
        refine XS.lstore X84.here hx rfl (hb hby at_278) rfl (l' := #[.val (.long x0), .second, .val (.int x1), .val (.int x2), .val (.int x3), .val (.ref b1), .val (.int (f0_v26 x0 x1 x2 x3)), .val (.int (f0_v27 x0 x1 x2 x3)), .val (.int (f0_j68 x0 x1 x2 x3)), .val (.long (f0_v85 x0 x1 x2 x3)), .second, .unset]) rfl ?_
        exact k
      have qj0 : (f0_j86 x0 x1 x2 x3) = (f0_v85 x0 x1 x2 x3) := if_pos hc72
      refine ⟨T84, _, X84, N84, e84, fun t k => pre88 _ ?_⟩
      rw [qj0] at k
      exact k
    · have pre89 : ∀ t, Steps p.tables e below (T69.setTop (mkF m 280 #[.val (.long x0), .second, .val (.int x1), .val (.int x2), .val (.int x3), .val (.ref b1), .val (.int (f0_v26 x0 x1 x2 x3)), .val (.int (f0_v27 x0 x1 x2 x3)), .val (.int (f0_j68 x0 x1 x2 x3)), .val (.long (-1 : Int64)), .second, .unset] [])) t → Steps p.tables e below (s₁.setTop (entryFrame m #[(.long x0), (.int x1), (.int x2), (.int x3)] maxLocals)) t := by
        intro t k
        refine pre71 _ ?_
        show Steps p.tables e below (T69.setTop (mkF m 190 #[.val (.long x0), .second, .val (.int x1), .val (.int x2), .val (.int x3), .val (.ref b1), .val (.int (f0_v26 x0 x1 x2 x3)), .val (.int (f0_v27 x0 x1 x2 x3)), .val (.int (f0_j68 x0 x1 x2 x3)), .unset, .unset, .unset] [(.int (f0_j68 x0 x1 x2 x3))])) _
        refine XS.ifNo X69.here hx rfl (hb hby at_190) rfl hc72 ?_
        show Steps p.tables e below (T69.setTop (mkF m 193 #[.val (.long x0), .second, .val (.int x1), .val (.int x2), .val (.int x3), .val (.ref b1), .val (.int (f0_v26 x0 x1 x2 x3)), .val (.int (f0_v27 x0 x1 x2 x3)), .val (.int (f0_j68 x0 x1 x2 x3)), .unset, .unset, .unset] [])) _
        refine X69.ldc2Long hx hown (mvT hZ (hw _ (List.mem_of_getElem? (i := 22) rfl))) (g := (mkF m 193 #[.val (.long x0), .second, .val (.int x1), .val (.int x2), .val (.int x3), .val (.ref b1), .val (.int (f0_v26 x0 x1 x2 x3)), .val (.int (f0_v27 x0 x1 x2 x3)), .val (.int (f0_j68 x0 x1 x2 x3)), .unset, .unset, .unset] [])) rfl (hb hby at_193) _ ?_
        show Steps p.tables e below (T69.setTop (mkF m 196 #[.val (.long x0), .second, .val (.int x1), .val (.int x2), .val (.int x3), .val (.ref b1), .val (.int (f0_v26 x0 x1 x2 x3)), .val (.int (f0_v27 x0 x1 x2 x3)), .val (.int (f0_j68 x0 x1 x2 x3)), .unset, .unset, .unset] [(.long (-1 : Int64))])) _
        refine XS.lstore X69.here hx rfl (hb hby at_196) rfl (l' := #[.val (.long x0), .second, .val (.int x1), .val (.int x2), .val (.int x3), .val (.ref b1), .val (.int (f0_v26 x0 x1 x2 x3)), .val (.int (f0_v27 x0 x1 x2 x3)), .val (.int (f0_j68 x0 x1 x2 x3)), .val (.long (-1 : Int64)), .second, .unset]) rfl ?_
        show Steps p.tables e below (T69.setTop (mkF m 198 #[.val (.long x0), .second, .val (.int x1), .val (.int x2), .val (.int x3), .val (.ref b1), .val (.int (f0_v26 x0 x1 x2 x3)), .val (.int (f0_v27 x0 x1 x2 x3)), .val (.int (f0_j68 x0 x1 x2 x3)), .val (.long (-1 : Int64)), .second, .unset] [])) _
        refine XS.goto X69.here hx rfl (pc0 := 198) (pc' := 280) rfl (hb hby at_198) (by decide) (by decide) ?_
        exact k
      have qj0 : (f0_j86 x0 x1 x2 x3) = (-1 : Int64) := if_neg (own_nt hc72)
      refine ⟨T69, _, X69, N69, e69, fun t k => pre89 _ ?_⟩
      rw [qj0] at k
      exact k
  obtain ⟨_, _, ⟨T90, L90, k90, n90⟩, -, X90, ⟨Lc90, hQ90, l90, y90, z90⟩, st90⟩ := Jvm.LawKit.callS X87 hx (y := (⟨"dev/stratumaudio/Lyrics3Tag", "decimal", "([BII)I"⟩ : MethodName)) hown (mvT hZ (hw _ (List.mem_of_getElem? (i := 13) rfl))) (mvT hZ (hw _ (List.mem_of_getElem? (i := 14) rfl))) (mvT hZ (hw _ (List.mem_of_getElem? (i := 15) rfl))) (mvT hZ (hw _ (List.mem_of_getElem? (i := 16) rfl))) (by decide) (backOf (W := 0) (rm4 l Z a0 hw [] b1 (f0_v26 x0 x1 x2 x3) (f0_v27 x0 x1 x2 x3) (f0_a24 x0 x1 x2 x3) 7 ((f4 7 (f0_v26 x0 x1 x2 x3) (f0_v27 x0 x1 x2 x3) (f0_a24 x0 x1 x2 x3)).getD 0) h23 n0 Z23 P25 (own_some _ _ _ (own_ft x0 x1 x2 x3).1 (own_to x0 x1 x2 x3))) hZ (hw _ (List.mem_of_getElem? (i := 16) rfl)) (hw _ (List.mem_of_getElem? (i := 15) rfl)) (by decide) (by decide)) (g := (mkF m 286 #[.val (.long x0), .second, .val (.int x1), .val (.int x2), .val (.int x3), .val (.ref b1), .val (.int (f0_v26 x0 x1 x2 x3)), .val (.int (f0_v27 x0 x1 x2 x3)), .val (.int (f0_j68 x0 x1 x2 x3)), .val (.long (f0_j86 x0 x1 x2 x3)), .second, .unset] [(.int (f0_v27 x0 x1 x2 x3)), (.int (f0_v26 x0 x1 x2 x3)), (.ref b1)])) rfl (by rw [hml]; rfl) (argsL := [(.ref b1), (.int (f0_v26 x0 x1 x2 x3)), (.int (f0_v27 x0 x1 x2 x3))]) (rest := []) (lenOf pd_4 rfl) rfl (by show 2 * 0 + _ ≤ _; exact Nat.le_of_eq rfl) (hb hby at_286) (fun _ _ => ⟨rfl, e87, (by decide : 1 + 0 ≤ _), (by decide : 6 + 0 ≤ _)⟩)
  dsimp only [Pt.U, Pt.locs, Pt.cells, Pt.slots] at X90 l90 y90 z90 st90 hQ90
  subst l90 y90 z90
  obtain ⟨rfl, Nq90, e90⟩ := hQ90
  have N90 := Fr.app N87 Nq90
  have pre92 : ∀ t, Steps p.tables e below (T90.setTop (mkF m 297 #[.val (.long x0), .second, .val (.int x1), .val (.int x2), .val (.int x3), .val (.ref b1), .val (.int (f0_v26 x0 x1 x2 x3)), .val (.int (f0_v27 x0 x1 x2 x3)), .val (.int (f0_j68 x0 x1 x2 x3)), .val (.long (f0_j86 x0 x1 x2 x3)), .second, .val (.int (f0_v91 x0 x1 x2 x3))] [(.int (own_cmp ((f0_v91 x0 x1 x2 x3).toInt64) (f0_j86 x0 x1 x2 x3)))])) t → Steps p.tables e below (s₁.setTop (entryFrame m #[(.long x0), (.int x1), (.int x2), (.int x3)] maxLocals)) t := by
    intro t k
    refine pre87 _ ?_
    show Steps p.tables e below (T87.setTop (mkF m 280 #[.val (.long x0), .second, .val (.int x1), .val (.int x2), .val (.int x3), .val (.ref b1), .val (.int (f0_v26 x0 x1 x2 x3)), .val (.int (f0_v27 x0 x1 x2 x3)), .val (.int (f0_j68 x0 x1 x2 x3)), .val (.long (f0_j86 x0 x1 x2 x3)), .second, .unset] [])) _
    refine XS.aload X87.here hx rfl (hb hby at_280) rfl rfl ?_
    show Steps p.tables e below (T87.setTop (mkF m 282 #[.val (.long x0), .second, .val (.int x1), .val (.int x2), .val (.int x3), .val (.ref b1), .val (.int (f0_v26 x0 x1 x2 x3)), .val (.int (f0_v27 x0 x1 x2 x3)), .val (.int (f0_j68 x0 x1 x2 x3)), .val (.long (f0_j86 x0 x1 x2 x3)), .second, .unset] [(.ref b1)])) _
    refine XS.iload X87.here hx rfl (hb hby at_282) rfl ?_
    show Steps p.tables e below (T87.setTop (mkF m 284 #[.val (.long x0), .second, .val (.int x1), .val (.int x2), .val (.int x3), .val (.ref b1), .val (.int (f0_v26 x0 x1 x2 x3)), .val (.int (f0_v27 x0 x1 x2 x3)), .val (.int (f0_j68 x0 x1 x2 x3)), .val (.long (f0_j86 x0 x1 x2 x3)), .second, .unset] [(.int (f0_v26 x0 x1 x2 x3)), (.ref b1)])) _
    refine XS.iload X87.here hx rfl (hb hby at_284) rfl ?_
    show Steps p.tables e below (T87.setTop (mkF m 286 #[.val (.long x0), .second, .val (.int x1), .val (.int x2), .val (.int x3), .val (.ref b1), .val (.int (f0_v26 x0 x1 x2 x3)), .val (.int (f0_v27 x0 x1 x2 x3)), .val (.int (f0_j68 x0 x1 x2 x3)), .val (.long (f0_j86 x0 x1 x2 x3)), .second, .unset] [(.int (f0_v27 x0 x1 x2 x3)), (.int (f0_v26 x0 x1 x2 x3)), (.ref b1)])) _
    refine st90 _ ?_
    show Steps p.tables e below (T90.setTop (mkF m 289 #[.val (.long x0), .second, .val (.int x1), .val (.int x2), .val (.int x3), .val (.ref b1), .val (.int (f0_v26 x0 x1 x2 x3)), .val (.int (f0_v27 x0 x1 x2 x3)), .val (.int (f0_j68 x0 x1 x2 x3)), .val (.long (f0_j86 x0 x1 x2 x3)), .second, .unset] [(.int ((f4 7 (f0_v26 x0 x1 x2 x3) (f0_v27 x0 x1 x2 x3) (f0_a24 x0 x1 x2 x3)).getD 0))])) _
    refine XS.istore X90.here hx rfl (hb hby at_289) rfl (l' := #[.val (.long x0), .second, .val (.int x1), .val (.int x2), .val (.int x3), .val (.ref b1), .val (.int (f0_v26 x0 x1 x2 x3)), .val (.int (f0_v27 x0 x1 x2 x3)), .val (.int (f0_j68 x0 x1 x2 x3)), .val (.long (f0_j86 x0 x1 x2 x3)), .second, .val (.int (f0_v91 x0 x1 x2 x3))]) rfl ?_
    show Steps p.tables e below (T90.setTop (mkF m 291 #[.val (.long x0), .second, .val (.int x1), .val (.int x2), .val (.int x3), .val (.ref b1), .val (.int (f0_v26 x0 x1 x2 x3)), .val (.int (f0_v27 x0 x1 x2 x3)), .val (.int (f0_j68 x0 x1 x2 x3)), .val (.long (f0_j86 x0 x1 x2 x3)), .second, .val (.int (f0_v91 x0 x1 x2 x3))] [])) _
    refine XS.iload X90.here hx rfl (hb hby at_291) rfl ?_
    show Steps p.tables e below (T90.setTop (mkF m 293 #[.val (.long x0), .second, .val (.int x1), .val (.int x2), .val (.int x3), .val (.ref b1), .val (.int (f0_v26 x0 x1 x2 x3)), .val (.int (f0_v27 x0 x1 x2 x3)), .val (.int (f0_j68 x0 x1 x2 x3)), .val (.long (f0_j86 x0 x1 x2 x3)), .second, .val (.int (f0_v91 x0 x1 x2 x3))] [(.int (f0_v91 x0 x1 x2 x3))])) _
    refine XS.i2l X90.here hx rfl (hb hby at_293) rfl ?_
    show Steps p.tables e below (T90.setTop (mkF m 294 #[.val (.long x0), .second, .val (.int x1), .val (.int x2), .val (.int x3), .val (.ref b1), .val (.int (f0_v26 x0 x1 x2 x3)), .val (.int (f0_v27 x0 x1 x2 x3)), .val (.int (f0_j68 x0 x1 x2 x3)), .val (.long (f0_j86 x0 x1 x2 x3)), .second, .val (.int (f0_v91 x0 x1 x2 x3))] [(.long ((f0_v91 x0 x1 x2 x3).toInt64))])) _
    refine XS.lload X90.here hx rfl (hb hby at_294) rfl ?_
    show Steps p.tables e below (T90.setTop (mkF m 296 #[.val (.long x0), .second, .val (.int x1), .val (.int x2), .val (.int x3), .val (.ref b1), .val (.int (f0_v26 x0 x1 x2 x3)), .val (.int (f0_v27 x0 x1 x2 x3)), .val (.int (f0_j68 x0 x1 x2 x3)), .val (.long (f0_j86 x0 x1 x2 x3)), .second, .val (.int (f0_v91 x0 x1 x2 x3))] [(.long (f0_j86 x0 x1 x2 x3)), (.long ((f0_v91 x0 x1 x2 x3).toInt64))])) _
    refine own_xlcmp X90.here hx rfl (hb hby at_296) rfl ?_
    exact k
  obtain ⟨T95, L95, X95, N95, e95, pre95⟩ : ∃ (T' : State) (L' : List Loc), Stand p l e room_1 s m #[(.long x0), (.int x1), (.int x2), (.int x3)] below meth c T' L' 1 6 ∧ Fr n0 L' ∧ T'.heap = h23 ∧ ∀ t, Steps p.tables e below (T'.setTop (mkF m 305 #[.val (.long x0), .second, .val (.int x1), .val (.int x2), .val (.int x3), .val (.ref b1), .val (.int (f0_v26 x0 x1 x2 x3)), .val (.int (f0_v27 x0 x1 x2 x3)), .val (.int (f0_j68 x0 x1 x2 x3)), .val (.long (f0_j86 x0 x1 x2 x3)), .second, .val (.int (f0_v91 x0 x1 x2 x3))] [(.int (f0_j94 x0 x1 x2 x3))])) t → Steps p.tables e below (s₁.setTop (entryFrame m #[(.long x0), (.int x1), (.int x2), (.int x3)] maxLocals)) t := by
    rcases Bool.eq_false_or_eq_true (ifCond.holds .ne (own_cmp ((f0_v91 x0 x1 x2 x3).toInt64) (f0_j86 x0 x1 x2 x3))) with hc93 | hc93
    · have pre96 : ∀ t, Steps p.tables e below (T90.setTop (mkF m 305 #[.val (.long x0), .second, .val (.int x1), .val (.int x2), .val (.int x3), .val (.ref b1), .val (.int (f0_v26 x0 x1 x2 x3)), .val (.int (f0_v27 x0 x1 x2 x3)), .val (.int (f0_j68 x0 x1 x2 x3)), .val (.long (f0_j86 x0 x1 x2 x3)), .second, .val (.int (f0_v91 x0 x1 x2 x3))] [(.int (0 : Int32))])) t → Steps p.tables e below (s₁.setTop (entryFrame m #[(.long x0), (.int x1), (.int x2), (.int x3)] maxLocals)) t := by
        intro t k
        refine pre92 _ ?_
        show Steps p.tables e below (T90.setTop (mkF m 297 #[.val (.long x0), .second, .val (.int x1), .val (.int x2), .val (.int x3), .val (.ref b1), .val (.int (f0_v26 x0 x1 x2 x3)), .val (.int (f0_v27 x0 x1 x2 x3)), .val (.int (f0_j68 x0 x1 x2 x3)), .val (.long (f0_j86 x0 x1 x2 x3)), .second, .val (.int (f0_v91 x0 x1 x2 x3))] [(.int (own_cmp ((f0_v91 x0 x1 x2 x3).toInt64) (f0_j86 x0 x1 x2 x3)))])) _
        refine XS.ifYes X90.here hx rfl (pc0 := 297) (pc' := 304) rfl (hb hby at_297) rfl hc93 (by decide) (by decide) ?_
        show Steps p.tables e below (T90.setTop (mkF m 304 #[.val (.long x0), .second, .val (.int x1), .val (.int x2), .val (.int x3), .val (.ref b1), .val (.int (f0_v26 x0 x1 x2 x3)), .val (.int (f0_v27 x0 x1 x2 x3)), .val (.int (f0_j68 x0 x1 x2 x3)), .val (.long (f0_j86 x0 x1 x2 x3)), .second, .val (.int (f0_v91 x0 x1 x2 x3))] [])) _
        refine XS.iconst X90.here hx rfl (hb hby at_304) ?_
        exact k
      have qj0 : (f0_j94 x0 x1 x2 x3) = (0 : Int32) := if_pos hc93
      refine ⟨T90, _, X90, N90, e90, fun t k => pre96 _ ?_⟩
      rw [qj0] at k
      exact k
    · have pre97 : ∀ t, Steps p.tables e below (T90.setTop (mkF m 305 #[.val (.long x0), .second, .val (.int x1), .val (.int x2), .val (.int x3), .val (.ref b1), .val (.int (f0_v26 x0 x1 x2 x3)), .val (.int (f0_v27 x0 x1 x2 x3)), .val (.int (f0_j68 x0 x1 x2 x3)), .val (.long (f0_j86 x0 x1 x2 x3)), .second, .val (.int (f0_v91 x0 x1 x2 x3))] [(.int (1 : Int32))])) t → Steps p.tables e below (s₁.setTop (entryFrame m #[(.long x0), (.int x1), (.int x2), (.int x3)] maxLocals)) t := by
        intro t k
        refine pre92 _ ?_
        show Steps p.tables e below (T90.setTop (mkF m 297 #[.val (.long x0), .second, .val (.int x1), .val (.int x2), .val (.int x3), .val (.ref b1), .val (.int (f0_v26 x0 x1 x2 x3)), .val (.int (f0_v27 x0 x1 x2 x3)), .val (.int (f0_j68 x0 x1 x2 x3)), .val (.long (f0_j86 x0 x1 x2 x3)), .second, .val (.int (f0_v91 x0 x1 x2 x3))] [(.int (own_cmp ((f0_v91 x0 x1 x2 x3).toInt64) (f0_j86 x0 x1 x2 x3)))])) _
        refine XS.ifNo X90.here hx rfl (hb hby at_297) rfl hc93 ?_
        show Steps p.tables e below (T90.setTop (mkF m 300 #[.val (.long x0), .second, .val (.int x1), .val (.int x2), .val (.int x3), .val (.ref b1), .val (.int (f0_v26 x0 x1 x2 x3)), .val (.int (f0_v27 x0 x1 x2 x3)), .val (.int (f0_j68 x0 x1 x2 x3)), .val (.long (f0_j86 x0 x1 x2 x3)), .second, .val (.int (f0_v91 x0 x1 x2 x3))] [])) _
        refine XS.iconst X90.here hx rfl (hb hby at_300) ?_
        show Steps p.tables e below (T90.setTop (mkF m 301 #[.val (.long x0), .second, .val (.int x1), .val (.int x2), .val (.int x3), .val (.ref b1), .val (.int (f0_v26 x0 x1 x2 x3)), .val (.int (f0_v27 x0 x1 x2 x3)), .val (.int (f0_j68 x0 x1 x2 x3)), .val (.long (f0_j86 x0 x1 x2 x3)), .second, .val (.int (f0_v91 x0 x1 x2 x3))] [(.int (1 : Int32))])) _
        refine XS.goto X90.here hx rfl (pc0 := 301) (pc' := 305) rfl (hb hby at_301) (by decide) (by decide) ?_
        exact k
      have qj0 : (f0_j94 x0 x1 x2 x3) = (1 : Int32) := if_neg (own_nt hc93)
      refine ⟨T90, _, X90, N90, e90, fun t k => pre97 _ ?_⟩
      rw [qj0] at k
      exact k
  obtain ⟨fs, hr, hrun, hended, hW, hsame⟩ := X95.leave (v := some (.int (nar .boolean (f0_j94 x0 x1 x2 x3)))) (fun h => by rw [hret] at h; cases h)
  refine ⟨_, _, pre95 _ ?_, hrun, hended, _, _, rfl, ?_, ⟨_, rfl⟩, hW, hsame.mono (by decide) (by decide)⟩
  · show Steps p.tables e below (T95.setTop (mkF m 305 #[.val (.long x0), .second, .val (.int x1), .val (.int x2), .val (.int x3), .val (.ref b1), .val (.int (f0_v26 x0 x1 x2 x3)), .val (.int (f0_v27 x0 x1 x2 x3)), .val (.int (f0_j68 x0 x1 x2 x3)), .val (.long (f0_j86 x0 x1 x2 x3)), .second, .val (.int (f0_v91 x0 x1 x2 x3))] [(.int (f0_j94 x0 x1 x2 x3))])) _
    exact retN X95 hx (t := .boolean) hret (by simp) (hb hby at_305) hr
  · show Q0 Z x0 x1 x2 x3 h0 n0 _ T95.heap _
    rw [e95]
    have rr : f0 x0 x1 x2 x3 = (nar .boolean (f0_j94 x0 x1 x2 x3)) := rfl
    exact ⟨congrArg (fun z => some (Value.int z)) rr.symm, N95⟩
theorem own_f2v (x i f t : Int32) : ((f.toInt ≤ i.toInt ∧ i.toInt < t.toInt ∧ (x.toInt < 48 ∨ 57 < x.toInt)) ∧ f2 x i f t = 1) ∨ (¬ (f.toInt ≤ i.toInt ∧ i.toInt < t.toInt ∧ (x.toInt < 48 ∨ 57 < x.toInt)) ∧ f2 x i f t = 0) := by
  have e1 : (48 : Int32).toInt = 48 := rfl
  have e2 : (57 : Int32).toInt = 57 := rfl
  unfold f2 f2_j19 f2_j16 f2_j13 f2_j9
  simp only [own_igt, own_ige, own_ilt, own_ile, e1, e2]
  split
  · exact Or.inr ⟨by omega, rfl⟩
  · split
    · exact Or.inr ⟨by omega, rfl⟩
    · split
      · exact Or.inl ⟨by omega, rfl⟩
      · split
        · exact Or.inr ⟨by omega, rfl⟩
        · exact Or.inl ⟨by omega, rfl⟩
def own_any (A : Nat → Int32) (f t : Int32) : Int32 := if ifCond.holds .ne (f2 (A 0) 0 f t) = true then 1 else if ifCond.holds .ne (f2 (A 1) 1 f t) = true then 1 else if ifCond.holds .ne (f2 (A 2) 2 f t) = true then 1 else if ifCond.holds .ne (f2 (A 3) 3 f t) = true then 1 else if ifCond.holds .ne (f2 (A 4) 4 f t) = true then 1 else if ifCond.holds .eq (f2 (A 5) 5 f t) = true then 0 else 1
def own_sum (A : Nat → Int32) (f t : Int32) : Int64 := f3 (A 0) 0 f t + f3 (A 1) 1 f t + f3 (A 2) 2 f t + f3 (A 3) 3 f t + f3 (A 4) 4 f t + f3 (A 5) 5 f t
theorem own_anyv (A : Nat → Int32) (f t : Int32) (hf : 0 ≤ f.toInt) (hft : f.toInt ≤ t.toInt) (ht : t.toInt ≤ 6) : (own_any A f t = 1 ∧ ¬ own_ok A f.toInt.toNat (t.toInt - f.toInt).toNat) ∨ (own_any A f t = 0 ∧ own_ok A f.toInt.toNat (t.toInt - f.toInt).toNat) := by
  have i0 : (0 : Int32).toInt = 0 := rfl
  have i1 : (1 : Int32).toInt = 1 := rfl
  have i2 : (2 : Int32).toInt = 2 := rfl
  have i3 : (3 : Int32).toInt = 3 := rfl
  have i4 : (4 : Int32).toInt = 4 := rfl
  have i5 : (5 : Int32).toInt = 5 := rfl
  unfold own_any
  rcases own_f2v (A 0) 0 f t with ⟨k, h⟩ | ⟨k0, h⟩
  · rw [h]
    exact Or.inl ⟨rfl, fun q => q 0 (by omega) (by omega) k.2.2⟩
  rw [h, if_neg (by decide)]
  rcases own_f2v (A 1) 1 f t with ⟨k, h⟩ | ⟨k1, h⟩
  · rw [h]
    exact Or.inl ⟨rfl, fun q => q 1 (by omega) (by omega) k.2.2⟩
  rw [h, if_neg (by decide)]
  rcases own_f2v (A 2) 2 f t with ⟨k, h⟩ | ⟨k2, h⟩
  · rw [h]
    exact Or.inl ⟨rfl, fun q => q 2 (by omega) (by omega) k.2.2⟩
  rw [h, if_neg (by decide)]
  rcases own_f2v (A 3) 3 f t with ⟨k, h⟩ | ⟨k3, h⟩
  · rw [h]
    exact Or.inl ⟨rfl, fun q => q 3 (by omega) (by omega) k.2.2⟩
  rw [h, if_neg (by decide)]
  rcases own_f2v (A 4) 4 f t with ⟨k, h⟩ | ⟨k4, h⟩
  · rw [h]
    exact Or.inl ⟨rfl, fun q => q 4 (by omega) (by omega) k.2.2⟩
  rw [h, if_neg (by decide)]
  rcases own_f2v (A 5) 5 f t with ⟨k, h⟩ | ⟨k5, h⟩
  · rw [h]
    exact Or.inl ⟨rfl, fun q => q 5 (by omega) (by omega) k.2.2⟩
  rw [h]
  refine Or.inr ⟨rfl, fun j q1 q2 z => ?_⟩
  have hj : j = 0 ∨ j = 1 ∨ j = 2 ∨ j = 3 ∨ j = 4 ∨ j = 5 := by omega
  rcases hj with rfl | rfl | rfl | rfl | rfl | rfl
  · exact k0 ⟨by omega, by omega, z⟩
  · exact k1 ⟨by omega, by omega, z⟩
  · exact k2 ⟨by omega, by omega, z⟩
  · exact k3 ⟨by omega, by omega, z⟩
  · exact k4 ⟨by omega, by omega, z⟩
  · exact k5 ⟨by omega, by omega, z⟩
/-- one part: a digit times a power of ten -/
theorem own_part (x : Int32) (m : Nat) (h : ¬ (x.toInt < 48 ∨ 57 < x.toInt)) : m ≤ 100000 → ((x - 48).toInt64 * Int64.ofNat m).toInt = (x.toInt - 48) * m := by
  intro hm
  have e : (48 : Int32).toInt = 48 := rfl
  have a1 := c_isub x 48
  have a2 := rng32 (x - 48)
  have a3 := c_i2l (x - 48)
  have a4 := c_lmul (x - 48).toInt64 (Int64.ofNat m)
  have a5 := rng64 ((x - 48).toInt64 * Int64.ofNat m)
  have a6 : (Int64.ofNat m).toInt = m := Int64.toInt_ofNat_of_lt (by omega)
  have a7 : (x - 48).toInt = x.toInt - 48 := by omega
  rw [a6, a3, a7] at a4
  obtain ⟨d, hd⟩ : ∃ d : Nat, x.toInt - 48 = d := ⟨(x.toInt - 48).toNat, by omega⟩
  rw [hd] at a4 ⊢
  have b1 : d * m ≤ 9 * 100000 := Nat.mul_le_mul (by omega) hm
  have b2 : ((d * m : Nat) : Int) = (d : Int) * m := Int.natCast_mul d m
  generalize (d : Int) * m = P at *
  omega
theorem own_c0_0 (A : Nat → Int32) (h : own_ok A 0 0) : (own_sum A 0 0).toInt = own_S A 0 0 := by
  show ((0 : Int64) + (0 : Int64) + (0 : Int64) + (0 : Int64) + (0 : Int64) + (0 : Int64) : Int64).toInt = 0
  have z0 : (0 : Int64).toInt = 0 := rfl
  have s1 := c_ladd ((0 : Int64)) ((0 : Int64))
  have u1 := rng64 (((0 : Int64)) + ((0 : Int64)))
  have s2 := c_ladd (((0 : Int64) + (0 : Int64))) ((0 : Int64))
  have u2 := rng64 ((((0 : Int64) + (0 : Int64))) + ((0 : Int64)))
  have s3 := c_ladd ((((0 : Int64) + (0 : Int64)) + (0 : Int64))) ((0 : Int64))
  have u3 := rng64 (((((0 : Int64) + (0 : Int64)) + (0 : Int64))) + ((0 : Int64)))
  have s4 := c_ladd (((((0 : Int64) + (0 : Int64)) + (0 : Int64)) + (0 : Int64))) ((0 : Int64))
  have u4 := rng64 ((((((0 : Int64) + (0 : Int64)) + (0 : Int64)) + (0 : Int64))) + ((0 : Int64)))
  have s5 := c_ladd ((((((0 : Int64) + (0 : Int64)) + (0 : Int64)) + (0 : Int64)) + (0 : Int64))) ((0 : Int64))
  have u5 := rng64 (((((((0 : Int64) + (0 : Int64)) + (0 : Int64)) + (0 : Int64)) + (0 : Int64))) + ((0 : Int64)))
  omega
theorem own_c0_1 (A : Nat → Int32) (h : own_ok A 0 1) : (own_sum A 0 1).toInt = own_S A 1 0 := by
  have h0 := h 0 (by decide) (by decide)
  have p0 : ((A 0 - 48).toInt64 * 1).toInt = ((A 0).toInt - 48) * 1 := own_part (A 0) 1 h0 (by decide)
  show (((A 0 - 48).toInt64 * 1) + (0 : Int64) + (0 : Int64) + (0 : Int64) + (0 : Int64) + (0 : Int64) : Int64).toInt = own_S A 1 0
  have z0 : (0 : Int64).toInt = 0 := rfl
  have s1 := c_ladd (((A 0 - 48).toInt64 * 1)) ((0 : Int64))
  have u1 := rng64 ((((A 0 - 48).toInt64 * 1)) + ((0 : Int64)))
  have s2 := c_ladd ((((A 0 - 48).toInt64 * 1) + (0 : Int64))) ((0 : Int64))
  have u2 := rng64 (((((A 0 - 48).toInt64 * 1) + (0 : Int64))) + ((0 : Int64)))
  have s3 := c_ladd (((((A 0 - 48).toInt64 * 1) + (0 : Int64)) + (0 : Int64))) ((0 : Int64))
  have u3 := rng64 ((((((A 0 - 48).toInt64 * 1) + (0 : Int64)) + (0 : Int64))) + ((0 : Int64)))
  have s4 := c_ladd ((((((A 0 - 48).toInt64 * 1) + (0 : Int64)) + (0 : Int64)) + (0 : Int64))) ((0 : Int64))
  have u4 := rng64 (((((((A 0 - 48).toInt64 * 1) + (0 : Int64)) + (0 : Int64)) + (0 : Int64))) + ((0 : Int64)))
  have s5 := c_ladd (((((((A 0 - 48).toInt64 * 1) + (0 : Int64)) + (0 : Int64)) + (0 : Int64)) + (0 : Int64))) ((0 : Int64))
  have u5 := rng64 ((((((((A 0 - 48).toInt64 * 1) + (0 : Int64)) + (0 : Int64)) + (0 : Int64)) + (0 : Int64))) + ((0 : Int64)))
  have v : own_S A 1 0 = (((A 0).toInt - 48) * 10 ^ 0 + 0) := rfl
  rw [v]
  omega
theorem own_c0_2 (A : Nat → Int32) (h : own_ok A 0 2) : (own_sum A 0 2).toInt = own_S A 2 0 := by
  have h0 := h 0 (by decide) (by decide)
  have h1 := h 1 (by decide) (by decide)
  have p0 : ((A 0 - 48).toInt64 * 10).toInt = ((A 0).toInt - 48) * 10 := own_part (A 0) 10 h0 (by decide)
  have p1 : ((A 1 - 48).toInt64 * 1).toInt = ((A 1).toInt - 48) * 1 := own_part (A 1) 1 h1 (by decide)
  show (((A 0 - 48).toInt64 * 10) + ((A 1 - 48).toInt64 * 1) + (0 : Int64) + (0 : Int64) + (0 : Int64) + (0 : Int64) : Int64).toInt = own_S A 2 0
  have z0 : (0 : Int64).toInt = 0 := rfl
  have s1 := c_ladd (((A 0 - 48).toInt64 * 10)) (((A 1 - 48).toInt64 * 1))
  have u1 := rng64 ((((A 0 - 48).toInt64 * 10)) + (((A 1 - 48).toInt64 * 1)))
  have s2 := c_ladd ((((A 0 - 48).toInt64 * 10) + ((A 1 - 48).toInt64 * 1))) ((0 : Int64))
  have u2 := rng64 (((((A 0 - 48).toInt64 * 10) + ((A 1 - 48).toInt64 * 1))) + ((0 : Int64)))
  have s3 := c_ladd (((((A 0 - 48).toInt64 * 10) + ((A 1 - 48).toInt64 * 1)) + (0 : Int64))) ((0 : Int64))
  have u3 := rng64 ((((((A 0 - 48).toInt64 * 10) + ((A 1 - 48).toInt64 * 1)) + (0 : Int64))) + ((0 : Int64)))
  have s4 := c_ladd ((((((A 0 - 48).toInt64 * 10) + ((A 1 - 48).toInt64 * 1)) + (0 : Int64)) + (0 : Int64))) ((0 : Int64))
  have u4 := rng64 (((((((A 0 - 48).toInt64 * 10) + ((A 1 - 48).toInt64 * 1)) + (0 : Int64)) + (0 : Int64))) + ((0 : Int64)))
  have s5 := c_ladd (((((((A 0 - 48).toInt64 * 10) + ((A 1 - 48).toInt64 * 1)) + (0 : Int64)) + (0 : Int64)) + (0 : Int64))) ((0 : Int64))
  have u5 := rng64 ((((((((A 0 - 48).toInt64 * 10) + ((A 1 - 48).toInt64 * 1)) + (0 : Int64)) + (0 : Int64)) + (0 : Int64))) + ((0 : Int64)))
  have v : own_S A 2 0 = (((A 0).toInt - 48) * 10 ^ 1 + (((A 1).toInt - 48) * 10 ^ 0 + 0)) := rfl
  rw [v]
  omega
theorem own_c0_3 (A : Nat → Int32) (h : own_ok A 0 3) : (own_sum A 0 3).toInt = own_S A 3 0 := by
  have h0 := h 0 (by decide) (by decide)
  have h1 := h 1 (by decide) (by decide)
  have h2 := h 2 (by decide) (by decide)
  have p0 : ((A 0 - 48).toInt64 * 100).toInt = ((A 0).toInt - 48) * 100 := own_part (A 0) 100 h0 (by decide)
  have p1 : ((A 1 - 48).toInt64 * 10).toInt = ((A 1).toInt - 48) * 10 := own_part (A 1) 10 h1 (by decide)
  have p2 : ((A 2 - 48).toInt64 * 1).toInt = ((A 2).toInt - 48) * 1 := own_part (A 2) 1 h2 (by decide)
  show (((A 0 - 48).toInt64 * 100) + ((A 1 - 48).toInt64 * 10) + ((A 2 - 48).toInt64 * 1) + (0 : Int64) + (0 : Int64) + (0 : Int64) : Int64).toInt = own_S A 3 0
  have z0 : (0 : Int64).toInt = 0 := rfl
  have s1 := c_ladd (((A 0 - 48).toInt64 * 100)) (((A 1 - 48).toInt64 * 10))
  have u1 := rng64 ((((A 0 - 48).toInt64 * 100)) + (((A 1 - 48).toInt64 * 10)))
  have s2 := c_ladd ((((A 0 - 48).toInt64 * 100) + ((A 1 - 48).toInt64 * 10))) (((A 2 - 48).toInt64 * 1))
  have u2 := rng64 (((((A 0 - 48).toInt64 * 100) + ((A 1 - 48).toInt64 * 10))) + (((A 2 - 48).toInt64 * 1)))
  have s3 := c_ladd (((((A 0 - 48).toInt64 * 100) + ((A 1 - 48).toInt64 * 10)) + ((A 2 - 48).toInt64 * 1))) ((0 : Int64))
  have u3 := rng64 ((((((A 0 - 48).toInt64 * 100) + ((A 1 - 48).toInt64 * 10)) + ((A 2 - 48).toInt64 * 1))) + ((0 : Int64)))
  have s4 := c_ladd ((((((A 0 - 48).toInt64 * 100) + ((A 1 - 48).toInt64 * 10)) + ((A 2 - 48).toInt64 * 1)) + (0 : Int64))) ((0 : Int64))
  have u4 := rng64 (((((((A 0 - 48).toInt64 * 100) + ((A 1 - 48).toInt64 * 10)) + ((A 2 - 48).toInt64 * 1)) + (0 : Int64))) + ((0 : Int64)))
  have s5 := c_ladd (((((((A 0 - 48).toInt64 * 100) + ((A 1 - 48).toInt64 * 10)) + ((A 2 - 48).toInt64 * 1)) + (0 : Int64)) + (0 : Int64))) ((0 : Int64))
  have u5 := rng64 ((((((((A 0 - 48).toInt64 * 100) + ((A 1 - 48).toInt64 * 10)) + ((A 2 - 48).toInt64 * 1)) + (0 : Int64)) + (0 : Int64))) + ((0 : Int64)))
  have v : own_S A 3 0 = (((A 0).toInt - 48) * 10 ^ 2 + (((A 1).toInt - 48) * 10 ^ 1 + (((A 2).toInt - 48) * 10 ^ 0 + 0))) := rfl
  rw [v]
  omega
theorem own_c0_4 (A : Nat → Int32) (h : own_ok A 0 4) : (own_sum A 0 4).toInt = own_S A 4 0 := by
  have h0 := h 0 (by decide) (by decide)
  have h1 := h 1 (by decide) (by decide)
  have h2 := h 2 (by decide) (by decide)
  have h3 := h 3 (by decide) (by decide)
  have p0 : ((A 0 - 48).toInt64 * 1000).toInt = ((A 0).toInt - 48) * 1000 := own_part (A 0) 1000 h0 (by decide)
  have p1 : ((A 1 - 48).toInt64 * 100).toInt = ((A 1).toInt - 48) * 100 := own_part (A 1) 100 h1 (by decide)
  have p2 : ((A 2 - 48).toInt64 * 10).toInt = ((A 2).toInt - 48) * 10 := own_part (A 2) 10 h2 (by decide)
  have p3 : ((A 3 - 48).toInt64 * 1).toInt = ((A 3).toInt - 48) * 1 := own_part (A 3) 1 h3 (by decide)
  show (((A 0 - 48).toInt64 * 1000) + ((A 1 - 48).toInt64 * 100) + ((A 2 - 48).toInt64 * 10) + ((A 3 - 48).toInt64 * 1) + (0 : Int64) + (0 : Int64) : Int64).toInt = own_S A 4 0
  have z0 : (0 : Int64).toInt = 0 := rfl
  have s1 := c_ladd (((A 0 - 48).toInt64 * 1000)) (((A 1 - 48).toInt64 * 100))
  have u1 := rng64 ((((A 0 - 48).toInt64 * 1000)) + (((A 1 - 48).toInt64 * 100)))
  have s2 := c_ladd ((((A 0 - 48).toInt64 * 1000) + ((A 1 - 48).toInt64 * 100))) (((A 2 - 48).toInt64 * 10))
  have u2 := rng64 (((((A 0 - 48).toInt64 * 1000) + ((A 1 - 48).toInt64 * 100))) + (((A 2 - 48).toInt64 * 10)))
  have s3 := c_ladd (((((A 0 - 48).toInt64 * 1000) + ((A 1 - 48).toInt64 * 100)) + ((A 2 - 48).toInt64 * 10))) (((A 3 - 48).toInt64 * 1))
  have u3 := rng64 ((((((A 0 - 48).toInt64 * 1000) + ((A 1 - 48).toInt64 * 100)) + ((A 2 - 48).toInt64 * 10))) + (((A 3 - 48).toInt64 * 1)))
  have s4 := c_ladd ((((((A 0 - 48).toInt64 * 1000) + ((A 1 - 48).toInt64 * 100)) + ((A 2 - 48).toInt64 * 10)) + ((A 3 - 48).toInt64 * 1))) ((0 : Int64))
  have u4 := rng64 (((((((A 0 - 48).toInt64 * 1000) + ((A 1 - 48).toInt64 * 100)) + ((A 2 - 48).toInt64 * 10)) + ((A 3 - 48).toInt64 * 1))) + ((0 : Int64)))
  have s5 := c_ladd (((((((A 0 - 48).toInt64 * 1000) + ((A 1 - 48).toInt64 * 100)) + ((A 2 - 48).toInt64 * 10)) + ((A 3 - 48).toInt64 * 1)) + (0 : Int64))) ((0 : Int64))
  have u5 := rng64 ((((((((A 0 - 48).toInt64 * 1000) + ((A 1 - 48).toInt64 * 100)) + ((A 2 - 48).toInt64 * 10)) + ((A 3 - 48).toInt64 * 1)) + (0 : Int64))) + ((0 : Int64)))
  have v : own_S A 4 0 = (((A 0).toInt - 48) * 10 ^ 3 + (((A 1).toInt - 48) * 10 ^ 2 + (((A 2).toInt - 48) * 10 ^ 1 + (((A 3).toInt - 48) * 10 ^ 0 + 0)))) := rfl
  rw [v]
  omega
theorem own_c0_5 (A : Nat → Int32) (h : own_ok A 0 5) : (own_sum A 0 5).toInt = own_S A 5 0 := by
  have h0 := h 0 (by decide) (by decide)
  have h1 := h 1 (by decide) (by decide)
  have h2 := h 2 (by decide) (by decide)
  have h3 := h 3 (by decide) (by decide)
  have h4 := h 4 (by decide) (by decide)
  have p0 : ((A 0 - 48).toInt64 * 10000).toInt = ((A 0).toInt - 48) * 10000 := own_part (A 0) 10000 h0 (by decide)
  have p1 : ((A 1 - 48).toInt64 * 1000).toInt = ((A 1).toInt - 48) * 1000 := own_part (A 1) 1000 h1 (by decide)
  have p2 : ((A 2 - 48).toInt64 * 100).toInt = ((A 2).toInt - 48) * 100 := own_part (A 2) 100 h2 (by decide)
  have p3 : ((A 3 - 48).toInt64 * 10).toInt = ((A 3).toInt - 48) * 10 := own_part (A 3) 10 h3 (by decide)
  have p4 : ((A 4 - 48).toInt64 * 1).toInt = ((A 4).toInt - 48) * 1 := own_part (A 4) 1 h4 (by decide)
  show (((A 0 - 48).toInt64 * 10000) + ((A 1 - 48).toInt64 * 1000) + ((A 2 - 48).toInt64 * 100) + ((A 3 - 48).toInt64 * 10) + ((A 4 - 48).toInt64 * 1) + (0 : Int64) : Int64).toInt = own_S A 5 0
  have z0 : (0 : Int64).toInt = 0 := rfl
  have s1 := c_ladd (((A 0 - 48).toInt64 * 10000)) (((A 1 - 48).toInt64 * 1000))
  have u1 := rng64 ((((A 0 - 48).toInt64 * 10000)) + (((A 1 - 48).toInt64 * 1000)))
  have s2 := c_ladd ((((A 0 - 48).toInt64 * 10000) + ((A 1 - 48).toInt64 * 1000))) (((A 2 - 48).toInt64 * 100))
  have u2 := rng64 (((((A 0 - 48).toInt64 * 10000) + ((A 1 - 48).toInt64 * 1000))) + (((A 2 - 48).toInt64 * 100)))
  have s3 := c_ladd (((((A 0 - 48).toInt64 * 10000) + ((A 1 - 48).toInt64 * 1000)) + ((A 2 - 48).toInt64 * 100))) (((A 3 - 48).toInt64 * 10))
  have u3 := rng64 ((((((A 0 - 48).toInt64 * 10000) + ((A 1 - 48).toInt64 * 1000)) + ((A 2 - 48).toInt64 * 100))) + (((A 3 - 48).toInt64 * 10)))
  have s4 := c_ladd ((((((A 0 - 48).toInt64 * 10000) + ((A 1 - 48).toInt64 * 1000)) + ((A 2 - 48).toInt64 * 100)) + ((A 3 - 48).toInt64 * 10))) (((A 4 - 48).toInt64 * 1))
  have u4 := rng64 (((((((A 0 - 48).toInt64 * 10000) + ((A 1 - 48).toInt64 * 1000)) + ((A 2 - 48).toInt64 * 100)) + ((A 3 - 48).toInt64 * 10))) + (((A 4 - 48).toInt64 * 1)))
  have s5 := c_ladd (((((((A 0 - 48).toInt64 * 10000) + ((A 1 - 48).toInt64 * 1000)) + ((A 2 - 48).toInt64 * 100)) + ((A 3 - 48).toInt64 * 10)) + ((A 4 - 48).toInt64 * 1))) ((0 : Int64))
  have u5 := rng64 ((((((((A 0 - 48).toInt64 * 10000) + ((A 1 - 48).toInt64 * 1000)) + ((A 2 - 48).toInt64 * 100)) + ((A 3 - 48).toInt64 * 10)) + ((A 4 - 48).toInt64 * 1))) + ((0 : Int64)))
  have v : own_S A 5 0 = (((A 0).toInt - 48) * 10 ^ 4 + (((A 1).toInt - 48) * 10 ^ 3 + (((A 2).toInt - 48) * 10 ^ 2 + (((A 3).toInt - 48) * 10 ^ 1 + (((A 4).toInt - 48) * 10 ^ 0 + 0))))) := rfl
  rw [v]
  omega
theorem own_c0_6 (A : Nat → Int32) (h : own_ok A 0 6) : (own_sum A 0 6).toInt = own_S A 6 0 := by
  have h0 := h 0 (by decide) (by decide)
  have h1 := h 1 (by decide) (by decide)
  have h2 := h 2 (by decide) (by decide)
  have h3 := h 3 (by decide) (by decide)
  have h4 := h 4 (by decide) (by decide)
  have h5 := h 5 (by decide) (by decide)
  have p0 : ((A 0 - 48).toInt64 * 100000).toInt = ((A 0).toInt - 48) * 100000 := own_part (A 0) 100000 h0 (by decide)
  have p1 : ((A 1 - 48).toInt64 * 10000).toInt = ((A 1).toInt - 48) * 10000 := own_part (A 1) 10000 h1 (by decide)
  have p2 : ((A 2 - 48).toInt64 * 1000).toInt = ((A 2).toInt - 48) * 1000 := own_part (A 2) 1000 h2 (by decide)
  have p3 : ((A 3 - 48).toInt64 * 100).toInt = ((A 3).toInt - 48) * 100 := own_part (A 3) 100 h3 (by decide)
  have p4 : ((A 4 - 48).toInt64 * 10).toInt = ((A 4).toInt - 48) * 10 := own_part (A 4) 10 h4 (by decide)
  have p5 : ((A 5 - 48).toInt64 * 1).toInt = ((A 5).toInt - 48) * 1 := own_part (A 5) 1 h5 (by decide)
  show (((A 0 - 48).toInt64 * 100000) + ((A 1 - 48).toInt64 * 10000) + ((A 2 - 48).toInt64 * 1000) + ((A 3 - 48).toInt64 * 100) + ((A 4 - 48).toInt64 * 10) + ((A 5 - 48).toInt64 * 1) : Int64).toInt = own_S A 6 0
  have z0 : (0 : Int64).toInt = 0 := rfl
  have s1 := c_ladd (((A 0 - 48).toInt64 * 100000)) (((A 1 - 48).toInt64 * 10000))
  have u1 := rng64 ((((A 0 - 48).toInt64 * 100000)) + (((A 1 - 48).toInt64 * 10000)))
  have s2 := c_ladd ((((A 0 - 48).toInt64 * 100000) + ((A 1 - 48).toInt64 * 10000))) (((A 2 - 48).toInt64 * 1000))
  have u2 := rng64 (((((A 0 - 48).toInt64 * 100000) + ((A 1 - 48).toInt64 * 10000))) + (((A 2 - 48).toInt64 * 1000)))
  have s3 := c_ladd (((((A 0 - 48).toInt64 * 100000) + ((A 1 - 48).toInt64 * 10000)) + ((A 2 - 48).toInt64 * 1000))) (((A 3 - 48).toInt64 * 100))
  have u3 := rng64 ((((((A 0 - 48).toInt64 * 100000) + ((A 1 - 48).toInt64 * 10000)) + ((A 2 - 48).toInt64 * 1000))) + (((A 3 - 48).toInt64 * 100)))
  have s4 := c_ladd ((((((A 0 - 48).toInt64 * 100000) + ((A 1 - 48).toInt64 * 10000)) + ((A 2 - 48).toInt64 * 1000)) + ((A 3 - 48).toInt64 * 100))) (((A 4 - 48).toInt64 * 10))
  have u4 := rng64 (((((((A 0 - 48).toInt64 * 100000) + ((A 1 - 48).toInt64 * 10000)) + ((A 2 - 48).toInt64 * 1000)) + ((A 3 - 48).toInt64 * 100))) + (((A 4 - 48).toInt64 * 10)))
  have s5 := c_ladd (((((((A 0 - 48).toInt64 * 100000) + ((A 1 - 48).toInt64 * 10000)) + ((A 2 - 48).toInt64 * 1000)) + ((A 3 - 48).toInt64 * 100)) + ((A 4 - 48).toInt64 * 10))) (((A 5 - 48).toInt64 * 1))
  have u5 := rng64 ((((((((A 0 - 48).toInt64 * 100000) + ((A 1 - 48).toInt64 * 10000)) + ((A 2 - 48).toInt64 * 1000)) + ((A 3 - 48).toInt64 * 100)) + ((A 4 - 48).toInt64 * 10))) + (((A 5 - 48).toInt64 * 1)))
  have v : own_S A 6 0 = (((A 0).toInt - 48) * 10 ^ 5 + (((A 1).toInt - 48) * 10 ^ 4 + (((A 2).toInt - 48) * 10 ^ 3 + (((A 3).toInt - 48) * 10 ^ 2 + (((A 4).toInt - 48) * 10 ^ 1 + (((A 5).toInt - 48) * 10 ^ 0 + 0)))))) := rfl
  rw [v]
  omega
theorem own_c1_1 (A : Nat → Int32) (h : own_ok A 1 0) : (own_sum A 1 1).toInt = own_S A 0 1 := by
  show ((0 : Int64) + (0 : Int64) + (0 : Int64) + (0 : Int64) + (0 : Int64) + (0 : Int64) : Int64).toInt = 0
  have z0 : (0 : Int64).toInt = 0 := rfl
  have s1 := c_ladd ((0 : Int64)) ((0 : Int64))
  have u1 := rng64 (((0 : Int64)) + ((0 : Int64)))
  have s2 := c_ladd (((0 : Int64) + (0 : Int64))) ((0 : Int64))
  have u2 := rng64 ((((0 : Int64) + (0 : Int64))) + ((0 : Int64)))
  have s3 := c_ladd ((((0 : Int64) + (0 : Int64)) + (0 : Int64))) ((0 : Int64))
  have u3 := rng64 (((((0 : Int64) + (0 : Int64)) + (0 : Int64))) + ((0 : Int64)))
  have s4 := c_ladd (((((0 : Int64) + (0 : Int64)) + (0 : Int64)) + (0 : Int64))) ((0 : Int64))
  have u4 := rng64 ((((((0 : Int64) + (0 : Int64)) + (0 : Int64)) + (0 : Int64))) + ((0 : Int64)))
  have s5 := c_ladd ((((((0 : Int64) + (0 : Int64)) + (0 : Int64)) + (0 : Int64)) + (0 : Int64))) ((0 : Int64))
  have u5 := rng64 (((((((0 : Int64) + (0 : Int64)) + (0 : Int64)) + (0 : Int64)) + (0 : Int64))) + ((0 : Int64)))
  omega
theorem own_c1_2 (A : Nat → Int32) (h : own_ok A 1 1) : (own_sum A 1 2).toInt = own_S A 1 1 := by
  have h1 := h 1 (by decide) (by decide)
  have p1 : ((A 1 - 48).toInt64 * 1).toInt = ((A 1).toInt - 48) * 1 := own_part (A 1) 1 h1 (by decide)
  show ((0 : Int64) + ((A 1 - 48).toInt64 * 1) + (0 : Int64) + (0 : Int64) + (0 : Int64) + (0 : Int64) : Int64).toInt = own_S A 1 1
  have z0 : (0 : Int64).toInt = 0 := rfl
  have s1 := c_ladd ((0 : Int64)) (((A 1 - 48).toInt64 * 1))
  have u1 := rng64 (((0 : Int64)) + (((A 1 - 48).toInt64 * 1)))
  have s2 := c_ladd (((0 : Int64) + ((A 1 - 48).toInt64 * 1))) ((0 : Int64))
  have u2 := rng64 ((((0 : Int64) + ((A 1 - 48).toInt64 * 1))) + ((0 : Int64)))
  have s3 := c_ladd ((((0 : Int64) + ((A 1 - 48).toInt64 * 1)) + (0 : Int64))) ((0 : Int64))
  have u3 := rng64 (((((0 : Int64) + ((A 1 - 48).toInt64 * 1)) + (0 : Int64))) + ((0 : Int64)))
  have s4 := c_ladd (((((0 : Int64) + ((A 1 - 48).toInt64 * 1)) + (0 : Int64)) + (0 : Int64))) ((0 : Int64))
  have u4 := rng64 ((((((0 : Int64) + ((A 1 - 48).toInt64 * 1)) + (0 : Int64)) + (0 : Int64))) + ((0 : Int64)))
  have s5 := c_ladd ((((((0 : Int64) + ((A 1 - 48).toInt64 * 1)) + (0 : Int64)) + (0 : Int64)) + (0 : Int64))) ((0 : Int64))
  have u5 := rng64 (((((((0 : Int64) + ((A 1 - 48).toInt64 * 1)) + (0 : Int64)) + (0 : Int64)) + (0 : Int64))) + ((0 : Int64)))
  have v : own_S A 1 1 = (((A 1).toInt - 48) * 10 ^ 0 + 0) := rfl
  rw [v]
  omega
theorem own_c1_3 (A : Nat → Int32) (h : own_ok A 1 2) : (own_sum A 1 3).toInt = own_S A 2 1 := by
  have h1 := h 1 (by decide) (by decide)
  have h2 := h 2 (by decide) (by decide)
  have p1 : ((A 1 - 48).toInt64 * 10).toInt = ((A 1).toInt - 48) * 10 := own_part (A 1) 10 h1 (by decide)
  have p2 : ((A 2 - 48).toInt64 * 1).toInt = ((A 2).toInt - 48) * 1 := own_part (A 2) 1 h2 (by decide)
  show ((0 : Int64) + ((A 1 - 48).toInt64 * 10) + ((A 2 - 48).toInt64 * 1) + (0 : Int64) + (0 : Int64) + (0 : Int64) : Int64).toInt = own_S A 2 1
  have z0 : (0 : Int64).toInt = 0 := rfl
  have s1 := c_ladd ((0 : Int64)) (((A 1 - 48).toInt64 * 10))
  have u1 := rng64 (((0 : Int64)) + (((A 1 - 48).toInt64 * 10)))
  have s2 := c_ladd (((0 : Int64) + ((A 1 - 48).toInt64 * 10))) (((A 2 - 48).toInt64 * 1))
  have u2 := rng64 ((((0 : Int64) + ((A 1 - 48).toInt64 * 10))) + (((A 2 - 48).toInt64 * 1)))
  have s3 := c_ladd ((((0 : Int64) + ((A 1 - 48).toInt64 * 10)) + ((A 2 - 48).toInt64 * 1))) ((0 : Int64))
  have u3 := rng64 (((((0 : Int64) + ((A 1 - 48).toInt64 * 10)) + ((A 2 - 48).toInt64 * 1))) + ((0 : Int64)))
  have s4 := c_ladd (((((0 : Int64) + ((A 1 - 48).toInt64 * 10)) + ((A 2 - 48).toInt64 * 1)) + (0 : Int64))) ((0 : Int64))
  have u4 := rng64 ((((((0 : Int64) + ((A 1 - 48).toInt64 * 10)) + ((A 2 - 48).toInt64 * 1)) + (0 : Int64))) + ((0 : Int64)))
  have s5 := c_ladd ((((((0 : Int64) + ((A 1 - 48).toInt64 * 10)) + ((A 2 - 48).toInt64 * 1)) + (0 : Int64)) + (0 : Int64))) ((0 : Int64))
  have u5 := rng64 (((((((0 : Int64) + ((A 1 - 48).toInt64 * 10)) + ((A 2 - 48).toInt64 * 1)) + (0 : Int64)) + (0 : Int64))) + ((0 : Int64)))
  have v : own_S A 2 1 = (((A 1).toInt - 48) * 10 ^ 1 + (((A 2).toInt - 48) * 10 ^ 0 + 0)) := rfl
  rw [v]
  omega
theorem own_c1_4 (A : Nat → Int32) (h : own_ok A 1 3) : (own_sum A 1 4).toInt = own_S A 3 1 := by
  have h1 := h 1 (by decide) (by decide)
  have h2 := h 2 (by decide) (by decide)
  have h3 := h 3 (by decide) (by decide)
  have p1 : ((A 1 - 48).toInt64 * 100).toInt = ((A 1).toInt - 48) * 100 := own_part (A 1) 100 h1 (by decide)
  have p2 : ((A 2 - 48).toInt64 * 10).toInt = ((A 2).toInt - 48) * 10 := own_part (A 2) 10 h2 (by decide)
  have p3 : ((A 3 - 48).toInt64 * 1).toInt = ((A 3).toInt - 48) * 1 := own_part (A 3) 1 h3 (by decide)
  show ((0 : Int64) + ((A 1 - 48).toInt64 * 100) + ((A 2 - 48).toInt64 * 10) + ((A 3 - 48).toInt64 * 1) + (0 : Int64) + (0 : Int64) : Int64).toInt = own_S A 3 1
  have z0 : (0 : Int64).toInt = 0 := rfl
  have s1 := c_ladd ((0 : Int64)) (((A 1 - 48).toInt64 * 100))
  have u1 := rng64 (((0 : Int64)) + (((A 1 - 48).toInt64 * 100)))
  have s2 := c_ladd (((0 : Int64) + ((A 1 - 48).toInt64 * 100))) (((A 2 - 48).toInt64 * 10))
  have u2 := rng64 ((((0 : Int64) + ((A 1 - 48).toInt64 * 100))) + (((A 2 - 48).toInt64 * 10)))
  have s3 := c_ladd ((((0 : Int64) + ((A 1 - 48).toInt64 * 100)) + ((A 2 - 48).toInt64 * 10))) (((A 3 - 48).toInt64 * 1))
  have u3 := rng64 (((((0 : Int64) + ((A 1 - 48).toInt64 * 100)) + ((A 2 - 48).toInt64 * 10))) + (((A 3 - 48).toInt64 * 1)))
  have s4 := c_ladd (((((0 : Int64) + ((A 1 - 48).toInt64 * 100)) + ((A 2 - 48).toInt64 * 10)) + ((A 3 - 48).toInt64 * 1))) ((0 : Int64))
  have u4 := rng64 ((((((0 : Int64) + ((A 1 - 48).toInt64 * 100)) + ((A 2 - 48).toInt64 * 10)) + ((A 3 - 48).toInt64 * 1))) + ((0 : Int64)))
  have s5 := c_ladd ((((((0 : Int64) + ((A 1 - 48).toInt64 * 100)) + ((A 2 - 48).toInt64 * 10)) + ((A 3 - 48).toInt64 * 1)) + (0 : Int64))) ((0 : Int64))
  have u5 := rng64 (((((((0 : Int64) + ((A 1 - 48).toInt64 * 100)) + ((A 2 - 48).toInt64 * 10)) + ((A 3 - 48).toInt64 * 1)) + (0 : Int64))) + ((0 : Int64)))
  have v : own_S A 3 1 = (((A 1).toInt - 48) * 10 ^ 2 + (((A 2).toInt - 48) * 10 ^ 1 + (((A 3).toInt - 48) * 10 ^ 0 + 0))) := rfl
  rw [v]
  omega
theorem own_c1_5 (A : Nat → Int32) (h : own_ok A 1 4) : (own_sum A 1 5).toInt = own_S A 4 1 := by
  have h1 := h 1 (by decide) (by decide)
  have h2 := h 2 (by decide) (by decide)
  have h3 := h 3 (by decide) (by decide)
  have h4 := h 4 (by decide) (by decide)
  have p1 : ((A 1 - 48).toInt64 * 1000).toInt = ((A 1).toInt - 48) * 1000 := own_part (A 1) 1000 h1 (by decide)
  have p2 : ((A 2 - 48).toInt64 * 100).toInt = ((A 2).toInt - 48) * 100 := own_part (A 2) 100 h2 (by decide)
  have p3 : ((A 3 - 48).toInt64 * 10).toInt = ((A 3).toInt - 48) * 10 := own_part (A 3) 10 h3 (by decide)
  have p4 : ((A 4 - 48).toInt64 * 1).toInt = ((A 4).toInt - 48) * 1 := own_part (A 4) 1 h4 (by decide)
  show ((0 : Int64) + ((A 1 - 48).toInt64 * 1000) + ((A 2 - 48).toInt64 * 100) + ((A 3 - 48).toInt64 * 10) + ((A 4 - 48).toInt64 * 1) + (0 : Int64) : Int64).toInt = own_S A 4 1
  have z0 : (0 : Int64).toInt = 0 := rfl
  have s1 := c_ladd ((0 : Int64)) (((A 1 - 48).toInt64 * 1000))
  have u1 := rng64 (((0 : Int64)) + (((A 1 - 48).toInt64 * 1000)))
  have s2 := c_ladd (((0 : Int64) + ((A 1 - 48).toInt64 * 1000))) (((A 2 - 48).toInt64 * 100))
  have u2 := rng64 ((((0 : Int64) + ((A 1 - 48).toInt64 * 1000))) + (((A 2 - 48).toInt64 * 100)))
  have s3 := c_ladd ((((0 : Int64) + ((A 1 - 48).toInt64 * 1000)) + ((A 2 - 48).toInt64 * 100))) (((A 3 - 48).toInt64 * 10))
  have u3 := rng64 (((((0 : Int64) + ((A 1 - 48).toInt64 * 1000)) + ((A 2 - 48).toInt64 * 100))) + (((A 3 - 48).toInt64 * 10)))
  have s4 := c_ladd (((((0 : Int64) + ((A 1 - 48).toInt64 * 1000)) + ((A 2 - 48).toInt64 * 100)) + ((A 3 - 48).toInt64 * 10))) (((A 4 - 48).toInt64 * 1))
  have u4 := rng64 ((((((0 : Int64) + ((A 1 - 48).toInt64 * 1000)) + ((A 2 - 48).toInt64 * 100)) + ((A 3 - 48).toInt64 * 10))) + (((A 4 - 48).toInt64 * 1)))
  have s5 := c_ladd ((((((0 : Int64) + ((A 1 - 48).toInt64 * 1000)) + ((A 2 - 48).toInt64 * 100)) + ((A 3 - 48).toInt64 * 10)) + ((A 4 - 48).toInt64 * 1))) ((0 : Int64))
  have u5 := rng64 (((((((0 : Int64) + ((A 1 - 48).toInt64 * 1000)) + ((A 2 - 48).toInt64 * 100)) + ((A 3 - 48).toInt64 * 10)) + ((A 4 - 48).toInt64 * 1))) + ((0 : Int64)))
  have v : own_S A 4 1 = (((A 1).toInt - 48) * 10 ^ 3 + (((A 2).toInt - 48) * 10 ^ 2 + (((A 3).toInt - 48) * 10 ^ 1 + (((A 4).toInt - 48) * 10 ^ 0 + 0)))) := rfl
  rw [v]
  omega
theorem own_c1_6 (A : Nat → Int32) (h : own_ok A 1 5) : (own_sum A 1 6).toInt = own_S A 5 1 := by
  have h1 := h 1 (by decide) (by decide)
  have h2 := h 2 (by decide) (by decide)
  have h3 := h 3 (by decide) (by decide)
  have h4 := h 4 (by decide) (by decide)
  have h5 := h 5 (by decide) (by decide)
  have p1 : ((A 1 - 48).toInt64 * 10000).toInt = ((A 1).toInt - 48) * 10000 := own_part (A 1) 10000 h1 (by decide)
  have p2 : ((A 2 - 48).toInt64 * 1000).toInt = ((A 2).toInt - 48) * 1000 := own_part (A 2) 1000 h2 (by decide)
  have p3 : ((A 3 - 48).toInt64 * 100).toInt = ((A 3).toInt - 48) * 100 := own_part (A 3) 100 h3 (by decide)
  have p4 : ((A 4 - 48).toInt64 * 10).toInt = ((A 4).toInt - 48) * 10 := own_part (A 4) 10 h4 (by decide)
  have p5 : ((A 5 - 48).toInt64 * 1).toInt = ((A 5).toInt - 48) * 1 := own_part (A 5) 1 h5 (by decide)
  show ((0 : Int64) + ((A 1 - 48).toInt64 * 10000) + ((A 2 - 48).toInt64 * 1000) + ((A 3 - 48).toInt64 * 100) + ((A 4 - 48).toInt64 * 10) + ((A 5 - 48).toInt64 * 1) : Int64).toInt = own_S A 5 1
  have z0 : (0 : Int64).toInt = 0 := rfl
  have s1 := c_ladd ((0 : Int64)) (((A 1 - 48).toInt64 * 10000))
  have u1 := rng64 (((0 : Int64)) + (((A 1 - 48).toInt64 * 10000)))
  have s2 := c_ladd (((0 : Int64) + ((A 1 - 48).toInt64 * 10000))) (((A 2 - 48).toInt64 * 1000))
  have u2 := rng64 ((((0 : Int64) + ((A 1 - 48).toInt64 * 10000))) + (((A 2 - 48).toInt64 * 1000)))
  have s3 := c_ladd ((((0 : Int64) + ((A 1 - 48).toInt64 * 10000)) + ((A 2 - 48).toInt64 * 1000))) (((A 3 - 48).toInt64 * 100))
  have u3 := rng64 (((((0 : Int64) + ((A 1 - 48).toInt64 * 10000)) + ((A 2 - 48).toInt64 * 1000))) + (((A 3 - 48).toInt64 * 100)))
  have s4 := c_ladd (((((0 : Int64) + ((A 1 - 48).toInt64 * 10000)) + ((A 2 - 48).toInt64 * 1000)) + ((A 3 - 48).toInt64 * 100))) (((A 4 - 48).toInt64 * 10))
  have u4 := rng64 ((((((0 : Int64) + ((A 1 - 48).toInt64 * 10000)) + ((A 2 - 48).toInt64 * 1000)) + ((A 3 - 48).toInt64 * 100))) + (((A 4 - 48).toInt64 * 10)))
  have s5 := c_ladd ((((((0 : Int64) + ((A 1 - 48).toInt64 * 10000)) + ((A 2 - 48).toInt64 * 1000)) + ((A 3 - 48).toInt64 * 100)) + ((A 4 - 48).toInt64 * 10))) (((A 5 - 48).toInt64 * 1))
  have u5 := rng64 (((((((0 : Int64) + ((A 1 - 48).toInt64 * 10000)) + ((A 2 - 48).toInt64 * 1000)) + ((A 3 - 48).toInt64 * 100)) + ((A 4 - 48).toInt64 * 10))) + (((A 5 - 48).toInt64 * 1)))
  have v : own_S A 5 1 = (((A 1).toInt - 48) * 10 ^ 4 + (((A 2).toInt - 48) * 10 ^ 3 + (((A 3).toInt - 48) * 10 ^ 2 + (((A 4).toInt - 48) * 10 ^ 1 + (((A 5).toInt - 48) * 10 ^ 0 + 0))))) := rfl
  rw [v]
  omega
theorem own_c2_2 (A : Nat → Int32) (h : own_ok A 2 0) : (own_sum A 2 2).toInt = own_S A 0 2 := by
  show ((0 : Int64) + (0 : Int64) + (0 : Int64) + (0 : Int64) + (0 : Int64) + (0 : Int64) : Int64).toInt = 0
  have z0 : (0 : Int64).toInt = 0 := rfl
  have s1 := c_ladd ((0 : Int64)) ((0 : Int64))
  have u1 := rng64 (((0 : Int64)) + ((0 : Int64)))
  have s2 := c_ladd (((0 : Int64) + (0 : Int64))) ((0 : Int64))
  have u2 := rng64 ((((0 : Int64) + (0 : Int64))) + ((0 : Int64)))
  have s3 := c_ladd ((((0 : Int64) + (0 : Int64)) + (0 : Int64))) ((0 : Int64))
  have u3 := rng64 (((((0 : Int64) + (0 : Int64)) + (0 : Int64))) + ((0 : Int64)))
  have s4 := c_ladd (((((0 : Int64) + (0 : Int64)) + (0 : Int64)) + (0 : Int64))) ((0 : Int64))
  have u4 := rng64 ((((((0 : Int64) + (0 : Int64)) + (0 : Int64)) + (0 : Int64))) + ((0 : Int64)))
  have s5 := c_ladd ((((((0 : Int64) + (0 : Int64)) + (0 : Int64)) + (0 : Int64)) + (0 : Int64))) ((0 : Int64))
  have u5 := rng64 (((((((0 : Int64) + (0 : Int64)) + (0 : Int64)) + (0 : Int64)) + (0 : Int64))) + ((0 : Int64)))
  omega
theorem own_c2_3 (A : Nat → Int32) (h : own_ok A 2 1) : (own_sum A 2 3).toInt = own_S A 1 2 := by
  have h2 := h 2 (by decide) (by decide)
  have p2 : ((A 2 - 48).toInt64 * 1).toInt = ((A 2).toInt - 48) * 1 := own_part (A 2) 1 h2 (by decide)
  show ((0 : Int64) + (0 : Int64) + ((A 2 - 48).toInt64 * 1) + (0 : Int64) + (0 : Int64) + (0 : Int64) : Int64).toInt = own_S A 1 2
  have z0 : (0 : Int64).toInt = 0 := rfl
  have s1 := c_ladd ((0 : Int64)) ((0 : Int64))
  have u1 := rng64 (((0 : Int64)) + ((0 : Int64)))
  have s2 := c_ladd (((0 : Int64) + (0 : Int64))) (((A 2 - 48).toInt64 * 1))
  have u2 := rng64 ((((0 : Int64) + (0 : Int64))) + (((A 2 - 48).toInt64 * 1)))
  have s3 := c_ladd ((((0 : Int64) + (0 : Int64)) + ((A 2 - 48).toInt64 * 1))) ((0 : Int64))
  have u3 := rng64 (((((0 : Int64) + (0 : Int64)) + ((A 2 - 48).toInt64 * 1))) + ((0 : Int64)))
  have s4 := c_ladd (((((0 : Int64) + (0 : Int64)) + ((A 2 - 48).toInt64 * 1)) + (0 : Int64))) ((0 : Int64))
  have u4 := rng64 ((((((0 : Int64) + (0 : Int64)) + ((A 2 - 48).toInt64 * 1)) + (0 : Int64))) + ((0 : Int64)))
  have s5 := c_ladd ((((((0 : Int64) + (0 : Int64)) + ((A 2 - 48).toInt64 * 1)) + (0 : Int64)) + (0 : Int64))) ((0 : Int64))
  have u5 := rng64 (((((((0 : Int64) + (0 : Int64)) + ((A 2 - 48).toInt64 * 1)) + (0 : Int64)) + (0 : Int64))) + ((0 : Int64)))
  have v : own_S A 1 2 = (((A 2).toInt - 48) * 10 ^ 0 + 0) := rfl
  rw [v]
  omega
theorem own_c2_4 (A : Nat → Int32) (h : own_ok A 2 2) : (own_sum A 2 4).toInt = own_S A 2 2 := by
  have h2 := h 2 (by decide) (by decide)
  have h3 := h 3 (by decide) (by decide)
  have p2 : ((A 2 - 48).toInt64 * 10).toInt = ((A 2).toInt - 48) * 10 := own_part (A 2) 10 h2 (by decide)
  have p3 : ((A 3 - 48).toInt64 * 1).toInt = ((A 3).toInt - 48) * 1 := own_part (A 3) 1 h3 (by decide)
  show ((0 : Int64) + (0 : Int64) + ((A 2 - 48).toInt64 * 10) + ((A 3 - 48).toInt64 * 1) + (0 : Int64) + (0 : Int64) : Int64).toInt = own_S A 2 2
  have z0 : (0 : Int64).toInt = 0 := rfl
  have s1 := c_ladd ((0 : Int64)) ((0 : Int64))
  have u1 := rng64 (((0 : Int64)) + ((0 : Int64)))
  have s2 := c_ladd (((0 : Int64) + (0 : Int64))) (((A 2 - 48).toInt64 * 10))
  have u2 := rng64 ((((0 : Int64) + (0 : Int64))) + (((A 2 - 48).toInt64 * 10)))
  have s3 := c_ladd ((((0 : Int64) + (0 : Int64)) + ((A 2 - 48).toInt64 * 10))) (((A 3 - 48).toInt64 * 1))
  have u3 := rng64 (((((0 : Int64) + (0 : Int64)) + ((A 2 - 48).toInt64 * 10))) + (((A 3 - 48).toInt64 * 1)))
  have s4 := c_ladd (((((0 : Int64) + (0 : Int64)) + ((A 2 - 48).toInt64 * 10)) + ((A 3 - 48).toInt64 * 1))) ((0 : Int64))
  have u4 := rng64 ((((((0 : Int64) + (0 : Int64)) + ((A 2 - 48).toInt64 * 10)) + ((A 3 - 48).toInt64 * 1))) + ((0 : Int64)))
  have s5 := c_ladd ((((((0 : Int64) + (0 : Int64)) + ((A 2 - 48).toInt64 * 10)) + ((A 3 - 48).toInt64 * 1)) + (0 : Int64))) ((0 : Int64))
  have u5 := rng64 (((((((0 : Int64) + (0 : Int64)) + ((A 2 - 48).toInt64 * 10)) + ((A 3 - 48).toInt64 * 1)) + (0 : Int64))) + ((0 : Int64)))
  have v : own_S A 2 2 = (((A 2).toInt - 48) * 10 ^ 1 + (((A 3).toInt - 48) * 10 ^ 0 + 0)) := rfl
  rw [v]
  omega
theorem own_c2_5 (A : Nat → Int32) (h : own_ok A 2 3) : (own_sum A 2 5).toInt = own_S A 3 2 := by
  have h2 := h 2 (by decide) (by decide)
  have h3 := h 3 (by decide) (by decide)
  have h4 := h 4 (by decide) (by decide)
  have p2 : ((A 2 - 48).toInt64 * 100).toInt = ((A 2).toInt - 48) * 100 := own_part (A 2) 100 h2 (by decide)
  have p3 : ((A 3 - 48).toInt64 * 10).toInt = ((A 3).toInt - 48) * 10 := own_part (A 3) 10 h3 (by decide)
  have p4 : ((A 4 - 48).toInt64 * 1).toInt = ((A 4).toInt - 48) * 1 := own_part (A 4) 1 h4 (by decide)
  show ((0 : Int64) + (0 : Int64) + ((A 2 - 48).toInt64 * 100) + ((A 3 - 48).toInt64 * 10) + ((A 4 - 48).toInt64 * 1) + (0 : Int64) : Int64).toInt = own_S A 3 2
  have z0 : (0 : Int64).toInt = 0 := rfl
  have s1 := c_ladd ((0 : Int64)) ((0 : Int64))
  have u1 := rng64 (((0 : Int64)) + ((0 : Int64)))
  have s2 := c_ladd (((0 : Int64) + (0 : Int64))) (((A 2 - 48).toInt64 * 100))
  have u2 := rng64 ((((0 : Int64) + (0 : Int64))) + (((A 2 - 48).toInt64 * 100)))
  have s3 := c_ladd ((((0 : Int64) + (0 : Int64)) + ((A 2 - 48).toInt64 * 100))) (((A 3 - 48).toInt64 * 10))
  have u3 := rng64 (((((0 : Int64) + (0 : Int64)) + ((A 2 - 48).toInt64 * 100))) + (((A 3 - 48).toInt64 * 10)))
  have s4 := c_ladd (((((0 : Int64) + (0 : Int64)) + ((A 2 - 48).toInt64 * 100)) + ((A 3 - 48).toInt64 * 10))) (((A 4 - 48).toInt64 * 1))
  have u4 := rng64 ((((((0 : Int64) + (0 : Int64)) + ((A 2 - 48).toInt64 * 100)) + ((A 3 - 48).toInt64 * 10))) + (((A 4 - 48).toInt64 * 1)))
  have s5 := c_ladd ((((((0 : Int64) + (0 : Int64)) + ((A 2 - 48).toInt64 * 100)) + ((A 3 - 48).toInt64 * 10)) + ((A 4 - 48).toInt64 * 1))) ((0 : Int64))
  have u5 := rng64 (((((((0 : Int64) + (0 : Int64)) + ((A 2 - 48).toInt64 * 100)) + ((A 3 - 48).toInt64 * 10)) + ((A 4 - 48).toInt64 * 1))) + ((0 : Int64)))
  have v : own_S A 3 2 = (((A 2).toInt - 48) * 10 ^ 2 + (((A 3).toInt - 48) * 10 ^ 1 + (((A 4).toInt - 48) * 10 ^ 0 + 0))) := rfl
  rw [v]
  omega
theorem own_c2_6 (A : Nat → Int32) (h : own_ok A 2 4) : (own_sum A 2 6).toInt = own_S A 4 2 := by
  have h2 := h 2 (by decide) (by decide)
  have h3 := h 3 (by decide) (by decide)
  have h4 := h 4 (by decide) (by decide)
  have h5 := h 5 (by decide) (by decide)
  have p2 : ((A 2 - 48).toInt64 * 1000).toInt = ((A 2).toInt - 48) * 1000 := own_part (A 2) 1000 h2 (by decide)
  have p3 : ((A 3 - 48).toInt64 * 100).toInt = ((A 3).toInt - 48) * 100 := own_part (A 3) 100 h3 (by decide)
  have p4 : ((A 4 - 48).toInt64 * 10).toInt = ((A 4).toInt - 48) * 10 := own_part (A 4) 10 h4 (by decide)
  have p5 : ((A 5 - 48).toInt64 * 1).toInt = ((A 5).toInt - 48) * 1 := own_part (A 5) 1 h5 (by decide)
  show ((0 : Int64) + (0 : Int64) + ((A 2 - 48).toInt64 * 1000) + ((A 3 - 48).toInt64 * 100) + ((A 4 - 48).toInt64 * 10) + ((A 5 - 48).toInt64 * 1) : Int64).toInt = own_S A 4 2
  have z0 : (0 : Int64).toInt = 0 := rfl
  have s1 := c_ladd ((0 : Int64)) ((0 : Int64))
  have u1 := rng64 (((0 : Int64)) + ((0 : Int64)))
  have s2 := c_ladd (((0 : Int64) + (0 : Int64))) (((A 2 - 48).toInt64 * 1000))
  have u2 := rng64 ((((0 : Int64) + (0 : Int64))) + (((A 2 - 48).toInt64 * 1000)))
  have s3 := c_ladd ((((0 : Int64) + (0 : Int64)) + ((A 2 - 48).toInt64 * 1000))) (((A 3 - 48).toInt64 * 100))
  have u3 := rng64 (((((0 : Int64) + (0 : Int64)) + ((A 2 - 48).toInt64 * 1000))) + (((A 3 - 48).toInt64 * 100)))
  have s4 := c_ladd (((((0 : Int64) + (0 : Int64)) + ((A 2 - 48).toInt64 * 1000)) + ((A 3 - 48).toInt64 * 100))) (((A 4 - 48).toInt64 * 10))
  have u4 := rng64 ((((((0 : Int64) + (0 : Int64)) + ((A 2 - 48).toInt64 * 1000)) + ((A 3 - 48).toInt64 * 100))) + (((A 4 - 48).toInt64 * 10)))
  have s5 := c_ladd ((((((0 : Int64) + (0 : Int64)) + ((A 2 - 48).toInt64 * 1000)) + ((A 3 - 48).toInt64 * 100)) + ((A 4 - 48).toInt64 * 10))) (((A 5 - 48).toInt64 * 1))
  have u5 := rng64 (((((((0 : Int64) + (0 : Int64)) + ((A 2 - 48).toInt64 * 1000)) + ((A 3 - 48).toInt64 * 100)) + ((A 4 - 48).toInt64 * 10))) + (((A 5 - 48).toInt64 * 1)))
  have v : own_S A 4 2 = (((A 2).toInt - 48) * 10 ^ 3 + (((A 3).toInt - 48) * 10 ^ 2 + (((A 4).toInt - 48) * 10 ^ 1 + (((A 5).toInt - 48) * 10 ^ 0 + 0)))) := rfl
  rw [v]
  omega
theorem own_c3_3 (A : Nat → Int32) (h : own_ok A 3 0) : (own_sum A 3 3).toInt = own_S A 0 3 := by
  show ((0 : Int64) + (0 : Int64) + (0 : Int64) + (0 : Int64) + (0 : Int64) + (0 : Int64) : Int64).toInt = 0
  have z0 : (0 : Int64).toInt = 0 := rfl
  have s1 := c_ladd ((0 : Int64)) ((0 : Int64))
  have u1 := rng64 (((0 : Int64)) + ((0 : Int64)))
  have s2 := c_ladd (((0 : Int64) + (0 : Int64))) ((0 : Int64))
  have u2 := rng64 ((((0 : Int64) + (0 : Int64))) + ((0 : Int64)))
  have s3 := c_ladd ((((0 : Int64) + (0 : Int64)) + (0 : Int64))) ((0 : Int64))
  have u3 := rng64 (((((0 : Int64) + (0 : Int64)) + (0 : Int64))) + ((0 : Int64)))
  have s4 := c_ladd (((((0 : Int64) + (0 : Int64)) + (0 : Int64)) + (0 : Int64))) ((0 : Int64))
  have u4 := rng64 ((((((0 : Int64) + (0 : Int64)) + (0 : Int64)) + (0 : Int64))) + ((0 : Int64)))
  have s5 := c_ladd ((((((0 : Int64) + (0 : Int64)) + (0 : Int64)) + (0 : Int64)) + (0 : Int64))) ((0 : Int64))
  have u5 := rng64 (((((((0 : Int64) + (0 : Int64)) + (0 : Int64)) + (0 : Int64)) + (0 : Int64))) + ((0 : Int64)))
  omega
theorem own_c3_4 (A : Nat → Int32) (h : own_ok A 3 1) : (own_sum A 3 4).toInt = own_S A 1 3 := by
  have h3 := h 3 (by decide) (by decide)
  have p3 : ((A 3 - 48).toInt64 * 1).toInt = ((A 3).toInt - 48) * 1 := own_part (A 3) 1 h3 (by decide)
  show ((0 : Int64) + (0 : Int64) + (0 : Int64) + ((A 3 - 48).toInt64 * 1) + (0 : Int64) + (0 : Int64) : Int64).toInt = own_S A 1 3
  have z0 : (0 : Int64).toInt = 0 := rfl
  have s1 := c_ladd ((0 : Int64)) ((0 : Int64))
  have u1 := rng64 (((0 : Int64)) + ((0 : Int64)))
  have s2 := c_ladd (((0 : Int64) + (0 : Int64))) ((0 : Int64))
  have u2 := rng64 ((((0 : Int64) + (0 : Int64))) + ((0 : Int64)))
  have s3 := c_ladd ((((0 : Int64) + (0 : Int64)) + (0 : Int64))) (((A 3 - 48).toInt64 * 1))
  have u3 := rng64 (((((0 : Int64) + (0 : Int64)) + (0 : Int64))) + (((A 3 - 48).toInt64 * 1)))
  have s4 := c_ladd (((((0 : Int64) + (0 : Int64)) + (0 : Int64)) + ((A 3 - 48).toInt64 * 1))) ((0 : Int64))
  have u4 := rng64 ((((((0 : Int64) + (0 : Int64)) + (0 : Int64)) + ((A 3 - 48).toInt64 * 1))) + ((0 : Int64)))
  have s5 := c_ladd ((((((0 : Int64) + (0 : Int64)) + (0 : Int64)) + ((A 3 - 48).toInt64 * 1)) + (0 : Int64))) ((0 : Int64))
  have u5 := rng64 (((((((0 : Int64) + (0 : Int64)) + (0 : Int64)) + ((A 3 - 48).toInt64 * 1)) + (0 : Int64))) + ((0 : Int64)))
  have v : own_S A 1 3 = (((A 3).toInt - 48) * 10 ^ 0 + 0) := rfl
  rw [v]
  omega
theorem own_c3_5 (A : Nat → Int32) (h : own_ok A 3 2) : (own_sum A 3 5).toInt = own_S A 2 3 := by
  have h3 := h 3 (by decide) (by decide)
  have h4 := h 4 (by decide) (by decide)
  have p3 : ((A 3 - 48).toInt64 * 10).toInt = ((A 3).toInt - 48) * 10 := own_part (A 3) 10 h3 (by decide)
  have p4 : ((A 4 - 48).toInt64 * 1).toInt = ((A 4).toInt - 48) * 1 := own_part (A 4) 1 h4 (by decide)
  show ((0 : Int64) + (0 : Int64) + (0 : Int64) + ((A 3 - 48).toInt64 * 10) + ((A 4 - 48).toInt64 * 1) + (0 : Int64) : Int64).toInt = own_S A 2 3
  have z0 : (0 : Int64).toInt = 0 := rfl
  have s1 := c_ladd ((0 : Int64)) ((0 : Int64))
  have u1 := rng64 (((0 : Int64)) + ((0 : Int64)))
  have s2 := c_ladd (((0 : Int64) + (0 : Int64))) ((0 : Int64))
  have u2 := rng64 ((((0 : Int64) + (0 : Int64))) + ((0 : Int64)))
  have s3 := c_ladd ((((0 : Int64) + (0 : Int64)) + (0 : Int64))) (((A 3 - 48).toInt64 * 10))
  have u3 := rng64 (((((0 : Int64) + (0 : Int64)) + (0 : Int64))) + (((A 3 - 48).toInt64 * 10)))
  have s4 := c_ladd (((((0 : Int64) + (0 : Int64)) + (0 : Int64)) + ((A 3 - 48).toInt64 * 10))) (((A 4 - 48).toInt64 * 1))
  have u4 := rng64 ((((((0 : Int64) + (0 : Int64)) + (0 : Int64)) + ((A 3 - 48).toInt64 * 10))) + (((A 4 - 48).toInt64 * 1)))
  have s5 := c_ladd ((((((0 : Int64) + (0 : Int64)) + (0 : Int64)) + ((A 3 - 48).toInt64 * 10)) + ((A 4 - 48).toInt64 * 1))) ((0 : Int64))
  have u5 := rng64 (((((((0 : Int64) + (0 : Int64)) + (0 : Int64)) + ((A 3 - 48).toInt64 * 10)) + ((A 4 - 48).toInt64 * 1))) + ((0 : Int64)))
  have v : own_S A 2 3 = (((A 3).toInt - 48) * 10 ^ 1 + (((A 4).toInt - 48) * 10 ^ 0 + 0)) := rfl
  rw [v]
  omega
theorem own_c3_6 (A : Nat → Int32) (h : own_ok A 3 3) : (own_sum A 3 6).toInt = own_S A 3 3 := by
  have h3 := h 3 (by decide) (by decide)
  have h4 := h 4 (by decide) (by decide)
  have h5 := h 5 (by decide) (by decide)
  have p3 : ((A 3 - 48).toInt64 * 100).toInt = ((A 3).toInt - 48) * 100 := own_part (A 3) 100 h3 (by decide)
  have p4 : ((A 4 - 48).toInt64 * 10).toInt = ((A 4).toInt - 48) * 10 := own_part (A 4) 10 h4 (by decide)
  have p5 : ((A 5 - 48).toInt64 * 1).toInt = ((A 5).toInt - 48) * 1 := own_part (A 5) 1 h5 (by decide)
  show ((0 : Int64) + (0 : Int64) + (0 : Int64) + ((A 3 - 48).toInt64 * 100) + ((A 4 - 48).toInt64 * 10) + ((A 5 - 48).toInt64 * 1) : Int64).toInt = own_S A 3 3
  have z0 : (0 : Int64).toInt = 0 := rfl
  have s1 := c_ladd ((0 : Int64)) ((0 : Int64))
  have u1 := rng64 (((0 : Int64)) + ((0 : Int64)))
  have s2 := c_ladd (((0 : Int64) + (0 : Int64))) ((0 : Int64))
  have u2 := rng64 ((((0 : Int64) + (0 : Int64))) + ((0 : Int64)))
  have s3 := c_ladd ((((0 : Int64) + (0 : Int64)) + (0 : Int64))) (((A 3 - 48).toInt64 * 100))
  have u3 := rng64 (((((0 : Int64) + (0 : Int64)) + (0 : Int64))) + (((A 3 - 48).toInt64 * 100)))
  have s4 := c_ladd (((((0 : Int64) + (0 : Int64)) + (0 : Int64)) + ((A 3 - 48).toInt64 * 100))) (((A 4 - 48).toInt64 * 10))
  have u4 := rng64 ((((((0 : Int64) + (0 : Int64)) + (0 : Int64)) + ((A 3 - 48).toInt64 * 100))) + (((A 4 - 48).toInt64 * 10)))
  have s5 := c_ladd ((((((0 : Int64) + (0 : Int64)) + (0 : Int64)) + ((A 3 - 48).toInt64 * 100)) + ((A 4 - 48).toInt64 * 10))) (((A 5 - 48).toInt64 * 1))
  have u5 := rng64 (((((((0 : Int64) + (0 : Int64)) + (0 : Int64)) + ((A 3 - 48).toInt64 * 100)) + ((A 4 - 48).toInt64 * 10))) + (((A 5 - 48).toInt64 * 1)))
  have v : own_S A 3 3 = (((A 3).toInt - 48) * 10 ^ 2 + (((A 4).toInt - 48) * 10 ^ 1 + (((A 5).toInt - 48) * 10 ^ 0 + 0))) := rfl
  rw [v]
  omega
theorem own_c4_4 (A : Nat → Int32) (h : own_ok A 4 0) : (own_sum A 4 4).toInt = own_S A 0 4 := by
  show ((0 : Int64) + (0 : Int64) + (0 : Int64) + (0 : Int64) + (0 : Int64) + (0 : Int64) : Int64).toInt = 0
  have z0 : (0 : Int64).toInt = 0 := rfl
  have s1 := c_ladd ((0 : Int64)) ((0 : Int64))
  have u1 := rng64 (((0 : Int64)) + ((0 : Int64)))
  have s2 := c_ladd (((0 : Int64) + (0 : Int64))) ((0 : Int64))
  have u2 := rng64 ((((0 : Int64) + (0 : Int64))) + ((0 : Int64)))
  have s3 := c_ladd ((((0 : Int64) + (0 : Int64)) + (0 : Int64))) ((0 : Int64))
  have u3 := rng64 (((((0 : Int64) + (0 : Int64)) + (0 : Int64))) + ((0 : Int64)))
  have s4 := c_ladd (((((0 : Int64) + (0 : Int64)) + (0 : Int64)) + (0 : Int64))) ((0 : Int64))
  have u4 := rng64 ((((((0 : Int64) + (0 : Int64)) + (0 : Int64)) + (0 : Int64))) + ((0 : Int64)))
  have s5 := c_ladd ((((((0 : Int64) + (0 : Int64)) + (0 : Int64)) + (0 : Int64)) + (0 : Int64))) ((0 : Int64))
  have u5 := rng64 (((((((0 : Int64) + (0 : Int64)) + (0 : Int64)) + (0 : Int64)) + (0 : Int64))) + ((0 : Int64)))
  omega
theorem own_c4_5 (A : Nat → Int32) (h : own_ok A 4 1) : (own_sum A 4 5).toInt = own_S A 1 4 := by
  have h4 := h 4 (by decide) (by decide)
  have p4 : ((A 4 - 48).toInt64 * 1).toInt = ((A 4).toInt - 48) * 1 := own_part (A 4) 1 h4 (by decide)
  show ((0 : Int64) + (0 : Int64) + (0 : Int64) + (0 : Int64) + ((A 4 - 48).toInt64 * 1) + (0 : Int64) : Int64).toInt = own_S A 1 4
  have z0 : (0 : Int64).toInt = 0 := rfl
  have s1 := c_ladd ((0 : Int64)) ((0 : Int64))
  have u1 := rng64 (((0 : Int64)) + ((0 : Int64)))
  have s2 := c_ladd (((0 : Int64) + (0 : Int64))) ((0 : Int64))
  have u2 := rng64 ((((0 : Int64) + (0 : Int64))) + ((0 : Int64)))
  have s3 := c_ladd ((((0 : Int64) + (0 : Int64)) + (0 : Int64))) ((0 : Int64))
  have u3 := rng64 (((((0 : Int64) + (0 : Int64)) + (0 : Int64))) + ((0 : Int64)))
  have s4 := c_ladd (((((0 : Int64) + (0 : Int64)) + (0 : Int64)) + (0 : Int64))) (((A 4 - 48).toInt64 * 1))
  have u4 := rng64 ((((((0 : Int64) + (0 : Int64)) + (0 : Int64)) + (0 : Int64))) + (((A 4 - 48).toInt64 * 1)))
  have s5 := c_ladd ((((((0 : Int64) + (0 : Int64)) + (0 : Int64)) + (0 : Int64)) + ((A 4 - 48).toInt64 * 1))) ((0 : Int64))
  have u5 := rng64 (((((((0 : Int64) + (0 : Int64)) + (0 : Int64)) + (0 : Int64)) + ((A 4 - 48).toInt64 * 1))) + ((0 : Int64)))
  have v : own_S A 1 4 = (((A 4).toInt - 48) * 10 ^ 0 + 0) := rfl
  rw [v]
  omega
theorem own_c4_6 (A : Nat → Int32) (h : own_ok A 4 2) : (own_sum A 4 6).toInt = own_S A 2 4 := by
  have h4 := h 4 (by decide) (by decide)
  have h5 := h 5 (by decide) (by decide)
  have p4 : ((A 4 - 48).toInt64 * 10).toInt = ((A 4).toInt - 48) * 10 := own_part (A 4) 10 h4 (by decide)
  have p5 : ((A 5 - 48).toInt64 * 1).toInt = ((A 5).toInt - 48) * 1 := own_part (A 5) 1 h5 (by decide)
  show ((0 : Int64) + (0 : Int64) + (0 : Int64) + (0 : Int64) + ((A 4 - 48).toInt64 * 10) + ((A 5 - 48).toInt64 * 1) : Int64).toInt = own_S A 2 4
  have z0 : (0 : Int64).toInt = 0 := rfl
  have s1 := c_ladd ((0 : Int64)) ((0 : Int64))
  have u1 := rng64 (((0 : Int64)) + ((0 : Int64)))
  have s2 := c_ladd (((0 : Int64) + (0 : Int64))) ((0 : Int64))
  have u2 := rng64 ((((0 : Int64) + (0 : Int64))) + ((0 : Int64)))
  have s3 := c_ladd ((((0 : Int64) + (0 : Int64)) + (0 : Int64))) ((0 : Int64))
  have u3 := rng64 (((((0 : Int64) + (0 : Int64)) + (0 : Int64))) + ((0 : Int64)))
  have s4 := c_ladd (((((0 : Int64) + (0 : Int64)) + (0 : Int64)) + (0 : Int64))) (((A 4 - 48).toInt64 * 10))
  have u4 := rng64 ((((((0 : Int64) + (0 : Int64)) + (0 : Int64)) + (0 : Int64))) + (((A 4 - 48).toInt64 * 10)))
  have s5 := c_ladd ((((((0 : Int64) + (0 : Int64)) + (0 : Int64)) + (0 : Int64)) + ((A 4 - 48).toInt64 * 10))) (((A 5 - 48).toInt64 * 1))
  have u5 := rng64 (((((((0 : Int64) + (0 : Int64)) + (0 : Int64)) + (0 : Int64)) + ((A 4 - 48).toInt64 * 10))) + (((A 5 - 48).toInt64 * 1)))
  have v : own_S A 2 4 = (((A 4).toInt - 48) * 10 ^ 1 + (((A 5).toInt - 48) * 10 ^ 0 + 0)) := rfl
  rw [v]
  omega
theorem own_c5_5 (A : Nat → Int32) (h : own_ok A 5 0) : (own_sum A 5 5).toInt = own_S A 0 5 := by
  show ((0 : Int64) + (0 : Int64) + (0 : Int64) + (0 : Int64) + (0 : Int64) + (0 : Int64) : Int64).toInt = 0
  have z0 : (0 : Int64).toInt = 0 := rfl
  have s1 := c_ladd ((0 : Int64)) ((0 : Int64))
  have u1 := rng64 (((0 : Int64)) + ((0 : Int64)))
  have s2 := c_ladd (((0 : Int64) + (0 : Int64))) ((0 : Int64))
  have u2 := rng64 ((((0 : Int64) + (0 : Int64))) + ((0 : Int64)))
  have s3 := c_ladd ((((0 : Int64) + (0 : Int64)) + (0 : Int64))) ((0 : Int64))
  have u3 := rng64 (((((0 : Int64) + (0 : Int64)) + (0 : Int64))) + ((0 : Int64)))
  have s4 := c_ladd (((((0 : Int64) + (0 : Int64)) + (0 : Int64)) + (0 : Int64))) ((0 : Int64))
  have u4 := rng64 ((((((0 : Int64) + (0 : Int64)) + (0 : Int64)) + (0 : Int64))) + ((0 : Int64)))
  have s5 := c_ladd ((((((0 : Int64) + (0 : Int64)) + (0 : Int64)) + (0 : Int64)) + (0 : Int64))) ((0 : Int64))
  have u5 := rng64 (((((((0 : Int64) + (0 : Int64)) + (0 : Int64)) + (0 : Int64)) + (0 : Int64))) + ((0 : Int64)))
  omega
theorem own_c5_6 (A : Nat → Int32) (h : own_ok A 5 1) : (own_sum A 5 6).toInt = own_S A 1 5 := by
  have h5 := h 5 (by decide) (by decide)
  have p5 : ((A 5 - 48).toInt64 * 1).toInt = ((A 5).toInt - 48) * 1 := own_part (A 5) 1 h5 (by decide)
  show ((0 : Int64) + (0 : Int64) + (0 : Int64) + (0 : Int64) + (0 : Int64) + ((A 5 - 48).toInt64 * 1) : Int64).toInt = own_S A 1 5
  have z0 : (0 : Int64).toInt = 0 := rfl
  have s1 := c_ladd ((0 : Int64)) ((0 : Int64))
  have u1 := rng64 (((0 : Int64)) + ((0 : Int64)))
  have s2 := c_ladd (((0 : Int64) + (0 : Int64))) ((0 : Int64))
  have u2 := rng64 ((((0 : Int64) + (0 : Int64))) + ((0 : Int64)))
  have s3 := c_ladd ((((0 : Int64) + (0 : Int64)) + (0 : Int64))) ((0 : Int64))
  have u3 := rng64 (((((0 : Int64) + (0 : Int64)) + (0 : Int64))) + ((0 : Int64)))
  have s4 := c_ladd (((((0 : Int64) + (0 : Int64)) + (0 : Int64)) + (0 : Int64))) ((0 : Int64))
  have u4 := rng64 ((((((0 : Int64) + (0 : Int64)) + (0 : Int64)) + (0 : Int64))) + ((0 : Int64)))
  have s5 := c_ladd ((((((0 : Int64) + (0 : Int64)) + (0 : Int64)) + (0 : Int64)) + (0 : Int64))) (((A 5 - 48).toInt64 * 1))
  have u5 := rng64 (((((((0 : Int64) + (0 : Int64)) + (0 : Int64)) + (0 : Int64)) + (0 : Int64))) + (((A 5 - 48).toInt64 * 1)))
  have v : own_S A 1 5 = (((A 5).toInt - 48) * 10 ^ 0 + 0) := rfl
  rw [v]
  omega
theorem own_c6_6 (A : Nat → Int32) (h : own_ok A 6 0) : (own_sum A 6 6).toInt = own_S A 0 6 := by
  show ((0 : Int64) + (0 : Int64) + (0 : Int64) + (0 : Int64) + (0 : Int64) + (0 : Int64) : Int64).toInt = 0
  have z0 : (0 : Int64).toInt = 0 := rfl
  have s1 := c_ladd ((0 : Int64)) ((0 : Int64))
  have u1 := rng64 (((0 : Int64)) + ((0 : Int64)))
  have s2 := c_ladd (((0 : Int64) + (0 : Int64))) ((0 : Int64))
  have u2 := rng64 ((((0 : Int64) + (0 : Int64))) + ((0 : Int64)))
  have s3 := c_ladd ((((0 : Int64) + (0 : Int64)) + (0 : Int64))) ((0 : Int64))
  have u3 := rng64 (((((0 : Int64) + (0 : Int64)) + (0 : Int64))) + ((0 : Int64)))
  have s4 := c_ladd (((((0 : Int64) + (0 : Int64)) + (0 : Int64)) + (0 : Int64))) ((0 : Int64))
  have u4 := rng64 ((((((0 : Int64) + (0 : Int64)) + (0 : Int64)) + (0 : Int64))) + ((0 : Int64)))
  have s5 := c_ladd ((((((0 : Int64) + (0 : Int64)) + (0 : Int64)) + (0 : Int64)) + (0 : Int64))) ((0 : Int64))
  have u5 := rng64 (((((((0 : Int64) + (0 : Int64)) + (0 : Int64)) + (0 : Int64)) + (0 : Int64))) + ((0 : Int64)))
  omega
theorem own_eq32 {x : Int32} {n : Int32} (h : x.toInt = n.toInt) : x = n := Int32.toInt_inj.mp h
theorem own_sums (A : Nat → Int32) (f t : Int32) (hf : 0 ≤ f.toInt) (hft : f.toInt ≤ t.toInt) (ht : t.toInt ≤ 6) (h : own_ok A f.toInt.toNat (t.toInt - f.toInt).toNat) : (own_sum A f t).toInt = own_S A (t.toInt - f.toInt).toNat f.toInt.toNat := by
  have cf : f = 0 ∨ f = 1 ∨ f = 2 ∨ f = 3 ∨ f = 4 ∨ f = 5 ∨ f = 6 := by
    have q : f.toInt = 0 ∨ f.toInt = 1 ∨ f.toInt = 2 ∨ f.toInt = 3 ∨ f.toInt = 4 ∨ f.toInt = 5 ∨ f.toInt = 6 := by omega
    rcases q with q | q | q | q | q | q | q
    · exact Or.inl (own_eq32 q)
    · exact Or.inr (Or.inl (own_eq32 q))
    · exact Or.inr (Or.inr (Or.inl (own_eq32 q)))
    · exact Or.inr (Or.inr (Or.inr (Or.inl (own_eq32 q))))
    · exact Or.inr (Or.inr (Or.inr (Or.inr (Or.inl (own_eq32 q)))))
    · exact Or.inr (Or.inr (Or.inr (Or.inr (Or.inr (Or.inl (own_eq32 q))))))
    · exact Or.inr (Or.inr (Or.inr (Or.inr (Or.inr (Or.inr (own_eq32 q))))))
  have ct : t = 0 ∨ t = 1 ∨ t = 2 ∨ t = 3 ∨ t = 4 ∨ t = 5 ∨ t = 6 := by
    have q : t.toInt = 0 ∨ t.toInt = 1 ∨ t.toInt = 2 ∨ t.toInt = 3 ∨ t.toInt = 4 ∨ t.toInt = 5 ∨ t.toInt = 6 := by omega
    rcases q with q | q | q | q | q | q | q
    · exact Or.inl (own_eq32 q)
    · exact Or.inr (Or.inl (own_eq32 q))
    · exact Or.inr (Or.inr (Or.inl (own_eq32 q)))
    · exact Or.inr (Or.inr (Or.inr (Or.inl (own_eq32 q))))
    · exact Or.inr (Or.inr (Or.inr (Or.inr (Or.inl (own_eq32 q)))))
    · exact Or.inr (Or.inr (Or.inr (Or.inr (Or.inr (Or.inl (own_eq32 q))))))
    · exact Or.inr (Or.inr (Or.inr (Or.inr (Or.inr (Or.inr (own_eq32 q))))))
  rcases cf with rfl | rfl | rfl | rfl | rfl | rfl | rfl
  · rcases ct with rfl | rfl | rfl | rfl | rfl | rfl | rfl
    · exact own_c0_0 A h
    · exact own_c0_1 A h
    · exact own_c0_2 A h
    · exact own_c0_3 A h
    · exact own_c0_4 A h
    · exact own_c0_5 A h
    · exact own_c0_6 A h
  · rcases ct with rfl | rfl | rfl | rfl | rfl | rfl | rfl
    · exact absurd hft (by decide)
    · exact own_c1_1 A h
    · exact own_c1_2 A h
    · exact own_c1_3 A h
    · exact own_c1_4 A h
    · exact own_c1_5 A h
    · exact own_c1_6 A h
  · rcases ct with rfl | rfl | rfl | rfl | rfl | rfl | rfl
    · exact absurd hft (by decide)
    · exact absurd hft (by decide)
    · exact own_c2_2 A h
    · exact own_c2_3 A h
    · exact own_c2_4 A h
    · exact own_c2_5 A h
    · exact own_c2_6 A h
  · rcases ct with rfl | rfl | rfl | rfl | rfl | rfl | rfl
    · exact absurd hft (by decide)
    · exact absurd hft (by decide)
    · exact absurd hft (by decide)
    · exact own_c3_3 A h
    · exact own_c3_4 A h
    · exact own_c3_5 A h
    · exact own_c3_6 A h
  · rcases ct with rfl | rfl | rfl | rfl | rfl | rfl | rfl
    · exact absurd hft (by decide)
    · exact absurd hft (by decide)
    · exact absurd hft (by decide)
    · exact absurd hft (by decide)
    · exact own_c4_4 A h
    · exact own_c4_5 A h
    · exact own_c4_6 A h
  · rcases ct with rfl | rfl | rfl | rfl | rfl | rfl | rfl
    · exact absurd hft (by decide)
    · exact absurd hft (by decide)
    · exact absurd hft (by decide)
    · exact absurd hft (by decide)
    · exact absurd hft (by decide)
    · exact own_c5_5 A h
    · exact own_c5_6 A h
  · rcases ct with rfl | rfl | rfl | rfl | rfl | rfl | rfl
    · exact absurd hft (by decide)
    · exact absurd hft (by decide)
    · exact absurd hft (by decide)
    · exact absurd hft (by decide)
    · exact absurd hft (by decide)
    · exact absurd hft (by decide)
    · exact own_c6_6 A h
theorem own_main (A : Nat → Int32) (f t : Int32) (hf : 0 ≤ f.toInt) (hft : f.toInt ≤ t.toInt) (ht : t.toInt ≤ 6) : (((f4 7 f t A).getD 0).toInt64).toInt = (if ifCond.holds .eq (own_any A f t) = true then own_sum A f t else (-1 : Int64)).toInt := by
  obtain ⟨r, r1, r2⟩ := own_f4 f t A hf hft ht
  have e : (f4 7 f t A).getD 0 = r := by rw [r1]; rfl
  rw [e, c_i2l]
  rcases own_anyv A f t hf hft ht with ⟨a1, a2⟩ | ⟨a1, a2⟩
  · rw [a1]
    rcases r2 with ⟨q, -⟩ | ⟨-, q⟩
    · exact absurd q a2
    · rw [q]
      rfl
  · rw [a1]
    rcases r2 with ⟨-, q⟩ | ⟨q, -⟩
    · rw [q]
      exact (own_sums A f t hf hft ht a2).symm
    · exact absurd a2 q
theorem own_law (x0 : Int64) (x1 x2 x3 : Int32) : f0 x0 x1 x2 x3 = 1 := by
  have h1 := own_ft x0 x1 x2 x3
  have h2 := own_to x0 x1 x2 x3
  unfold f0 f0_j94
  refine own_last ?_
  rw [own_cne]
  exact fun q => q (own_main (f0_a24 x0 x1 x2 x3) (f0_v26 x0 x1 x2 x3) (f0_v27 x0 x1 x2 x3) h1.1 h2.1 h2.2)
set_option maxRecDepth 65536 in
set_option maxHeartbeats 40000000 in
theorem comes_1 {Post : Tables → Env → Array Value → State → Outcome → State → Prop} (hpost : ∀ tb e args s v u, (limb_1_1.after args s (.returned v) u = true ∧ limb_1_2.after args s (.returned v) u = true ∧ True) → FrameEnd s (.returned v) u (Jvm.fieldLocs frame_1_writes args s ++ Jvm.arrayLocs frame_1_arrays args s ++ Jvm.staticLocs frame_1_statics s) 16 128 → Post tb e args s (.returned v) u) :
    ArmFor flags0 classFile x code maxLocals ret World_1 tables_1 room_1 Calls_1 rest_1 Pre_1 Post := by
  intro l hfl _ _ p e ha hc hk s m args below hf hA hF happ hP
  obtain ⟨hcalls, hrest, hpre⟩ := hP
  obtain ⟨-, -, -, hnamed, -, -, -, hat⟩ := (Spec.applies_iff hf).mp happ
  obtain ⟨hg, hn⟩ := and_e (Cond.before_iff.mp (show (Jvm.Cond.and given_1 narrow_1).before args s = true from hpre))
  obtain ⟨g1, g2⟩ := and_e hg
  obtain ⟨g3, g4⟩ := and_e g2
  obtain ⟨g5, g6⟩ := and_e g4
  obtain ⟨g7, g8⟩ := and_e g6
  obtain ⟨w0, w1, w2, w3, rfl⟩ : ∃ w0 w1 w2 w3 : Value, args = #[w0, w1, w2, w3] := by
    have hs : args.size = 4 := by simpa [Cond.value, given_1] using g1
    obtain ⟨L⟩ := args
    match L, hs with
    | [w0, w1, w2, w3], _ => exact ⟨w0, w1, w2, w3, rfl⟩
  have hw := fun d (hd : d ∈ tables_1) => atoms_spec (ws := Jvm.Cond.code x code maxLocals ret :: tables_1) hat d (List.mem_cons_of_mem _ hd)
  obtain ⟨i0, ei0⟩ := isL_v g3
  obtain rfl : w0 = (.long i0) := Option.some.inj ei0
  obtain ⟨i1, ei1⟩ := is_v g5
  obtain rfl : w1 = (.int i1) := Option.some.inj ei1
  obtain ⟨i2, ei2⟩ := is_v g7
  obtain rfl : w2 = (.int i2) := Option.some.inj ei2
  obtain ⟨i3, ei3⟩ := is_v g8
  obtain rfl : w3 = (.int i3) := Option.some.inj ei3
  obtain ⟨n, o, h1, h2, h3, v, L, rfl, ⟨hv, N⟩, hq⟩ := rm0 l s _ hw tables_1 i0 i1 i2 i3 s.heap s.heap.size (Nat.le_refl _) p e ha hc hk s m _ below hf ((Spec.applies_iff_loose hf).mp happ).1 ⟨rfl, State.Warmed39.refl s, rfl⟩ trivial
  rw [own_law] at hv
  subst hv
  refine ⟨n, _, h1, h2, h3, hpost _ _ _ _ _ _ ⟨Cond.after_iff.mpr rfl, Cond.after_iff.mpr (eq_i res_at (Term.int_eval (1)) rfl), trivial⟩ ⟨hq.1, hq.2.1, (hq.2.2.sift fun y hy => Or.inr (N y hy)).mono (by decide) (by decide)⟩⟩
theorem main_1_1 : Claimed_1_1 := comes_1 fun _ _ _ _ _ _ h hF => ⟨h.1, hF⟩
theorem main_1_2 : Claimed_1_2 := comes_1 fun _ _ _ _ _ _ h hF => ⟨h.2.1, hF⟩
end Jvm.Pilot.@@N@@
namespace Jvm.Pilot.@@N@@
open Jvm Jvm.ClassFile Sem Op Lib Jvm.Free Jvm.Stand Jvm.Pilot.@@N@@.Jvm.D
/-! MADE BY PROGRAM (witnessworld.py) out of the Statement's table words and the real class files: 10 classes; the members and pool entries that the words name. The judged class is class 1, her method 5. -/
namespace start1
open Jvm.ClassFile
def u (s : String) : CpInfo := .utf8 (stringToUtf16 s)
/-- a pool by its gaps: so many unusable entries, then the entry; so many at the end -/
def gap : Nat → List CpInfo → List CpInfo
  | 0, r => r
  | n + 1, r => .unusable :: gap n r
def poolList (es : List (Nat × CpInfo)) (last : Nat) : List CpInfo := es.foldr (fun e r => gap e.1 (e.2 :: r)) (gap last [])
def pool (es : List (Nat × CpInfo)) (last : Nat) : Array CpInfo := ⟨poolList es last⟩
def fileOf (pool : Array CpInfo) (this : Nat) (attrs : Array Attribute := #[]) (ms : Array MethodInfo := #[]) (fl : Nat := 33) (sup : Nat := 0) (ifs : Array Nat := #[]) (fds : Array FieldInfo := #[]) : ClassFile where
  minorVersion := 0
  majorVersion := 65
  constantPool := pool
  accessFlags := fl
  thisClass := this
  superClass := sup
  interfaces := ifs
  fields := fds
  methods := ms
  attributes := attrs
def plain (name : String) (sup : Option ClassId) : Class where
  name := name
  kind := .ordinary
  loader := none
  accessFlags := 33
  super := sup
  interfaces := #[]
  cf := none
  fields := #[]
  methods := #[]
  instanceTypes := #[]
  staticTypes := #[]
  resolved := #[]
  callSites := []
  init := .initialized
  statics := none
  mirror := none

def pool0 : Array CpInfo := pool [(5, u "<init>"), (0, u "()V"), (1, .class_ 10), (1, u "java/lang/Object")] 113

def k0m0 : Method := { name := "<init>", desc := "()V", sig := { parameters := [], returnType := none }, accessFlags := 1, code := none }
/-- java/lang/Object -/
def k0 : Class := { plain "java/lang/Object" none with
  accessFlags := 33
  interfaces := #[]
  cf := some (fileOf pool0 8 #[] #[{ accessFlags := 1, nameIndex := 5, descriptorIndex := 6, attributes := #[] }] 33 0 #[] #[])
  fields := #[]
  methods := #[k0m0]
  instanceTypes := #[]
  staticTypes := #[]
  resolved := Array.replicate 124 none
  statics := none }

def pool1 : Array CpInfo := pool [(2, .class_ 4), (1, u "java/lang/Object"), (0, u "<init>"), (0, u "()V"), (0, .long 255), (1, .long 10), (1, .long 100), (1, .long 1000), (1, .long 10000), (1, .long 100000), (1, .methodref 20 21), (0, .class_ 22), (0, .nameAndType 23 24), (0, u "dev/stratumaudio/Lyrics3TagDecimalPinLaw"), (0, u "pow10"), (0, u "(I)J"), (0, .methodref 20 26), (0, .nameAndType 27 28), (0, u "pick"), (0, u "(JII)B"), (0, .integer 2147483647), (0, .methodref 20 31), (0, .nameAndType 32 33), (0, u "bad"), (0, u "(BIII)Z"), (0, .long 18446744073709551615), (1, .methodref 20 37), (0, .nameAndType 38 39), (0, u "contrib"), (0, u "(BIII)J"), (0, .methodref 41 42), (0, .class_ 43), (0, .nameAndType 44 45), (0, u "dev/stratumaudio/Lyrics3Tag"), (0, u "decimal"), (0, u "([BII)I"), (3, u "law"), (0, u "(JIII)Z")] 4

def k1m0 : Method := { name := "<init>", desc := "()V", sig := { parameters := [], returnType := none }, accessFlags := 1, code := none }
def k1c1 : Code := { maxStack := 4, maxLocals := 5, code := method_2_code, exceptionTable := #[], attributes := #[] }
def k1m1 : Method := { name := "pick", desc := "(JII)B", sig := { parameters := [.long, .int, .int], returnType := some .byte }, accessFlags := 10, code := some k1c1 }
def k1c2 : Code := { maxStack := 2, maxLocals := 1, code := method_3_code, exceptionTable := #[], attributes := #[] }
def k1m2 : Method := { name := "pow10", desc := "(I)J", sig := { parameters := [.int], returnType := some .long }, accessFlags := 10, code := some k1c2 }
def k1c3 : Code := { maxStack := 2, maxLocals := 4, code := method_4_code, exceptionTable := #[], attributes := #[] }
def k1m3 : Method := { name := "bad", desc := "(BIII)Z", sig := { parameters := [.byte, .int, .int, .int], returnType := some .boolean }, accessFlags := 10, code := some k1c3 }
def k1c4 : Code := { maxStack := 4, maxLocals := 4, code := method_5_code, exceptionTable := #[], attributes := #[] }
def k1m4 : Method := { name := "contrib", desc := "(BIII)J", sig := { parameters := [.byte, .int, .int, .int], returnType := some .long }, accessFlags := 10, code := some k1c4 }
def k1c5 : Code := { maxStack := 6, maxLocals := 12, code := code, exceptionTable := #[], attributes := #[] }
def k1m5 : Method := { name := "law", desc := "(JIII)Z", sig := { parameters := [.long, .int, .int, .int], returnType := some .boolean }, accessFlags := 9, code := some k1c5 }
/-- dev/stratumaudio/Lyrics3TagDecimalPinLaw -/
def k1 : Class := { plain "dev/stratumaudio/Lyrics3TagDecimalPinLaw" (some 0) with
  accessFlags := 49
  interfaces := #[]
  cf := some (fileOf pool1 20 #[] #[{ accessFlags := 1, nameIndex := 5, descriptorIndex := 6, attributes := #[] }, { accessFlags := 10, nameIndex := 27, descriptorIndex := 28, attributes := #[] }, { accessFlags := 10, nameIndex := 23, descriptorIndex := 24, attributes := #[] }, { accessFlags := 10, nameIndex := 32, descriptorIndex := 33, attributes := #[] }, { accessFlags := 10, nameIndex := 38, descriptorIndex := 39, attributes := #[] }, { accessFlags := 9, nameIndex := 49, descriptorIndex := 50, attributes := #[] }] 49 2 #[] #[])
  fields := #[]
  methods := #[k1m0, k1m1, k1m2, k1m3, k1m4, k1m5]
  instanceTypes := #[]
  staticTypes := #[]
  resolved := Array.replicate 55 none
  statics := none }

def pool2 : Array CpInfo := pool [(2, .class_ 4), (1, u "java/lang/Object"), (0, u "<init>"), (0, u "()V"), (0, .class_ 8), (0, u "java/lang/Record")] 13

def k2m0 : Method := { name := "<init>", desc := "()V", sig := { parameters := [], returnType := none }, accessFlags := 4, code := none }
/-- java/lang/Record -/
def k2 : Class := { plain "java/lang/Record" (some 0) with
  accessFlags := 1057
  interfaces := #[]
  cf := some (fileOf pool2 7 #[] #[{ accessFlags := 4, nameIndex := 5, descriptorIndex := 6, attributes := #[] }] 1057 2 #[] #[])
  fields := #[]
  methods := #[k2m0]
  instanceTypes := #[]
  staticTypes := #[]
  resolved := Array.replicate 22 none
  statics := none }

def pool3 : Array CpInfo := pool [(2, .class_ 4), (1, u "java/lang/Record"), (9, u "text"), (27, .class_ 44), (1, u "dev/stratumaudio/Lyrics3Tag"), (0, u "version"), (0, u "I"), (2, u "fields"), (0, u "Ljava/util/List;"), (2, u "Ljava/lang/String;"), (16, u "decimal"), (0, u "([BII)I"), (0, .class_ 73), (0, u "dev/stratumaudio/Lyrics3Tag$Field"), (32, u "FIELD_ID_SIZE"), (2, u "FIELD_SIZE_DIGITS")] 44

def k3c0 : Code := { maxStack := 3, maxLocals := 5, code := prog_62_method_4_code, exceptionTable := #[], attributes := #[] }
def k3m0 : Method := { name := "decimal", desc := "([BII)I", sig := { parameters := [(.array .byte), .int, .int], returnType := some .int }, accessFlags := 8, code := some k3c0 }
/-- dev/stratumaudio/Lyrics3Tag -/
def k3 : Class := { plain "dev/stratumaudio/Lyrics3Tag" (some 2) with
  accessFlags := 49
  interfaces := #[]
  cf := some (fileOf pool3 42 #[.nestMembers #[72]] #[{ accessFlags := 8, nameIndex := 70, descriptorIndex := 71, attributes := #[] }] 49 2 #[] #[{ accessFlags := 18, nameIndex := 45, descriptorIndex := 46, attributes := #[] }, { accessFlags := 18, nameIndex := 49, descriptorIndex := 50, attributes := #[] }, { accessFlags := 18, nameIndex := 14, descriptorIndex := 53, attributes := #[] }, { accessFlags := 26, nameIndex := 106, descriptorIndex := 46, attributes := #[] }, { accessFlags := 26, nameIndex := 109, descriptorIndex := 46, attributes := #[] }])
  fields := #[{ name := "version", type := .int, accessFlags := 18, slot := 0, constantValue := 0 }, { name := "fields", type := (.object "java/util/List"), accessFlags := 18, slot := 1, constantValue := 0 }, { name := "text", type := (.object "java/lang/String"), accessFlags := 18, slot := 2, constantValue := 0 }, { name := "FIELD_ID_SIZE", type := .int, accessFlags := 26, slot := 0, constantValue := 0 }, { name := "FIELD_SIZE_DIGITS", type := .int, accessFlags := 26, slot := 1, constantValue := 0 }]
  methods := #[k3m0]
  instanceTypes := #[.int, (.object "java/util/List"), (.object "java/lang/String")]
  staticTypes := #[.int, .int]
  resolved := Array.replicate 154 none
  statics := none }

def pool4 : Array CpInfo := pool [(1, u "java/lang/Cloneable"), (0, .class_ 1), (0, u "java/lang/Object"), (0, .class_ 3)] 3

/-- java/lang/Cloneable -/
def k4 : Class := { plain "java/lang/Cloneable" (some 0) with
  accessFlags := 1537
  interfaces := #[]
  cf := some (fileOf pool4 2 #[] #[] 1537 4 #[] #[])
  fields := #[]
  methods := #[]
  instanceTypes := #[]
  staticTypes := #[]
  resolved := Array.replicate 8 none
  statics := none }

def pool5 : Array CpInfo := pool [(1, u "java/io/Serializable"), (0, .class_ 1), (0, u "java/lang/Object"), (0, .class_ 3)] 3

/-- java/io/Serializable -/
def k5 : Class := { plain "java/io/Serializable" (some 0) with
  accessFlags := 1537
  interfaces := #[]
  cf := some (fileOf pool5 2 #[] #[] 1537 4 #[] #[])
  fields := #[]
  methods := #[]
  instanceTypes := #[]
  staticTypes := #[]
  resolved := Array.replicate 8 none
  statics := none }

/-- the primitive byte -/
def k6 : Class := { plain "byte" none with kind := .primitive 'B', accessFlags := 0x411 }
/-- [B -/
def k7 : Class := { plain "[B" (some 0) with kind := .array 6 .byte, interfaces := #[4, 5], accessFlags := 1041 }

/-- the primitive int -/
def k8 : Class := { plain "int" none with kind := .primitive 'I', accessFlags := 0x411 }
/-- [I -/
def k9 : Class := { plain "[I" (some 0) with kind := .array 8 .int, interfaces := #[4, 5], accessFlags := 1041 }

def heap : Heap := #[]
def classes : Array Class := #[k0, k1, k2, k3, k4, k5, k6, k7, k8, k9]
def interned : List (Array UInt16 × Addr) := []
def slotsUsed : Nat := 0
def theMethod : MethodId := ⟨1, 5⟩
def args0 : Array Value := #[.long 5, .int 7, .int 1, .int 2]
def aboutOver (below : List Frame) : State where
  vm := { classes := classes, interned := interned.toArray }
  heap := heap
  slotsUsed := slotsUsed
  threads := #[{ frames := .invoking theMethod args0 :: below }]
def below0 : List Frame := [.native { method := ⟨0, 0⟩, args := #[] }]
def about1 : State := aboutOver below0
def p0 : Program := .bare "" "" ""
def e0 : Env := launch0.env 0 0 0
theorem w_frames : about1.frames = Frame.invoking theMethod args0 :: below0 := rfl
set_option maxRecDepth 65536 in
theorem w_args : argsFit about1.vm theMethod args0 = true := by decide +kernel
set_option maxRecDepth 65536 in
theorem w_heap : heapFits about1 = true := by decide +kernel
set_option maxRecDepth 65536 in
theorem w_runnable : about1.curStatus? = some .runnable := by decide +kernel
set_option maxRecDepth 65536 in
theorem w_alone : about1.alone = true := by decide +kernel
set_option maxRecDepth 65536 in
theorem w_named : about1.methodNamed? x = some theMethod := by decide +kernel
set_option maxRecDepth 65536 in
theorem w_hears : about1.hears theMethod below0 = true := by decide +kernel
set_option maxRecDepth 65536 in
theorem w_ripe : about1.ripe theMethod args0 below0 = true := by decide +kernel
theorem w_running : about1.status = .running := rfl
set_option maxRecDepth 65536 in
theorem w_room : about1.hasRoom e0.platform room_1 = true :=
  launch0.hasRoom_least _ room_1 (by decide +kernel) (by decide +kernel) (by decide +kernel) (by decide +kernel) (by decide +kernel) (by decide +kernel)
theorem allAtoms_all (ts : List Jvm.Cond) (a : Array Jvm.Value) (st : Jvm.State) : (allAtoms ts).before a st = ts.all (fun c => c.before a st) := by
  induction ts with
  | nil => rfl
  | cons c t ih =>
    show (Jvm.Cond.and c (allAtoms t)).before a st = _
    rw [Jvm.Cond.before_and, ih, List.all_cons]
def words1 : List Jvm.Cond := Jvm.Cond.code x code maxLocals ret :: tables_1
/-- a 'code' word, met by the world's own term for the bytes: nothing is compared byte by byte -/
theorem code_word {y : MethodName} {bytes : ByteArray} {mx : Nat} {rt : Option FieldType} {a : Array Value} {s : State} {m : MethodId} {meth : Method} {c : Code} (h1 : s.methodNamed? y = some m) (h2 : s.vm.method? m = some meth) (h3 : meth.code = some c) (h4 : c.code = bytes)
    (h5 : (c.maxLocals == mx && c.exceptionTable.isEmpty && decide (c.maxStack ≤ mostOperands) && decide (meth.sig.returnType = rt) && !meth.locks && decide (parseMethodDescriptor y.desc = some meth.sig)) = true) : (Jvm.Cond.code y bytes mx rt).before a s = true := by
  simp only [Bool.and_eq_true, beq_iff_eq, Bool.not_eq_true', decide_eq_true_eq] at h5
  obtain ⟨⟨⟨⟨⟨g1, g2⟩, g3⟩, g4⟩, g5⟩, g6⟩ := h5
  simp [Cond.before, Cond.holds, Cond.value, h1, h2, h3, h4, g1, g2, g3, g4, g5, g6]
def isCode : Jvm.Cond → Bool
  | .code _ _ _ _ => true
  | _ => false
theorem all_split {L : List Jvm.Cond} {P : Jvm.Cond → Bool} (h1 : L.all (fun c => isCode c || P c) = true) (h2 : ∀ c ∈ L.filter isCode, P c = true) : L.all P = true := by
  refine List.all_eq_true.mpr fun c hc => ?_
  have h := List.all_eq_true.mp h1 c hc
  rcases Bool.eq_false_or_eq_true (isCode c) with hi | hi
  · exact h2 c (List.mem_filter.mpr ⟨hc, hi⟩)
  · simpa [hi] using h
set_option maxRecDepth 65536 in
theorem w_c0 : (Jvm.Cond.code x code maxLocals ret).before args0 about1 = true := code_word (m := ⟨1, 5⟩) (meth := k1m5) (c := k1c5) (by decide +kernel) rfl rfl rfl (by decide +kernel)
set_option maxRecDepth 65536 in
theorem w_c1 : (Jvm.Cond.code ({ cls := "dev/stratumaudio/Lyrics3TagDecimalPinLaw", name := "pick", desc := "(JII)B" } : Jvm.MethodName) method_2_code (5 : Nat) (Option.some Jvm.ClassFile.FieldType.byte)).before args0 about1 = true := code_word (m := ⟨1, 1⟩) (meth := k1m1) (c := k1c1) (by decide +kernel) rfl rfl rfl (by decide +kernel)
set_option maxRecDepth 65536 in
theorem w_c2 : (Jvm.Cond.code ({ cls := "dev/stratumaudio/Lyrics3TagDecimalPinLaw", name := "bad", desc := "(BIII)Z" } : Jvm.MethodName) method_4_code (4 : Nat) (Option.some Jvm.ClassFile.FieldType.boolean)).before args0 about1 = true := code_word (m := ⟨1, 3⟩) (meth := k1m3) (c := k1c3) (by decide +kernel) rfl rfl rfl (by decide +kernel)
set_option maxRecDepth 65536 in
theorem w_c3 : (Jvm.Cond.code ({ cls := "dev/stratumaudio/Lyrics3TagDecimalPinLaw", name := "contrib", desc := "(BIII)J" } : Jvm.MethodName) method_5_code (4 : Nat) (Option.some Jvm.ClassFile.FieldType.long)).before args0 about1 = true := code_word (m := ⟨1, 4⟩) (meth := k1m4) (c := k1c4) (by decide +kernel) rfl rfl rfl (by decide +kernel)
set_option maxRecDepth 65536 in
theorem w_c4 : (Jvm.Cond.code ({ cls := "dev/stratumaudio/Lyrics3Tag", name := "decimal", desc := "([BII)I" } : Jvm.MethodName) prog_62_method_4_code (5 : Nat) (Option.some Jvm.ClassFile.FieldType.int)).before args0 about1 = true := code_word (m := ⟨3, 0⟩) (meth := k3m0) (c := k3c0) (by decide +kernel) rfl rfl rfl (by decide +kernel)
set_option maxRecDepth 65536 in
theorem w_c5 : (Jvm.Cond.code ({ cls := "dev/stratumaudio/Lyrics3TagDecimalPinLaw", name := "pow10", desc := "(I)J" } : Jvm.MethodName) method_3_code (1 : Nat) (Option.some Jvm.ClassFile.FieldType.long)).before args0 about1 = true := code_word (m := ⟨1, 2⟩) (meth := k1m2) (c := k1c2) (by decide +kernel) rfl rfl rfl (by decide +kernel)
def codes1 : List Jvm.Cond := [Jvm.Cond.code x code maxLocals ret, Jvm.Cond.code ({ cls := "dev/stratumaudio/Lyrics3TagDecimalPinLaw", name := "pick", desc := "(JII)B" } : Jvm.MethodName) method_2_code (5 : Nat) (Option.some Jvm.ClassFile.FieldType.byte), Jvm.Cond.code ({ cls := "dev/stratumaudio/Lyrics3TagDecimalPinLaw", name := "bad", desc := "(BIII)Z" } : Jvm.MethodName) method_4_code (4 : Nat) (Option.some Jvm.ClassFile.FieldType.boolean), Jvm.Cond.code ({ cls := "dev/stratumaudio/Lyrics3TagDecimalPinLaw", name := "contrib", desc := "(BIII)J" } : Jvm.MethodName) method_5_code (4 : Nat) (Option.some Jvm.ClassFile.FieldType.long), Jvm.Cond.code ({ cls := "dev/stratumaudio/Lyrics3Tag", name := "decimal", desc := "([BII)I" } : Jvm.MethodName) prog_62_method_4_code (5 : Nat) (Option.some Jvm.ClassFile.FieldType.int), Jvm.Cond.code ({ cls := "dev/stratumaudio/Lyrics3TagDecimalPinLaw", name := "pow10", desc := "(I)J" } : Jvm.MethodName) method_3_code (1 : Nat) (Option.some Jvm.ClassFile.FieldType.long)]
set_option maxRecDepth 65536 in
theorem codes_eq : words1.filter isCode = codes1 := rfl
theorem w_codes : ∀ c ∈ words1.filter isCode, c.before args0 about1 = true := by
  rw [codes_eq]
  intro c hc
  simp only [codes1, List.mem_cons, List.not_mem_nil, or_false] at hc
  rcases hc with rfl | rfl | rfl | rfl | rfl | rfl
  · exact w_c0
  · exact w_c1
  · exact w_c2
  · exact w_c3
  · exact w_c4
  · exact w_c5
set_option maxRecDepth 65536 in
theorem w_t1 : (words1.take 24).all (fun c => isCode c || c.before args0 about1) = true := by decide +kernel
set_option maxRecDepth 65536 in
theorem w_t2 : (words1.drop 24).all (fun c => isCode c || c.before args0 about1) = true := by decide +kernel
theorem w_tables : (allAtoms (Jvm.Cond.code x code maxLocals ret :: tables_1)).before args0 about1 = true := by
  rw [allAtoms_all]
  show words1.all (fun c => c.before args0 about1) = true
  refine all_split ?_ w_codes
  rw [← List.take_append_drop 24 words1, List.all_append, w_t1, w_t2]
  rfl
set_option maxRecDepth 65536 in
theorem w_case : (Jvm.Cond.and given_1 narrow_1).before args0 about1 = true := by decide +kernel
theorem w_applies : (headSpec (Jvm.Cond.code x code maxLocals ret :: tables_1) room_1).applies x e0.platform about1 = true :=
  (Spec.applies_iff w_frames).mpr ⟨w_running, w_runnable, w_alone, w_named, w_hears, w_ripe, w_room, w_tables⟩
theorem atStart : AtStart classFile x code maxLocals ret World_1 tables_1 room_1 Calls_1 rest_1 Pre_1 launch0 p0 e0 about1 theMethod args0 below0 :=
  ⟨lists_1, trivial, launch0.admits_env _ _ _, launch0.least_env, fairChoices_fair.cas, fairChoices_fair.clock, w_frames, w_args, w_heap, w_applies, trivial, trivial, w_case⟩
end start1
theorem witness_1 : WitnessClaimed_1 := ⟨start1.p0, start1.e0, start1.about1, start1.theMethod, start1.args0, start1.below0, start1.atStart⟩
end Jvm.Pilot.@@N@@
