import JvmDerived
import JvmDerived.Pilot.@@N@@Statement
import JvmDerived.Pilot.@@N@@Code
set_option linter.unusedVariables false
set_option linter.unusedSimpArgs false
@@BLOCK:NumsL.lean.txt@@
namespace Jvm.RoadKit
open Sem ClassFile Op Lib Jvm.Stand Jvm.Free Jvm.LawKit
section New
variable {p : Program} {l : Launch} {e : Env} {R : Room} {s : State} {m : MethodId} {args : Array Value} {below : List Frame} {meth : Method} {c : Code} {T : State} {locs : List Loc} {cells slots : Nat}
theorem retI (X : Stand p l e R s m args below meth c T locs cells slots) (hx : p.tables.exec = Jvm.exec) {pc : Nat} {Ls : Array Slot} {z : Int32} {rest : List Value} (hret : meth.sig.returnType = some .int) (hd : decode c.code pc = .ok (.ireturn, 1)) {fs : List Frame}
    (hl : ∀ (f : JFrame) (acts : List Action), f.method = m → f.locked = none → f.entered = [] → (doReturn e (T.setTop f) acts (some (.int z))).1 = T.setFrames fs) : Steps p.tables e below (T.setTop (mkF m pc Ls (.int z :: rest))) (T.setFrames fs) := by
  have hm' : T.vm.method? m = some meth := X.method'
  have hn : narrow .int (.int z) = .int z := rfl
  show Steps p.tables e below (T.setTop { method := m, pc := pc, locals := Ls, stack := _ :: rest, locked := none }) _
  jvm_step X.here [X.here.top, hx, hd, hm', hret, hn]
  first | (intro acts; rw [hl _ acts rfl rfl rfl]) | rw [hl _ _ rfl rfl rfl]
  exact Steps.refl _
end New
end Jvm.RoadKit
namespace Jvm.Pilot.@@N@@
open Jvm Jvm.ClassFile Sem Op Lib Jvm.Free Jvm.Stand Jvm.LawKit Jvm.RoadKit Bundle Jvm.Pilot.@@N@@.Jvm.D
theorem own_nt {b : Bool} (h : b = false) : ¬ b = true := fun q => by rw [h] at q; cases q
theorem own_ts_ne {α : Type} {o : Option α} {a b : α} (h : o = some b) (ne : b ≠ a) : ¬ o = some a := fun q => ne (Option.some.inj (h.symm.trans q))
/-- what lcmp pushes; Java's shifts and the remainder of longs -/
def own_cmp (x y : Int64) : Int32 := lcmpW x y
def own_iushr (x y : Int32) : Int32 := (x.toUInt32 >>> (y &&& 31).toUInt32).toInt32
def own_lushr (x : Int64) (y : Int32) : Int64 := (x.toUInt64 >>> (y &&& 0x3f).toInt64.toUInt64).toInt64
def own_lshl (x : Int64) (y : Int32) : Int64 := x <<< (y &&& 0x3f).toInt64
def own_lshr (x : Int64) (y : Int32) : Int64 := x >>> (y &&& 0x3f).toInt64
def own_lrem (x y : Int64) : Int64 := x - (x / y) * y
theorem own_xlcmp {tb : Tables} [Ours tb] {e : Env} {below : List Frame} {T target : State} {m : MethodId} {c : Code} {g : JFrame} (h : At T m c below) (hx : tb.exec = Jvm.exec) (hg : g.method = m) {x : Int64} {y : Int64} {rest : List Value} (hd : decode c.code g.pc = .ok (.lcmp, 1)) (hs : g.stack = .long y :: .long x :: rest) (hr : Steps tb e below (T.setTop { g with pc := g.pc + 1, stack := .int (own_cmp x y) :: rest }) target) : Steps tb e below (T.setTop g) target := XS.lcmp h hx hg hd hs hr
theorem own_xiushr {tb : Tables} [Ours tb] {e : Env} {below : List Frame} {T target : State} {m : MethodId} {c : Code} {g : JFrame} (h : At T m c below) (hx : tb.exec = Jvm.exec) (hg : g.method = m) {x : Int32} {y : Int32} {rest : List Value} (hd : decode c.code g.pc = .ok (.iushr, 1)) (hs : g.stack = .int y :: .int x :: rest) (hr : Steps tb e below (T.setTop { g with pc := g.pc + 1, stack := .int (own_iushr x y) :: rest }) target) : Steps tb e below (T.setTop g) target := XS.iushr h hx hg hd hs hr
theorem own_xlushr {tb : Tables} [Ours tb] {e : Env} {below : List Frame} {T target : State} {m : MethodId} {c : Code} {g : JFrame} (h : At T m c below) (hx : tb.exec = Jvm.exec) (hg : g.method = m) {x : Int64} {y : Int32} {rest : List Value} (hd : decode c.code g.pc = .ok (.lushr, 1)) (hs : g.stack = .int y :: .long x :: rest) (hr : Steps tb e below (T.setTop { g with pc := g.pc + 1, stack := .long (own_lushr x y) :: rest }) target) : Steps tb e below (T.setTop g) target := XS.lushr h hx hg hd hs hr
theorem own_xlshl {tb : Tables} [Ours tb] {e : Env} {below : List Frame} {T target : State} {m : MethodId} {c : Code} {g : JFrame} (h : At T m c below) (hx : tb.exec = Jvm.exec) (hg : g.method = m) {x : Int64} {y : Int32} {rest : List Value} (hd : decode c.code g.pc = .ok (.lshl, 1)) (hs : g.stack = .int y :: .long x :: rest) (hr : Steps tb e below (T.setTop { g with pc := g.pc + 1, stack := .long (own_lshl x y) :: rest }) target) : Steps tb e below (T.setTop g) target := XS.lshl h hx hg hd hs hr
theorem own_xlshr {tb : Tables} [Ours tb] {e : Env} {below : List Frame} {T target : State} {m : MethodId} {c : Code} {g : JFrame} (h : At T m c below) (hx : tb.exec = Jvm.exec) (hg : g.method = m) {x : Int64} {y : Int32} {rest : List Value} (hd : decode c.code g.pc = .ok (.lshr, 1)) (hs : g.stack = .int y :: .long x :: rest) (hr : Steps tb e below (T.setTop { g with pc := g.pc + 1, stack := .long (own_lshr x y) :: rest }) target) : Steps tb e below (T.setTop g) target := XS.lshr h hx hg hd hs hr
theorem own_xlrem {tb : Tables} [Ours tb] {e : Env} {below : List Frame} {T target : State} {m : MethodId} {c : Code} {g : JFrame} (h : At T m c below) (hx : tb.exec = Jvm.exec) (hg : g.method = m) {x : Int64} {y : Int64} {rest : List Value} (hd : decode c.code g.pc = .ok (.lrem, 1)) (hs : g.stack = .long y :: .long x :: rest) (hy : y ≠ 0) (hr : Steps tb e below (T.setTop { g with pc := g.pc + 1, stack := .long (own_lrem x y) :: rest }) target) : Steps tb e below (T.setTop g) target := XS.lrem h hx hg hd hs hy hr
theorem own_ieq (x y : Int32) : (if_icmp.holds .eq x y = true) = (x.toInt = y.toInt) := by
  rw [show if_icmp.holds .eq x y = (x == y) from rfl, beq_iff_eq, Int32.toInt_inj]
theorem own_ine (x y : Int32) : (if_icmp.holds .ne x y = true) = (x.toInt ≠ y.toInt) := by
  rw [show if_icmp.holds .ne x y = (x != y) from rfl, bne_iff_ne, ne_eq, ne_eq, Int32.toInt_inj]
theorem own_ilt (x y : Int32) : (if_icmp.holds .lt x y = true) = (x.toInt < y.toInt) := by
  rw [show if_icmp.holds .lt x y = decide (x < y) from rfl, decide_eq_true_eq, Int32.lt_iff_toInt_lt]
theorem own_ige (x y : Int32) : (if_icmp.holds .ge x y = true) = (y.toInt ≤ x.toInt) := by
  rw [show if_icmp.holds .ge x y = decide (y ≤ x) from rfl, decide_eq_true_eq, Int32.le_iff_toInt_le]
theorem own_igt (x y : Int32) : (if_icmp.holds .gt x y = true) = (y.toInt < x.toInt) := by
  rw [show if_icmp.holds .gt x y = decide (y < x) from rfl, decide_eq_true_eq, Int32.lt_iff_toInt_lt]
theorem own_ile (x y : Int32) : (if_icmp.holds .le x y = true) = (x.toInt ≤ y.toInt) := by
  rw [show if_icmp.holds .le x y = decide (x ≤ y) from rfl, decide_eq_true_eq, Int32.le_iff_toInt_le]
theorem own_z32 : (0 : Int32).toInt = 0 := rfl
theorem own_eq0 (x : Int32) : (ifCond.holds .eq x = true) = (x.toInt = 0) := by rw [if0, own_ieq, own_z32]
theorem own_ne0 (x : Int32) : (ifCond.holds .ne x = true) = (x.toInt ≠ 0) := by rw [if0, own_ine, own_z32]
theorem own_lt0 (x : Int32) : (ifCond.holds .lt x = true) = (x.toInt < 0) := by rw [if0, own_ilt, own_z32]
theorem own_ge0 (x : Int32) : (ifCond.holds .ge x = true) = (0 ≤ x.toInt) := by rw [if0, own_ige, own_z32]
theorem own_gt0 (x : Int32) : (ifCond.holds .gt x = true) = (0 < x.toInt) := by rw [if0, own_igt, own_z32]
theorem own_le0 (x : Int32) : (ifCond.holds .le x = true) = (x.toInt ≤ 0) := by rw [if0, own_ile, own_z32]
theorem own_cmp3 (x y : Int64) : (x.toInt < y.toInt ∧ (own_cmp x y).toInt = -1) ∨ (x.toInt = y.toInt ∧ (own_cmp x y).toInt = 0) ∨ (y.toInt < x.toInt ∧ (own_cmp x y).toInt = 1) := by
  obtain ⟨h1, h2, h3⟩ := c_lcmp x y
  have e : own_cmp x y = lcmpW x y := rfl
  rw [e]
  rcases Int.lt_trichotomy x.toInt y.toInt with h | h | h
  · exact Or.inl ⟨h, h1 h⟩
  · exact Or.inr (Or.inl ⟨h, h2 h⟩)
  · exact Or.inr (Or.inr ⟨h, h3 h⟩)
theorem own_ceq (x y : Int64) : (ifCond.holds .eq (own_cmp x y) = true) = (x.toInt = y.toInt) := by
  rw [own_eq0]; have := own_cmp3 x y; exact propext ⟨fun h => by omega, fun h => by omega⟩
theorem own_cne (x y : Int64) : (ifCond.holds .ne (own_cmp x y) = true) = (x.toInt ≠ y.toInt) := by
  rw [own_ne0]; have := own_cmp3 x y; exact propext ⟨fun h => by omega, fun h => by omega⟩
theorem own_clt (x y : Int64) : (ifCond.holds .lt (own_cmp x y) = true) = (x.toInt < y.toInt) := by
  rw [own_lt0]; have := own_cmp3 x y; exact propext ⟨fun h => by omega, fun h => by omega⟩
theorem own_cge (x y : Int64) : (ifCond.holds .ge (own_cmp x y) = true) = (y.toInt ≤ x.toInt) := by
  rw [own_ge0]; have := own_cmp3 x y; exact propext ⟨fun h => by omega, fun h => by omega⟩
theorem own_cgt (x y : Int64) : (ifCond.holds .gt (own_cmp x y) = true) = (y.toInt < x.toInt) := by
  rw [own_gt0]; have := own_cmp3 x y; exact propext ⟨fun h => by omega, fun h => by omega⟩
theorem own_cle (x y : Int64) : (ifCond.holds .le (own_cmp x y) = true) = (x.toInt ≤ y.toInt) := by
  rw [own_le0]; have := own_cmp3 x y; exact propext ⟨fun h => by omega, fun h => by omega⟩
theorem own_nar1 {x : Int32} (h : x = 1) : nar .boolean x = 1 := by rw [h]; rfl
theorem own_nar0 {x : Int32} (h : x = 0) : nar .boolean x = 0 := by rw [h]; rfl
/-- the last row of a law: a comparison that isn't met gives 0, else 1 -/
theorem own_last {c : Prop} [Decidable c] (h : ¬ c) : nar .boolean (if c then (0 : Int32) else 1) = 1 := by rw [if_neg h]; rfl
theorem own_n32 (x : Int32) : (x.toBitVec.toNat : Int) = x.toInt % 4294967296 := by
  have h := x.toBitVec.isLt
  show _ = x.toBitVec.toInt % _
  rw [BitVec.toInt_eq_toNat_cond]
  split <;> omega
theorem own_n64 (x : Int64) : (x.toBitVec.toNat : Int) = x.toInt % 18446744073709551616 := by
  have h := x.toBitVec.isLt
  show _ = x.toBitVec.toInt % _
  rw [BitVec.toInt_eq_toNat_cond]
  split <;> omega
theorem own_iushr_nat (x y : Int32) : (own_iushr x y).toBitVec.toNat = x.toBitVec.toNat / 2 ^ (y.toBitVec.toNat % 32) := by
  have h1 : (y &&& 31).toBitVec.toNat = y.toBitVec.toNat % 32 := by
    show (y.toBitVec &&& (31 : Int32).toBitVec).toNat = _
    rw [BitVec.toNat_and, show (31 : Int32).toBitVec.toNat = 2 ^ 5 - 1 from by decide, Nat.and_two_pow_sub_one_eq_mod]
  show (x.toBitVec >>> ((y &&& 31).toBitVec % 32)).toNat = _
  rw [BitVec.ushiftRight_eq', BitVec.toNat_ushiftRight, Nat.shiftRight_eq_div_pow, BitVec.toNat_umod, h1, show (32 : BitVec 32).toNat = 32 from rfl, Nat.mod_mod]
theorem own_lushr_nat (x : Int64) (y : Int32) : (own_lushr x y).toBitVec.toNat = x.toBitVec.toNat / 2 ^ (y.toBitVec.toNat % 64) := by
  obtain ⟨h1, h2⟩ := sm64 y _ rfl
  show (x.toBitVec >>> ((y &&& 0x3f).toInt64.toBitVec % 64)).toNat = _
  rw [BitVec.ushiftRight_eq', BitVec.toNat_ushiftRight, Nat.shiftRight_eq_div_pow, BitVec.toNat_umod, h1, BitVec.toNat_ofNat]
  congr 2
  show y.toBitVec.toNat % 64 % 2 ^ 64 % 64 = _
  omega
theorem own_iushr_nn (x y : Int32) (h : 0 ≤ x.toInt) : 0 ≤ (own_iushr x y).toInt ∧ (own_iushr x y).toInt ≤ x.toInt := by
  have a := own_iushr_nat x y
  have b := Nat.div_le_self x.toBitVec.toNat (2 ^ (y.toBitVec.toNat % 32))
  have c := own_n32 x
  have d := own_n32 (own_iushr x y)
  have r := rng32 x
  have r2 := rng32 (own_iushr x y)
  omega
theorem own_lushr_nn (x : Int64) (y : Int32) (h : 0 ≤ x.toInt) : 0 ≤ (own_lushr x y).toInt ∧ (own_lushr x y).toInt ≤ x.toInt := by
  have a := own_lushr_nat x y
  have b := Nat.div_le_self x.toBitVec.toNat (2 ^ (y.toBitVec.toNat % 64))
  have c := own_n64 x
  have d := own_n64 (own_lushr x y)
  have r := rng64 x
  have r2 := rng64 (own_lushr x y)
  omega
theorem own_ff {b : Bool} (h : ¬ b = true) : b = false := by cases b <;> first | rfl | exact absurd rfl h
theorem own_clt_f {x y : Int64} (h : ¬ x.toInt < y.toInt) : ifCond.holds .lt (own_cmp x y) = false := own_ff fun q => h ((own_clt x y).mp q)
theorem own_nz {x : Int64} (h : (0 : Int64).toInt < x.toInt) : x ≠ 0 := fun q => by rw [q] at h; exact absurd h (Int.lt_irrefl _)
theorem own_max (x : Int64) : x.toInt ≤ (9223372036854775807 : Int64).toInt := by
  have r := rng64 x
  have e : (9223372036854775807 : Int64).toInt = 9223372036854775807 := rfl
  omega

-- body 1: com/example/chronoglyph/chronoglyph/Digits.count:(I)I
theorem d1_0 : decode prog_4_method_5_code 0 = .ok (.iconst 1, 1) := by decide +kernel
theorem d1_1 : decode prog_4_method_5_code 1 = .ok (.istore_n 1, 1) := by decide +kernel
theorem d1_2 : decode prog_4_method_5_code 2 = .ok (.iload_n 0, 1) := by decide +kernel
theorem d1_3 : decode prog_4_method_5_code 3 = .ok (.istore_n 2, 1) := by decide +kernel
theorem d1_4 : decode prog_4_method_5_code 4 = .ok (.iload_n 2, 1) := by decide +kernel
theorem d1_5 : decode prog_4_method_5_code 5 = .ok (.bipush 10, 2) := by decide +kernel
theorem d1_7 : decode prog_4_method_5_code 7 = .ok (.if_icmp .lt 14, 3) := by decide +kernel
theorem d1_10 : decode prog_4_method_5_code 10 = .ok (.iinc 1 1, 3) := by decide +kernel
theorem d1_13 : decode prog_4_method_5_code 13 = .ok (.iload_n 2, 1) := by decide +kernel
theorem d1_14 : decode prog_4_method_5_code 14 = .ok (.bipush 10, 2) := by decide +kernel
theorem d1_16 : decode prog_4_method_5_code 16 = .ok (.idiv, 1) := by decide +kernel
theorem d1_17 : decode prog_4_method_5_code 17 = .ok (.istore_n 2, 1) := by decide +kernel
theorem d1_18 : decode prog_4_method_5_code 18 = .ok (.goto (-14), 3) := by decide +kernel
theorem d1_21 : decode prog_4_method_5_code 21 = .ok (.iload_n 1, 1) := by decide +kernel
theorem d1_22 : decode prog_4_method_5_code 22 = .ok (.ireturn, 1) := by decide +kernel
theorem pn_0 : plainName "com/example/chronoglyph/chronoglyph/Digits" = true := by first | (simp [plainName, overriddenIn]; done) | decide +kernel
theorem ef_1 (m : MethodId) (x0 : Int32) : entryFrame m #[(.int x0)] 3 = mkF m 0 #[.val (.int x0), .unset, .unset] [] := by first | (simp [entryFrame, mkF, argsToLocals, Value.category]; done) | rfl
def f1_v3 (x0 : Int32) (i1 : Int32) (i2 : Int32) : Int32 := (i1 + (1 : Int32))
def f1_v4 (x0 : Int32) (i1 : Int32) (i2 : Int32) : Int32 := (i2 / (10 : Int32))
def f1_loop4 (x0 : Int32) : Nat → Int32 → Int32 → Option Int32
  | 0, _, _ => none
  | k + 1, i1, i2 => (if if_icmp.holds .lt i2 (10 : Int32) = true then some i1 else (f1_loop4 x0 k (f1_v3 x0 i1 i2) (f1_v4 x0 i1 i2)))
def f1 (K : Nat) (x0 : Int32) : Option Int32 := (f1_loop4 x0 K (1 : Int32) x0)
def Q1 (Z : State) (x0 : Int32) (r : Int32) (h0 : Heap) (n0 : Nat) (v : Option Value) (h : Heap) (L : List Loc) : Prop := v = some (.int r) ∧ Fr n0 L ∧ h = h0
set_option maxRecDepth 65536 in
set_option maxHeartbeats 40000000 in
theorem lp1_4 (l : Launch) (Z : State) (a0 : Array Value) (hw : ∀ d ∈ tables_1, d.before a0 Z = true) (x0 : Int32) (h0 : Heap) (n0 : Nat) (Z0 : n0 ≤ h0.size) {p : Program} {e : Env} {s : State} {m : MethodId} {below : List Frame} {meth : Method} {c : Code} (hx : p.tables.exec = Jvm.exec) (hZ : Z.Warmed39 s.vm) (hby : c.code = prog_4_method_5_code) (hml : c.maxLocals = 3) (hown : s.vm.findClass "com/example/chronoglyph/chronoglyph/Digits" = some m.cls) (hret : meth.sig.returnType = some .int) (hlk : meth.locks = false) :
    ∀ (K : Nat) (r : Int32) (i1 : Int32) (i2 : Int32) (T0 : State) (locs : List Loc), Stand p l e ({ frames := 0, cells := 0, slots := 0, locals := 0 } : Room) s m #[(.int x0)] below meth c T0 locs 0 0 → Fr n0 locs → T0.heap = h0 → f1_loop4 x0 K i1 i2 = some r →
      ∃ s₂ o, Steps p.tables e below (T0.setTop (mkF m 4 #[.val (.int x0), .val (.int i1), .val (.int i2)] [])) s₂ ∧ s₂.status = .running ∧ Ended s₂ below o ∧ ∃ v L, o = .returned v ∧ Q1 Z x0 r h0 n0 v s₂.heap L ∧ FrameEnd s o s₂ L ({ frames := 0, cells := 0, slots := 0, locals := 0 } : Room).cells ({ frames := 0, cells := 0, slots := 0, locals := 0 } : Room).slots := by
  intro K
  induction K with
  | zero =>
    intro r i1 i2 T0 locs X0 N0 e0 hK
    exact absurd (show (none : Option Int32) = some r from hK) (by simp)
  | succ k ih =>
    intro r i1 i2 T0 locs X0 N0 e0 hK
    have pre0 : ∀ t, Steps p.tables e below (T0.setTop (mkF m 4 #[.val (.int x0), .val (.int i1), .val (.int i2)] [])) t → Steps p.tables e below (T0.setTop (mkF m 4 #[.val (.int x0), .val (.int i1), .val (.int i2)] [])) t := fun t k => k
    have pre1 : ∀ t, Steps p.tables e below (T0.setTop (mkF m 7 #[.val (.int x0), .val (.int i1), .val (.int i2)] [(.int (10 : Int32)), (.int i2)])) t → Steps p.tables e below (T0.setTop (mkF m 4 #[.val (.int x0), .val (.int i1), .val (.int i2)] [])) t := by
      intro t k
      refine pre0 _ ?_
      show Steps p.tables e below (T0.setTop (mkF m 4 #[.val (.int x0), .val (.int i1), .val (.int i2)] [])) _
      refine XS.iloadN X0.here hx rfl (hb hby d1_4) rfl ?_
      show Steps p.tables e below (T0.setTop (mkF m 5 #[.val (.int x0), .val (.int i1), .val (.int i2)] [(.int i2)])) _
      refine XS.bipush X0.here hx rfl (hb hby d1_5) ?_
      exact k
    rcases Bool.eq_false_or_eq_true (if_icmp.holds .lt i2 (10 : Int32)) with hc2 | hc2
    · obtain ⟨fs, hr, hrun, hended, hW, hsame⟩ := X0.leave (v := some (.int i1)) (fun h => by rw [hret] at h; cases h)
      refine ⟨_, _, pre1 _ ?_, hrun, hended, _, _, rfl, ?_, ⟨_, rfl⟩, hW, hsame.mono (by decide) (by decide)⟩
      · show Steps p.tables e below (T0.setTop (mkF m 7 #[.val (.int x0), .val (.int i1), .val (.int i2)] [(.int (10 : Int32)), (.int i2)])) _
        refine XS.icmpYes X0.here hx rfl (pc0 := 7) (pc' := 21) rfl (hb hby d1_7) rfl hc2 (by decide) (by decide) ?_
        show Steps p.tables e below (T0.setTop (mkF m 21 #[.val (.int x0), .val (.int i1), .val (.int i2)] [])) _
        refine XS.iloadN X0.here hx rfl (hb hby d1_21) rfl ?_
        show Steps p.tables e below (T0.setTop (mkF m 22 #[.val (.int x0), .val (.int i1), .val (.int i2)] [(.int i1)])) _
        exact retI X0 hx hret (hb hby d1_22) hr
      · show Q1 Z x0 r h0 n0 _ T0.heap _
        rw [e0]
        have rr : f1_loop4 x0 (k + 1) i1 i2 = some i1 := if_pos hc2
        exact ⟨congrArg (fun z => some (Value.int z)) (Option.some.inj (rr.symm.trans hK)), N0, rfl⟩
    · have pre5 : ∀ t, Steps p.tables e below (T0.setTop (mkF m 4 #[.val (.int x0), .val (.int (f1_v3 x0 i1 i2)), .val (.int (f1_v4 x0 i1 i2))] [])) t → Steps p.tables e below (T0.setTop (mkF m 4 #[.val (.int x0), .val (.int i1), .val (.int i2)] [])) t := by
        intro t k
        refine pre1 _ ?_
        show Steps p.tables e below (T0.setTop (mkF m 7 #[.val (.int x0), .val (.int i1), .val (.int i2)] [(.int (10 : Int32)), (.int i2)])) _
        refine XS.icmpNo X0.here hx rfl (hb hby d1_7) rfl hc2 ?_
        show Steps p.tables e below (T0.setTop (mkF m 10 #[.val (.int x0), .val (.int i1), .val (.int i2)] [])) _
        refine XS.iinc X0.here hx rfl (hb hby d1_10) rfl (l' := #[.val (.int x0), .val (.int (f1_v3 x0 i1 i2)), .val (.int i2)]) rfl ?_
        show Steps p.tables e below (T0.setTop (mkF m 13 #[.val (.int x0), .val (.int (f1_v3 x0 i1 i2)), .val (.int i2)] [])) _
        refine XS.iloadN X0.here hx rfl (hb hby d1_13) rfl ?_
        show Steps p.tables e below (T0.setTop (mkF m 14 #[.val (.int x0), .val (.int (f1_v3 x0 i1 i2)), .val (.int i2)] [(.int i2)])) _
        refine XS.bipush X0.here hx rfl (hb hby d1_14) ?_
        show Steps p.tables e below (T0.setTop (mkF m 16 #[.val (.int x0), .val (.int (f1_v3 x0 i1 i2)), .val (.int i2)] [(.int (10 : Int32)), (.int i2)])) _
        refine XS.idiv X0.here hx rfl (hb hby d1_16) rfl (by decide) ?_
        show Steps p.tables e below (T0.setTop (mkF m 17 #[.val (.int x0), .val (.int (f1_v3 x0 i1 i2)), .val (.int i2)] [(.int (i2 / (10 : Int32)))])) _
        refine XS.istoreN X0.here hx rfl (hb hby d1_17) rfl (l' := #[.val (.int x0), .val (.int (f1_v3 x0 i1 i2)), .val (.int (f1_v4 x0 i1 i2))]) rfl ?_
        show Steps p.tables e below (T0.setTop (mkF m 18 #[.val (.int x0), .val (.int (f1_v3 x0 i1 i2)), .val (.int (f1_v4 x0 i1 i2))] [])) _
        refine XS.goto X0.here hx rfl (pc0 := 18) (pc' := 4) rfl (hb hby d1_18) (by decide) (by decide) ?_
        exact k
      have hk' : (f1_loop4 x0 k (f1_v3 x0 i1 i2) (f1_v4 x0 i1 i2)) = some r := Eq.trans (Eq.symm (show f1_loop4 x0 (k + 1) i1 i2 = (f1_loop4 x0 k (f1_v3 x0 i1 i2) (f1_v4 x0 i1 i2)) from if_neg (own_nt hc2))) hK
      obtain ⟨s₂, o, hst, hrest⟩ := ih r (f1_v3 x0 i1 i2) (f1_v4 x0 i1 i2) T0 _ X0 N0 e0 hk'
      exact ⟨s₂, o, pre5 _ hst, hrest⟩
set_option maxRecDepth 65536 in
set_option maxHeartbeats 40000000 in
theorem rm1 (l : Launch) (Z : State) (a0 : Array Value) (hw : ∀ d ∈ tables_1, d.before a0 Z = true) (ws : List Jvm.Cond) (x0 : Int32) (K : Nat) (r : Int32) (h0 : Heap) (n0 : Nat) (Z0 : n0 ≤ h0.size) (hK : f1 K x0 = some r) :
    MetFree l (⟨"com/example/chronoglyph/chronoglyph/Digits", "count", "(I)I"⟩ : MethodName) (head1 (Jvm.Cond.code (⟨"com/example/chronoglyph/chronoglyph/Digits", "count", "(I)I"⟩ : MethodName) prog_4_method_5_code 3 (some .int) :: ws) ({ frames := 0, cells := 0, slots := 0, locals := 0 } : Room)) (fun a U => a = #[(.int x0)] ∧ Z.Warmed39 U.vm ∧ U.heap = h0) (fun _ _ _ _ _ => True) (fun _ U o U' => ∃ v L, o = .returned v ∧ Q1 Z x0 r h0 n0 v U'.heap L ∧ FrameEnd U o U' L ({ frames := 0, cells := 0, slots := 0, locals := 0 } : Room).cells ({ frames := 0, cells := 0, slots := 0, locals := 0 } : Room).slots) := by
  refine MetFree.of_bodySF (plainFor_of_name pn_0) hisR ?_
  intro p e s m args below meth c s₁ Bd hml0 hP hK0
  obtain ⟨rfl, hZ, hh⟩ := hP
  have hx := Bd.exec
  have hby := Bd.bytes
  have hml : c.maxLocals = 3 := hml0
  have hown : s.vm.findClass "com/example/chronoglyph/chronoglyph/Digits" = some m.cls := findClass_of_methodNamed Bd.named
  have hnm := (name_of_methodNamed Bd.named Bd.method).1
  have hret : meth.sig.returnType = some .int := Bd.returns
  have hlk : meth.locks = false := Bd.notSynchronized
  have X0 : Stand p l e ({ frames := 0, cells := 0, slots := 0, locals := 0 } : Room) s m #[(.int x0)] below meth c s₁ [] 0 0 := Stand.of_body Bd
  have e0 : s₁.heap = h0 := by rw [← hh, Bd.state]; rfl
  have N0 := Fr.nil n0
  have pre0 : ∀ t, Steps p.tables e below (s₁.setTop (mkF m 0 #[.val (.int x0), .unset, .unset] [])) t → Steps p.tables e below (s₁.setTop (entryFrame m #[(.int x0)] 3)) t := fun t k => castTop (ef_1 m x0) k
  have pre6 : ∀ t, Steps p.tables e below (s₁.setTop (mkF m 4 #[.val (.int x0), .val (.int (1 : Int32)), .val (.int x0)] [])) t → Steps p.tables e below (s₁.setTop (entryFrame m #[(.int x0)] 3)) t := by
    intro t k
    refine pre0 _ ?_
    show Steps p.tables e below (s₁.setTop (mkF m 0 #[.val (.int x0), .unset, .unset] [])) _
    refine XS.iconst X0.here hx rfl (hb hby d1_0) ?_
    show Steps p.tables e below (s₁.setTop (mkF m 1 #[.val (.int x0), .unset, .unset] [(.int (1 : Int32))])) _
    refine XS.istoreN X0.here hx rfl (hb hby d1_1) rfl (l' := #[.val (.int x0), .val (.int (1 : Int32)), .unset]) rfl ?_
    show Steps p.tables e below (s₁.setTop (mkF m 2 #[.val (.int x0), .val (.int (1 : Int32)), .unset] [])) _
    refine XS.iloadN X0.here hx rfl (hb hby d1_2) rfl ?_
    show Steps p.tables e below (s₁.setTop (mkF m 3 #[.val (.int x0), .val (.int (1 : Int32)), .unset] [(.int x0)])) _
    refine XS.istoreN X0.here hx rfl (hb hby d1_3) rfl (l' := #[.val (.int x0), .val (.int (1 : Int32)), .val (.int x0)]) rfl ?_
    exact k
  have hk' : (f1_loop4 x0 K (1 : Int32) x0) = some r := Eq.trans (Eq.symm (show f1 K x0 = (f1_loop4 x0 K (1 : Int32) x0) from rfl)) hK
  obtain ⟨s₂, o, hst, hrest⟩ := lp1_4 l Z a0 hw x0 h0 n0 Z0 hx hZ hby hml hown hret hlk K r (1 : Int32) x0 s₁ _ X0 N0 e0 hk'
  exact ⟨s₂, o, pre6 _ hst, hrest⟩
-- body 2: com/example/chronoglyph/chronoglyph/DigitsCountPinLaw.expected:(I)I
theorem d2_0 : decode method_3_code 0 = .ok (.iload_n 0, 1) := by decide +kernel
theorem d2_1 : decode method_3_code 1 = .ok (.bipush 10, 2) := by decide +kernel
theorem d2_3 : decode method_3_code 3 = .ok (.if_icmp .ge 5, 3) := by decide +kernel
theorem d2_6 : decode method_3_code 6 = .ok (.iconst 1, 1) := by decide +kernel
theorem d2_7 : decode method_3_code 7 = .ok (.ireturn, 1) := by decide +kernel
theorem d2_8 : decode method_3_code 8 = .ok (.iload_n 0, 1) := by decide +kernel
theorem d2_9 : decode method_3_code 9 = .ok (.bipush 100, 2) := by decide +kernel
theorem d2_11 : decode method_3_code 11 = .ok (.if_icmp .ge 5, 3) := by decide +kernel
theorem d2_14 : decode method_3_code 14 = .ok (.iconst 2, 1) := by decide +kernel
theorem d2_15 : decode method_3_code 15 = .ok (.ireturn, 1) := by decide +kernel
theorem d2_16 : decode method_3_code 16 = .ok (.iload_n 0, 1) := by decide +kernel
theorem d2_17 : decode method_3_code 17 = .ok (.sipush 1000, 3) := by decide +kernel
theorem d2_20 : decode method_3_code 20 = .ok (.if_icmp .ge 5, 3) := by decide +kernel
theorem d2_23 : decode method_3_code 23 = .ok (.iconst 3, 1) := by decide +kernel
theorem d2_24 : decode method_3_code 24 = .ok (.ireturn, 1) := by decide +kernel
theorem d2_25 : decode method_3_code 25 = .ok (.iload_n 0, 1) := by decide +kernel
theorem d2_26 : decode method_3_code 26 = .ok (.sipush 10000, 3) := by decide +kernel
theorem d2_29 : decode method_3_code 29 = .ok (.if_icmp .ge 5, 3) := by decide +kernel
theorem d2_32 : decode method_3_code 32 = .ok (.iconst 4, 1) := by decide +kernel
theorem d2_33 : decode method_3_code 33 = .ok (.ireturn, 1) := by decide +kernel
theorem d2_34 : decode method_3_code 34 = .ok (.iload_n 0, 1) := by decide +kernel
theorem d2_35 : decode method_3_code 35 = .ok (.ldc 19, 2) := by decide +kernel
theorem d2_37 : decode method_3_code 37 = .ok (.if_icmp .ge 5, 3) := by decide +kernel
theorem d2_40 : decode method_3_code 40 = .ok (.iconst 5, 1) := by decide +kernel
theorem d2_41 : decode method_3_code 41 = .ok (.ireturn, 1) := by decide +kernel
theorem d2_42 : decode method_3_code 42 = .ok (.iload_n 0, 1) := by decide +kernel
theorem d2_43 : decode method_3_code 43 = .ok (.ldc 20, 2) := by decide +kernel
theorem d2_45 : decode method_3_code 45 = .ok (.if_icmp .ge 6, 3) := by decide +kernel
theorem d2_48 : decode method_3_code 48 = .ok (.bipush 6, 2) := by decide +kernel
theorem d2_50 : decode method_3_code 50 = .ok (.ireturn, 1) := by decide +kernel
theorem d2_51 : decode method_3_code 51 = .ok (.iload_n 0, 1) := by decide +kernel
theorem d2_52 : decode method_3_code 52 = .ok (.ldc 21, 2) := by decide +kernel
theorem d2_54 : decode method_3_code 54 = .ok (.if_icmp .ge 6, 3) := by decide +kernel
theorem d2_57 : decode method_3_code 57 = .ok (.bipush 7, 2) := by decide +kernel
theorem d2_59 : decode method_3_code 59 = .ok (.ireturn, 1) := by decide +kernel
theorem d2_60 : decode method_3_code 60 = .ok (.iload_n 0, 1) := by decide +kernel
theorem d2_61 : decode method_3_code 61 = .ok (.ldc 22, 2) := by decide +kernel
theorem d2_63 : decode method_3_code 63 = .ok (.if_icmp .ge 6, 3) := by decide +kernel
theorem d2_66 : decode method_3_code 66 = .ok (.bipush 8, 2) := by decide +kernel
theorem d2_68 : decode method_3_code 68 = .ok (.ireturn, 1) := by decide +kernel
theorem d2_69 : decode method_3_code 69 = .ok (.iload_n 0, 1) := by decide +kernel
theorem d2_70 : decode method_3_code 70 = .ok (.ldc 23, 2) := by decide +kernel
theorem d2_72 : decode method_3_code 72 = .ok (.if_icmp .ge 6, 3) := by decide +kernel
theorem d2_75 : decode method_3_code 75 = .ok (.bipush 9, 2) := by decide +kernel
theorem d2_77 : decode method_3_code 77 = .ok (.ireturn, 1) := by decide +kernel
theorem d2_78 : decode method_3_code 78 = .ok (.bipush 10, 2) := by decide +kernel
theorem d2_80 : decode method_3_code 80 = .ok (.ireturn, 1) := by decide +kernel
theorem pn_1 : plainName "com/example/chronoglyph/chronoglyph/DigitsCountPinLaw" = true := by first | (simp [plainName, overriddenIn]; done) | decide +kernel
theorem ef_2 (m : MethodId) (x0 : Int32) : entryFrame m #[(.int x0)] 1 = mkF m 0 #[.val (.int x0)] [] := by first | (simp [entryFrame, mkF, argsToLocals, Value.category]; done) | rfl
def f2 (x0 : Int32) : Int32 := (if if_icmp.holds .ge x0 (10 : Int32) = true then (if if_icmp.holds .ge x0 (100 : Int32) = true then (if if_icmp.holds .ge x0 (1000 : Int32) = true then (if if_icmp.holds .ge x0 (10000 : Int32) = true then (if if_icmp.holds .ge x0 (100000 : Int32) = true then (if if_icmp.holds .ge x0 (1000000 : Int32) = true then (if if_icmp.holds .ge x0 (10000000 : Int32) = true then (if if_icmp.holds .ge x0 (100000000 : Int32) = true then (if if_icmp.holds .ge x0 (1000000000 : Int32) = true then (10 : Int32) else (9 : Int32)) else (8 : Int32)) else (7 : Int32)) else (6 : Int32)) else (5 : Int32)) else (4 : Int32)) else (3 : Int32)) else (2 : Int32)) else (1 : Int32))
def Q2 (Z : State) (x0 : Int32) (h0 : Heap) (n0 : Nat) (v : Option Value) (h : Heap) (L : List Loc) : Prop := v = some (.int (f2 x0)) ∧ Fr n0 L ∧ h = h0
set_option maxRecDepth 65536 in
set_option maxHeartbeats 40000000 in
theorem rm2 (l : Launch) (Z : State) (a0 : Array Value) (hw : ∀ d ∈ tables_1, d.before a0 Z = true) (ws : List Jvm.Cond) (x0 : Int32) (h0 : Heap) (n0 : Nat) (Z0 : n0 ≤ h0.size) :
    MetFree l (⟨"com/example/chronoglyph/chronoglyph/DigitsCountPinLaw", "expected", "(I)I"⟩ : MethodName) (head1 (Jvm.Cond.code (⟨"com/example/chronoglyph/chronoglyph/DigitsCountPinLaw", "expected", "(I)I"⟩ : MethodName) method_3_code 1 (some .int) :: ws) ({ frames := 0, cells := 0, slots := 0, locals := 0 } : Room)) (fun a U => a = #[(.int x0)] ∧ Z.Warmed39 U.vm ∧ U.heap = h0) (fun _ _ _ _ _ => True) (fun _ U o U' => ∃ v L, o = .returned v ∧ Q2 Z x0 h0 n0 v U'.heap L ∧ FrameEnd U o U' L ({ frames := 0, cells := 0, slots := 0, locals := 0 } : Room).cells ({ frames := 0, cells := 0, slots := 0, locals := 0 } : Room).slots) := by
  refine MetFree.of_bodySF (plainFor_of_name pn_1) hisR ?_
  intro p e s m args below meth c s₁ Bd hml0 hP hK0
  obtain ⟨rfl, hZ, hh⟩ := hP
  have hx := Bd.exec
  have hby := Bd.bytes
  have hml : c.maxLocals = 1 := hml0
  have hown : s.vm.findClass "com/example/chronoglyph/chronoglyph/DigitsCountPinLaw" = some m.cls := findClass_of_methodNamed Bd.named
  have hnm := (name_of_methodNamed Bd.named Bd.method).1
  have hret : meth.sig.returnType = some .int := Bd.returns
  have hlk : meth.locks = false := Bd.notSynchronized
  have X0 : Stand p l e ({ frames := 0, cells := 0, slots := 0, locals := 0 } : Room) s m #[(.int x0)] below meth c s₁ [] 0 0 := Stand.of_body Bd
  have e0 : s₁.heap = h0 := by rw [← hh, Bd.state]; rfl
  have N0 := Fr.nil n0
  have pre0 : ∀ t, Steps p.tables e below (s₁.setTop (mkF m 0 #[.val (.int x0)] [])) t → Steps p.tables e below (s₁.setTop (entryFrame m #[(.int x0)] 1)) t := fun t k => castTop (ef_2 m x0) k
  have pre1 : ∀ t, Steps p.tables e below (s₁.setTop (mkF m 3 #[.val (.int x0)] [(.int (10 : Int32)), (.int x0)])) t → Steps p.tables e below (s₁.setTop (entryFrame m #[(.int x0)] 1)) t := by
    intro t k
    refine pre0 _ ?_
    show Steps p.tables e below (s₁.setTop (mkF m 0 #[.val (.int x0)] [])) _
    refine XS.iloadN X0.here hx rfl (hb hby d2_0) rfl ?_
    show Steps p.tables e below (s₁.setTop (mkF m 1 #[.val (.int x0)] [(.int x0)])) _
    refine XS.bipush X0.here hx rfl (hb hby d2_1) ?_
    exact k
  rcases Bool.eq_false_or_eq_true (if_icmp.holds .ge x0 (10 : Int32)) with hc2 | hc2
  · have pre3 : ∀ t, Steps p.tables e below (s₁.setTop (mkF m 11 #[.val (.int x0)] [(.int (100 : Int32)), (.int x0)])) t → Steps p.tables e below (s₁.setTop (entryFrame m #[(.int x0)] 1)) t := by
      intro t k
      refine pre1 _ ?_
      show Steps p.tables e below (s₁.setTop (mkF m 3 #[.val (.int x0)] [(.int (10 : Int32)), (.int x0)])) _
      refine XS.icmpYes X0.here hx rfl (pc0 := 3) (pc' := 8) rfl (hb hby d2_3) rfl hc2 (by decide) (by decide) ?_
      show Steps p.tables e below (s₁.setTop (mkF m 8 #[.val (.int x0)] [])) _
      refine XS.iloadN X0.here hx rfl (hb hby d2_8) rfl ?_
      show Steps p.tables e below (s₁.setTop (mkF m 9 #[.val (.int x0)] [(.int x0)])) _
      refine XS.bipush X0.here hx rfl (hb hby d2_9) ?_
      exact k
    rcases Bool.eq_false_or_eq_true (if_icmp.holds .ge x0 (100 : Int32)) with hc4 | hc4
    · have pre5 : ∀ t, Steps p.tables e below (s₁.setTop (mkF m 20 #[.val (.int x0)] [(.int (1000 : Int32)), (.int x0)])) t → Steps p.tables e below (s₁.setTop (entryFrame m #[(.int x0)] 1)) t := by
        intro t k
        refine pre3 _ ?_
        show Steps p.tables e below (s₁.setTop (mkF m 11 #[.val (.int x0)] [(.int (100 : Int32)), (.int x0)])) _
        refine XS.icmpYes X0.here hx rfl (pc0 := 11) (pc' := 16) rfl (hb hby d2_11) rfl hc4 (by decide) (by decide) ?_
        show Steps p.tables e below (s₁.setTop (mkF m 16 #[.val (.int x0)] [])) _
        refine XS.iloadN X0.here hx rfl (hb hby d2_16) rfl ?_
        show Steps p.tables e below (s₁.setTop (mkF m 17 #[.val (.int x0)] [(.int x0)])) _
        refine XS.sipush X0.here hx rfl (hb hby d2_17) ?_
        exact k
      rcases Bool.eq_false_or_eq_true (if_icmp.holds .ge x0 (1000 : Int32)) with hc6 | hc6
      · have pre7 : ∀ t, Steps p.tables e below (s₁.setTop (mkF m 29 #[.val (.int x0)] [(.int (10000 : Int32)), (.int x0)])) t → Steps p.tables e below (s₁.setTop (entryFrame m #[(.int x0)] 1)) t := by
          intro t k
          refine pre5 _ ?_
          show Steps p.tables e below (s₁.setTop (mkF m 20 #[.val (.int x0)] [(.int (1000 : Int32)), (.int x0)])) _
          refine XS.icmpYes X0.here hx rfl (pc0 := 20) (pc' := 25) rfl (hb hby d2_20) rfl hc6 (by decide) (by decide) ?_
          show Steps p.tables e below (s₁.setTop (mkF m 25 #[.val (.int x0)] [])) _
          refine XS.iloadN X0.here hx rfl (hb hby d2_25) rfl ?_
          show Steps p.tables e below (s₁.setTop (mkF m 26 #[.val (.int x0)] [(.int x0)])) _
          refine XS.sipush X0.here hx rfl (hb hby d2_26) ?_
          exact k
        rcases Bool.eq_false_or_eq_true (if_icmp.holds .ge x0 (10000 : Int32)) with hc8 | hc8
        · have pre9 : ∀ t, Steps p.tables e below (s₁.setTop (mkF m 37 #[.val (.int x0)] [(.int (100000 : Int32)), (.int x0)])) t → Steps p.tables e below (s₁.setTop (entryFrame m #[(.int x0)] 1)) t := by
            intro t k
            refine pre7 _ ?_
            show Steps p.tables e below (s₁.setTop (mkF m 29 #[.val (.int x0)] [(.int (10000 : Int32)), (.int x0)])) _
            refine XS.icmpYes X0.here hx rfl (pc0 := 29) (pc' := 34) rfl (hb hby d2_29) rfl hc8 (by decide) (by decide) ?_
            show Steps p.tables e below (s₁.setTop (mkF m 34 #[.val (.int x0)] [])) _
            refine XS.iloadN X0.here hx rfl (hb hby d2_34) rfl ?_
            show Steps p.tables e below (s₁.setTop (mkF m 35 #[.val (.int x0)] [(.int x0)])) _
            refine X0.ldcInt hx hown (mvT hZ (hw _ (List.mem_of_getElem? (i := 9) rfl))) (g := (mkF m 35 #[.val (.int x0)] [(.int x0)])) rfl (hb hby d2_35) _ ?_
            exact k
          rcases Bool.eq_false_or_eq_true (if_icmp.holds .ge x0 (100000 : Int32)) with hc10 | hc10
          · have pre11 : ∀ t, Steps p.tables e below (s₁.setTop (mkF m 45 #[.val (.int x0)] [(.int (1000000 : Int32)), (.int x0)])) t → Steps p.tables e below (s₁.setTop (entryFrame m #[(.int x0)] 1)) t := by
              intro t k
              refine pre9 _ ?_
              show Steps p.tables e below (s₁.setTop (mkF m 37 #[.val (.int x0)] [(.int (100000 : Int32)), (.int x0)])) _
              refine XS.icmpYes X0.here hx rfl (pc0 := 37) (pc' := 42) rfl (hb hby d2_37) rfl hc10 (by decide) (by decide) ?_
              show Steps p.tables e below (s₁.setTop (mkF m 42 #[.val (.int x0)] [])) _
              refine XS.iloadN X0.here hx rfl (hb hby d2_42) rfl ?_
              show Steps p.tables e below (s₁.setTop (mkF m 43 #[.val (.int x0)] [(.int x0)])) _
              refine X0.ldcInt hx hown (mvT hZ (hw _ (List.mem_of_getElem? (i := 10) rfl))) (g := (mkF m 43 #[.val (.int x0)] [(.int x0)])) rfl (hb hby d2_43) _ ?_
              exact k
            rcases Bool.eq_false_or_eq_true (if_icmp.holds .ge x0 (1000000 : Int32)) with hc12 | hc12
            · have pre13 : ∀ t, Steps p.tables e below (s₁.setTop (mkF m 54 #[.val (.int x0)] [(.int (10000000 : Int32)), (.int x0)])) t → Steps p.tables e below (s₁.setTop (entryFrame m #[(.int x0)] 1)) t := by
                intro t k
                refine pre11 _ ?_
                show Steps p.tables e below (s₁.setTop (mkF m 45 #[.val (.int x0)] [(.int (1000000 : Int32)), (.int x0)])) _
                refine XS.icmpYes X0.here hx rfl (pc0 := 45) (pc' := 51) rfl (hb hby d2_45) rfl hc12 (by decide) (by decide) ?_
                show Steps p.tables e below (s₁.setTop (mkF m 51 #[.val (.int x0)] [])) _
                refine XS.iloadN X0.here hx rfl (hb hby d2_51) rfl ?_
                show Steps p.tables e below (s₁.setTop (mkF m 52 #[.val (.int x0)] [(.int x0)])) _
                refine X0.ldcInt hx hown (mvT hZ (hw _ (List.mem_of_getElem? (i := 11) rfl))) (g := (mkF m 52 #[.val (.int x0)] [(.int x0)])) rfl (hb hby d2_52) _ ?_
                exact k
              rcases Bool.eq_false_or_eq_true (if_icmp.holds .ge x0 (10000000 : Int32)) with hc14 | hc14
              · have pre15 : ∀ t, Steps p.tables e below (s₁.setTop (mkF m 63 #[.val (.int x0)] [(.int (100000000 : Int32)), (.int x0)])) t → Steps p.tables e below (s₁.setTop (entryFrame m #[(.int x0)] 1)) t := by
                  intro t k
                  refine pre13 _ ?_
                  show Steps p.tables e below (s₁.setTop (mkF m 54 #[.val (.int x0)] [(.int (10000000 : Int32)), (.int x0)])) _
                  refine XS.icmpYes X0.here hx rfl (pc0 := 54) (pc' := 60) rfl (hb hby d2_54) rfl hc14 (by decide) (by decide) ?_
                  show Steps p.tables e below (s₁.setTop (mkF m 60 #[.val (.int x0)] [])) _
                  refine XS.iloadN X0.here hx rfl (hb hby d2_60) rfl ?_
                  show Steps p.tables e below (s₁.setTop (mkF m 61 #[.val (.int x0)] [(.int x0)])) _
                  refine X0.ldcInt hx hown (mvT hZ (hw _ (List.mem_of_getElem? (i := 12) rfl))) (g := (mkF m 61 #[.val (.int x0)] [(.int x0)])) rfl (hb hby d2_61) _ ?_
                  exact k
                rcases Bool.eq_false_or_eq_true (if_icmp.holds .ge x0 (100000000 : Int32)) with hc16 | hc16
                · have pre17 : ∀ t, Steps p.tables e below (s₁.setTop (mkF m 72 #[.val (.int x0)] [(.int (1000000000 : Int32)), (.int x0)])) t → Steps p.tables e below (s₁.setTop (entryFrame m #[(.int x0)] 1)) t := by
                    intro t k
                    refine pre15 _ ?_
                    show Steps p.tables e below (s₁.setTop (mkF m 63 #[.val (.int x0)] [(.int (100000000 : Int32)), (.int x0)])) _
                    refine XS.icmpYes X0.here hx rfl (pc0 := 63) (pc' := 69) rfl (hb hby d2_63) rfl hc16 (by decide) (by decide) ?_
                    show Steps p.tables e below (s₁.setTop (mkF m 69 #[.val (.int x0)] [])) _
                    refine XS.iloadN X0.here hx rfl (hb hby d2_69) rfl ?_
                    show Steps p.tables e below (s₁.setTop (mkF m 70 #[.val (.int x0)] [(.int x0)])) _
                    refine X0.ldcInt hx hown (mvT hZ (hw _ (List.mem_of_getElem? (i := 13) rfl))) (g := (mkF m 70 #[.val (.int x0)] [(.int x0)])) rfl (hb hby d2_70) _ ?_
                    exact k
                  rcases Bool.eq_false_or_eq_true (if_icmp.holds .ge x0 (1000000000 : Int32)) with hc18 | hc18
                  · obtain ⟨fs, hr, hrun, hended, hW, hsame⟩ := X0.leave (v := some (.int (10 : Int32))) (fun h => by rw [hret] at h; cases h)
                    refine ⟨_, _, pre17 _ ?_, hrun, hended, _, _, rfl, ?_, ⟨_, rfl⟩, hW, hsame.mono (by decide) (by decide)⟩
                    · show Steps p.tables e below (s₁.setTop (mkF m 72 #[.val (.int x0)] [(.int (1000000000 : Int32)), (.int x0)])) _
                      refine XS.icmpYes X0.here hx rfl (pc0 := 72) (pc' := 78) rfl (hb hby d2_72) rfl hc18 (by decide) (by decide) ?_
                      show Steps p.tables e below (s₁.setTop (mkF m 78 #[.val (.int x0)] [])) _
                      refine XS.bipush X0.here hx rfl (hb hby d2_78) ?_
                      show Steps p.tables e below (s₁.setTop (mkF m 80 #[.val (.int x0)] [(.int (10 : Int32))])) _
                      exact retI X0 hx hret (hb hby d2_80) hr
                    · show Q2 Z x0 h0 n0 _ s₁.heap _
                      rw [e0]
                      have rr : f2 x0 = (10 : Int32) := Eq.trans (if_pos hc2) (Eq.trans (if_pos hc4) (Eq.trans (if_pos hc6) (Eq.trans (if_pos hc8) (Eq.trans (if_pos hc10) (Eq.trans (if_pos hc12) (Eq.trans (if_pos hc14) (Eq.trans (if_pos hc16) (if_pos hc18))))))))
                      exact ⟨congrArg (fun z => some (Value.int z)) rr.symm, N0, rfl⟩
                  · obtain ⟨fs, hr, hrun, hended, hW, hsame⟩ := X0.leave (v := some (.int (9 : Int32))) (fun h => by rw [hret] at h; cases h)
                    refine ⟨_, _, pre17 _ ?_, hrun, hended, _, _, rfl, ?_, ⟨_, rfl⟩, hW, hsame.mono (by decide) (by decide)⟩
                    · show Steps p.tables e below (s₁.setTop (mkF m 72 #[.val (.int x0)] [(.int (1000000000 : Int32)), (.int x0)])) _
                      refine XS.icmpNo X0.here hx rfl (hb hby d2_72) rfl hc18 ?_
                      show Steps p.tables e below (s₁.setTop (mkF m 75 #[.val (.int x0)] [])) _
                      refine XS.bipush X0.here hx rfl (hb hby d2_75) ?_
                      show Steps p.tables e below (s₁.setTop (mkF m 77 #[.val (.int x0)] [(.int (9 : Int32))])) _
                      exact retI X0 hx hret (hb hby d2_77) hr
                    · show Q2 Z x0 h0 n0 _ s₁.heap _
                      rw [e0]
                      have rr : f2 x0 = (9 : Int32) := Eq.trans (if_pos hc2) (Eq.trans (if_pos hc4) (Eq.trans (if_pos hc6) (Eq.trans (if_pos hc8) (Eq.trans (if_pos hc10) (Eq.trans (if_pos hc12) (Eq.trans (if_pos hc14) (Eq.trans (if_pos hc16) (if_neg (own_nt hc18)))))))))
                      exact ⟨congrArg (fun z => some (Value.int z)) rr.symm, N0, rfl⟩
                · obtain ⟨fs, hr, hrun, hended, hW, hsame⟩ := X0.leave (v := some (.int (8 : Int32))) (fun h => by rw [hret] at h; cases h)
                  refine ⟨_, _, pre15 _ ?_, hrun, hended, _, _, rfl, ?_, ⟨_, rfl⟩, hW, hsame.mono (by decide) (by decide)⟩
                  · show Steps p.tables e below (s₁.setTop (mkF m 63 #[.val (.int x0)] [(.int (100000000 : Int32)), (.int x0)])) _
                    refine XS.icmpNo X0.here hx rfl (hb hby d2_63) rfl hc16 ?_
                    show Steps p.tables e below (s₁.setTop (mkF m 66 #[.val (.int x0)] [])) _
                    refine XS.bipush X0.here hx rfl (hb hby d2_66) ?_
                    show Steps p.tables e below (s₁.setTop (mkF m 68 #[.val (.int x0)] [(.int (8 : Int32))])) _
                    exact retI X0 hx hret (hb hby d2_68) hr
                  · show Q2 Z x0 h0 n0 _ s₁.heap _
                    rw [e0]
                    have rr : f2 x0 = (8 : Int32) := Eq.trans (if_pos hc2) (Eq.trans (if_pos hc4) (Eq.trans (if_pos hc6) (Eq.trans (if_pos hc8) (Eq.trans (if_pos hc10) (Eq.trans (if_pos hc12) (Eq.trans (if_pos hc14) (if_neg (own_nt hc16))))))))
                    exact ⟨congrArg (fun z => some (Value.int z)) rr.symm, N0, rfl⟩
              · obtain ⟨fs, hr, hrun, hended, hW, hsame⟩ := X0.leave (v := some (.int (7 : Int32))) (fun h => by rw [hret] at h; cases h)
                refine ⟨_, _, pre13 _ ?_, hrun, hended, _, _, rfl, ?_, ⟨_, rfl⟩, hW, hsame.mono (by decide) (by decide)⟩
                · show Steps p.tables e below (s₁.setTop (mkF m 54 #[.val (.int x0)] [(.int (10000000 : Int32)), (.int x0)])) _
                  refine XS.icmpNo X0.here hx rfl (hb hby d2_54) rfl hc14 ?_
                  show Steps p.tables e below (s₁.setTop (mkF m 57 #[.val (.int x0)] [])) _
                  refine XS.bipush X0.here hx rfl (hb hby d2_57) ?_
                  show Steps p.tables e below (s₁.setTop (mkF m 59 #[.val (.int x0)] [(.int (7 : Int32))])) _
                  exact retI X0 hx hret (hb hby d2_59) hr
                · show Q2 Z x0 h0 n0 _ s₁.heap _
                  rw [e0]
                  have rr : f2 x0 = (7 : Int32) := Eq.trans (if_pos hc2) (Eq.trans (if_pos hc4) (Eq.trans (if_pos hc6) (Eq.trans (if_pos hc8) (Eq.trans (if_pos hc10) (Eq.trans (if_pos hc12) (if_neg (own_nt hc14)))))))
                  exact ⟨congrArg (fun z => some (Value.int z)) rr.symm, N0, rfl⟩
            · obtain ⟨fs, hr, hrun, hended, hW, hsame⟩ := X0.leave (v := some (.int (6 : Int32))) (fun h => by rw [hret] at h; cases h)
              refine ⟨_, _, pre11 _ ?_, hrun, hended, _, _, rfl, ?_, ⟨_, rfl⟩, hW, hsame.mono (by decide) (by decide)⟩
              · show Steps p.tables e below (s₁.setTop (mkF m 45 #[.val (.int x0)] [(.int (1000000 : Int32)), (.int x0)])) _
                refine XS.icmpNo X0.here hx rfl (hb hby d2_45) rfl hc12 ?_
                show Steps p.tables e below (s₁.setTop (mkF m 48 #[.val (.int x0)] [])) _
                refine XS.bipush X0.here hx rfl (hb hby d2_48) ?_
                show Steps p.tables e below (s₁.setTop (mkF m 50 #[.val (.int x0)] [(.int (6 : Int32))])) _
                exact retI X0 hx hret (hb hby d2_50) hr
              · show Q2 Z x0 h0 n0 _ s₁.heap _
                rw [e0]
                have rr : f2 x0 = (6 : Int32) := Eq.trans (if_pos hc2) (Eq.trans (if_pos hc4) (Eq.trans (if_pos hc6) (Eq.trans (if_pos hc8) (Eq.trans (if_pos hc10) (if_neg (own_nt hc12))))))
                exact ⟨congrArg (fun z => some (Value.int z)) rr.symm, N0, rfl⟩
          · obtain ⟨fs, hr, hrun, hended, hW, hsame⟩ := X0.leave (v := some (.int (5 : Int32))) (fun h => by rw [hret] at h; cases h)
            refine ⟨_, _, pre9 _ ?_, hrun, hended, _, _, rfl, ?_, ⟨_, rfl⟩, hW, hsame.mono (by decide) (by decide)⟩
            · show Steps p.tables e below (s₁.setTop (mkF m 37 #[.val (.int x0)] [(.int (100000 : Int32)), (.int x0)])) _
              refine XS.icmpNo X0.here hx rfl (hb hby d2_37) rfl hc10 ?_
              show Steps p.tables e below (s₁.setTop (mkF m 40 #[.val (.int x0)] [])) _
              refine XS.iconst X0.here hx rfl (hb hby d2_40) ?_
              show Steps p.tables e below (s₁.setTop (mkF m 41 #[.val (.int x0)] [(.int (5 : Int32))])) _
              exact retI X0 hx hret (hb hby d2_41) hr
            · show Q2 Z x0 h0 n0 _ s₁.heap _
              rw [e0]
              have rr : f2 x0 = (5 : Int32) := Eq.trans (if_pos hc2) (Eq.trans (if_pos hc4) (Eq.trans (if_pos hc6) (Eq.trans (if_pos hc8) (if_neg (own_nt hc10)))))
              exact ⟨congrArg (fun z => some (Value.int z)) rr.symm, N0, rfl⟩
        · obtain ⟨fs, hr, hrun, hended, hW, hsame⟩ := X0.leave (v := some (.int (4 : Int32))) (fun h => by rw [hret] at h; cases h)
          refine ⟨_, _, pre7 _ ?_, hrun, hended, _, _, rfl, ?_, ⟨_, rfl⟩, hW, hsame.mono (by decide) (by decide)⟩
          · show Steps p.tables e below (s₁.setTop (mkF m 29 #[.val (.int x0)] [(.int (10000 : Int32)), (.int x0)])) _
            refine XS.icmpNo X0.here hx rfl (hb hby d2_29) rfl hc8 ?_
            show Steps p.tables e below (s₁.setTop (mkF m 32 #[.val (.int x0)] [])) _
            refine XS.iconst X0.here hx rfl (hb hby d2_32) ?_
            show Steps p.tables e below (s₁.setTop (mkF m 33 #[.val (.int x0)] [(.int (4 : Int32))])) _
            exact retI X0 hx hret (hb hby d2_33) hr
          · show Q2 Z x0 h0 n0 _ s₁.heap _
            rw [e0]
            have rr : f2 x0 = (4 : Int32) := Eq.trans (if_pos hc2) (Eq.trans (if_pos hc4) (Eq.trans (if_pos hc6) (if_neg (own_nt hc8))))
            exact ⟨congrArg (fun z => some (Value.int z)) rr.symm, N0, rfl⟩
      · obtain ⟨fs, hr, hrun, hended, hW, hsame⟩ := X0.leave (v := some (.int (3 : Int32))) (fun h => by rw [hret] at h; cases h)
        refine ⟨_, _, pre5 _ ?_, hrun, hended, _, _, rfl, ?_, ⟨_, rfl⟩, hW, hsame.mono (by decide) (by decide)⟩
        · show Steps p.tables e below (s₁.setTop (mkF m 20 #[.val (.int x0)] [(.int (1000 : Int32)), (.int x0)])) _
          refine XS.icmpNo X0.here hx rfl (hb hby d2_20) rfl hc6 ?_
          show Steps p.tables e below (s₁.setTop (mkF m 23 #[.val (.int x0)] [])) _
          refine XS.iconst X0.here hx rfl (hb hby d2_23) ?_
          show Steps p.tables e below (s₁.setTop (mkF m 24 #[.val (.int x0)] [(.int (3 : Int32))])) _
          exact retI X0 hx hret (hb hby d2_24) hr
        · show Q2 Z x0 h0 n0 _ s₁.heap _
          rw [e0]
          have rr : f2 x0 = (3 : Int32) := Eq.trans (if_pos hc2) (Eq.trans (if_pos hc4) (if_neg (own_nt hc6)))
          exact ⟨congrArg (fun z => some (Value.int z)) rr.symm, N0, rfl⟩
    · obtain ⟨fs, hr, hrun, hended, hW, hsame⟩ := X0.leave (v := some (.int (2 : Int32))) (fun h => by rw [hret] at h; cases h)
      refine ⟨_, _, pre3 _ ?_, hrun, hended, _, _, rfl, ?_, ⟨_, rfl⟩, hW, hsame.mono (by decide) (by decide)⟩
      · show Steps p.tables e below (s₁.setTop (mkF m 11 #[.val (.int x0)] [(.int (100 : Int32)), (.int x0)])) _
        refine XS.icmpNo X0.here hx rfl (hb hby d2_11) rfl hc4 ?_
        show Steps p.tables e below (s₁.setTop (mkF m 14 #[.val (.int x0)] [])) _
        refine XS.iconst X0.here hx rfl (hb hby d2_14) ?_
        show Steps p.tables e below (s₁.setTop (mkF m 15 #[.val (.int x0)] [(.int (2 : Int32))])) _
        exact retI X0 hx hret (hb hby d2_15) hr
      · show Q2 Z x0 h0 n0 _ s₁.heap _
        rw [e0]
        have rr : f2 x0 = (2 : Int32) := Eq.trans (if_pos hc2) (if_neg (own_nt hc4))
        exact ⟨congrArg (fun z => some (Value.int z)) rr.symm, N0, rfl⟩
  · obtain ⟨fs, hr, hrun, hended, hW, hsame⟩ := X0.leave (v := some (.int (1 : Int32))) (fun h => by rw [hret] at h; cases h)
    refine ⟨_, _, pre1 _ ?_, hrun, hended, _, _, rfl, ?_, ⟨_, rfl⟩, hW, hsame.mono (by decide) (by decide)⟩
    · show Steps p.tables e below (s₁.setTop (mkF m 3 #[.val (.int x0)] [(.int (10 : Int32)), (.int x0)])) _
      refine XS.icmpNo X0.here hx rfl (hb hby d2_3) rfl hc2 ?_
      show Steps p.tables e below (s₁.setTop (mkF m 6 #[.val (.int x0)] [])) _
      refine XS.iconst X0.here hx rfl (hb hby d2_6) ?_
      show Steps p.tables e below (s₁.setTop (mkF m 7 #[.val (.int x0)] [(.int (1 : Int32))])) _
      exact retI X0 hx hret (hb hby d2_7) hr
    · show Q2 Z x0 h0 n0 _ s₁.heap _
      rw [e0]
      have rr : f2 x0 = (1 : Int32) := if_neg (own_nt hc2)
      exact ⟨congrArg (fun z => some (Value.int z)) rr.symm, N0, rfl⟩
theorem pd_0 : parseMethodDescriptor "(I)I" = some ⟨[.int], some .int⟩ := by decide +kernel
-- body 0: com/example/chronoglyph/chronoglyph/DigitsCountPinLaw.law:(II)Z
theorem ef_0 (m : MethodId) (x0 : Int32) (x1 : Int32) : entryFrame m #[(.int x0), (.int x1)] maxLocals = mkF m 0 #[.val (.int x0), .val (.int x1), .unset] [] := by first | (simp [entryFrame, mkF, argsToLocals, Value.category, maxLocals]; done) | rfl
def f0_v1 (x0 : Int32) (x1 : Int32) : Int32 := (own_iushr (x0 &&& (2147483647 : Int32)) (x1 &&& (31 : Int32)))
def f0_j6 (x0 : Int32) (x1 : Int32) : Int32 := if if_icmp.holds .ne ((f1 11 (f0_v1 x0 x1)).getD 0) (f2 (f0_v1 x0 x1)) = true then (0 : Int32) else (1 : Int32)
def f0 (x0 : Int32) (x1 : Int32) : Int32 := (nar .boolean (f0_j6 x0 x1))
theorem own_step (x : Int32) (k : Nat) (i v : Int32) (h : 10 ≤ v.toInt) : f1_loop4 x (k + 1) i v = f1_loop4 x k (i + 1) (v / 10) := by
  have e : (10 : Int32).toInt = 10 := rfl
  exact if_neg (by rw [own_ilt, e]; omega)
theorem own_stop (x : Int32) (k : Nat) (i v : Int32) (h : v.toInt < 10) : f1_loop4 x (k + 1) i v = some i := by
  have e : (10 : Int32).toInt = 10 := rfl
  exact if_pos (by rw [own_ilt, e]; omega)
/-- the loop on a number of n + 1 digits -/
theorem own_cnt (x : Int32) : ∀ (n K : Nat) (i v : Int32), n < K → 0 ≤ v.toInt → v.toInt < 10 ^ (n + 1) → (n = 0 ∨ 10 ^ n ≤ v.toInt) → f1_loop4 x K i v = some (i + Int32.ofNat n) := by
  intro n
  induction n with
  | zero =>
    intro K i v hK h0 h1 _
    obtain ⟨k, rfl⟩ : ∃ k, K = k + 1 := ⟨K - 1, by omega⟩
    rw [own_stop x k i v (by simpa using h1), show Int32.ofNat 0 = 0 from rfl, Int32.add_zero]
  | succ n ih =>
    intro K i v hK h0 h1 h2
    obtain ⟨k, rfl⟩ : ∃ k, K = k + 1 := ⟨K - 1, by omega⟩
    have hp : (10 : Int) ^ (n + 1) ≤ v.toInt := h2.elim (fun q => absurd q (by omega)) id
    have p0 : (0 : Int) < 10 ^ n := Int.pow_pos (by decide)
    have p1 : (10 : Int) ^ (n + 1) = 10 ^ n * 10 := Int.pow_succ 10 n
    have p2 : (10 : Int) ^ (n + 1 + 1) = 10 ^ (n + 1) * 10 := Int.pow_succ 10 (n + 1)
    have d := (c_idiv v 10 10 rfl (by decide)).1 h0
    rw [p2, p1] at h1
    rw [p1] at hp
    rw [own_step x k i v (by omega), ih k (i + 1) (v / 10) (by omega) (by omega) (by rw [p1]; omega) (Or.inr (by omega)), Int32.add_assoc, show Int32.ofNat (n + 1) = Int32.ofNat n + 1 from Int32.ofNat_add n 1, Int32.add_comm (Int32.ofNat n) 1]
theorem own_val (v : Int32) (n : Nat) (hn : n < 11) (h0 : 0 ≤ v.toInt) (h1 : v.toInt < 10 ^ (n + 1)) (h2 : n = 0 ∨ 10 ^ n ≤ v.toInt) : f1 11 v = some (1 + Int32.ofNat n) := own_cnt v n 11 1 v hn h0 h1 h2
/-- the number of digits, less one -/
theorem own_digits (v : Int32) (h0 : 0 ≤ v.toInt) : ∃ n : Nat, n < 10 ∧ v.toInt < 10 ^ (n + 1) ∧ (n = 0 ∨ 10 ^ n ≤ v.toInt) := by
  have r := rng32 v
  by_cases h1 : v.toInt < 10
  · exact ⟨0, by decide, by simpa using h1, Or.inl rfl⟩
  by_cases h2 : v.toInt < 100
  · exact ⟨1, by decide, by omega, Or.inr (by omega)⟩
  by_cases h3 : v.toInt < 1000
  · exact ⟨2, by decide, by omega, Or.inr (by omega)⟩
  by_cases h4 : v.toInt < 10000
  · exact ⟨3, by decide, by omega, Or.inr (by omega)⟩
  by_cases h5 : v.toInt < 100000
  · exact ⟨4, by decide, by omega, Or.inr (by omega)⟩
  by_cases h6 : v.toInt < 1000000
  · exact ⟨5, by decide, by omega, Or.inr (by omega)⟩
  by_cases h7 : v.toInt < 10000000
  · exact ⟨6, by decide, by omega, Or.inr (by omega)⟩
  by_cases h8 : v.toInt < 100000000
  · exact ⟨7, by decide, by omega, Or.inr (by omega)⟩
  by_cases h9 : v.toInt < 1000000000
  · exact ⟨8, by decide, by omega, Or.inr (by omega)⟩
  · exact ⟨9, by decide, by omega, Or.inr (by omega)⟩
theorem own_nn (x0 x1 : Int32) : 0 ≤ (f0_v1 x0 x1).toInt := by
  have a1 : (x0 &&& (2147483647 : Int32)).toInt = x0.toInt % 2147483648 := c_mask x0 2147483647 31 (by decide) (by decide)
  exact (own_iushr_nn (x0 &&& 2147483647) (x1 &&& 31) (by omega)).1
theorem own_some (v : Int32) (h : 0 ≤ v.toInt) : f1 11 v = some ((f1 11 v).getD 0) := by
  obtain ⟨n, hn, h1, h2⟩ := own_digits v h
  rw [own_val v n (by omega) h h1 h2]
  rfl
theorem own_f2 (v : Int32) (h0 : 0 ≤ v.toInt) : f1 11 v = some (f2 v) := by
  have e1 : (10 : Int32).toInt = 10 := rfl
  have e2 : (100 : Int32).toInt = 100 := rfl
  have e3 : (1000 : Int32).toInt = 1000 := rfl
  have e4 : (10000 : Int32).toInt = 10000 := rfl
  have e5 : (100000 : Int32).toInt = 100000 := rfl
  have e6 : (1000000 : Int32).toInt = 1000000 := rfl
  have e7 : (10000000 : Int32).toInt = 10000000 := rfl
  have e8 : (100000000 : Int32).toInt = 100000000 := rfl
  have e9 : (1000000000 : Int32).toInt = 1000000000 := rfl
  have r := rng32 v
  unfold f2
  simp only [own_ige, e1, e2, e3, e4, e5, e6, e7, e8, e9]
  split
  · split
    · split
      · split
        · split
          · split
            · split
              · split
                · split
                  · rw [own_val v 9 (by decide) h0 (by omega) (Or.inr (by omega))]; rfl
                  · rw [own_val v 8 (by decide) h0 (by omega) (Or.inr (by omega))]; rfl
                · rw [own_val v 7 (by decide) h0 (by omega) (Or.inr (by omega))]; rfl
              · rw [own_val v 6 (by decide) h0 (by omega) (Or.inr (by omega))]; rfl
            · rw [own_val v 5 (by decide) h0 (by omega) (Or.inr (by omega))]; rfl
          · rw [own_val v 4 (by decide) h0 (by omega) (Or.inr (by omega))]; rfl
        · rw [own_val v 3 (by decide) h0 (by omega) (Or.inr (by omega))]; rfl
      · rw [own_val v 2 (by decide) h0 (by omega) (Or.inr (by omega))]; rfl
    · rw [own_val v 1 (by decide) h0 (by omega) (Or.inr (by omega))]; rfl
  · rw [own_val v 0 (by decide) h0 (by omega) (Or.inl rfl)]; rfl
def Q0 (Z : State) (x0 : Int32) (x1 : Int32) (h0 : Heap) (n0 : Nat) (v : Option Value) (h : Heap) (L : List Loc) : Prop := v = some (.int (f0 x0 x1)) ∧ Fr n0 L
set_option maxRecDepth 65536 in
set_option maxHeartbeats 40000000 in
theorem rm0 (l : Launch) (Z : State) (a0 : Array Value) (hw : ∀ d ∈ tables_1, d.before a0 Z = true) (ws : List Jvm.Cond) (x0 : Int32) (x1 : Int32) (h0 : Heap) (n0 : Nat) (Z0 : n0 ≤ h0.size) :
    MetFree l x (head1 (Jvm.Cond.code x code maxLocals ret :: ws) room_1) (fun a U => a = #[(.int x0), (.int x1)] ∧ Z.Warmed39 U.vm ∧ U.heap = h0) (fun _ _ _ _ _ => True) (fun _ U o U' => ∃ v L, o = .returned v ∧ Q0 Z x0 x1 h0 n0 v U'.heap L ∧ FrameEnd U o U' L 0 0) := by
  refine MetFree.of_bodySF (plainFor_of_name pn_1) hisR ?_
  intro p e s m args below meth c s₁ Bd hml0 hP hK0
  obtain ⟨rfl, hZ, hh⟩ := hP
  have hx := Bd.exec
  have hby := Bd.bytes
  have hml : c.maxLocals = 3 := hml0
  have hown : s.vm.findClass "com/example/chronoglyph/chronoglyph/DigitsCountPinLaw" = some m.cls := findClass_of_methodNamed Bd.named
  have hnm := (name_of_methodNamed Bd.named Bd.method).1
  have hret : meth.sig.returnType = ret := Bd.returns
  have hlk : meth.locks = false := Bd.notSynchronized
  have X0 : Stand p l e room_1 s m #[(.int x0), (.int x1)] below meth c s₁ [] 0 0 := Stand.of_body Bd
  have e0 : s₁.heap = h0 := by rw [← hh, Bd.state]; rfl
  have N0 := Fr.nil n0
  have pre0 : ∀ t, Steps p.tables e below (s₁.setTop (mkF m 0 #[.val (.int x0), .val (.int x1), .unset] [])) t → Steps p.tables e below (s₁.setTop (entryFrame m #[(.int x0), (.int x1)] maxLocals)) t := fun t k => castTop (ef_0 m x0 x1) k
  obtain ⟨_, _, ⟨T2, L2, k2, n2⟩, -, X2, ⟨Lc2, hQ2, l2, y2, z2⟩, st2⟩ := Jvm.LawKit.callS X0 hx (y := (⟨"com/example/chronoglyph/chronoglyph/Digits", "count", "(I)I"⟩ : MethodName)) hown (mvT hZ (hw _ (List.mem_of_getElem? (i := 1) rfl))) (mvT hZ (hw _ (List.mem_of_getElem? (i := 2) rfl))) (mvT hZ (hw _ (List.mem_of_getElem? (i := 3) rfl))) (mvT hZ (hw _ (List.mem_of_getElem? (i := 4) rfl))) (by decide) (backOf (W := 0) (rm1 l Z a0 hw [] (f0_v1 x0 x1) 11 ((f1 11 (f0_v1 x0 x1)).getD 0) h0 n0 Z0 (own_some _ (own_nn x0 x1))) hZ (hw _ (List.mem_of_getElem? (i := 4) rfl)) (hw _ (List.mem_of_getElem? (i := 3) rfl)) (by decide) (by decide)) (g := (mkF m 11 #[.val (.int x0), .val (.int x1), .val (.int (f0_v1 x0 x1))] [(.int (f0_v1 x0 x1))])) rfl (by rw [hml]; rfl) (argsL := [(.int (f0_v1 x0 x1))]) (rest := []) (lenOf pd_0 rfl) rfl (by show 2 * 0 + _ ≤ _; exact Nat.le_of_eq rfl) (hb hby at_11) (fun _ _ => ⟨rfl, e0, (by decide : 0 + 0 ≤ _), (by decide : 0 + 0 ≤ _)⟩)
  dsimp only [Pt.U, Pt.locs, Pt.cells, Pt.slots] at X2 l2 y2 z2 st2 hQ2
  subst l2 y2 z2
  obtain ⟨rfl, Nq2, e2⟩ := hQ2
  have N2 := Fr.app N0 Nq2
  obtain ⟨_, _, ⟨T3, L3, k3, n3⟩, -, X3, ⟨Lc3, hQ3, l3, y3, z3⟩, st3⟩ := Jvm.LawKit.callS X2 hx (y := (⟨"com/example/chronoglyph/chronoglyph/DigitsCountPinLaw", "expected", "(I)I"⟩ : MethodName)) hown (mvT hZ (hw _ (List.mem_of_getElem? (i := 5) rfl))) (mvT hZ (hw _ (List.mem_of_getElem? (i := 6) rfl))) (mvT hZ (hw _ (List.mem_of_getElem? (i := 7) rfl))) (mvT hZ (hw _ (List.mem_of_getElem? (i := 8) rfl))) (by decide) (backOf (W := 1) (rm2 l Z a0 hw [] (f0_v1 x0 x1) h0 n0 Z0) hZ (hw _ (List.mem_of_getElem? (i := 8) rfl)) (hw _ (List.mem_of_getElem? (i := 7) rfl)) (by decide) (by decide)) (g := (mkF m 15 #[.val (.int x0), .val (.int x1), .val (.int (f0_v1 x0 x1))] [(.int (f0_v1 x0 x1)), (.int ((f1 11 (f0_v1 x0 x1)).getD 0))])) rfl (by rw [hml]; rfl) (argsL := [(.int (f0_v1 x0 x1))]) (rest := [(.int ((f1 11 (f0_v1 x0 x1)).getD 0))]) (lenOf pd_0 rfl) rfl (by show 2 * 0 + _ ≤ _; exact Nat.le_of_eq rfl) (hb hby at_15) (fun _ _ => ⟨rfl, e2, (by decide : 0 + 0 ≤ _), (by decide : 0 + 0 ≤ _)⟩)
  dsimp only [Pt.U, Pt.locs, Pt.cells, Pt.slots] at X3 l3 y3 z3 st3 hQ3
  subst l3 y3 z3
  obtain ⟨rfl, Nq3, e3⟩ := hQ3
  have N3 := Fr.app N2 Nq3
  have pre4 : ∀ t, Steps p.tables e below (T3.setTop (mkF m 18 #[.val (.int x0), .val (.int x1), .val (.int (f0_v1 x0 x1))] [(.int (f2 (f0_v1 x0 x1))), (.int ((f1 11 (f0_v1 x0 x1)).getD 0))])) t → Steps p.tables e below (s₁.setTop (entryFrame m #[(.int x0), (.int x1)] maxLocals)) t := by
    intro t k
    refine pre0 _ ?_
    show Steps p.tables e below (s₁.setTop (mkF m 0 #[.val (.int x0), .val (.int x1), .unset] [])) _
    refine XS.iloadN X0.here hx rfl (hb hby at_0) rfl ?_
    show Steps p.tables e below (s₁.setTop (mkF m 1 #[.val (.int x0), .val (.int x1), .unset] [(.int x0)])) _
    refine X0.ldcInt hx hown (mvT hZ (hw _ (List.mem_of_getElem? (i := 0) rfl))) (g := (mkF m 1 #[.val (.int x0), .val (.int x1), .unset] [(.int x0)])) rfl (hb hby at_1) _ ?_
    show Steps p.tables e below (s₁.setTop (mkF m 3 #[.val (.int x0), .val (.int x1), .unset] [(.int (2147483647 : Int32)), (.int x0)])) _
    refine XS.iand X0.here hx rfl (hb hby at_3) rfl ?_
    show Steps p.tables e below (s₁.setTop (mkF m 4 #[.val (.int x0), .val (.int x1), .unset] [(.int (x0 &&& (2147483647 : Int32)))])) _
    refine XS.iloadN X0.here hx rfl (hb hby at_4) rfl ?_
    show Steps p.tables e below (s₁.setTop (mkF m 5 #[.val (.int x0), .val (.int x1), .unset] [(.int x1), (.int (x0 &&& (2147483647 : Int32)))])) _
    refine XS.bipush X0.here hx rfl (hb hby at_5) ?_
    show Steps p.tables e below (s₁.setTop (mkF m 7 #[.val (.int x0), .val (.int x1), .unset] [(.int (31 : Int32)), (.int x1), (.int (x0 &&& (2147483647 : Int32)))])) _
    refine XS.iand X0.here hx rfl (hb hby at_7) rfl ?_
    show Steps p.tables e below (s₁.setTop (mkF m 8 #[.val (.int x0), .val (.int x1), .unset] [(.int (x1 &&& (31 : Int32))), (.int (x0 &&& (2147483647 : Int32)))])) _
    refine own_xiushr X0.here hx rfl (hb hby at_8) rfl ?_
    show Steps p.tables e below (s₁.setTop (mkF m 9 #[.val (.int x0), .val (.int x1), .unset] [(.int (own_iushr (x0 &&& (2147483647 : Int32)) (x1 &&& (31 : Int32))))])) _
    refine XS.istoreN X0.here hx rfl (hb hby at_9) rfl (l' := #[.val (.int x0), .val (.int x1), .val (.int (f0_v1 x0 x1))]) rfl ?_
    show Steps p.tables e below (s₁.setTop (mkF m 10 #[.val (.int x0), .val (.int x1), .val (.int (f0_v1 x0 x1))] [])) _
    refine XS.iloadN X0.here hx rfl (hb hby at_10) rfl ?_
    show Steps p.tables e below (s₁.setTop (mkF m 11 #[.val (.int x0), .val (.int x1), .val (.int (f0_v1 x0 x1))] [(.int (f0_v1 x0 x1))])) _
    refine st2 _ ?_
    show Steps p.tables e below (T2.setTop (mkF m 14 #[.val (.int x0), .val (.int x1), .val (.int (f0_v1 x0 x1))] [(.int ((f1 11 (f0_v1 x0 x1)).getD 0))])) _
    refine XS.iloadN X2.here hx rfl (hb hby at_14) rfl ?_
    show Steps p.tables e below (T2.setTop (mkF m 15 #[.val (.int x0), .val (.int x1), .val (.int (f0_v1 x0 x1))] [(.int (f0_v1 x0 x1)), (.int ((f1 11 (f0_v1 x0 x1)).getD 0))])) _
    refine st3 _ ?_
    exact k
  obtain ⟨T7, L7, X7, N7, e7, pre7⟩ : ∃ (T' : State) (L' : List Loc), Stand p l e room_1 s m #[(.int x0), (.int x1)] below meth c T' L' 0 0 ∧ Fr n0 L' ∧ T'.heap = h0 ∧ ∀ t, Steps p.tables e below (T'.setTop (mkF m 26 #[.val (.int x0), .val (.int x1), .val (.int (f0_v1 x0 x1))] [(.int (f0_j6 x0 x1))])) t → Steps p.tables e below (s₁.setTop (entryFrame m #[(.int x0), (.int x1)] maxLocals)) t := by
    rcases Bool.eq_false_or_eq_true (if_icmp.holds .ne ((f1 11 (f0_v1 x0 x1)).getD 0) (f2 (f0_v1 x0 x1))) with hc5 | hc5
    · have pre8 : ∀ t, Steps p.tables e below (T3.setTop (mkF m 26 #[.val (.int x0), .val (.int x1), .val (.int (f0_v1 x0 x1))] [(.int (0 : Int32))])) t → Steps p.tables e below (s₁.setTop (entryFrame m #[(.int x0), (.int x1)] maxLocals)) t := by
        intro t k
        refine pre4 _ ?_
        show Steps p.tables e below (T3.setTop (mkF m 18 #[.val (.int x0), .val (.int x1), .val (.int (f0_v1 x0 x1))] [(.int (f2 (f0_v1 x0 x1))), (.int ((f1 11 (f0_v1 x0 x1)).getD 0))])) _
        refine XS.icmpYes X3.here hx rfl (pc0 := 18) (pc' := 25) rfl (hb hby at_18) rfl hc5 (by decide) (by decide) ?_
        show Steps p.tables e below (T3.setTop (mkF m 25 #[.val (.int x0), .val (.int x1), .val (.int (f0_v1 x0 x1))] [])) _
        refine XS.iconst X3.here hx rfl (hb hby at_25) ?_
        exact k
      have qj0 : (f0_j6 x0 x1) = (0 : Int32) := if_pos hc5
      refine ⟨T3, _, X3, N3, e3, fun t k => pre8 _ ?_⟩
      rw [qj0] at k
      exact k
    · have pre9 : ∀ t, Steps p.tables e below (T3.setTop (mkF m 26 #[.val (.int x0), .val (.int x1), .val (.int (f0_v1 x0 x1))] [(.int (1 : Int32))])) t → Steps p.tables e below (s₁.setTop (entryFrame m #[(.int x0), (.int x1)] maxLocals)) t := by
        intro t k
        refine pre4 _ ?_
        show Steps p.tables e below (T3.setTop (mkF m 18 #[.val (.int x0), .val (.int x1), .val (.int (f0_v1 x0 x1))] [(.int (f2 (f0_v1 x0 x1))), (.int ((f1 11 (f0_v1 x0 x1)).getD 0))])) _
        refine XS.icmpNo X3.here hx rfl (hb hby at_18) rfl hc5 ?_
        show Steps p.tables e below (T3.setTop (mkF m 21 #[.val (.int x0), .val (.int x1), .val (.int (f0_v1 x0 x1))] [])) _
        refine XS.iconst X3.here hx rfl (hb hby at_21) ?_
        show Steps p.tables e below (T3.setTop (mkF m 22 #[.val (.int x0), .val (.int x1), .val (.int (f0_v1 x0 x1))] [(.int (1 : Int32))])) _
        refine XS.goto X3.here hx rfl (pc0 := 22) (pc' := 26) rfl (hb hby at_22) (by decide) (by decide) ?_
        exact k
      have qj0 : (f0_j6 x0 x1) = (1 : Int32) := if_neg (own_nt hc5)
      refine ⟨T3, _, X3, N3, e3, fun t k => pre9 _ ?_⟩
      rw [qj0] at k
      exact k
  obtain ⟨fs, hr, hrun, hended, hW, hsame⟩ := X7.leave (v := some (.int (nar .boolean (f0_j6 x0 x1)))) (fun h => by rw [hret] at h; cases h)
  refine ⟨_, _, pre7 _ ?_, hrun, hended, _, _, rfl, ?_, ⟨_, rfl⟩, hW, hsame.mono (by decide) (by decide)⟩
  · show Steps p.tables e below (T7.setTop (mkF m 26 #[.val (.int x0), .val (.int x1), .val (.int (f0_v1 x0 x1))] [(.int (f0_j6 x0 x1))])) _
    exact retN X7 hx (t := .boolean) hret (by simp) (hb hby at_26) hr
  · show Q0 Z x0 x1 h0 n0 _ T7.heap _
    rw [e7]
    have rr : f0 x0 x1 = (nar .boolean (f0_j6 x0 x1)) := rfl
    exact ⟨congrArg (fun z => some (Value.int z)) rr.symm, N7⟩
theorem own_law (x0 x1 : Int32) : f0 x0 x1 = 1 := by
  have h := own_f2 (f0_v1 x0 x1) (own_nn x0 x1)
  unfold f0 f0_j6
  refine own_last ?_
  rw [own_ine, h]
  exact fun q => q rfl
set_option maxRecDepth 65536 in
set_option maxHeartbeats 40000000 in
theorem comes_1 {Post : Tables → Env → Array Value → State → Outcome → State → Prop} (hpost : ∀ tb e args s v u, (limb_1_1.after args s (.returned v) u = true ∧ limb_1_2.after args s (.returned v) u = true ∧ True) → FrameEnd s (.returned v) u (Jvm.fieldLocs frame_1_writes args s ++ Jvm.arrayLocs frame_1_arrays args s ++ Jvm.staticLocs frame_1_statics s) 0 0 → Post tb e args s (.returned v) u) :
    ArmFor flags0 classFile x code maxLocals ret World_1 tables_1 room_1 Calls_1 rest_1 Pre_1 Post := by
  intro l hfl _ _ p e ha hc hk s m args below hf hA hF happ hP
  obtain ⟨hcalls, hrest, hpre⟩ := hP
  obtain ⟨-, -, -, hnamed, -, -, -, hat⟩ := (Spec.applies_iff hf).mp happ
  obtain ⟨hg, hn⟩ := and_e (Cond.before_iff.mp (show (Jvm.Cond.and given_1 narrow_1).before args s = true from hpre))
  obtain ⟨g1, g2⟩ := and_e hg
  obtain ⟨g3, g4⟩ := and_e g2
  obtain ⟨w0, w1, rfl⟩ : ∃ w0 w1 : Value, args = #[w0, w1] := by
    have hs : args.size = 2 := by simpa [Cond.value, given_1] using g1
    obtain ⟨L⟩ := args
    match L, hs with
    | [w0, w1], _ => exact ⟨w0, w1, rfl⟩
  have hw := fun d (hd : d ∈ tables_1) => atoms_spec (ws := Jvm.Cond.code x code maxLocals ret :: tables_1) hat d (List.mem_cons_of_mem _ hd)
  obtain ⟨i0, ei0⟩ := is_v g3
  obtain rfl : w0 = (.int i0) := Option.some.inj ei0
  obtain ⟨i1, ei1⟩ := is_v g4
  obtain rfl : w1 = (.int i1) := Option.some.inj ei1
  obtain ⟨n, o, h1, h2, h3, v, L, rfl, ⟨hv, N⟩, hq⟩ := rm0 l s _ hw tables_1 i0 i1 s.heap s.heap.size (Nat.le_refl _) p e ha hc hk s m _ below hf ((Spec.applies_iff_loose hf).mp happ).1 ⟨rfl, State.Warmed39.refl s, rfl⟩ trivial
  rw [own_law] at hv
  subst hv
  refine ⟨n, _, h1, h2, h3, hpost _ _ _ _ _ _ ⟨Cond.after_iff.mpr rfl, Cond.after_iff.mpr (eq_i res_at (Term.int_eval (1)) rfl), trivial⟩ ⟨hq.1, hq.2.1, (hq.2.2.sift fun y hy => Or.inr (N y hy)).mono (by decide) (by decide)⟩⟩
theorem main_1_1 : Claimed_1_1 := comes_1 fun _ _ _ _ _ _ h hF => ⟨h.1, hF⟩
theorem main_1_2 : Claimed_1_2 := comes_1 fun _ _ _ _ _ _ h hF => ⟨h.2.1, hF⟩
end Jvm.Pilot.@@N@@
namespace Jvm.Pilot.@@N@@
open Jvm Jvm.ClassFile Sem Op Lib Jvm.Free Jvm.Stand Jvm.Pilot.@@N@@.Jvm.D
/-! MADE BY PROGRAM (witnessworld.py) out of the Statement's table words and the real class files: 10 classes; the members and pool entries that the words name. The judged class is class 1, her method 1. -/
namespace start1
open Jvm.ClassFile
def u (s : String) : CpInfo := .utf8 (stringToUtf16 s)
/-- a pool by its gaps: so many unusable entries, then the entry; so many at the end -/
def gap : Nat → List CpInfo → List CpInfo
  | 0, r => r
  | n + 1, r => .unusable :: gap n r
def poolList (es : List (Nat × CpInfo)) (last : Nat) : List CpInfo := es.foldr (fun e r => gap e.1 (e.2 :: r)) (gap last [])
def pool (es : List (Nat × CpInfo)) (last : Nat) : Array CpInfo := ⟨poolList es last⟩
def fileOf (pool : Array CpInfo) (this : Nat) (attrs : Array Attribute := #[]) (ms : Array MethodInfo := #[]) (fl : Nat := 33) (sup : Nat := 0) (ifs : Array Nat := #[]) (fds : Array FieldInfo := #[]) : ClassFile where
  minorVersion := 0
  majorVersion := 65
  constantPool := pool
  accessFlags := fl
  thisClass := this
  superClass := sup
  interfaces := ifs
  fields := fds
  methods := ms
  attributes := attrs
def plain (name : String) (sup : Option ClassId) : Class where
  name := name
  kind := .ordinary
  loader := none
  accessFlags := 33
  super := sup
  interfaces := #[]
  cf := none
  fields := #[]
  methods := #[]
  instanceTypes := #[]
  staticTypes := #[]
  resolved := #[]
  callSites := []
  init := .initialized
  statics := none
  mirror := none

def pool0 : Array CpInfo := pool [(5, u "<init>"), (0, u "()V"), (1, .class_ 10), (1, u "java/lang/Object")] 113

def k0m0 : Method := { name := "<init>", desc := "()V", sig := { parameters := [], returnType := none }, accessFlags := 1, code := none }
/-- java/lang/Object -/
def k0 : Class := { plain "java/lang/Object" none with
  accessFlags := 33
  interfaces := #[]
  cf := some (fileOf pool0 8 #[] #[{ accessFlags := 1, nameIndex := 5, descriptorIndex := 6, attributes := #[] }] 33 0 #[] #[])
  fields := #[]
  methods := #[k0m0]
  instanceTypes := #[]
  staticTypes := #[]
  resolved := Array.replicate 124 none
  statics := none }

def pool1 : Array CpInfo := pool [(2, .class_ 4), (1, u "java/lang/Object"), (0, u "<init>"), (0, u "()V"), (0, .integer 2147483647), (0, .methodref 9 10), (0, .class_ 11), (0, .nameAndType 12 13), (0, u "com/example/chronoglyph/chronoglyph/Digits"), (0, u "count"), (0, u "(I)I"), (0, .methodref 15 16), (0, .class_ 17), (0, .nameAndType 18 13), (0, u "com/example/chronoglyph/chronoglyph/DigitsCountPinLaw"), (0, u "expected"), (0, .integer 100000), (0, .integer 1000000), (0, .integer 10000000), (0, .integer 100000000), (0, .integer 1000000000), (2, u "law"), (0, u "(II)Z")] 3

def k1m0 : Method := { name := "<init>", desc := "()V", sig := { parameters := [], returnType := none }, accessFlags := 2, code := none }
def k1c1 : Code := { maxStack := 3, maxLocals := 3, code := code, exceptionTable := #[], attributes := #[] }
def k1m1 : Method := { name := "law", desc := "(II)Z", sig := { parameters := [.int, .int], returnType := some .boolean }, accessFlags := 9, code := some k1c1 }
def k1c2 : Code := { maxStack := 2, maxLocals := 1, code := method_3_code, exceptionTable := #[], attributes := #[] }
def k1m2 : Method := { name := "expected", desc := "(I)I", sig := { parameters := [.int], returnType := some .int }, accessFlags := 10, code := some k1c2 }
/-- com/example/chronoglyph/chronoglyph/DigitsCountPinLaw -/
def k1 : Class := { plain "com/example/chronoglyph/chronoglyph/DigitsCountPinLaw" (some 0) with
  accessFlags := 49
  interfaces := #[]
  cf := some (fileOf pool1 15 #[] #[{ accessFlags := 2, nameIndex := 5, descriptorIndex := 6, attributes := #[] }, { accessFlags := 9, nameIndex := 26, descriptorIndex := 27, attributes := #[] }, { accessFlags := 10, nameIndex := 18, descriptorIndex := 13, attributes := #[] }] 49 2 #[] #[])
  fields := #[]
  methods := #[k1m0, k1m1, k1m2]
  instanceTypes := #[]
  staticTypes := #[]
  resolved := Array.replicate 31 none
  statics := none }

def pool2 : Array CpInfo := pool [(2, .class_ 4), (1, u "java/lang/Object"), (0, u "<init>"), (0, u "()V"), (0, .class_ 8), (0, u "java/lang/Record")] 13

def k2m0 : Method := { name := "<init>", desc := "()V", sig := { parameters := [], returnType := none }, accessFlags := 4, code := none }
/-- java/lang/Record -/
def k2 : Class := { plain "java/lang/Record" (some 0) with
  accessFlags := 1057
  interfaces := #[]
  cf := some (fileOf pool2 7 #[] #[{ accessFlags := 4, nameIndex := 5, descriptorIndex := 6, attributes := #[] }] 1057 2 #[] #[])
  fields := #[]
  methods := #[k2m0]
  instanceTypes := #[]
  staticTypes := #[]
  resolved := Array.replicate 22 none
  statics := none }

def pool3 : Array CpInfo := pool [(2, .class_ 4), (1, u "java/lang/Record"), (3, .class_ 10), (1, u "com/example/chronoglyph/chronoglyph/Digits"), (0, u "width"), (0, u "I"), (2, u "padTo"), (2, u "fewest"), (2, u "most"), (15, u "count"), (0, u "(I)I")] 62

def k3c0 : Code := { maxStack := 2, maxLocals := 3, code := prog_4_method_5_code, exceptionTable := #[], attributes := #[] }
def k3m0 : Method := { name := "count", desc := "(I)I", sig := { parameters := [.int], returnType := some .int }, accessFlags := 8, code := some k3c0 }
/-- com/example/chronoglyph/chronoglyph/Digits -/
def k3 : Class := { plain "com/example/chronoglyph/chronoglyph/Digits" (some 2) with
  accessFlags := 48
  interfaces := #[]
  cf := some (fileOf pool3 8 #[] #[{ accessFlags := 8, nameIndex := 37, descriptorIndex := 38, attributes := #[] }] 48 2 #[] #[{ accessFlags := 18, nameIndex := 11, descriptorIndex := 12, attributes := #[] }, { accessFlags := 18, nameIndex := 15, descriptorIndex := 12, attributes := #[] }, { accessFlags := 18, nameIndex := 18, descriptorIndex := 12, attributes := #[] }, { accessFlags := 18, nameIndex := 21, descriptorIndex := 12, attributes := #[] }])
  fields := #[{ name := "width", type := .int, accessFlags := 18, slot := 0, constantValue := 0 }, { name := "padTo", type := .int, accessFlags := 18, slot := 1, constantValue := 0 }, { name := "fewest", type := .int, accessFlags := 18, slot := 2, constantValue := 0 }, { name := "most", type := .int, accessFlags := 18, slot := 3, constantValue := 0 }]
  methods := #[k3m0]
  instanceTypes := #[.int, .int, .int, .int]
  staticTypes := #[]
  resolved := Array.replicate 101 none
  statics := none }

def pool4 : Array CpInfo := pool [(1, u "java/lang/Cloneable"), (0, .class_ 1), (0, u "java/lang/Object"), (0, .class_ 3)] 3

/-- java/lang/Cloneable -/
def k4 : Class := { plain "java/lang/Cloneable" (some 0) with
  accessFlags := 1537
  interfaces := #[]
  cf := some (fileOf pool4 2 #[] #[] 1537 4 #[] #[])
  fields := #[]
  methods := #[]
  instanceTypes := #[]
  staticTypes := #[]
  resolved := Array.replicate 8 none
  statics := none }

def pool5 : Array CpInfo := pool [(1, u "java/io/Serializable"), (0, .class_ 1), (0, u "java/lang/Object"), (0, .class_ 3)] 3

/-- java/io/Serializable -/
def k5 : Class := { plain "java/io/Serializable" (some 0) with
  accessFlags := 1537
  interfaces := #[]
  cf := some (fileOf pool5 2 #[] #[] 1537 4 #[] #[])
  fields := #[]
  methods := #[]
  instanceTypes := #[]
  staticTypes := #[]
  resolved := Array.replicate 8 none
  statics := none }

/-- the primitive byte -/
def k6 : Class := { plain "byte" none with kind := .primitive 'B', accessFlags := 0x411 }
/-- [B -/
def k7 : Class := { plain "[B" (some 0) with kind := .array 6 .byte, interfaces := #[4, 5], accessFlags := 1041 }

/-- the primitive int -/
def k8 : Class := { plain "int" none with kind := .primitive 'I', accessFlags := 0x411 }
/-- [I -/
def k9 : Class := { plain "[I" (some 0) with kind := .array 8 .int, interfaces := #[4, 5], accessFlags := 1041 }

def heap : Heap := #[]
def classes : Array Class := #[k0, k1, k2, k3, k4, k5, k6, k7, k8, k9]
def interned : List (Array UInt16 × Addr) := []
def slotsUsed : Nat := 0
def theMethod : MethodId := ⟨1, 1⟩
def args0 : Array Value := #[.int 5, .int 3]
def aboutOver (below : List Frame) : State where
  vm := { classes := classes, interned := interned.toArray }
  heap := heap
  slotsUsed := slotsUsed
  threads := #[{ frames := .invoking theMethod args0 :: below }]
def below0 : List Frame := [.native { method := ⟨0, 0⟩, args := #[] }]
def about1 : State := aboutOver below0
def p0 : Program := .bare "" "" ""
def e0 : Env := launch0.env 0 0 0
theorem w_frames : about1.frames = Frame.invoking theMethod args0 :: below0 := rfl
set_option maxRecDepth 65536 in
theorem w_args : argsFit about1.vm theMethod args0 = true := by decide +kernel
set_option maxRecDepth 65536 in
theorem w_heap : heapFits about1 = true := by decide +kernel
set_option maxRecDepth 65536 in
theorem w_runnable : about1.curStatus? = some .runnable := by decide +kernel
set_option maxRecDepth 65536 in
theorem w_alone : about1.alone = true := by decide +kernel
set_option maxRecDepth 65536 in
theorem w_named : about1.methodNamed? x = some theMethod := by decide +kernel
set_option maxRecDepth 65536 in
theorem w_hears : about1.hears theMethod below0 = true := by decide +kernel
set_option maxRecDepth 65536 in
theorem w_ripe : about1.ripe theMethod args0 below0 = true := by decide +kernel
theorem w_running : about1.status = .running := rfl
set_option maxRecDepth 65536 in
theorem w_room : about1.hasRoom e0.platform room_1 = true :=
  launch0.hasRoom_least _ room_1 (by decide +kernel) (by decide +kernel) (by decide +kernel) (by decide +kernel) (by decide +kernel) (by decide +kernel)
theorem allAtoms_all (ts : List Jvm.Cond) (a : Array Jvm.Value) (st : Jvm.State) : (allAtoms ts).before a st = ts.all (fun c => c.before a st) := by
  induction ts with
  | nil => rfl
  | cons c t ih =>
    show (Jvm.Cond.and c (allAtoms t)).before a st = _
    rw [Jvm.Cond.before_and, ih, List.all_cons]
def words1 : List Jvm.Cond := Jvm.Cond.code x code maxLocals ret :: tables_1
/-- a 'code' word, met by the world's own term for the bytes: nothing is compared byte by byte -/
theorem code_word {y : MethodName} {bytes : ByteArray} {mx : Nat} {rt : Option FieldType} {a : Array Value} {s : State} {m : MethodId} {meth : Method} {c : Code} (h1 : s.methodNamed? y = some m) (h2 : s.vm.method? m = some meth) (h3 : meth.code = some c) (h4 : c.code = bytes)
    (h5 : (c.maxLocals == mx && c.exceptionTable.isEmpty && decide (c.maxStack ≤ mostOperands) && decide (meth.sig.returnType = rt) && !meth.locks && decide (parseMethodDescriptor y.desc = some meth.sig)) = true) : (Jvm.Cond.code y bytes mx rt).before a s = true := by
  simp only [Bool.and_eq_true, beq_iff_eq, Bool.not_eq_true', decide_eq_true_eq] at h5
  obtain ⟨⟨⟨⟨⟨g1, g2⟩, g3⟩, g4⟩, g5⟩, g6⟩ := h5
  simp [Cond.before, Cond.holds, Cond.value, h1, h2, h3, h4, g1, g2, g3, g4, g5, g6]
def isCode : Jvm.Cond → Bool
  | .code _ _ _ _ => true
  | _ => false
theorem all_split {L : List Jvm.Cond} {P : Jvm.Cond → Bool} (h1 : L.all (fun c => isCode c || P c) = true) (h2 : ∀ c ∈ L.filter isCode, P c = true) : L.all P = true := by
  refine List.all_eq_true.mpr fun c hc => ?_
  have h := List.all_eq_true.mp h1 c hc
  rcases Bool.eq_false_or_eq_true (isCode c) with hi | hi
  · exact h2 c (List.mem_filter.mpr ⟨hc, hi⟩)
  · simpa [hi] using h
set_option maxRecDepth 65536 in
theorem w_c0 : (Jvm.Cond.code x code maxLocals ret).before args0 about1 = true := code_word (m := ⟨1, 1⟩) (meth := k1m1) (c := k1c1) (by decide +kernel) rfl rfl rfl (by decide +kernel)
set_option maxRecDepth 65536 in
theorem w_c1 : (Jvm.Cond.code ({ cls := "com/example/chronoglyph/chronoglyph/Digits", name := "count", desc := "(I)I" } : Jvm.MethodName) prog_4_method_5_code (3 : Nat) (Option.some Jvm.ClassFile.FieldType.int)).before args0 about1 = true := code_word (m := ⟨3, 0⟩) (meth := k3m0) (c := k3c0) (by decide +kernel) rfl rfl rfl (by decide +kernel)
set_option maxRecDepth 65536 in
theorem w_c2 : (Jvm.Cond.code ({ cls := "com/example/chronoglyph/chronoglyph/DigitsCountPinLaw", name := "expected", desc := "(I)I" } : Jvm.MethodName) method_3_code (1 : Nat) (Option.some Jvm.ClassFile.FieldType.int)).before args0 about1 = true := code_word (m := ⟨1, 2⟩) (meth := k1m2) (c := k1c2) (by decide +kernel) rfl rfl rfl (by decide +kernel)
def codes1 : List Jvm.Cond := [Jvm.Cond.code x code maxLocals ret, Jvm.Cond.code ({ cls := "com/example/chronoglyph/chronoglyph/Digits", name := "count", desc := "(I)I" } : Jvm.MethodName) prog_4_method_5_code (3 : Nat) (Option.some Jvm.ClassFile.FieldType.int), Jvm.Cond.code ({ cls := "com/example/chronoglyph/chronoglyph/DigitsCountPinLaw", name := "expected", desc := "(I)I" } : Jvm.MethodName) method_3_code (1 : Nat) (Option.some Jvm.ClassFile.FieldType.int)]
set_option maxRecDepth 65536 in
theorem codes_eq : words1.filter isCode = codes1 := rfl
theorem w_codes : ∀ c ∈ words1.filter isCode, c.before args0 about1 = true := by
  rw [codes_eq]
  intro c hc
  simp only [codes1, List.mem_cons, List.not_mem_nil, or_false] at hc
  rcases hc with rfl | rfl | rfl
  · exact w_c0
  · exact w_c1
  · exact w_c2
set_option maxRecDepth 65536 in
theorem w_t1 : words1.all (fun c => isCode c || c.before args0 about1) = true := by decide +kernel
theorem w_tables : (allAtoms (Jvm.Cond.code x code maxLocals ret :: tables_1)).before args0 about1 = true := by
  rw [allAtoms_all]
  show words1.all (fun c => c.before args0 about1) = true
  refine all_split ?_ w_codes
  rw [w_t1]
set_option maxRecDepth 65536 in
theorem w_case : (Jvm.Cond.and given_1 narrow_1).before args0 about1 = true := by decide +kernel
theorem w_applies : (headSpec (Jvm.Cond.code x code maxLocals ret :: tables_1) room_1).applies x e0.platform about1 = true :=
  (Spec.applies_iff w_frames).mpr ⟨w_running, w_runnable, w_alone, w_named, w_hears, w_ripe, w_room, w_tables⟩
theorem atStart : AtStart classFile x code maxLocals ret World_1 tables_1 room_1 Calls_1 rest_1 Pre_1 launch0 p0 e0 about1 theMethod args0 below0 :=
  ⟨lists_1, trivial, launch0.admits_env _ _ _, launch0.least_env, fairChoices_fair.cas, fairChoices_fair.clock, w_frames, w_args, w_heap, w_applies, trivial, trivial, w_case⟩
end start1
theorem witness_1 : WitnessClaimed_1 := ⟨start1.p0, start1.e0, start1.about1, start1.theMethod, start1.args0, start1.below0, start1.atStart⟩
end Jvm.Pilot.@@N@@
