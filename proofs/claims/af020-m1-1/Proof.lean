import JvmDerived
import JvmDerived.Pilot.@@N@@Statement
import JvmDerived.Pilot.@@N@@Code
set_option linter.unusedVariables false
set_option linter.unusedSimpArgs false
@@BLOCK:NumsL.lean.txt@@
namespace Jvm.RoadKit
open Sem ClassFile Op Lib Jvm.Stand Jvm.Free Jvm.LawKit
section New
variable {p : Program} {l : Launch} {e : Env} {R : Room} {s : State} {m : MethodId} {args : Array Value} {below : List Frame} {meth : Method} {c : Code} {T : State} {locs : List Loc} {cells slots : Nat}
theorem retI (X : Stand p l e R s m args below meth c T locs cells slots) (hx : p.tables.exec = Jvm.exec) {pc : Nat} {Ls : Array Slot} {z : Int32} {rest : List Value} (hret : meth.sig.returnType = some .int) (hd : decode c.code pc = .ok (.ireturn, 1)) {fs : List Frame}
    (hl : ∀ (f : JFrame) (acts : List Action), f.method = m → f.locked = none → f.entered = [] → (doReturn e (T.setTop f) acts (some (.int z))).1 = T.setFrames fs) : Steps p.tables e below (T.setTop (mkF m pc Ls (.int z :: rest))) (T.setFrames fs) := by
  have hm' : T.vm.method? m = some meth := X.method'
  have hn : narrow .int (.int z) = .int z := rfl
  show Steps p.tables e below (T.setTop { method := m, pc := pc, locals := Ls, stack := _ :: rest, locked := none }) _
  jvm_step X.here [X.here.top, hx, hd, hm', hret, hn]
  first | (intro acts; rw [hl _ acts rfl rfl rfl]) | rw [hl _ _ rfl rfl rfl]
  exact Steps.refl _
end New
end Jvm.RoadKit
namespace Jvm.Pilot.@@N@@
open Jvm Jvm.ClassFile Sem Op Lib Jvm.Free Jvm.Stand Jvm.LawKit Jvm.RoadKit Bundle Jvm.Pilot.@@N@@.Jvm.D
theorem own_nt {b : Bool} (h : b = false) : ¬ b = true := fun q => by rw [h] at q; cases q
theorem own_ts_ne {α : Type} {o : Option α} {a b : α} (h : o = some b) (ne : b ≠ a) : ¬ o = some a := fun q => ne (Option.some.inj (h.symm.trans q))
/-- what lcmp pushes; Java's shifts and the remainder of longs -/
def own_cmp (x y : Int64) : Int32 := lcmpW x y
def own_iushr (x y : Int32) : Int32 := (x.toUInt32 >>> (y &&& 31).toUInt32).toInt32
def own_lushr (x : Int64) (y : Int32) : Int64 := (x.toUInt64 >>> (y &&& 0x3f).toInt64.toUInt64).toInt64
def own_lshl (x : Int64) (y : Int32) : Int64 := x <<< (y &&& 0x3f).toInt64
def own_lshr (x : Int64) (y : Int32) : Int64 := x >>> (y &&& 0x3f).toInt64
def own_lrem (x y : Int64) : Int64 := x - (x / y) * y
theorem own_ieq (x y : Int32) : (if_icmp.holds .eq x y = true) = (x.toInt = y.toInt) := by
  rw [show if_icmp.holds .eq x y = (x == y) from rfl, beq_iff_eq, Int32.toInt_inj]
theorem own_ine (x y : Int32) : (if_icmp.holds .ne x y = true) = (x.toInt ≠ y.toInt) := by
  rw [show if_icmp.holds .ne x y = (x != y) from rfl, bne_iff_ne, ne_eq, ne_eq, Int32.toInt_inj]
theorem own_ilt (x y : Int32) : (if_icmp.holds .lt x y = true) = (x.toInt < y.toInt) := by
  rw [show if_icmp.holds .lt x y = decide (x < y) from rfl, decide_eq_true_eq, Int32.lt_iff_toInt_lt]
theorem own_ige (x y : Int32) : (if_icmp.holds .ge x y = true) = (y.toInt ≤ x.toInt) := by
  rw [show if_icmp.holds .ge x y = decide (y ≤ x) from rfl, decide_eq_true_eq, Int32.le_iff_toInt_le]
theorem own_igt (x y : Int32) : (if_icmp.holds .gt x y = true) = (y.toInt < x.toInt) := by
  rw [show if_icmp.holds .gt x y = decide (y < x) from rfl, decide_eq_true_eq, Int32.lt_iff_toInt_lt]
theorem own_ile (x y : Int32) : (if_icmp.holds .le x y = true) = (x.toInt ≤ y.toInt) := by
  rw [show if_icmp.holds .le x y = decide (x ≤ y) from rfl, decide_eq_true_eq, Int32.le_iff_toInt_le]
theorem own_z32 : (0 : Int32).toInt = 0 := rfl
theorem own_eq0 (x : Int32) : (ifCond.holds .eq x = true) = (x.toInt = 0) := by rw [if0, own_ieq, own_z32]
theorem own_ne0 (x : Int32) : (ifCond.holds .ne x = true) = (x.toInt ≠ 0) := by rw [if0, own_ine, own_z32]
theorem own_lt0 (x : Int32) : (ifCond.holds .lt x = true) = (x.toInt < 0) := by rw [if0, own_ilt, own_z32]
theorem own_ge0 (x : Int32) : (ifCond.holds .ge x = true) = (0 ≤ x.toInt) := by rw [if0, own_ige, own_z32]
theorem own_gt0 (x : Int32) : (ifCond.holds .gt x = true) = (0 < x.toInt) := by rw [if0, own_igt, own_z32]
theorem own_le0 (x : Int32) : (ifCond.holds .le x = true) = (x.toInt ≤ 0) := by rw [if0, own_ile, own_z32]
theorem own_cmp3 (x y : Int64) : (x.toInt < y.toInt ∧ (own_cmp x y).toInt = -1) ∨ (x.toInt = y.toInt ∧ (own_cmp x y).toInt = 0) ∨ (y.toInt < x.toInt ∧ (own_cmp x y).toInt = 1) := by
  obtain ⟨h1, h2, h3⟩ := c_lcmp x y
  have e : own_cmp x y = lcmpW x y := rfl
  rw [e]
  rcases Int.lt_trichotomy x.toInt y.toInt with h | h | h
  · exact Or.inl ⟨h, h1 h⟩
  · exact Or.inr (Or.inl ⟨h, h2 h⟩)
  · exact Or.inr (Or.inr ⟨h, h3 h⟩)
theorem own_ceq (x y : Int64) : (ifCond.holds .eq (own_cmp x y) = true) = (x.toInt = y.toInt) := by
  rw [own_eq0]; have := own_cmp3 x y; exact propext ⟨fun h => by omega, fun h => by omega⟩
theorem own_cne (x y : Int64) : (ifCond.holds .ne (own_cmp x y) = true) = (x.toInt ≠ y.toInt) := by
  rw [own_ne0]; have := own_cmp3 x y; exact propext ⟨fun h => by omega, fun h => by omega⟩
theorem own_clt (x y : Int64) : (ifCond.holds .lt (own_cmp x y) = true) = (x.toInt < y.toInt) := by
  rw [own_lt0]; have := own_cmp3 x y; exact propext ⟨fun h => by omega, fun h => by omega⟩
theorem own_cge (x y : Int64) : (ifCond.holds .ge (own_cmp x y) = true) = (y.toInt ≤ x.toInt) := by
  rw [own_ge0]; have := own_cmp3 x y; exact propext ⟨fun h => by omega, fun h => by omega⟩
theorem own_cgt (x y : Int64) : (ifCond.holds .gt (own_cmp x y) = true) = (y.toInt < x.toInt) := by
  rw [own_gt0]; have := own_cmp3 x y; exact propext ⟨fun h => by omega, fun h => by omega⟩
theorem own_cle (x y : Int64) : (ifCond.holds .le (own_cmp x y) = true) = (x.toInt ≤ y.toInt) := by
  rw [own_le0]; have := own_cmp3 x y; exact propext ⟨fun h => by omega, fun h => by omega⟩
theorem own_nar1 {x : Int32} (h : x = 1) : nar .boolean x = 1 := by rw [h]; rfl
theorem own_nar0 {x : Int32} (h : x = 0) : nar .boolean x = 0 := by rw [h]; rfl
/-- the last row of a law: a comparison that isn't met gives 0, else 1 -/
theorem own_last {c : Prop} [Decidable c] (h : ¬ c) : nar .boolean (if c then (0 : Int32) else 1) = 1 := by rw [if_neg h]; rfl
theorem own_n32 (x : Int32) : (x.toBitVec.toNat : Int) = x.toInt % 4294967296 := by
  have h := x.toBitVec.isLt
  show _ = x.toBitVec.toInt % _
  rw [BitVec.toInt_eq_toNat_cond]
  split <;> omega
theorem own_n64 (x : Int64) : (x.toBitVec.toNat : Int) = x.toInt % 18446744073709551616 := by
  have h := x.toBitVec.isLt
  show _ = x.toBitVec.toInt % _
  rw [BitVec.toInt_eq_toNat_cond]
  split <;> omega
theorem own_iushr_nat (x y : Int32) : (own_iushr x y).toBitVec.toNat = x.toBitVec.toNat / 2 ^ (y.toBitVec.toNat % 32) := by
  have h1 : (y &&& 31).toBitVec.toNat = y.toBitVec.toNat % 32 := by
    show (y.toBitVec &&& (31 : Int32).toBitVec).toNat = _
    rw [BitVec.toNat_and, show (31 : Int32).toBitVec.toNat = 2 ^ 5 - 1 from by decide, Nat.and_two_pow_sub_one_eq_mod]
  show (x.toBitVec >>> ((y &&& 31).toBitVec % 32)).toNat = _
  rw [BitVec.ushiftRight_eq', BitVec.toNat_ushiftRight, Nat.shiftRight_eq_div_pow, BitVec.toNat_umod, h1, show (32 : BitVec 32).toNat = 32 from rfl, Nat.mod_mod]
theorem own_lushr_nat (x : Int64) (y : Int32) : (own_lushr x y).toBitVec.toNat = x.toBitVec.toNat / 2 ^ (y.toBitVec.toNat % 64) := by
  obtain ⟨h1, h2⟩ := sm64 y _ rfl
  show (x.toBitVec >>> ((y &&& 0x3f).toInt64.toBitVec % 64)).toNat = _
  rw [BitVec.ushiftRight_eq', BitVec.toNat_ushiftRight, Nat.shiftRight_eq_div_pow, BitVec.toNat_umod, h1, BitVec.toNat_ofNat]
  congr 2
  show y.toBitVec.toNat % 64 % 2 ^ 64 % 64 = _
  omega
theorem own_iushr_nn (x y : Int32) (h : 0 ≤ x.toInt) : 0 ≤ (own_iushr x y).toInt ∧ (own_iushr x y).toInt ≤ x.toInt := by
  have a := own_iushr_nat x y
  have b := Nat.div_le_self x.toBitVec.toNat (2 ^ (y.toBitVec.toNat % 32))
  have c := own_n32 x
  have d := own_n32 (own_iushr x y)
  have r := rng32 x
  have r2 := rng32 (own_iushr x y)
  omega
theorem own_lushr_nn (x : Int64) (y : Int32) (h : 0 ≤ x.toInt) : 0 ≤ (own_lushr x y).toInt ∧ (own_lushr x y).toInt ≤ x.toInt := by
  have a := own_lushr_nat x y
  have b := Nat.div_le_self x.toBitVec.toNat (2 ^ (y.toBitVec.toNat % 64))
  have c := own_n64 x
  have d := own_n64 (own_lushr x y)
  have r := rng64 x
  have r2 := rng64 (own_lushr x y)
  omega
theorem own_ff {b : Bool} (h : ¬ b = true) : b = false := by cases b <;> first | rfl | exact absurd rfl h
theorem own_clt_f {x y : Int64} (h : ¬ x.toInt < y.toInt) : ifCond.holds .lt (own_cmp x y) = false := own_ff fun q => h ((own_clt x y).mp q)
theorem own_nz {x : Int64} (h : (0 : Int64).toInt < x.toInt) : x ≠ 0 := fun q => by rw [q] at h; exact absurd h (Int.lt_irrefl _)
theorem own_max (x : Int64) : x.toInt ≤ (9223372036854775807 : Int64).toInt := by
  have r := rng64 x
  have e : (9223372036854775807 : Int64).toInt = 9223372036854775807 := rfl
  omega

-- body 1: com/example/chronoglyph/chronoglyph/SeparatorElement.isSeparator:(C)Z
theorem d1_0 : decode prog_20_method_2_code 0 = .ok (.iload_n 0, 1) := by decide +kernel
theorem d1_1 : decode prog_20_method_2_code 1 = .ok (.tableswitch 131 32 59 #[127, 131, 131, 131, 131, 131, 131, 127, 131, 131, 131, 131, 127, 127, 127, 127, 131, 131, 131, 131, 131, 131, 131, 131, 131, 131, 127, 127], 127) := by decide +kernel
theorem d1_128 : decode prog_20_method_2_code 128 = .ok (.iconst 1, 1) := by decide +kernel
theorem d1_129 : decode prog_20_method_2_code 129 = .ok (.goto 4, 3) := by decide +kernel
theorem d1_132 : decode prog_20_method_2_code 132 = .ok (.iconst 0, 1) := by decide +kernel
theorem d1_133 : decode prog_20_method_2_code 133 = .ok (.ireturn, 1) := by decide +kernel
theorem pn_0 : plainName "com/example/chronoglyph/chronoglyph/SeparatorElement" = true := by first | (simp [plainName, overriddenIn]; done) | decide +kernel
theorem ef_1 (m : MethodId) (x0 : Int32) : entryFrame m #[(.int x0)] 1 = mkF m 0 #[.val (.int x0)] [] := by first | (simp [entryFrame, mkF, argsToLocals, Value.category]; done) | rfl
theorem own_tsw1_1 (x : Int32) (h : ¬ (x.toInt < 32 ∨ x.toInt > 59)) : (#[127, 131, 131, 131, 131, 131, 131, 127, 131, 131, 131, 131, 127, 127, 127, 127, 131, 131, 131, 131, 131, 131, 131, 131, 131, 131, 127, 127] : Array Int)[(x.toInt - 32).toNat]? = some 127 ∨ (#[127, 131, 131, 131, 131, 131, 131, 127, 131, 131, 131, 131, 127, 127, 127, 127, 131, 131, 131, 131, 131, 131, 131, 131, 131, 131, 127, 127] : Array Int)[(x.toInt - 32).toNat]? = some 131 := by
  obtain ⟨n, hn, hl⟩ : ∃ n : Nat, (x.toInt - 32).toNat = n ∧ n < 28 := ⟨_, rfl, by omega⟩
  rw [hn]
  have q : ∀ n : Fin 28, (#[127, 131, 131, 131, 131, 131, 131, 127, 131, 131, 131, 131, 127, 127, 127, 127, 131, 131, 131, 131, 131, 131, 131, 131, 131, 131, 127, 127] : Array Int)[n.val]? = some 127 ∨ (#[127, 131, 131, 131, 131, 131, 131, 127, 131, 131, 131, 131, 127, 127, 127, 127, 131, 131, 131, 131, 131, 131, 131, 131, 131, 131, 127, 127] : Array Int)[n.val]? = some 131 := by decide +kernel
  exact q ⟨n, hl⟩
def f1 (x0 : Int32) : Int32 := (if (x0).toInt < 32 ∨ (x0).toInt > 59 then (0 : Int32) else (if (#[127, 131, 131, 131, 131, 131, 131, 127, 131, 131, 131, 131, 127, 127, 127, 127, 131, 131, 131, 131, 131, 131, 131, 131, 131, 131, 127, 127] : Array Int)[((x0).toInt - 32).toNat]? = some 127 then (1 : Int32) else (0 : Int32)))
def Q1 (Z : State) (x0 : Int32) (h0 : Heap) (n0 : Nat) (v : Option Value) (h : Heap) (L : List Loc) : Prop := v = some (.int (f1 x0)) ∧ Fr n0 L ∧ h = h0
set_option maxRecDepth 65536 in
set_option maxHeartbeats 40000000 in
theorem rm1 (l : Launch) (Z : State) (a0 : Array Value) (hw : ∀ d ∈ tables_1, d.before a0 Z = true) (ws : List Jvm.Cond) (x0 : Int32) (h0 : Heap) (n0 : Nat) (Z0 : n0 ≤ h0.size) :
    MetFree l (⟨"com/example/chronoglyph/chronoglyph/SeparatorElement", "isSeparator", "(C)Z"⟩ : MethodName) (head1 (Jvm.Cond.code (⟨"com/example/chronoglyph/chronoglyph/SeparatorElement", "isSeparator", "(C)Z"⟩ : MethodName) prog_20_method_2_code 1 (some .boolean) :: ws) ({ frames := 0, cells := 0, slots := 0, locals := 0 } : Room)) (fun a U => a = #[(.int x0)] ∧ Z.Warmed39 U.vm ∧ U.heap = h0) (fun _ _ _ _ _ => True) (fun _ U o U' => ∃ v L, o = .returned v ∧ Q1 Z x0 h0 n0 v U'.heap L ∧ FrameEnd U o U' L ({ frames := 0, cells := 0, slots := 0, locals := 0 } : Room).cells ({ frames := 0, cells := 0, slots := 0, locals := 0 } : Room).slots) := by
  refine MetFree.of_bodySF (plainFor_of_name pn_0) hisR ?_
  intro p e s m args below meth c s₁ Bd hml0 hP hK0
  obtain ⟨rfl, hZ, hh⟩ := hP
  have hx := Bd.exec
  have hby := Bd.bytes
  have hml : c.maxLocals = 1 := hml0
  have hown : s.vm.findClass "com/example/chronoglyph/chronoglyph/SeparatorElement" = some m.cls := findClass_of_methodNamed Bd.named
  have hnm := (name_of_methodNamed Bd.named Bd.method).1
  have hret : meth.sig.returnType = some .boolean := Bd.returns
  have hlk : meth.locks = false := Bd.notSynchronized
  have X0 : Stand p l e ({ frames := 0, cells := 0, slots := 0, locals := 0 } : Room) s m #[(.int x0)] below meth c s₁ [] 0 0 := Stand.of_body Bd
  have e0 : s₁.heap = h0 := by rw [← hh, Bd.state]; rfl
  have N0 := Fr.nil n0
  have pre0 : ∀ t, Steps p.tables e below (s₁.setTop (mkF m 0 #[.val (.int x0)] [])) t → Steps p.tables e below (s₁.setTop (entryFrame m #[(.int x0)] 1)) t := fun t k => castTop (ef_1 m x0) k
  have pre1 : ∀ t, Steps p.tables e below (s₁.setTop (mkF m 1 #[.val (.int x0)] [(.int x0)])) t → Steps p.tables e below (s₁.setTop (entryFrame m #[(.int x0)] 1)) t := by
    intro t k
    refine pre0 _ ?_
    show Steps p.tables e below (s₁.setTop (mkF m 0 #[.val (.int x0)] [])) _
    refine XS.iloadN X0.here hx rfl (hb hby d1_0) rfl ?_
    exact k
  by_cases ho2 : (x0).toInt < 32 ∨ (x0).toInt > 59
  · obtain ⟨fs, hr, hrun, hended, hW, hsame⟩ := X0.leave (v := some (.int (0 : Int32))) (fun h => by rw [hret] at h; cases h)
    refine ⟨_, _, pre1 _ ?_, hrun, hended, _, _, rfl, ?_, ⟨_, rfl⟩, hW, hsame.mono (by decide) (by decide)⟩
    · show Steps p.tables e below (s₁.setTop (mkF m 1 #[.val (.int x0)] [(.int x0)])) _
      refine XS.tswOut X0.here hx rfl (pc0 := 1) (pc' := 132) rfl (hb hby d1_1) rfl ho2 (by decide) (by decide) ?_
      show Steps p.tables e below (s₁.setTop (mkF m 132 #[.val (.int x0)] [])) _
      refine XS.iconst X0.here hx rfl (hb hby d1_132) ?_
      show Steps p.tables e below (s₁.setTop (mkF m 133 #[.val (.int x0)] [(.int (0 : Int32))])) _
      exact retN X0 hx (t := .boolean) hret (by simp) (hb hby d1_133) hr
    · show Q1 Z x0 h0 n0 _ s₁.heap _
      rw [e0]
      have rr : f1 x0 = (0 : Int32) := if_pos ho2
      exact ⟨congrArg (fun z => some (Value.int z)) rr.symm, N0, rfl⟩
  · rcases own_tsw1_1 _ ho2 with hq2 | hq2
    · obtain ⟨fs, hr, hrun, hended, hW, hsame⟩ := X0.leave (v := some (.int (1 : Int32))) (fun h => by rw [hret] at h; cases h)
      refine ⟨_, _, pre1 _ ?_, hrun, hended, _, _, rfl, ?_, ⟨_, rfl⟩, hW, hsame.mono (by decide) (by decide)⟩
      · show Steps p.tables e below (s₁.setTop (mkF m 1 #[.val (.int x0)] [(.int x0)])) _
        refine XS.tswIn X0.here hx rfl (pc0 := 1) (pc' := 128) rfl (hb hby d1_1) rfl ho2 hq2 (by decide) (by decide) ?_
        show Steps p.tables e below (s₁.setTop (mkF m 128 #[.val (.int x0)] [])) _
        refine XS.iconst X0.here hx rfl (hb hby d1_128) ?_
        show Steps p.tables e below (s₁.setTop (mkF m 129 #[.val (.int x0)] [(.int (1 : Int32))])) _
        refine XS.goto X0.here hx rfl (pc0 := 129) (pc' := 133) rfl (hb hby d1_129) (by decide) (by decide) ?_
        show Steps p.tables e below (s₁.setTop (mkF m 133 #[.val (.int x0)] [(.int (1 : Int32))])) _
        exact retN X0 hx (t := .boolean) hret (by simp) (hb hby d1_133) hr
      · show Q1 Z x0 h0 n0 _ s₁.heap _
        rw [e0]
        have rr : f1 x0 = (1 : Int32) := Eq.trans (if_neg ho2) (if_pos hq2)
        exact ⟨congrArg (fun z => some (Value.int z)) rr.symm, N0, rfl⟩
    · obtain ⟨fs, hr, hrun, hended, hW, hsame⟩ := X0.leave (v := some (.int (0 : Int32))) (fun h => by rw [hret] at h; cases h)
      refine ⟨_, _, pre1 _ ?_, hrun, hended, _, _, rfl, ?_, ⟨_, rfl⟩, hW, hsame.mono (by decide) (by decide)⟩
      · show Steps p.tables e below (s₁.setTop (mkF m 1 #[.val (.int x0)] [(.int x0)])) _
        refine XS.tswIn X0.here hx rfl (pc0 := 1) (pc' := 132) rfl (hb hby d1_1) rfl ho2 hq2 (by decide) (by decide) ?_
        show Steps p.tables e below (s₁.setTop (mkF m 132 #[.val (.int x0)] [])) _
        refine XS.iconst X0.here hx rfl (hb hby d1_132) ?_
        show Steps p.tables e below (s₁.setTop (mkF m 133 #[.val (.int x0)] [(.int (0 : Int32))])) _
        exact retN X0 hx (t := .boolean) hret (by simp) (hb hby d1_133) hr
      · show Q1 Z x0 h0 n0 _ s₁.heap _
        rw [e0]
        have rr : f1 x0 = (0 : Int32) := Eq.trans (if_neg ho2) (if_neg (own_ts_ne hq2 (by decide)))
        exact ⟨congrArg (fun z => some (Value.int z)) rr.symm, N0, rfl⟩
theorem pd_0 : parseMethodDescriptor "(C)Z" = some ⟨[.char], some .boolean⟩ := by decide +kernel
-- body 0: com/example/chronoglyph/chronoglyph/SeparatorElementIsSeparatorPinLaw.law:(I)Z
theorem pn_1 : plainName "com/example/chronoglyph/chronoglyph/SeparatorElementIsSeparatorPinLaw" = true := by first | (simp [plainName, overriddenIn]; done) | decide +kernel
theorem ef_0 (m : MethodId) (x0 : Int32) : entryFrame m #[(.int x0)] maxLocals = mkF m 0 #[.val (.int x0), .unset, .unset, .unset] [] := by first | (simp [entryFrame, mkF, argsToLocals, Value.category, maxLocals]; done) | rfl
def f0_v1 (x0 : Int32) : Int32 := ((x0 &&& (65535 : Int32)).toUInt32.toUInt16.toUInt32.toInt32)
def f0_j12 (x0 : Int32) : Int32 := if if_icmp.holds .ne (f0_v1 x0) (59 : Int32) = true then (0 : Int32) else (1 : Int32)
def f0_j16 (x0 : Int32) : Int32 := if if_icmp.holds .eq (f0_v1 x0) (58 : Int32) = true then (1 : Int32) else (f0_j12 x0)
def f0_j25 (x0 : Int32) : Int32 := if if_icmp.holds .ne (f0_v1 x0) (59 : Int32) = true then (0 : Int32) else (1 : Int32)
def f0_j29 (x0 : Int32) : Int32 := if if_icmp.holds .eq (f0_v1 x0) (58 : Int32) = true then (1 : Int32) else (f0_j25 x0)
def f0_j32 (x0 : Int32) : Int32 := if if_icmp.holds .le (f0_v1 x0) (47 : Int32) = true then (1 : Int32) else (f0_j29 x0)
def f0_j35 (x0 : Int32) : Int32 := if if_icmp.holds .lt (f0_v1 x0) (44 : Int32) = true then (f0_j16 x0) else (f0_j32 x0)
def f0_j37 (x0 : Int32) : Int32 := if if_icmp.holds .eq (f0_v1 x0) (39 : Int32) = true then (1 : Int32) else (f0_j35 x0)
def f0_j40 (x0 : Int32) : Int32 := if if_icmp.holds .eq (f0_v1 x0) (32 : Int32) = true then (1 : Int32) else (f0_j37 x0)
def f0_j46 (x0 : Int32) : Int32 := if if_icmp.holds .ne (f1 (f0_v1 x0)) (f0_j40 x0) = true then (0 : Int32) else (1 : Int32)
def f0 (x0 : Int32) : Int32 := (nar .boolean (f0_j46 x0))
def Q0 (Z : State) (x0 : Int32) (h0 : Heap) (n0 : Nat) (v : Option Value) (h : Heap) (L : List Loc) : Prop := v = some (.int (f0 x0)) ∧ Fr n0 L
set_option maxRecDepth 65536 in
set_option maxHeartbeats 40000000 in
theorem rm0 (l : Launch) (Z : State) (a0 : Array Value) (hw : ∀ d ∈ tables_1, d.before a0 Z = true) (ws : List Jvm.Cond) (x0 : Int32) (h0 : Heap) (n0 : Nat) (Z0 : n0 ≤ h0.size) :
    MetFree l x (head1 (Jvm.Cond.code x code maxLocals ret :: ws) room_1) (fun a U => a = #[(.int x0)] ∧ Z.Warmed39 U.vm ∧ U.heap = h0) (fun _ _ _ _ _ => True) (fun _ U o U' => ∃ v L, o = .returned v ∧ Q0 Z x0 h0 n0 v U'.heap L ∧ FrameEnd U o U' L 0 0) := by
  refine MetFree.of_bodySF (plainFor_of_name pn_1) hisR ?_
  intro p e s m args below meth c s₁ Bd hml0 hP hK0
  obtain ⟨rfl, hZ, hh⟩ := hP
  have hx := Bd.exec
  have hby := Bd.bytes
  have hml : c.maxLocals = 4 := hml0
  have hown : s.vm.findClass "com/example/chronoglyph/chronoglyph/SeparatorElementIsSeparatorPinLaw" = some m.cls := findClass_of_methodNamed Bd.named
  have hnm := (name_of_methodNamed Bd.named Bd.method).1
  have hret : meth.sig.returnType = ret := Bd.returns
  have hlk : meth.locks = false := Bd.notSynchronized
  have X0 : Stand p l e room_1 s m #[(.int x0)] below meth c s₁ [] 0 0 := Stand.of_body Bd
  have e0 : s₁.heap = h0 := by rw [← hh, Bd.state]; rfl
  have N0 := Fr.nil n0
  have pre0 : ∀ t, Steps p.tables e below (s₁.setTop (mkF m 0 #[.val (.int x0), .unset, .unset, .unset] [])) t → Steps p.tables e below (s₁.setTop (entryFrame m #[(.int x0)] maxLocals)) t := fun t k => castTop (ef_0 m x0) k
  have pre2 : ∀ t, Steps p.tables e below (s₁.setTop (mkF m 11 #[.val (.int x0), .val (.int (f0_v1 x0)), .val (.int (f0_v1 x0)), .unset] [(.int (32 : Int32)), (.int (f0_v1 x0))])) t → Steps p.tables e below (s₁.setTop (entryFrame m #[(.int x0)] maxLocals)) t := by
    intro t k
    refine pre0 _ ?_
    show Steps p.tables e below (s₁.setTop (mkF m 0 #[.val (.int x0), .unset, .unset, .unset] [])) _
    refine XS.iloadN X0.here hx rfl (hb hby at_0) rfl ?_
    show Steps p.tables e below (s₁.setTop (mkF m 1 #[.val (.int x0), .unset, .unset, .unset] [(.int x0)])) _
    refine X0.ldcInt hx hown (mvT hZ (hw _ (List.mem_of_getElem? (i := 0) rfl))) (g := (mkF m 1 #[.val (.int x0), .unset, .unset, .unset] [(.int x0)])) rfl (hb hby at_1) _ ?_
    show Steps p.tables e below (s₁.setTop (mkF m 3 #[.val (.int x0), .unset, .unset, .unset] [(.int (65535 : Int32)), (.int x0)])) _
    refine XS.iand X0.here hx rfl (hb hby at_3) rfl ?_
    show Steps p.tables e below (s₁.setTop (mkF m 4 #[.val (.int x0), .unset, .unset, .unset] [(.int (x0 &&& (65535 : Int32)))])) _
    refine XS.i2c X0.here hx rfl (hb hby at_4) rfl ?_
    show Steps p.tables e below (s₁.setTop (mkF m 5 #[.val (.int x0), .unset, .unset, .unset] [(.int ((x0 &&& (65535 : Int32)).toUInt32.toUInt16.toUInt32.toInt32))])) _
    refine XS.istoreN X0.here hx rfl (hb hby at_5) rfl (l' := #[.val (.int x0), .val (.int (f0_v1 x0)), .unset, .unset]) rfl ?_
    show Steps p.tables e below (s₁.setTop (mkF m 6 #[.val (.int x0), .val (.int (f0_v1 x0)), .unset, .unset] [])) _
    refine XS.iloadN X0.here hx rfl (hb hby at_6) rfl ?_
    show Steps p.tables e below (s₁.setTop (mkF m 7 #[.val (.int x0), .val (.int (f0_v1 x0)), .unset, .unset] [(.int (f0_v1 x0))])) _
    refine XS.istoreN X0.here hx rfl (hb hby at_7) rfl (l' := #[.val (.int x0), .val (.int (f0_v1 x0)), .val (.int (f0_v1 x0)), .unset]) rfl ?_
    show Steps p.tables e below (s₁.setTop (mkF m 8 #[.val (.int x0), .val (.int (f0_v1 x0)), .val (.int (f0_v1 x0)), .unset] [])) _
    refine XS.iloadN X0.here hx rfl (hb hby at_8) rfl ?_
    show Steps p.tables e below (s₁.setTop (mkF m 9 #[.val (.int x0), .val (.int (f0_v1 x0)), .val (.int (f0_v1 x0)), .unset] [(.int (f0_v1 x0))])) _
    refine XS.bipush X0.here hx rfl (hb hby at_9) ?_
    exact k
  obtain ⟨T41, L41, X41, N41, e41, pre41⟩ : ∃ (T' : State) (L' : List Loc), Stand p l e room_1 s m #[(.int x0)] below meth c T' L' 0 0 ∧ Fr n0 L' ∧ T'.heap = h0 ∧ ∀ t, Steps p.tables e below (T'.setTop (mkF m 49 #[.val (.int x0), .val (.int (f0_v1 x0)), .val (.int (f0_v1 x0)), .unset] [(.int (f0_j40 x0))])) t → Steps p.tables e below (s₁.setTop (entryFrame m #[(.int x0)] maxLocals)) t := by
    rcases Bool.eq_false_or_eq_true (if_icmp.holds .eq (f0_v1 x0) (32 : Int32)) with hc3 | hc3
    · have pre42 : ∀ t, Steps p.tables e below (s₁.setTop (mkF m 49 #[.val (.int x0), .val (.int (f0_v1 x0)), .val (.int (f0_v1 x0)), .unset] [(.int (1 : Int32))])) t → Steps p.tables e below (s₁.setTop (entryFrame m #[(.int x0)] maxLocals)) t := by
        intro t k
        refine pre2 _ ?_
        show Steps p.tables e below (s₁.setTop (mkF m 11 #[.val (.int x0), .val (.int (f0_v1 x0)), .val (.int (f0_v1 x0)), .unset] [(.int (32 : Int32)), (.int (f0_v1 x0))])) _
        refine XS.icmpYes X0.here hx rfl (pc0 := 11) (pc' := 44) rfl (hb hby at_11) rfl hc3 (by decide) (by decide) ?_
        show Steps p.tables e below (s₁.setTop (mkF m 44 #[.val (.int x0), .val (.int (f0_v1 x0)), .val (.int (f0_v1 x0)), .unset] [])) _
        refine XS.iconst X0.here hx rfl (hb hby at_44) ?_
        show Steps p.tables e below (s₁.setTop (mkF m 45 #[.val (.int x0), .val (.int (f0_v1 x0)), .val (.int (f0_v1 x0)), .unset] [(.int (1 : Int32))])) _
        refine XS.goto X0.here hx rfl (pc0 := 45) (pc' := 49) rfl (hb hby at_45) (by decide) (by decide) ?_
        exact k
      have qj0 : (f0_j40 x0) = (1 : Int32) := if_pos hc3
      refine ⟨s₁, _, X0, N0, e0, fun t k => pre42 _ ?_⟩
      rw [qj0] at k
      exact k
    · have pre4 : ∀ t, Steps p.tables e below (s₁.setTop (mkF m 17 #[.val (.int x0), .val (.int (f0_v1 x0)), .val (.int (f0_v1 x0)), .unset] [(.int (39 : Int32)), (.int (f0_v1 x0))])) t → Steps p.tables e below (s₁.setTop (entryFrame m #[(.int x0)] maxLocals)) t := by
        intro t k
        refine pre2 _ ?_
        show Steps p.tables e below (s₁.setTop (mkF m 11 #[.val (.int x0), .val (.int (f0_v1 x0)), .val (.int (f0_v1 x0)), .unset] [(.int (32 : Int32)), (.int (f0_v1 x0))])) _
        refine XS.icmpNo X0.here hx rfl (hb hby at_11) rfl hc3 ?_
        show Steps p.tables e below (s₁.setTop (mkF m 14 #[.val (.int x0), .val (.int (f0_v1 x0)), .val (.int (f0_v1 x0)), .unset] [])) _
        refine XS.iloadN X0.here hx rfl (hb hby at_14) rfl ?_
        show Steps p.tables e below (s₁.setTop (mkF m 15 #[.val (.int x0), .val (.int (f0_v1 x0)), .val (.int (f0_v1 x0)), .unset] [(.int (f0_v1 x0))])) _
        refine XS.bipush X0.here hx rfl (hb hby at_15) ?_
        exact k
      obtain ⟨T38, L38, X38, N38, e38, pre38⟩ : ∃ (T' : State) (L' : List Loc), Stand p l e room_1 s m #[(.int x0)] below meth c T' L' 0 0 ∧ Fr n0 L' ∧ T'.heap = h0 ∧ ∀ t, Steps p.tables e below (T'.setTop (mkF m 49 #[.val (.int x0), .val (.int (f0_v1 x0)), .val (.int (f0_v1 x0)), .unset] [(.int (f0_j37 x0))])) t → Steps p.tables e below (s₁.setTop (entryFrame m #[(.int x0)] maxLocals)) t := by
        rcases Bool.eq_false_or_eq_true (if_icmp.holds .eq (f0_v1 x0) (39 : Int32)) with hc5 | hc5
        · have pre39 : ∀ t, Steps p.tables e below (s₁.setTop (mkF m 49 #[.val (.int x0), .val (.int (f0_v1 x0)), .val (.int (f0_v1 x0)), .unset] [(.int (1 : Int32))])) t → Steps p.tables e below (s₁.setTop (entryFrame m #[(.int x0)] maxLocals)) t := by
            intro t k
            refine pre4 _ ?_
            show Steps p.tables e below (s₁.setTop (mkF m 17 #[.val (.int x0), .val (.int (f0_v1 x0)), .val (.int (f0_v1 x0)), .unset] [(.int (39 : Int32)), (.int (f0_v1 x0))])) _
            refine XS.icmpYes X0.here hx rfl (pc0 := 17) (pc' := 44) rfl (hb hby at_17) rfl hc5 (by decide) (by decide) ?_
            show Steps p.tables e below (s₁.setTop (mkF m 44 #[.val (.int x0), .val (.int (f0_v1 x0)), .val (.int (f0_v1 x0)), .unset] [])) _
            refine XS.iconst X0.here hx rfl (hb hby at_44) ?_
            show Steps p.tables e below (s₁.setTop (mkF m 45 #[.val (.int x0), .val (.int (f0_v1 x0)), .val (.int (f0_v1 x0)), .unset] [(.int (1 : Int32))])) _
            refine XS.goto X0.here hx rfl (pc0 := 45) (pc' := 49) rfl (hb hby at_45) (by decide) (by decide) ?_
            exact k
          have qj0 : (f0_j37 x0) = (1 : Int32) := if_pos hc5
          refine ⟨s₁, _, X0, N0, e0, fun t k => pre39 _ ?_⟩
          rw [qj0] at k
          exact k
        · have pre6 : ∀ t, Steps p.tables e below (s₁.setTop (mkF m 23 #[.val (.int x0), .val (.int (f0_v1 x0)), .val (.int (f0_v1 x0)), .unset] [(.int (44 : Int32)), (.int (f0_v1 x0))])) t → Steps p.tables e below (s₁.setTop (entryFrame m #[(.int x0)] maxLocals)) t := by
            intro t k
            refine pre4 _ ?_
            show Steps p.tables e below (s₁.setTop (mkF m 17 #[.val (.int x0), .val (.int (f0_v1 x0)), .val (.int (f0_v1 x0)), .unset] [(.int (39 : Int32)), (.int (f0_v1 x0))])) _
            refine XS.icmpNo X0.here hx rfl (hb hby at_17) rfl hc5 ?_
            show Steps p.tables e below (s₁.setTop (mkF m 20 #[.val (.int x0), .val (.int (f0_v1 x0)), .val (.int (f0_v1 x0)), .unset] [])) _
            refine XS.iloadN X0.here hx rfl (hb hby at_20) rfl ?_
            show Steps p.tables e below (s₁.setTop (mkF m 21 #[.val (.int x0), .val (.int (f0_v1 x0)), .val (.int (f0_v1 x0)), .unset] [(.int (f0_v1 x0))])) _
            refine XS.bipush X0.here hx rfl (hb hby at_21) ?_
            exact k
          obtain ⟨T36, L36, X36, N36, e36, pre36⟩ : ∃ (T' : State) (L' : List Loc), Stand p l e room_1 s m #[(.int x0)] below meth c T' L' 0 0 ∧ Fr n0 L' ∧ T'.heap = h0 ∧ ∀ t, Steps p.tables e below (T'.setTop (mkF m 49 #[.val (.int x0), .val (.int (f0_v1 x0)), .val (.int (f0_v1 x0)), .unset] [(.int (f0_j35 x0))])) t → Steps p.tables e below (s₁.setTop (entryFrame m #[(.int x0)] maxLocals)) t := by
            rcases Bool.eq_false_or_eq_true (if_icmp.holds .lt (f0_v1 x0) (44 : Int32)) with hc7 | hc7
            · have pre8 : ∀ t, Steps p.tables e below (s₁.setTop (mkF m 35 #[.val (.int x0), .val (.int (f0_v1 x0)), .val (.int (f0_v1 x0)), .unset] [(.int (58 : Int32)), (.int (f0_v1 x0))])) t → Steps p.tables e below (s₁.setTop (entryFrame m #[(.int x0)] maxLocals)) t := by
                intro t k
                refine pre6 _ ?_
                show Steps p.tables e below (s₁.setTop (mkF m 23 #[.val (.int x0), .val (.int (f0_v1 x0)), .val (.int (f0_v1 x0)), .unset] [(.int (44 : Int32)), (.int (f0_v1 x0))])) _
                refine XS.icmpYes X0.here hx rfl (pc0 := 23) (pc' := 32) rfl (hb hby at_23) rfl hc7 (by decide) (by decide) ?_
                show Steps p.tables e below (s₁.setTop (mkF m 32 #[.val (.int x0), .val (.int (f0_v1 x0)), .val (.int (f0_v1 x0)), .unset] [])) _
                refine XS.iloadN X0.here hx rfl (hb hby at_32) rfl ?_
                show Steps p.tables e below (s₁.setTop (mkF m 33 #[.val (.int x0), .val (.int (f0_v1 x0)), .val (.int (f0_v1 x0)), .unset] [(.int (f0_v1 x0))])) _
                refine XS.bipush X0.here hx rfl (hb hby at_33) ?_
                exact k
              obtain ⟨T17, L17, X17, N17, e17, pre17⟩ : ∃ (T' : State) (L' : List Loc), Stand p l e room_1 s m #[(.int x0)] below meth c T' L' 0 0 ∧ Fr n0 L' ∧ T'.heap = h0 ∧ ∀ t, Steps p.tables e below (T'.setTop (mkF m 49 #[.val (.int x0), .val (.int (f0_v1 x0)), .val (.int (f0_v1 x0)), .unset] [(.int (f0_j16 x0))])) t → Steps p.tables e below (s₁.setTop (entryFrame m #[(.int x0)] maxLocals)) t := by
                rcases Bool.eq_false_or_eq_true (if_icmp.holds .eq (f0_v1 x0) (58 : Int32)) with hc9 | hc9
                · have pre18 : ∀ t, Steps p.tables e below (s₁.setTop (mkF m 49 #[.val (.int x0), .val (.int (f0_v1 x0)), .val (.int (f0_v1 x0)), .unset] [(.int (1 : Int32))])) t → Steps p.tables e below (s₁.setTop (entryFrame m #[(.int x0)] maxLocals)) t := by
                    intro t k
                    refine pre8 _ ?_
                    show Steps p.tables e below (s₁.setTop (mkF m 35 #[.val (.int x0), .val (.int (f0_v1 x0)), .val (.int (f0_v1 x0)), .unset] [(.int (58 : Int32)), (.int (f0_v1 x0))])) _
                    refine XS.icmpYes X0.here hx rfl (pc0 := 35) (pc' := 44) rfl (hb hby at_35) rfl hc9 (by decide) (by decide) ?_
                    show Steps p.tables e below (s₁.setTop (mkF m 44 #[.val (.int x0), .val (.int (f0_v1 x0)), .val (.int (f0_v1 x0)), .unset] [])) _
                    refine XS.iconst X0.here hx rfl (hb hby at_44) ?_
                    show Steps p.tables e below (s₁.setTop (mkF m 45 #[.val (.int x0), .val (.int (f0_v1 x0)), .val (.int (f0_v1 x0)), .unset] [(.int (1 : Int32))])) _
                    refine XS.goto X0.here hx rfl (pc0 := 45) (pc' := 49) rfl (hb hby at_45) (by decide) (by decide) ?_
                    exact k
                  have qj0 : (f0_j16 x0) = (1 : Int32) := if_pos hc9
                  refine ⟨s₁, _, X0, N0, e0, fun t k => pre18 _ ?_⟩
                  rw [qj0] at k
                  exact k
                · have pre10 : ∀ t, Steps p.tables e below (s₁.setTop (mkF m 41 #[.val (.int x0), .val (.int (f0_v1 x0)), .val (.int (f0_v1 x0)), .unset] [(.int (59 : Int32)), (.int (f0_v1 x0))])) t → Steps p.tables e below (s₁.setTop (entryFrame m #[(.int x0)] maxLocals)) t := by
                    intro t k
                    refine pre8 _ ?_
                    show Steps p.tables e below (s₁.setTop (mkF m 35 #[.val (.int x0), .val (.int (f0_v1 x0)), .val (.int (f0_v1 x0)), .unset] [(.int (58 : Int32)), (.int (f0_v1 x0))])) _
                    refine XS.icmpNo X0.here hx rfl (hb hby at_35) rfl hc9 ?_
                    show Steps p.tables e below (s₁.setTop (mkF m 38 #[.val (.int x0), .val (.int (f0_v1 x0)), .val (.int (f0_v1 x0)), .unset] [])) _
                    refine XS.iloadN X0.here hx rfl (hb hby at_38) rfl ?_
                    show Steps p.tables e below (s₁.setTop (mkF m 39 #[.val (.int x0), .val (.int (f0_v1 x0)), .val (.int (f0_v1 x0)), .unset] [(.int (f0_v1 x0))])) _
                    refine XS.bipush X0.here hx rfl (hb hby at_39) ?_
                    exact k
                  obtain ⟨T13, L13, X13, N13, e13, pre13⟩ : ∃ (T' : State) (L' : List Loc), Stand p l e room_1 s m #[(.int x0)] below meth c T' L' 0 0 ∧ Fr n0 L' ∧ T'.heap = h0 ∧ ∀ t, Steps p.tables e below (T'.setTop (mkF m 49 #[.val (.int x0), .val (.int (f0_v1 x0)), .val (.int (f0_v1 x0)), .unset] [(.int (f0_j12 x0))])) t → Steps p.tables e below (s₁.setTop (entryFrame m #[(.int x0)] maxLocals)) t := by
                    rcases Bool.eq_false_or_eq_true (if_icmp.holds .ne (f0_v1 x0) (59 : Int32)) with hc11 | hc11
                    · have pre14 : ∀ t, Steps p.tables e below (s₁.setTop (mkF m 49 #[.val (.int x0), .val (.int (f0_v1 x0)), .val (.int (f0_v1 x0)), .unset] [(.int (0 : Int32))])) t → Steps p.tables e below (s₁.setTop (entryFrame m #[(.int x0)] maxLocals)) t := by
                        intro t k
                        refine pre10 _ ?_
                        show Steps p.tables e below (s₁.setTop (mkF m 41 #[.val (.int x0), .val (.int (f0_v1 x0)), .val (.int (f0_v1 x0)), .unset] [(.int (59 : Int32)), (.int (f0_v1 x0))])) _
                        refine XS.icmpYes X0.here hx rfl (pc0 := 41) (pc' := 48) rfl (hb hby at_41) rfl hc11 (by decide) (by decide) ?_
                        show Steps p.tables e below (s₁.setTop (mkF m 48 #[.val (.int x0), .val (.int (f0_v1 x0)), .val (.int (f0_v1 x0)), .unset] [])) _
                        refine XS.iconst X0.here hx rfl (hb hby at_48) ?_
                        exact k
                      have qj0 : (f0_j12 x0) = (0 : Int32) := if_pos hc11
                      refine ⟨s₁, _, X0, N0, e0, fun t k => pre14 _ ?_⟩
                      rw [qj0] at k
                      exact k
                    · have pre15 : ∀ t, Steps p.tables e below (s₁.setTop (mkF m 49 #[.val (.int x0), .val (.int (f0_v1 x0)), .val (.int (f0_v1 x0)), .unset] [(.int (1 : Int32))])) t → Steps p.tables e below (s₁.setTop (entryFrame m #[(.int x0)] maxLocals)) t := by
                        intro t k
                        refine pre10 _ ?_
                        show Steps p.tables e below (s₁.setTop (mkF m 41 #[.val (.int x0), .val (.int (f0_v1 x0)), .val (.int (f0_v1 x0)), .unset] [(.int (59 : Int32)), (.int (f0_v1 x0))])) _
                        refine XS.icmpNo X0.here hx rfl (hb hby at_41) rfl hc11 ?_
                        show Steps p.tables e below (s₁.setTop (mkF m 44 #[.val (.int x0), .val (.int (f0_v1 x0)), .val (.int (f0_v1 x0)), .unset] [])) _
                        refine XS.iconst X0.here hx rfl (hb hby at_44) ?_
                        show Steps p.tables e below (s₁.setTop (mkF m 45 #[.val (.int x0), .val (.int (f0_v1 x0)), .val (.int (f0_v1 x0)), .unset] [(.int (1 : Int32))])) _
                        refine XS.goto X0.here hx rfl (pc0 := 45) (pc' := 49) rfl (hb hby at_45) (by decide) (by decide) ?_
                        exact k
                      have qj0 : (f0_j12 x0) = (1 : Int32) := if_neg (own_nt hc11)
                      refine ⟨s₁, _, X0, N0, e0, fun t k => pre15 _ ?_⟩
                      rw [qj0] at k
                      exact k
                  have qj0 : (f0_j16 x0) = (f0_j12 x0) := if_neg (own_nt hc9)
                  refine ⟨T13, _, X13, N13, e13, fun t k => pre13 _ ?_⟩
                  rw [qj0] at k
                  exact k
              have qj0 : (f0_j35 x0) = (f0_j16 x0) := if_pos hc7
              refine ⟨T17, _, X17, N17, e17, fun t k => pre17 _ ?_⟩
              rw [qj0] at k
              exact k
            · have pre19 : ∀ t, Steps p.tables e below (s₁.setTop (mkF m 29 #[.val (.int x0), .val (.int (f0_v1 x0)), .val (.int (f0_v1 x0)), .unset] [(.int (47 : Int32)), (.int (f0_v1 x0))])) t → Steps p.tables e below (s₁.setTop (entryFrame m #[(.int x0)] maxLocals)) t := by
                intro t k
                refine pre6 _ ?_
                show Steps p.tables e below (s₁.setTop (mkF m 23 #[.val (.int x0), .val (.int (f0_v1 x0)), .val (.int (f0_v1 x0)), .unset] [(.int (44 : Int32)), (.int (f0_v1 x0))])) _
                refine XS.icmpNo X0.here hx rfl (hb hby at_23) rfl hc7 ?_
                show Steps p.tables e below (s₁.setTop (mkF m 26 #[.val (.int x0), .val (.int (f0_v1 x0)), .val (.int (f0_v1 x0)), .unset] [])) _
                refine XS.iloadN X0.here hx rfl (hb hby at_26) rfl ?_
                show Steps p.tables e below (s₁.setTop (mkF m 27 #[.val (.int x0), .val (.int (f0_v1 x0)), .val (.int (f0_v1 x0)), .unset] [(.int (f0_v1 x0))])) _
                refine XS.bipush X0.here hx rfl (hb hby at_27) ?_
                exact k
              obtain ⟨T33, L33, X33, N33, e33, pre33⟩ : ∃ (T' : State) (L' : List Loc), Stand p l e room_1 s m #[(.int x0)] below meth c T' L' 0 0 ∧ Fr n0 L' ∧ T'.heap = h0 ∧ ∀ t, Steps p.tables e below (T'.setTop (mkF m 49 #[.val (.int x0), .val (.int (f0_v1 x0)), .val (.int (f0_v1 x0)), .unset] [(.int (f0_j32 x0))])) t → Steps p.tables e below (s₁.setTop (entryFrame m #[(.int x0)] maxLocals)) t := by
                rcases Bool.eq_false_or_eq_true (if_icmp.holds .le (f0_v1 x0) (47 : Int32)) with hc20 | hc20
                · have pre34 : ∀ t, Steps p.tables e below (s₁.setTop (mkF m 49 #[.val (.int x0), .val (.int (f0_v1 x0)), .val (.int (f0_v1 x0)), .unset] [(.int (1 : Int32))])) t → Steps p.tables e below (s₁.setTop (entryFrame m #[(.int x0)] maxLocals)) t := by
                    intro t k
                    refine pre19 _ ?_
                    show Steps p.tables e below (s₁.setTop (mkF m 29 #[.val (.int x0), .val (.int (f0_v1 x0)), .val (.int (f0_v1 x0)), .unset] [(.int (47 : Int32)), (.int (f0_v1 x0))])) _
                    refine XS.icmpYes X0.here hx rfl (pc0 := 29) (pc' := 44) rfl (hb hby at_29) rfl hc20 (by decide) (by decide) ?_
                    show Steps p.tables e below (s₁.setTop (mkF m 44 #[.val (.int x0), .val (.int (f0_v1 x0)), .val (.int (f0_v1 x0)), .unset] [])) _
                    refine XS.iconst X0.here hx rfl (hb hby at_44) ?_
                    show Steps p.tables e below (s₁.setTop (mkF m 45 #[.val (.int x0), .val (.int (f0_v1 x0)), .val (.int (f0_v1 x0)), .unset] [(.int (1 : Int32))])) _
                    refine XS.goto X0.here hx rfl (pc0 := 45) (pc' := 49) rfl (hb hby at_45) (by decide) (by decide) ?_
                    exact k
                  have qj0 : (f0_j32 x0) = (1 : Int32) := if_pos hc20
                  refine ⟨s₁, _, X0, N0, e0, fun t k => pre34 _ ?_⟩
                  rw [qj0] at k
                  exact k
                · have pre21 : ∀ t, Steps p.tables e below (s₁.setTop (mkF m 35 #[.val (.int x0), .val (.int (f0_v1 x0)), .val (.int (f0_v1 x0)), .unset] [(.int (58 : Int32)), (.int (f0_v1 x0))])) t → Steps p.tables e below (s₁.setTop (entryFrame m #[(.int x0)] maxLocals)) t := by
                    intro t k
                    refine pre19 _ ?_
                    show Steps p.tables e below (s₁.setTop (mkF m 29 #[.val (.int x0), .val (.int (f0_v1 x0)), .val (.int (f0_v1 x0)), .unset] [(.int (47 : Int32)), (.int (f0_v1 x0))])) _
                    refine XS.icmpNo X0.here hx rfl (hb hby at_29) rfl hc20 ?_
                    show Steps p.tables e below (s₁.setTop (mkF m 32 #[.val (.int x0), .val (.int (f0_v1 x0)), .val (.int (f0_v1 x0)), .unset] [])) _
                    refine XS.iloadN X0.here hx rfl (hb hby at_32) rfl ?_
                    show Steps p.tables e below (s₁.setTop (mkF m 33 #[.val (.int x0), .val (.int (f0_v1 x0)), .val (.int (f0_v1 x0)), .unset] [(.int (f0_v1 x0))])) _
                    refine XS.bipush X0.here hx rfl (hb hby at_33) ?_
                    exact k
                  obtain ⟨T30, L30, X30, N30, e30, pre30⟩ : ∃ (T' : State) (L' : List Loc), Stand p l e room_1 s m #[(.int x0)] below meth c T' L' 0 0 ∧ Fr n0 L' ∧ T'.heap = h0 ∧ ∀ t, Steps p.tables e below (T'.setTop (mkF m 49 #[.val (.int x0), .val (.int (f0_v1 x0)), .val (.int (f0_v1 x0)), .unset] [(.int (f0_j29 x0))])) t → Steps p.tables e below (s₁.setTop (entryFrame m #[(.int x0)] maxLocals)) t := by
                    rcases Bool.eq_false_or_eq_true (if_icmp.holds .eq (f0_v1 x0) (58 : Int32)) with hc22 | hc22
                    · have pre31 : ∀ t, Steps p.tables e below (s₁.setTop (mkF m 49 #[.val (.int x0), .val (.int (f0_v1 x0)), .val (.int (f0_v1 x0)), .unset] [(.int (1 : Int32))])) t → Steps p.tables e below (s₁.setTop (entryFrame m #[(.int x0)] maxLocals)) t := by
                        intro t k
                        refine pre21 _ ?_
                        show Steps p.tables e below (s₁.setTop (mkF m 35 #[.val (.int x0), .val (.int (f0_v1 x0)), .val (.int (f0_v1 x0)), .unset] [(.int (58 : Int32)), (.int (f0_v1 x0))])) _
                        refine XS.icmpYes X0.here hx rfl (pc0 := 35) (pc' := 44) rfl (hb hby at_35) rfl hc22 (by decide) (by decide) ?_
                        show Steps p.tables e below (s₁.setTop (mkF m 44 #[.val (.int x0), .val (.int (f0_v1 x0)), .val (.int (f0_v1 x0)), .unset] [])) _
                        refine XS.iconst X0.here hx rfl (hb hby at_44) ?_
                        show Steps p.tables e below (s₁.setTop (mkF m 45 #[.val (.int x0), .val (.int (f0_v1 x0)), .val (.int (f0_v1 x0)), .unset] [(.int (1 : Int32))])) _
                        refine XS.goto X0.here hx rfl (pc0 := 45) (pc' := 49) rfl (hb hby at_45) (by decide) (by decide) ?_
                        exact k
                      have qj0 : (f0_j29 x0) = (1 : Int32) := if_pos hc22
                      refine ⟨s₁, _, X0, N0, e0, fun t k => pre31 _ ?_⟩
                      rw [qj0] at k
                      exact k
                    · have pre23 : ∀ t, Steps p.tables e below (s₁.setTop (mkF m 41 #[.val (.int x0), .val (.int (f0_v1 x0)), .val (.int (f0_v1 x0)), .unset] [(.int (59 : Int32)), (.int (f0_v1 x0))])) t → Steps p.tables e below (s₁.setTop (entryFrame m #[(.int x0)] maxLocals)) t := by
                        intro t k
                        refine pre21 _ ?_
                        show Steps p.tables e below (s₁.setTop (mkF m 35 #[.val (.int x0), .val (.int (f0_v1 x0)), .val (.int (f0_v1 x0)), .unset] [(.int (58 : Int32)), (.int (f0_v1 x0))])) _
                        refine XS.icmpNo X0.here hx rfl (hb hby at_35) rfl hc22 ?_
                        show Steps p.tables e below (s₁.setTop (mkF m 38 #[.val (.int x0), .val (.int (f0_v1 x0)), .val (.int (f0_v1 x0)), .unset] [])) _
                        refine XS.iloadN X0.here hx rfl (hb hby at_38) rfl ?_
                        show Steps p.tables e below (s₁.setTop (mkF m 39 #[.val (.int x0), .val (.int (f0_v1 x0)), .val (.int (f0_v1 x0)), .unset] [(.int (f0_v1 x0))])) _
                        refine XS.bipush X0.here hx rfl (hb hby at_39) ?_
                        exact k
                      obtain ⟨T26, L26, X26, N26, e26, pre26⟩ : ∃ (T' : State) (L' : List Loc), Stand p l e room_1 s m #[(.int x0)] below meth c T' L' 0 0 ∧ Fr n0 L' ∧ T'.heap = h0 ∧ ∀ t, Steps p.tables e below (T'.setTop (mkF m 49 #[.val (.int x0), .val (.int (f0_v1 x0)), .val (.int (f0_v1 x0)), .unset] [(.int (f0_j25 x0))])) t → Steps p.tables e below (s₁.setTop (entryFrame m #[(.int x0)] maxLocals)) t := by
                        rcases Bool.eq_false_or_eq_true (if_icmp.holds .ne (f0_v1 x0) (59 : Int32)) with hc24 | hc24
                        · have pre27 : ∀ t, Steps p.tables e below (s₁.setTop (mkF m 49 #[.val (.int x0), .val (.int (f0_v1 x0)), .val (.int (f0_v1 x0)), .unset] [(.int (0 : Int32))])) t → Steps p.tables e below (s₁.setTop (entryFrame m #[(.int x0)] maxLocals)) t := by
                            intro t k
                            refine pre23 _ ?_
                            show Steps p.tables e below (s₁.setTop (mkF m 41 #[.val (.int x0), .val (.int (f0_v1 x0)), .val (.int (f0_v1 x0)), .unset] [(.int (59 : Int32)), (.int (f0_v1 x0))])) _
                            refine XS.icmpYes X0.here hx rfl (pc0 := 41) (pc' := 48) rfl (hb hby at_41) rfl hc24 (by decide) (by decide) ?_
                            show Steps p.tables e below (s₁.setTop (mkF m 48 #[.val (.int x0), .val (.int (f0_v1 x0)), .val (.int (f0_v1 x0)), .unset] [])) _
                            refine XS.iconst X0.here hx rfl (hb hby at_48) ?_
                            exact k
                          have qj0 : (f0_j25 x0) = (0 : Int32) := if_pos hc24
                          refine ⟨s₁, _, X0, N0, e0, fun t k => pre27 _ ?_⟩
                          rw [qj0] at k
                          exact k
                        · have pre28 : ∀ t, Steps p.tables e below (s₁.setTop (mkF m 49 #[.val (.int x0), .val (.int (f0_v1 x0)), .val (.int (f0_v1 x0)), .unset] [(.int (1 : Int32))])) t → Steps p.tables e below (s₁.setTop (entryFrame m #[(.int x0)] maxLocals)) t := by
                            intro t k
                            refine pre23 _ ?_
                            show Steps p.tables e below (s₁.setTop (mkF m 41 #[.val (.int x0), .val (.int (f0_v1 x0)), .val (.int (f0_v1 x0)), .unset] [(.int (59 : Int32)), (.int (f0_v1 x0))])) _
                            refine XS.icmpNo X0.here hx rfl (hb hby at_41) rfl hc24 ?_
                            show Steps p.tables e below (s₁.setTop (mkF m 44 #[.val (.int x0), .val (.int (f0_v1 x0)), .val (.int (f0_v1 x0)), .unset] [])) _
                            refine XS.iconst X0.here hx rfl (hb hby at_44) ?_
                            show Steps p.tables e below (s₁.setTop (mkF m 45 #[.val (.int x0), .val (.int (f0_v1 x0)), .val (.int (f0_v1 x0)), .unset] [(.int (1 : Int32))])) _
                            refine XS.goto X0.here hx rfl (pc0 := 45) (pc' := 49) rfl (hb hby at_45) (by decide) (by decide) ?_
                            exact k
                          have qj0 : (f0_j25 x0) = (1 : Int32) := if_neg (own_nt hc24)
                          refine ⟨s₁, _, X0, N0, e0, fun t k => pre28 _ ?_⟩
                          rw [qj0] at k
                          exact k
                      have qj0 : (f0_j29 x0) = (f0_j25 x0) := if_neg (own_nt hc22)
                      refine ⟨T26, _, X26, N26, e26, fun t k => pre26 _ ?_⟩
                      rw [qj0] at k
                      exact k
                  have qj0 : (f0_j32 x0) = (f0_j29 x0) := if_neg (own_nt hc20)
                  refine ⟨T30, _, X30, N30, e30, fun t k => pre30 _ ?_⟩
                  rw [qj0] at k
                  exact k
              have qj0 : (f0_j35 x0) = (f0_j32 x0) := if_neg (own_nt hc7)
              refine ⟨T33, _, X33, N33, e33, fun t k => pre33 _ ?_⟩
              rw [qj0] at k
              exact k
          have qj0 : (f0_j37 x0) = (f0_j35 x0) := if_neg (own_nt hc5)
          refine ⟨T36, _, X36, N36, e36, fun t k => pre36 _ ?_⟩
          rw [qj0] at k
          exact k
      have qj0 : (f0_j40 x0) = (f0_j37 x0) := if_neg (own_nt hc3)
      refine ⟨T38, _, X38, N38, e38, fun t k => pre38 _ ?_⟩
      rw [qj0] at k
      exact k
  obtain ⟨_, _, ⟨T43, L43, k43, n43⟩, -, X43, ⟨Lc43, hQ43, l43, y43, z43⟩, st43⟩ := Jvm.LawKit.callS X41 hx (y := (⟨"com/example/chronoglyph/chronoglyph/SeparatorElement", "isSeparator", "(C)Z"⟩ : MethodName)) hown (mvT hZ (hw _ (List.mem_of_getElem? (i := 1) rfl))) (mvT hZ (hw _ (List.mem_of_getElem? (i := 2) rfl))) (mvT hZ (hw _ (List.mem_of_getElem? (i := 3) rfl))) (mvT hZ (hw _ (List.mem_of_getElem? (i := 4) rfl))) (by decide) (backOf (W := 0) (rm1 l Z a0 hw [] (f0_v1 x0) h0 n0 Z0) hZ (hw _ (List.mem_of_getElem? (i := 4) rfl)) (hw _ (List.mem_of_getElem? (i := 3) rfl)) (by decide) (by decide)) (g := (mkF m 51 #[.val (.int x0), .val (.int (f0_v1 x0)), .val (.int (f0_v1 x0)), .val (.int (f0_j40 x0))] [(.int (f0_v1 x0))])) rfl (by rw [hml]; rfl) (argsL := [(.int (f0_v1 x0))]) (rest := []) (lenOf pd_0 rfl) rfl (by show 2 * 0 + _ ≤ _; exact Nat.le_of_eq rfl) (hb hby at_51) (fun _ _ => ⟨rfl, e41, (by decide : 0 + 0 ≤ _), (by decide : 0 + 0 ≤ _)⟩)
  dsimp only [Pt.U, Pt.locs, Pt.cells, Pt.slots] at X43 l43 y43 z43 st43 hQ43
  subst l43 y43 z43
  obtain ⟨rfl, Nq43, e43⟩ := hQ43
  have N43 := Fr.app N41 Nq43
  have pre44 : ∀ t, Steps p.tables e below (T43.setTop (mkF m 55 #[.val (.int x0), .val (.int (f0_v1 x0)), .val (.int (f0_v1 x0)), .val (.int (f0_j40 x0))] [(.int (f0_j40 x0)), (.int (f1 (f0_v1 x0)))])) t → Steps p.tables e below (s₁.setTop (entryFrame m #[(.int x0)] maxLocals)) t := by
    intro t k
    refine pre41 _ ?_
    show Steps p.tables e below (T41.setTop (mkF m 49 #[.val (.int x0), .val (.int (f0_v1 x0)), .val (.int (f0_v1 x0)), .unset] [(.int (f0_j40 x0))])) _
    refine XS.istoreN X41.here hx rfl (hb hby at_49) rfl (l' := #[.val (.int x0), .val (.int (f0_v1 x0)), .val (.int (f0_v1 x0)), .val (.int (f0_j40 x0))]) rfl ?_
    show Steps p.tables e below (T41.setTop (mkF m 50 #[.val (.int x0), .val (.int (f0_v1 x0)), .val (.int (f0_v1 x0)), .val (.int (f0_j40 x0))] [])) _
    refine XS.iloadN X41.here hx rfl (hb hby at_50) rfl ?_
    show Steps p.tables e below (T41.setTop (mkF m 51 #[.val (.int x0), .val (.int (f0_v1 x0)), .val (.int (f0_v1 x0)), .val (.int (f0_j40 x0))] [(.int (f0_v1 x0))])) _
    refine st43 _ ?_
    show Steps p.tables e below (T43.setTop (mkF m 54 #[.val (.int x0), .val (.int (f0_v1 x0)), .val (.int (f0_v1 x0)), .val (.int (f0_j40 x0))] [(.int (f1 (f0_v1 x0)))])) _
    refine XS.iloadN X43.here hx rfl (hb hby at_54) rfl ?_
    exact k
  obtain ⟨T47, L47, X47, N47, e47, pre47⟩ : ∃ (T' : State) (L' : List Loc), Stand p l e room_1 s m #[(.int x0)] below meth c T' L' 0 0 ∧ Fr n0 L' ∧ T'.heap = h0 ∧ ∀ t, Steps p.tables e below (T'.setTop (mkF m 63 #[.val (.int x0), .val (.int (f0_v1 x0)), .val (.int (f0_v1 x0)), .val (.int (f0_j40 x0))] [(.int (f0_j46 x0))])) t → Steps p.tables e below (s₁.setTop (entryFrame m #[(.int x0)] maxLocals)) t := by
    rcases Bool.eq_false_or_eq_true (if_icmp.holds .ne (f1 (f0_v1 x0)) (f0_j40 x0)) with hc45 | hc45
    · have pre48 : ∀ t, Steps p.tables e below (T43.setTop (mkF m 63 #[.val (.int x0), .val (.int (f0_v1 x0)), .val (.int (f0_v1 x0)), .val (.int (f0_j40 x0))] [(.int (0 : Int32))])) t → Steps p.tables e below (s₁.setTop (entryFrame m #[(.int x0)] maxLocals)) t := by
        intro t k
        refine pre44 _ ?_
        show Steps p.tables e below (T43.setTop (mkF m 55 #[.val (.int x0), .val (.int (f0_v1 x0)), .val (.int (f0_v1 x0)), .val (.int (f0_j40 x0))] [(.int (f0_j40 x0)), (.int (f1 (f0_v1 x0)))])) _
        refine XS.icmpYes X43.here hx rfl (pc0 := 55) (pc' := 62) rfl (hb hby at_55) rfl hc45 (by decide) (by decide) ?_
        show Steps p.tables e below (T43.setTop (mkF m 62 #[.val (.int x0), .val (.int (f0_v1 x0)), .val (.int (f0_v1 x0)), .val (.int (f0_j40 x0))] [])) _
        refine XS.iconst X43.here hx rfl (hb hby at_62) ?_
        exact k
      have qj0 : (f0_j46 x0) = (0 : Int32) := if_pos hc45
      refine ⟨T43, _, X43, N43, e43, fun t k => pre48 _ ?_⟩
      rw [qj0] at k
      exact k
    · have pre49 : ∀ t, Steps p.tables e below (T43.setTop (mkF m 63 #[.val (.int x0), .val (.int (f0_v1 x0)), .val (.int (f0_v1 x0)), .val (.int (f0_j40 x0))] [(.int (1 : Int32))])) t → Steps p.tables e below (s₁.setTop (entryFrame m #[(.int x0)] maxLocals)) t := by
        intro t k
        refine pre44 _ ?_
        show Steps p.tables e below (T43.setTop (mkF m 55 #[.val (.int x0), .val (.int (f0_v1 x0)), .val (.int (f0_v1 x0)), .val (.int (f0_j40 x0))] [(.int (f0_j40 x0)), (.int (f1 (f0_v1 x0)))])) _
        refine XS.icmpNo X43.here hx rfl (hb hby at_55) rfl hc45 ?_
        show Steps p.tables e below (T43.setTop (mkF m 58 #[.val (.int x0), .val (.int (f0_v1 x0)), .val (.int (f0_v1 x0)), .val (.int (f0_j40 x0))] [])) _
        refine XS.iconst X43.here hx rfl (hb hby at_58) ?_
        show Steps p.tables e below (T43.setTop (mkF m 59 #[.val (.int x0), .val (.int (f0_v1 x0)), .val (.int (f0_v1 x0)), .val (.int (f0_j40 x0))] [(.int (1 : Int32))])) _
        refine XS.goto X43.here hx rfl (pc0 := 59) (pc' := 63) rfl (hb hby at_59) (by decide) (by decide) ?_
        exact k
      have qj0 : (f0_j46 x0) = (1 : Int32) := if_neg (own_nt hc45)
      refine ⟨T43, _, X43, N43, e43, fun t k => pre49 _ ?_⟩
      rw [qj0] at k
      exact k
  obtain ⟨fs, hr, hrun, hended, hW, hsame⟩ := X47.leave (v := some (.int (nar .boolean (f0_j46 x0)))) (fun h => by rw [hret] at h; cases h)
  refine ⟨_, _, pre47 _ ?_, hrun, hended, _, _, rfl, ?_, ⟨_, rfl⟩, hW, hsame.mono (by decide) (by decide)⟩
  · show Steps p.tables e below (T47.setTop (mkF m 63 #[.val (.int x0), .val (.int (f0_v1 x0)), .val (.int (f0_v1 x0)), .val (.int (f0_j40 x0))] [(.int (f0_j46 x0))])) _
    exact retN X47 hx (t := .boolean) hret (by simp) (hb hby at_63) hr
  · show Q0 Z x0 h0 n0 _ T47.heap _
    rw [e47]
    have rr : f0 x0 = (nar .boolean (f0_j46 x0)) := rfl
    exact ⟨congrArg (fun z => some (Value.int z)) rr.symm, N47⟩
theorem own_fin28 : ∀ n : Fin 28, ((#[127, 131, 131, 131, 131, 131, 131, 127, 131, 131, 131, 131, 127, 127, 127, 127, 131, 131, 131, 131, 131, 131, 131, 131, 131, 131, 127, 127] : Array Int)[n.val]? = some 127) ↔ (n.val = 0 ∨ n.val = 7 ∨ (12 ≤ n.val ∧ n.val ≤ 15) ∨ n.val = 26 ∨ n.val = 27) := by decide +kernel
/-- which chars are separators -/
def own_sep (c : Int) : Prop := c = 32 ∨ c = 39 ∨ (44 ≤ c ∧ c ≤ 47) ∨ c = 58 ∨ c = 59
theorem own_f1 (x : Int32) : (own_sep x.toInt ∧ f1 x = 1) ∨ (¬ own_sep x.toInt ∧ f1 x = 0) := by
  unfold f1 own_sep
  by_cases h : x.toInt < 32 ∨ x.toInt > 59
  · rw [if_pos h]
    exact Or.inr ⟨by omega, rfl⟩
  · rw [if_neg h]
    obtain ⟨n, hn, hl⟩ : ∃ n : Nat, (x.toInt - 32).toNat = n ∧ n < 28 := ⟨_, rfl, by omega⟩
    have q := own_fin28 ⟨n, hl⟩
    rw [hn]
    by_cases h2 : n = 0 ∨ n = 7 ∨ (12 ≤ n ∧ n ≤ 15) ∨ n = 26 ∨ n = 27
    · rw [if_pos (q.mpr h2)]
      exact Or.inl ⟨by omega, rfl⟩
    · rw [if_neg (fun z => h2 (q.mp z))]
      exact Or.inr ⟨by omega, rfl⟩
theorem own_j40 (x0 : Int32) : (own_sep (f0_v1 x0).toInt ∧ f0_j40 x0 = 1) ∨ (¬ own_sep (f0_v1 x0).toInt ∧ f0_j40 x0 = 0) := by
  have e32 : (32 : Int32).toInt = 32 := rfl
  have e39 : (39 : Int32).toInt = 39 := rfl
  have e44 : (44 : Int32).toInt = 44 := rfl
  have e47 : (47 : Int32).toInt = 47 := rfl
  have e58 : (58 : Int32).toInt = 58 := rfl
  have e59 : (59 : Int32).toInt = 59 := rfl
  unfold f0_j40 f0_j37 f0_j35 f0_j32 f0_j29 f0_j25 f0_j16 f0_j12 own_sep
  generalize f0_v1 x0 = v
  simp only [own_ieq, own_ilt, own_ile, own_ine, e32, e39, e44, e47, e58, e59]
  split
  · exact Or.inl ⟨by omega, rfl⟩
  · split
    · exact Or.inl ⟨by omega, rfl⟩
    · split
      · split
        · exact Or.inl ⟨by omega, rfl⟩
        · split
          · exact Or.inr ⟨by omega, rfl⟩
          · exact Or.inl ⟨by omega, rfl⟩
      · split
        · exact Or.inl ⟨by omega, rfl⟩
        · split
          · exact Or.inl ⟨by omega, rfl⟩
          · split
            · exact Or.inr ⟨by omega, rfl⟩
            · exact Or.inl ⟨by omega, rfl⟩
theorem own_law (x0 : Int32) : f0 x0 = 1 := by
  unfold f0 f0_j46
  refine own_last ?_
  rw [own_ine]
  intro q
  apply q
  rcases own_f1 (f0_v1 x0) with ⟨h1, h2⟩ | ⟨h1, h2⟩ <;> rcases own_j40 x0 with ⟨h3, h4⟩ | ⟨h3, h4⟩
  · rw [h2, h4]
  · exact absurd h1 h3
  · exact absurd h3 h1
  · rw [h2, h4]
set_option maxRecDepth 65536 in
set_option maxHeartbeats 40000000 in
theorem comes_1 {Post : Tables → Env → Array Value → State → Outcome → State → Prop} (hpost : ∀ tb e args s v u, (limb_1_1.after args s (.returned v) u = true ∧ limb_1_2.after args s (.returned v) u = true ∧ True) → FrameEnd s (.returned v) u (Jvm.fieldLocs frame_1_writes args s ++ Jvm.arrayLocs frame_1_arrays args s ++ Jvm.staticLocs frame_1_statics s) 0 0 → Post tb e args s (.returned v) u) :
    ArmFor flags0 classFile x code maxLocals ret World_1 tables_1 room_1 Calls_1 rest_1 Pre_1 Post := by
  intro l hfl _ _ p e ha hc hk s m args below hf hA hF happ hP
  obtain ⟨hcalls, hrest, hpre⟩ := hP
  obtain ⟨-, -, -, hnamed, -, -, -, hat⟩ := (Spec.applies_iff hf).mp happ
  obtain ⟨hg, hn⟩ := and_e (Cond.before_iff.mp (show (Jvm.Cond.and given_1 narrow_1).before args s = true from hpre))
  obtain ⟨g1, g2⟩ := and_e hg
  obtain ⟨w0, rfl⟩ : ∃ w0 : Value, args = #[w0] := by
    have hs : args.size = 1 := by simpa [Cond.value, given_1] using g1
    obtain ⟨L⟩ := args
    match L, hs with
    | [w0], _ => exact ⟨w0, rfl⟩
  have hw := fun d (hd : d ∈ tables_1) => atoms_spec (ws := Jvm.Cond.code x code maxLocals ret :: tables_1) hat d (List.mem_cons_of_mem _ hd)
  obtain ⟨i0, ei0⟩ := is_v g2
  obtain rfl : w0 = (.int i0) := Option.some.inj ei0
  obtain ⟨n, o, h1, h2, h3, v, L, rfl, ⟨hv, N⟩, hq⟩ := rm0 l s _ hw tables_1 i0 s.heap s.heap.size (Nat.le_refl _) p e ha hc hk s m _ below hf ((Spec.applies_iff_loose hf).mp happ).1 ⟨rfl, State.Warmed39.refl s, rfl⟩ trivial
  rw [own_law] at hv
  subst hv
  refine ⟨n, _, h1, h2, h3, hpost _ _ _ _ _ _ ⟨Cond.after_iff.mpr rfl, Cond.after_iff.mpr (eq_i res_at (Term.int_eval (1)) rfl), trivial⟩ ⟨hq.1, hq.2.1, (hq.2.2.sift fun y hy => Or.inr (N y hy)).mono (by decide) (by decide)⟩⟩
theorem main_1_1 : Claimed_1_1 := comes_1 fun _ _ _ _ _ _ h hF => ⟨h.1, hF⟩
theorem main_1_2 : Claimed_1_2 := comes_1 fun _ _ _ _ _ _ h hF => ⟨h.2.1, hF⟩
end Jvm.Pilot.@@N@@
namespace Jvm.Pilot.@@N@@
open Jvm Jvm.ClassFile Sem Op Lib Jvm.Free Jvm.Stand Jvm.Pilot.@@N@@.Jvm.D
/-! MADE BY PROGRAM (witnessworld.py) out of the Statement's table words and the real class files: 10 classes; the members and pool entries that the words name. The judged class is class 1, her method 1. -/
namespace start1
open Jvm.ClassFile
def u (s : String) : CpInfo := .utf8 (stringToUtf16 s)
/-- a pool by its gaps: so many unusable entries, then the entry; so many at the end -/
def gap : Nat → List CpInfo → List CpInfo
  | 0, r => r
  | n + 1, r => .unusable :: gap n r
def poolList (es : List (Nat × CpInfo)) (last : Nat) : List CpInfo := es.foldr (fun e r => gap e.1 (e.2 :: r)) (gap last [])
def pool (es : List (Nat × CpInfo)) (last : Nat) : Array CpInfo := ⟨poolList es last⟩
def fileOf (pool : Array CpInfo) (this : Nat) (attrs : Array Attribute := #[]) (ms : Array MethodInfo := #[]) (fl : Nat := 33) (sup : Nat := 0) (ifs : Array Nat := #[]) (fds : Array FieldInfo := #[]) : ClassFile where
  minorVersion := 0
  majorVersion := 65
  constantPool := pool
  accessFlags := fl
  thisClass := this
  superClass := sup
  interfaces := ifs
  fields := fds
  methods := ms
  attributes := attrs
def plain (name : String) (sup : Option ClassId) : Class where
  name := name
  kind := .ordinary
  loader := none
  accessFlags := 33
  super := sup
  interfaces := #[]
  cf := none
  fields := #[]
  methods := #[]
  instanceTypes := #[]
  staticTypes := #[]
  resolved := #[]
  callSites := []
  init := .initialized
  statics := none
  mirror := none

def pool0 : Array CpInfo := pool [(5, u "<init>"), (0, u "()V"), (1, .class_ 10), (1, u "java/lang/Object")] 113

def k0m0 : Method := { name := "<init>", desc := "()V", sig := { parameters := [], returnType := none }, accessFlags := 1, code := none }
/-- java/lang/Object -/
def k0 : Class := { plain "java/lang/Object" none with
  accessFlags := 33
  interfaces := #[]
  cf := some (fileOf pool0 8 #[] #[{ accessFlags := 1, nameIndex := 5, descriptorIndex := 6, attributes := #[] }] 33 0 #[] #[])
  fields := #[]
  methods := #[k0m0]
  instanceTypes := #[]
  staticTypes := #[]
  resolved := Array.replicate 124 none
  statics := none }

def pool1 : Array CpInfo := pool [(2, .class_ 4), (1, u "java/lang/Object"), (0, u "<init>"), (0, u "()V"), (0, .integer 65535), (0, .methodref 9 10), (0, .class_ 11), (0, .nameAndType 12 13), (0, u "com/example/chronoglyph/chronoglyph/SeparatorElement"), (0, u "isSeparator"), (0, u "(C)Z"), (0, .class_ 15), (0, u "com/example/chronoglyph/chronoglyph/SeparatorElementIsSeparatorPinLaw"), (2, u "law"), (0, u "(I)Z")] 3

def k1m0 : Method := { name := "<init>", desc := "()V", sig := { parameters := [], returnType := none }, accessFlags := 2, code := none }
def k1c1 : Code := { maxStack := 2, maxLocals := 4, code := code, exceptionTable := #[], attributes := #[] }
def k1m1 : Method := { name := "law", desc := "(I)Z", sig := { parameters := [.int], returnType := some .boolean }, accessFlags := 9, code := some k1c1 }
/-- com/example/chronoglyph/chronoglyph/SeparatorElementIsSeparatorPinLaw -/
def k1 : Class := { plain "com/example/chronoglyph/chronoglyph/SeparatorElementIsSeparatorPinLaw" (some 0) with
  accessFlags := 49
  interfaces := #[]
  cf := some (fileOf pool1 14 #[] #[{ accessFlags := 2, nameIndex := 5, descriptorIndex := 6, attributes := #[] }, { accessFlags := 9, nameIndex := 18, descriptorIndex := 19, attributes := #[] }] 49 2 #[] #[])
  fields := #[]
  methods := #[k1m0, k1m1]
  instanceTypes := #[]
  staticTypes := #[]
  resolved := Array.replicate 23 none
  statics := none }

def pool2 : Array CpInfo := pool [(2, .class_ 4), (1, u "java/lang/Object"), (0, u "<init>"), (0, u "()V"), (1, .class_ 10), (1, u "com/example/chronoglyph/chronoglyph/Element")] 72

def k2m0 : Method := { name := "<init>", desc := "()V", sig := { parameters := [], returnType := none }, accessFlags := 0, code := none }
/-- com/example/chronoglyph/chronoglyph/Element -/
def k2 : Class := { plain "com/example/chronoglyph/chronoglyph/Element" (some 0) with
  accessFlags := 1056
  interfaces := #[]
  cf := some (fileOf pool2 8 #[] #[{ accessFlags := 0, nameIndex := 5, descriptorIndex := 6, attributes := #[] }] 1056 2 #[] #[])
  fields := #[]
  methods := #[k2m0]
  instanceTypes := #[]
  staticTypes := #[]
  resolved := Array.replicate 83 none
  statics := none }

def pool3 : Array CpInfo := pool [(2, .class_ 4), (1, u "com/example/chronoglyph/chronoglyph/Element"), (3, .class_ 10), (1, u "com/example/chronoglyph/chronoglyph/SeparatorElement"), (0, u "text"), (0, u "Ljava/lang/String;"), (2, u "leavesMinusSign"), (0, u "Z"), (20, u "isSeparator"), (0, u "(C)Z")] 20

def k3c0 : Code := { maxStack := 1, maxLocals := 1, code := prog_20_method_2_code, exceptionTable := #[], attributes := #[] }
def k3m0 : Method := { name := "isSeparator", desc := "(C)Z", sig := { parameters := [.char], returnType := some .boolean }, accessFlags := 8, code := some k3c0 }
/-- com/example/chronoglyph/chronoglyph/SeparatorElement -/
def k3 : Class := { plain "com/example/chronoglyph/chronoglyph/SeparatorElement" (some 2) with
  accessFlags := 48
  interfaces := #[]
  cf := some (fileOf pool3 8 #[] #[{ accessFlags := 8, nameIndex := 37, descriptorIndex := 38, attributes := #[] }] 48 2 #[] #[{ accessFlags := 18, nameIndex := 11, descriptorIndex := 12, attributes := #[] }, { accessFlags := 18, nameIndex := 15, descriptorIndex := 16, attributes := #[] }])
  fields := #[{ name := "text", type := (.object "java/lang/String"), accessFlags := 18, slot := 0, constantValue := 0 }, { name := "leavesMinusSign", type := .boolean, accessFlags := 18, slot := 1, constantValue := 0 }]
  methods := #[k3m0]
  instanceTypes := #[(.object "java/lang/String"), .boolean]
  staticTypes := #[]
  resolved := Array.replicate 59 none
  statics := none }

def pool4 : Array CpInfo := pool [(1, u "java/lang/Cloneable"), (0, .class_ 1), (0, u "java/lang/Object"), (0, .class_ 3)] 3

/-- java/lang/Cloneable -/
def k4 : Class := { plain "java/lang/Cloneable" (some 0) with
  accessFlags := 1537
  interfaces := #[]
  cf := some (fileOf pool4 2 #[] #[] 1537 4 #[] #[])
  fields := #[]
  methods := #[]
  instanceTypes := #[]
  staticTypes := #[]
  resolved := Array.replicate 8 none
  statics := none }

def pool5 : Array CpInfo := pool [(1, u "java/io/Serializable"), (0, .class_ 1), (0, u "java/lang/Object"), (0, .class_ 3)] 3

/-- java/io/Serializable -/
def k5 : Class := { plain "java/io/Serializable" (some 0) with
  accessFlags := 1537
  interfaces := #[]
  cf := some (fileOf pool5 2 #[] #[] 1537 4 #[] #[])
  fields := #[]
  methods := #[]
  instanceTypes := #[]
  staticTypes := #[]
  resolved := Array.replicate 8 none
  statics := none }

/-- the primitive byte -/
def k6 : Class := { plain "byte" none with kind := .primitive 'B', accessFlags := 0x411 }
/-- [B -/
def k7 : Class := { plain "[B" (some 0) with kind := .array 6 .byte, interfaces := #[4, 5], accessFlags := 1041 }

/-- the primitive int -/
def k8 : Class := { plain "int" none with kind := .primitive 'I', accessFlags := 0x411 }
/-- [I -/
def k9 : Class := { plain "[I" (some 0) with kind := .array 8 .int, interfaces := #[4, 5], accessFlags := 1041 }

def heap : Heap := #[]
def classes : Array Class := #[k0, k1, k2, k3, k4, k5, k6, k7, k8, k9]
def interned : List (Array UInt16 × Addr) := []
def slotsUsed : Nat := 0
def theMethod : MethodId := ⟨1, 1⟩
def args0 : Array Value := #[.int 44]
def aboutOver (below : List Frame) : State where
  vm := { classes := classes, interned := interned.toArray }
  heap := heap
  slotsUsed := slotsUsed
  threads := #[{ frames := .invoking theMethod args0 :: below }]
def below0 : List Frame := [.native { method := ⟨0, 0⟩, args := #[] }]
def about1 : State := aboutOver below0
def p0 : Program := .bare "" "" ""
def e0 : Env := launch0.env 0 0 0
theorem w_frames : about1.frames = Frame.invoking theMethod args0 :: below0 := rfl
set_option maxRecDepth 65536 in
theorem w_args : argsFit about1.vm theMethod args0 = true := by decide +kernel
set_option maxRecDepth 65536 in
theorem w_heap : heapFits about1 = true := by decide +kernel
set_option maxRecDepth 65536 in
theorem w_runnable : about1.curStatus? = some .runnable := by decide +kernel
set_option maxRecDepth 65536 in
theorem w_alone : about1.alone = true := by decide +kernel
set_option maxRecDepth 65536 in
theorem w_named : about1.methodNamed? x = some theMethod := by decide +kernel
set_option maxRecDepth 65536 in
theorem w_hears : about1.hears theMethod below0 = true := by decide +kernel
set_option maxRecDepth 65536 in
theorem w_ripe : about1.ripe theMethod args0 below0 = true := by decide +kernel
theorem w_running : about1.status = .running := rfl
set_option maxRecDepth 65536 in
theorem w_room : about1.hasRoom e0.platform room_1 = true :=
  launch0.hasRoom_least _ room_1 (by decide +kernel) (by decide +kernel) (by decide +kernel) (by decide +kernel) (by decide +kernel) (by decide +kernel)
theorem allAtoms_all (ts : List Jvm.Cond) (a : Array Jvm.Value) (st : Jvm.State) : (allAtoms ts).before a st = ts.all (fun c => c.before a st) := by
  induction ts with
  | nil => rfl
  | cons c t ih =>
    show (Jvm.Cond.and c (allAtoms t)).before a st = _
    rw [Jvm.Cond.before_and, ih, List.all_cons]
def words1 : List Jvm.Cond := Jvm.Cond.code x code maxLocals ret :: tables_1
/-- a 'code' word, met by the world's own term for the bytes: nothing is compared byte by byte -/
theorem code_word {y : MethodName} {bytes : ByteArray} {mx : Nat} {rt : Option FieldType} {a : Array Value} {s : State} {m : MethodId} {meth : Method} {c : Code} (h1 : s.methodNamed? y = some m) (h2 : s.vm.method? m = some meth) (h3 : meth.code = some c) (h4 : c.code = bytes)
    (h5 : (c.maxLocals == mx && c.exceptionTable.isEmpty && decide (c.maxStack ≤ mostOperands) && decide (meth.sig.returnType = rt) && !meth.locks && decide (parseMethodDescriptor y.desc = some meth.sig)) = true) : (Jvm.Cond.code y bytes mx rt).before a s = true := by
  simp only [Bool.and_eq_true, beq_iff_eq, Bool.not_eq_true', decide_eq_true_eq] at h5
  obtain ⟨⟨⟨⟨⟨g1, g2⟩, g3⟩, g4⟩, g5⟩, g6⟩ := h5
  simp [Cond.before, Cond.holds, Cond.value, h1, h2, h3, h4, g1, g2, g3, g4, g5, g6]
def isCode : Jvm.Cond → Bool
  | .code _ _ _ _ => true
  | _ => false
theorem all_split {L : List Jvm.Cond} {P : Jvm.Cond → Bool} (h1 : L.all (fun c => isCode c || P c) = true) (h2 : ∀ c ∈ L.filter isCode, P c = true) : L.all P = true := by
  refine List.all_eq_true.mpr fun c hc => ?_
  have h := List.all_eq_true.mp h1 c hc
  rcases Bool.eq_false_or_eq_true (isCode c) with hi | hi
  · exact h2 c (List.mem_filter.mpr ⟨hc, hi⟩)
  · simpa [hi] using h
set_option maxRecDepth 65536 in
theorem w_c0 : (Jvm.Cond.code x code maxLocals ret).before args0 about1 = true := code_word (m := ⟨1, 1⟩) (meth := k1m1) (c := k1c1) (by decide +kernel) rfl rfl rfl (by decide +kernel)
set_option maxRecDepth 65536 in
theorem w_c1 : (Jvm.Cond.code ({ cls := "com/example/chronoglyph/chronoglyph/SeparatorElement", name := "isSeparator", desc := "(C)Z" } : Jvm.MethodName) prog_20_method_2_code (1 : Nat) (Option.some Jvm.ClassFile.FieldType.boolean)).before args0 about1 = true := code_word (m := ⟨3, 0⟩) (meth := k3m0) (c := k3c0) (by decide +kernel) rfl rfl rfl (by decide +kernel)
def codes1 : List Jvm.Cond := [Jvm.Cond.code x code maxLocals ret, Jvm.Cond.code ({ cls := "com/example/chronoglyph/chronoglyph/SeparatorElement", name := "isSeparator", desc := "(C)Z" } : Jvm.MethodName) prog_20_method_2_code (1 : Nat) (Option.some Jvm.ClassFile.FieldType.boolean)]
set_option maxRecDepth 65536 in
theorem codes_eq : words1.filter isCode = codes1 := rfl
theorem w_codes : ∀ c ∈ words1.filter isCode, c.before args0 about1 = true := by
  rw [codes_eq]
  intro c hc
  simp only [codes1, List.mem_cons, List.not_mem_nil, or_false] at hc
  rcases hc with rfl | rfl
  · exact w_c0
  · exact w_c1
set_option maxRecDepth 65536 in
theorem w_t1 : words1.all (fun c => isCode c || c.before args0 about1) = true := by decide +kernel
theorem w_tables : (allAtoms (Jvm.Cond.code x code maxLocals ret :: tables_1)).before args0 about1 = true := by
  rw [allAtoms_all]
  show words1.all (fun c => c.before args0 about1) = true
  refine all_split ?_ w_codes
  rw [w_t1]
set_option maxRecDepth 65536 in
theorem w_case : (Jvm.Cond.and given_1 narrow_1).before args0 about1 = true := by decide +kernel
theorem w_applies : (headSpec (Jvm.Cond.code x code maxLocals ret :: tables_1) room_1).applies x e0.platform about1 = true :=
  (Spec.applies_iff w_frames).mpr ⟨w_running, w_runnable, w_alone, w_named, w_hears, w_ripe, w_room, w_tables⟩
theorem atStart : AtStart classFile x code maxLocals ret World_1 tables_1 room_1 Calls_1 rest_1 Pre_1 launch0 p0 e0 about1 theMethod args0 below0 :=
  ⟨lists_1, trivial, launch0.admits_env _ _ _, launch0.least_env, fairChoices_fair.cas, fairChoices_fair.clock, w_frames, w_args, w_heap, w_applies, trivial, trivial, w_case⟩
end start1
theorem witness_1 : WitnessClaimed_1 := ⟨start1.p0, start1.e0, start1.about1, start1.theMethod, start1.args0, start1.below0, start1.atStart⟩
end Jvm.Pilot.@@N@@
