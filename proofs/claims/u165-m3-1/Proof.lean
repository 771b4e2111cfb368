import JvmDerived
import JvmDerived.Pilot.@@N@@Statement
import JvmDerived.Pilot.@@N@@Code
set_option linter.unusedVariables false
set_option linter.unusedSimpArgs false
set_option maxRecDepth 65536
set_option maxHeartbeats 400000000
@@BLOCK:NumsL.lean.txt@@
namespace Jvm.Pilot.@@N@@
open Jvm Jvm.ClassFile Sem Op Lib Jvm.Free Jvm.Stand Jvm.LawKit Jvm.RoadKit Bundle Jvm.Pilot.@@N@@.Jvm.D
abbrev cc (x : Int32) : Int32 := x.toUInt32.toUInt16.toUInt32.toInt32
abbrev bb (x : Int32) : Int32 := x.toInt8.toInt32
abbrev PayOf (F : State → Outcome → State → List Loc → Nat → Nat → Prop) (l : Launch) (Z : State) (y : MethodName) (ws : List Jvm.Cond) (bytes : ByteArray) (ml : Nat) (rt : Option FieldType) (as' : Array Value) (h0 : Heap) (rm : Room) (Q : Option Value → Heap → List Loc → Prop) : Prop :=
  MetFree l y (head1 (Jvm.Cond.code y bytes ml rt :: ws) rm) (fun a U => a = as' ∧ Z.Warmed39 U.vm ∧ U.heap = h0) (fun _ _ _ _ _ => True) (fun _ U o U' => ∃ v L, o = .returned v ∧ Q v U'.heap L ∧ F U o U' L rm.cells rm.slots)
abbrev Pay := PayOf FrameEnd
abbrev PayW := PayOf ReturnedEndW
theorem own_body {F : State → Outcome → State → List Loc → Nat → Nat → Prop} {l : Launch} {Z : State} {y : MethodName} {ws : List Jvm.Cond} {bytes : ByteArray} {ml : Nat} {rt : Option FieldType} {as' : Array Value} {h0 : Heap} {rm : Room} {Q : Option Value → Heap → List Loc → Prop} (hp : plainFor y = true) {L0 : Array Slot} (hent : ∀ m, entryFrame m as' ml = mkF m 0 L0 [])
    (body : ∀ (p : Program) (e : Env) (s : State) (m : MethodId) (below : List Frame) (meth : Method) (c : Code) (s₁ : State), meth.sig.returnType = rt → meth.locks = false → p.tables.exec = Jvm.exec → c.code = bytes → c.maxLocals = ml → Z.Warmed39 s.vm → s.vm.findClass y.cls = some m.cls → meth.name = y.name → Stand p l e rm s m as' below meth c s₁ [] 0 0 → s₁.heap = h0 →
      ∃ s₂ o, Steps p.tables e below (s₁.setTop (mkF m 0 L0 [])) s₂ ∧ s₂.status = .running ∧ Ended s₂ below o ∧ ∃ v L, o = .returned v ∧ Q v s₂.heap L ∧ F s o s₂ L rm.cells rm.slots) : PayOf F l Z y ws bytes ml rt as' h0 rm Q := by
  refine MetFree.of_bodySF hp hisR ?_
  intro p e s m args below meth c s₁ Bd hml hP hK
  obtain ⟨rfl, hZ, hh⟩ := hP
  obtain ⟨s₂, o, st, r⟩ := body p e s m below meth c s₁ Bd.returns Bd.notSynchronized Bd.exec Bd.bytes hml hZ (findClass_of_methodNamed Bd.named) (name_of_methodNamed Bd.named Bd.method).1 (Stand.of_body Bd) (by rw [← hh, Bd.state]; rfl)
  exact ⟨s₂, o, castTop (hent m) st, r⟩
abbrev HW (Z : State) (a0 : Array Value) : Prop := ∀ d ∈ tables_1, d.before a0 Z = true
abbrev vi (x : Int32) : Slot := .val (.int x)
abbrev vl (x : Int64) : Slot := .val (.long x)
abbrev va (x : Addr) : Slot := .val (.ref x)
abbrev uu : Slot := .unset
abbrev ss : Slot := .second
theorem ww {Z : State} {a0 : Array Value} (hw : ∀ d ∈ tables_1, d.before a0 Z = true) (i : Nat) {d : Jvm.Cond} (h : tables_1[i]? = some d) : d.before a0 Z = true := hw _ (List.mem_of_getElem? h)
theorem own_old {Z : State} {n0 : Nat} {h : Heap} (O : Old Z n0 h) : n0 ≤ h.size := O.1 ▸ O.2.1
theorem own_lc_ltT {x y : Int64} (h : x < y) : ifCond.holds .lt (lcmpW x y) = true ∧ ifCond.holds .ge (lcmpW x y) = false := by
  have q : lcmpW x y < 0 := by rw [lcW]; exact (lc_lt x y).mpr h
  exact ⟨(if0 _ _).trans (tlt q).1, (if0 _ _).trans (tlt q).2.1⟩
theorem own_lc_ltF {x y : Int64} (h : ¬ x < y) : ifCond.holds .lt (lcmpW x y) = false ∧ ifCond.holds .ge (lcmpW x y) = true := by
  have q : ¬ lcmpW x y < 0 := by rw [lcW]; exact fun z => h ((lc_lt x y).mp z)
  exact ⟨(if0 _ _).trans (flt q).1, (if0 _ _).trans (flt q).2.1⟩
theorem own_lc_gtT {x y : Int64} (h : y < x) : ifCond.holds .gt (lcmpW x y) = true ∧ ifCond.holds .le (lcmpW x y) = false := by
  have q : 0 < lcmpW x y := by rw [lcW]; exact (lc_gt x y).mpr h
  exact ⟨(if0 _ _).trans (tlt q).2.2.1, (if0 _ _).trans (tlt q).2.2.2⟩
theorem own_lc_gtF {x y : Int64} (h : ¬ y < x) : ifCond.holds .gt (lcmpW x y) = false ∧ ifCond.holds .le (lcmpW x y) = true := by
  have q : ¬ 0 < lcmpW x y := by rw [lcW]; exact fun z => h ((lc_gt x y).mp z)
  exact ⟨(if0 _ _).trans (flt q).2.2.1, (if0 _ _).trans (flt q).2.2.2⟩
theorem own_lc_eqT {x y : Int64} (h : x = y) : ifCond.holds .eq (lcmpW x y) = true ∧ ifCond.holds .ne (lcmpW x y) = false := by
  have q : lcmpW x y = 0 := by rw [lcW]; exact (lc_eq x y).mpr h
  exact ⟨(if0 _ _).trans (teq q).1, (if0 _ _).trans (teq q).2⟩
theorem own_lc_eqF {x y : Int64} (h : ¬ x = y) : ifCond.holds .eq (lcmpW x y) = false ∧ ifCond.holds .ne (lcmpW x y) = true := by
  have q : ¬ lcmpW x y = 0 := by rw [lcW]; exact fun z => h ((lc_eq x y).mp z)
  exact ⟨(if0 _ _).trans (feq q).1, (if0 _ _).trans (feq q).2⟩
theorem own_selp {y : MethodName} {s : State} {args : Array Value} {n : Nat} (hy : y.cls ≠ "java/lang/invoke/MethodHandle" ∧ y.cls ≠ "java/lang/invoke/VarHandle") (hins : (Jvm.Cond.instantiable y.cls n).before args s = true) (hpriv : (Jvm.Cond.privateMethod y).before args s = true) (hinst : (Jvm.Cond.instanceMethod y).before args s = true) : (Jvm.Cond.selects y.cls y y).before args s = true := by
  obtain ⟨c, k, hc, hk, -, hniab, -, -⟩ := Cond.instantiable_spec hins
  exact selects_self_of_private hc hk (Bool.or_eq_false_iff.mp hniab).1 (Cond.privateMethod_at hpriv) hinst hy
theorem own_eqI {t : Term} {k : Int32} {args : Array Value} {Z : State} (h : (Jvm.Cond.eq t (Jvm.Term.int k)).value args Z none Z [] = some true) : t.eval args Z none [] Z = some (.int k) := by
  simp only [Cond.value, Term.eval] at h
  cases ht : t.eval args Z none [] Z with
  | none => simp [ht] at h
  | some v => cases v <;> simp [ht] at h ⊢; exact h
theorem own_ne0 {t : Term} {x : Int32} {args : Array Value} {Z : State} (e : t.eval args Z none [] Z = some (.int x)) (h : (Jvm.Cond.not (Jvm.Cond.eq t (Jvm.Term.int (0 : Int32)))).value args Z none Z [] = some true) : ¬ (x = (0 : Int32)) := by
  intro q
  subst q
  simp [Cond.value, Term.eval, e] at h
theorem own_arvStart {ty : FieldType} {Z : State} {args : Array Value} {t : Term} {a : Addr} {cl : Cell} {z : Int32} {vs : List Value} {dv : Value} (hf : Fit Z) (ev : t.eval args Z none [] Z = some (.ref a)) (A : Arr Z Z.heap a cl ty) (hl : (Term.length t).eval args Z none [] Z = some (.int z)) (hz : ¬ z < 0) (hn : z.toNatClampNeg = vs.length) (H : HasL cl 0 vs) : Arv Z Z.heap a cl.cls ty z vs dv := by
  have hq : cl.slots.size < 2 ^ 31 ∧ cl.slots.size.toInt32 = z := by
    have e := A.fin (Vm.Alike.refl _)
    simp only [Term.eval, ev, e, Option.bind_eq_bind, Option.bind_some] at hl
    by_cases q : cl.slots.size < 2 ^ 31
    · rw [if_pos q] at hl; exact ⟨q, Value.int.inj (Option.some.inj hl)⟩
    · rw [if_neg q] at hl; cases hl
  exact Arv.start hf A hq.1 hq.2 hz hn H
theorem own_nat (x : Int32) : x.toInt % 4294967296 = (x.toBitVec.toNat : Int) := by
  have h : x.toInt = x.toBitVec.toInt := rfl
  have q := x.toBitVec.isLt
  rw [h, BitVec.toInt_eq_toNat_cond]
  split <;> omega
theorem own_cc_toInt (x : Int32) : (cc x).toInt = x.toInt % 65536 := by
  have e : (cc x).toBitVec = (x.toBitVec.setWidth 16).setWidth 32 := rfl
  have h : (cc x).toInt = (cc x).toBitVec.toInt := rfl
  have n := own_nat x
  have q := x.toBitVec.isLt
  rw [h, e, BitVec.toInt_eq_toNat_cond, BitVec.toNat_setWidth, BitVec.toNat_setWidth]
  split <;> omega
theorem own_bb_toInt (x : Int32) : (bb x).toInt = (x.toInt + 128) % 256 - 128 := by
  have h : (bb x).toInt = x.toInt8.toInt := Int8.toInt_toInt32 _
  rw [h, Int32.toInt_toInt8, Int.bmod_def]
  split <;> omega
theorem own_ushr8 (x : Int32) : ((x.toUInt32 >>> ((8 : Int32) &&& 31).toUInt32).toInt32).toInt = x.toInt % 4294967296 / 256 := by
  have e : ((x.toUInt32 >>> ((8 : Int32) &&& 31).toUInt32).toInt32).toBitVec = x.toBitVec >>> 8 := rfl
  have h : ((x.toUInt32 >>> ((8 : Int32) &&& 31).toUInt32).toInt32).toInt = ((x.toUInt32 >>> ((8 : Int32) &&& 31).toUInt32).toInt32).toBitVec.toInt := rfl
  have n := own_nat x
  have q := x.toBitVec.isLt
  rw [h, e, BitVec.toInt_eq_toNat_cond, BitVec.toNat_ushiftRight, Nat.shiftRight_eq_div_pow]
  split <;> omega
theorem own_notIns {Z : State} {a0 : Array Value} {C S K : String} {n : Nat} (w : (Jvm.Cond.superclass C S).before a0 Z = true) (w0 : (Jvm.Cond.noSuperclass S).before a0 Z = true) (wk : (Jvm.Cond.instantiable K n).before a0 Z = true) (h1 : C ≠ K) (h2 : S ≠ K) : ∃ c t, Z.vm.findClass C = some c ∧ Z.vm.findClass K = some t ∧ Z.vm.assignable c t = false := by
  obtain ⟨t, kt, g0, g2, g5, g6, -, -⟩ := Cond.instantiable_spec wk
  have g7 : kt.isInterface = false := (Bool.or_eq_false_iff.mp g6).1
  obtain ⟨cs, ks, s1, s2, s3, -, -⟩ := Cond.noSuperclass_spec w0
  obtain ⟨c, h0⟩ := found_sup w
  obtain ⟨p, k, kp, q1, q2, q3, q4, q5, -, q7⟩ := Cond.superclass_spec h0 w
  cases s1.symm.trans q1
  have ne := ids_ne h0 g0 h1
  have ne2 := ids_ne s1 g0 h2
  have n3 : ∀ fuel, Z.vm.isSubclassAux fuel c t = false := fun fuel => by
    cases fuel with
    | zero => rfl
    | succ f => cases f with
      | zero => simp [Vm.isSubclassAux, ne, q2, q4]
      | succ f => simp [Vm.isSubclassAux, ne, q2, q4, ne2, s2, s3]
  refine ⟨c, t, h0, g0, ?_⟩
  show Z.vm.assignableAux (255 + 1) c t = false
  simp [Vm.assignableAux, ne, q2, g2, q5, g5, g7, Vm.isSubclass, n3]
abbrev My1 : MethodName := ⟨"com/example/darogan/darogan/FrameEqualsPinLaw", "str", "(I)Ljava/lang/String;"⟩
abbrev My10 : MethodName := ⟨"com/example/darogan/darogan/FrameEqualsPinLaw", "same16", "(II)Z"⟩
abbrev My11 : MethodName := ⟨"com/example/darogan/darogan/CallSite$Frame", "equals", "(Ljava/lang/Object;)Z"⟩
abbrev My12 : MethodName := ⟨"com/example/darogan/darogan/CallSite$Frame", "inSameMethod", "(Lcom/example/darogan/darogan/CallSite$Frame;)Z"⟩
abbrev My13 : MethodName := ⟨"com/example/darogan/darogan/CallSite$Frame", "inMethod", "(Ljava/lang/String;Ljava/lang/String;Ljava/lang/String;)Z"⟩
abbrev My14 : MethodName := ⟨"java/lang/String", "equals", "(Ljava/lang/Object;)Z"⟩
abbrev My15 : MethodName := ⟨"java/lang/StringLatin1", "equals", "([B[B)Z"⟩
abbrev sC0 : String := "java/lang/String"
abbrev sC1 : String := "com/example/darogan/darogan/CallSite$Frame"
abbrev sC2 : String := "java/lang/StringUTF16"
/-- what the law's case says of the statics, at the start -/
def SF (Z : State) (z_COMPACT_STRINGS : Int32) : Prop := (Sta Z Z.heap sC0 "COMPACT_STRINGS" "Z" (.int z_COMPACT_STRINGS)) ∧ (¬ (z_COMPACT_STRINGS = (0 : Int32))) ∧ True
theorem pn_0 : plainName "com/example/darogan/darogan/FrameEqualsPinLaw" = true := by first | (simp [plainName, overriddenIn]; done) | decide +kernel
theorem d1_0 : decode method_2_code 0 = .ok (.iconst 2, 1) := by decide +kernel
theorem d1_1 : decode method_2_code 1 = .ok (.newarray .char, 2) := by decide +kernel
theorem d1_3 : decode method_2_code 3 = .ok (.astore_n 1, 1) := by decide +kernel
theorem d1_4 : decode method_2_code 4 = .ok (.aload_n 1, 1) := by decide +kernel
theorem d1_5 : decode method_2_code 5 = .ok (.iconst 0, 1) := by decide +kernel
theorem d1_6 : decode method_2_code 6 = .ok (.iload_n 0, 1) := by decide +kernel
theorem d1_7 : decode method_2_code 7 = .ok (.sipush 255, 3) := by decide +kernel
theorem d1_10 : decode method_2_code 10 = .ok (.iand, 1) := by decide +kernel
theorem d1_11 : decode method_2_code 11 = .ok (.i2c, 1) := by decide +kernel
theorem d1_12 : decode method_2_code 12 = .ok (.castore, 1) := by decide +kernel
theorem d1_13 : decode method_2_code 13 = .ok (.aload_n 1, 1) := by decide +kernel
theorem d1_14 : decode method_2_code 14 = .ok (.iconst 1, 1) := by decide +kernel
theorem d1_15 : decode method_2_code 15 = .ok (.iload_n 0, 1) := by decide +kernel
theorem d1_16 : decode method_2_code 16 = .ok (.bipush 8, 2) := by decide +kernel
theorem d1_18 : decode method_2_code 18 = .ok (.iushr, 1) := by decide +kernel
theorem d1_19 : decode method_2_code 19 = .ok (.sipush 255, 3) := by decide +kernel
theorem d1_22 : decode method_2_code 22 = .ok (.iand, 1) := by decide +kernel
theorem d1_23 : decode method_2_code 23 = .ok (.i2c, 1) := by decide +kernel
theorem d1_24 : decode method_2_code 24 = .ok (.castore, 1) := by decide +kernel
theorem d1_25 : decode method_2_code 25 = .ok (.new 7, 3) := by decide +kernel
theorem d1_28 : decode method_2_code 28 = .ok (.dup, 1) := by decide +kernel
theorem d1_29 : decode method_2_code 29 = .ok (.aload_n 1, 1) := by decide +kernel
theorem d1_30 : decode method_2_code 30 = .ok (.invokespecial 9, 3) := by decide +kernel
theorem pn_1 : plainName "java/lang/String" = true := by first | (simp [plainName, overriddenIn]; done) | decide +kernel
theorem d2_0 : decode jdk_42_method_3_code 0 = .ok (.aload_n 0, 1) := by decide +kernel
theorem d2_1 : decode jdk_42_method_3_code 1 = .ok (.aload_n 1, 1) := by decide +kernel
theorem d2_2 : decode jdk_42_method_3_code 2 = .ok (.iconst 0, 1) := by decide +kernel
theorem d2_3 : decode jdk_42_method_3_code 3 = .ok (.aload_n 1, 1) := by decide +kernel
theorem d2_4 : decode jdk_42_method_3_code 4 = .ok (.arraylength, 1) := by decide +kernel
theorem d2_5 : decode jdk_42_method_3_code 5 = .ok (.aconst_null, 1) := by decide +kernel
theorem d2_6 : decode jdk_42_method_3_code 6 = .ok (.invokespecial 27, 3) := by decide +kernel
theorem d3_0 : decode jdk_42_method_149_code 0 = .ok (.aload_n 0, 1) := by decide +kernel
theorem d3_1 : decode jdk_42_method_149_code 1 = .ok (.invokespecial 1, 3) := by decide +kernel
theorem d3_4 : decode jdk_42_method_149_code 4 = .ok (.iload_n 3, 1) := by decide +kernel
theorem d3_5 : decode jdk_42_method_149_code 5 = .ok (.ifCond .ne 22, 3) := by decide +kernel
theorem d3_27 : decode jdk_42_method_149_code 27 = .ok (.getstatic 38, 3) := by decide +kernel
theorem d3_30 : decode jdk_42_method_149_code 30 = .ok (.ifCond .eq 28, 3) := by decide +kernel
theorem d3_33 : decode jdk_42_method_149_code 33 = .ok (.aload_n 1, 1) := by decide +kernel
theorem d3_34 : decode jdk_42_method_149_code 34 = .ok (.iload_n 2, 1) := by decide +kernel
theorem d3_35 : decode jdk_42_method_149_code 35 = .ok (.iload_n 3, 1) := by decide +kernel
theorem d3_36 : decode jdk_42_method_149_code 36 = .ok (.invokestatic 177, 3) := by decide +kernel
theorem pn_2 : plainName "java/lang/StringUTF16" = true := by first | (simp [plainName, overriddenIn]; done) | decide +kernel
theorem d5_0 : decode jdk_52_method_16_code 0 = .ok (.iload_n 2, 1) := by decide +kernel
theorem d5_1 : decode jdk_52_method_16_code 1 = .ok (.newarray .byte, 2) := by decide +kernel
theorem d5_3 : decode jdk_52_method_16_code 3 = .ok (.astore_n 3, 1) := by decide +kernel
theorem d5_4 : decode jdk_52_method_16_code 4 = .ok (.aload_n 0, 1) := by decide +kernel
theorem d5_5 : decode jdk_52_method_16_code 5 = .ok (.iload_n 1, 1) := by decide +kernel
theorem d5_6 : decode jdk_52_method_16_code 6 = .ok (.aload_n 3, 1) := by decide +kernel
theorem d5_7 : decode jdk_52_method_16_code 7 = .ok (.iconst 0, 1) := by decide +kernel
theorem d5_8 : decode jdk_52_method_16_code 8 = .ok (.iload_n 2, 1) := by decide +kernel
theorem d5_9 : decode jdk_52_method_16_code 9 = .ok (.invokestatic 115, 3) := by decide +kernel
theorem d6_0 : decode jdk_52_method_21_code 0 = .ok (.iconst 0, 1) := by decide +kernel
theorem d6_1 : decode jdk_52_method_21_code 1 = .ok (.istore 5, 2) := by decide +kernel
theorem d6_3 : decode jdk_52_method_21_code 3 = .ok (.iload 5, 2) := by decide +kernel
theorem d6_5 : decode jdk_52_method_21_code 5 = .ok (.iload 4, 2) := by decide +kernel
theorem d6_7 : decode jdk_52_method_21_code 7 = .ok (.if_icmp .ge 37, 3) := by decide +kernel
theorem d6_10 : decode jdk_52_method_21_code 10 = .ok (.aload_n 0, 1) := by decide +kernel
theorem d6_11 : decode jdk_52_method_21_code 11 = .ok (.iload_n 1, 1) := by decide +kernel
theorem d6_12 : decode jdk_52_method_21_code 12 = .ok (.caload, 1) := by decide +kernel
theorem d6_13 : decode jdk_52_method_21_code 13 = .ok (.istore 6, 2) := by decide +kernel
theorem d6_15 : decode jdk_52_method_21_code 15 = .ok (.iload 6, 2) := by decide +kernel
theorem d6_17 : decode jdk_52_method_21_code 17 = .ok (.sipush 255, 3) := by decide +kernel
theorem d6_20 : decode jdk_52_method_21_code 20 = .ok (.if_icmp .le 6, 3) := by decide +kernel
theorem d6_26 : decode jdk_52_method_21_code 26 = .ok (.aload_n 2, 1) := by decide +kernel
theorem d6_27 : decode jdk_52_method_21_code 27 = .ok (.iload_n 3, 1) := by decide +kernel
theorem d6_28 : decode jdk_52_method_21_code 28 = .ok (.iload 6, 2) := by decide +kernel
theorem d6_30 : decode jdk_52_method_21_code 30 = .ok (.i2b, 1) := by decide +kernel
theorem d6_31 : decode jdk_52_method_21_code 31 = .ok (.bastore, 1) := by decide +kernel
theorem d6_32 : decode jdk_52_method_21_code 32 = .ok (.iinc 1 1, 3) := by decide +kernel
theorem d6_35 : decode jdk_52_method_21_code 35 = .ok (.iinc 3 1, 3) := by decide +kernel
theorem d6_38 : decode jdk_52_method_21_code 38 = .ok (.iinc 5 1, 3) := by decide +kernel
theorem d6_41 : decode jdk_52_method_21_code 41 = .ok (.goto (-38), 3) := by decide +kernel
theorem d6_44 : decode jdk_52_method_21_code 44 = .ok (.iload 4, 2) := by decide +kernel
theorem d6_46 : decode jdk_52_method_21_code 46 = .ok (.ireturn, 1) := by decide +kernel
def Q6_0 (Z : State) (z_COMPACT_STRINGS : Int32) (o0 : Addr) (o1 : Addr) (kk_o0 : ClassId) (kk_o1 : ClassId) (p0 : Int32) (p1 : Int32) (h0 : Heap) (n0 : Nat) (v : Option Value) (h : Heap) (L : List Loc) : Prop := v = (some (.int 2)) ∧ Fr n0 L ∧ Keep h0 h [o1] ∧ Arv Z h o1 kk_o1 .byte (2 : Int32) [(.int (bb (bb p0))), (.int (bb (bb p1)))] (.int 0)
theorem rm6_0 (l : Launch) (Z : State) (a0 : Array Value) (hw : HW Z a0) (ws : List Jvm.Cond) (z_COMPACT_STRINGS : Int32) (o0 : Addr) (o1 : Addr) (kk_o0 : ClassId) (kk_o1 : ClassId) (p0 : Int32) (p1 : Int32) (h0 : Heap) (n0 : Nat) (O0 : Old Z n0 h0) (S : SF Z z_COMPACT_STRINGS) (V_o0 : Arv Z h0 o0 kk_o0 .char (2 : Int32) [(.int p0), (.int p1)] (.int 0)) (V_o1 : Arv Z h0 o1 kk_o1 .byte (2 : Int32) [(.int 0), (.int 0)] (.int 0)) (ne_o0_o1 : o0 ≠ o1) (g_o1 : n0 ≤ o1) (hc0 : ¬ ((255 : Int32) < p0)) (hc1 : ¬ ((255 : Int32) < p1)) :
    Pay l Z (⟨sC2, "compress", "([CI[BII)I"⟩ : MethodName) ws jdk_52_method_21_code 7 (some .int) #[(.ref o0), (.int 0), (.ref o1), (.int 0), (.int 2)] h0 ({ frames := 0, cells := 0, slots := 0, locals := 0 } : Room) (Q6_0 Z z_COMPACT_STRINGS o0 o1 kk_o0 kk_o1 p0 p1 h0 n0) := by
  refine own_body (plainFor_of_name pn_2) (L0 := #[va o0, vi 0, va o1, vi 0, vi 2, uu, uu]) (fun _ => by first | rfl | (simp [entryFrame, mkF, argsToLocals, Value.category]; done)) ?_
  intro p e s m below meth c s₁ hrt hlk hx hby hml hZ hown0 hnm X0 e0
  have hown : s.vm.findClass sC2 = some m.cls := hown0
  have N0 := Fr.nil n0
  have K0 : Keep h0 h0 [o1] := Keep.refl _ _
  obtain ⟨cl1, Ar1, qk1, Sz1, Ng1, Hh1, Gg1⟩ := id V_o0
  have hin1_0 : ¬ ((0 : Int32) < 0 ∨ cl1.slots.size ≤ ((0 : Int32)).toNatClampNeg) := inb_of Sz1 ⟨by decide, by decide⟩
  obtain ⟨cl2, Ar2, qk2, Sz2, Ng2, Hh2, Gg2⟩ := id V_o1
  have hin2_0 : ¬ ((0 : Int32) < 0 ∨ cl2.slots.size ≤ ((0 : Int32)).toNatClampNeg) := inb_of Sz2 ⟨by decide, by decide⟩
  obtain ⟨T3, h3, X3, e3, W3, st3⟩ := stB X0 hx hZ e0 Ar2 (j := (0 : Int32)) hin2_0 (g := (mkF m 31 #[va o0, vi 0, va o1, vi 0, vi 2, vi 0, vi p0] [(.int (bb p0)), (.int 0), (.ref o1)])) rfl rfl (hb hby d6_31)
  have V3 : Arv Z h3 o1 kk_o1 .byte (2 : Int32) [(.int (bb (bb p0))), (.int 0)] (.int 0) := Arv.set Ar2 qk2 Sz2 Ng2 Hh2 Gg2 (fits_nar_byte _) W3 0 rfl (Nat.le_of_ble_eq_true rfl)
  have O3 := O0.wr W3 g_o1
  have K3 : Keep h0 h3 [o1] := K0.wr W3 (Or.inl (List.mem_of_getElem? (i := 0) rfl))
  have N3 := Fr.snoc X3 N0 g_o1
  have fc4 := (V_o0.other W3 ne_o0_o1)
  obtain ⟨cl5, Ar5, qk5, Sz5, Ng5, Hh5, Gg5⟩ := id fc4
  have hin5_1 : ¬ ((1 : Int32) < 0 ∨ cl5.slots.size ≤ ((1 : Int32)).toNatClampNeg) := inb_of Sz5 ⟨by decide, by decide⟩
  obtain ⟨cl6, Ar6, qk6, Sz6, Ng6, Hh6, Gg6⟩ := id V3
  have hin6_1 : ¬ ((1 : Int32) < 0 ∨ cl6.slots.size ≤ ((1 : Int32)).toNatClampNeg) := inb_of Sz6 ⟨by decide, by decide⟩
  obtain ⟨T7, h7, X7, e7, W7, st7⟩ := stB X3 hx hZ e3 Ar6 (j := (1 : Int32)) hin6_1 (g := (mkF m 31 #[va o0, vi 1, va o1, vi 1, vi 2, vi 1, vi p1] [(.int (bb p1)), (.int 1), (.ref o1)])) rfl rfl (hb hby d6_31)
  have V7 : Arv Z h7 o1 kk_o1 .byte (2 : Int32) [(.int (bb (bb p0))), (.int (bb (bb p1)))] (.int 0) := Arv.set Ar6 qk6 Sz6 Ng6 Hh6 Gg6 (fits_nar_byte _) W7 1 rfl (Nat.le_of_ble_eq_true rfl)
  have O7 := O3.wr W7 g_o1
  have K7 : Keep h0 h7 [o1] := K3.wr W7 (Or.inl (List.mem_of_getElem? (i := 0) rfl))
  have N7 := Fr.snoc X7 N3 g_o1
  obtain ⟨fs, hr, hrun, hended, hW, hsame⟩ := X7.leave (v := (some (.int 2))) (fun h => by rw [hrt] at h; cases h)
  refine ⟨_, _, ?_, hrun, hended, _, _, rfl, ?_, ⟨_, rfl⟩, hW, hsame.mono (by decide) (by decide)⟩
  · show Steps p.tables e below (s₁.setTop (mkF m 0 #[va o0, vi 0, va o1, vi 0, vi 2, uu, uu] [])) _
    refine XS.iconst X0.here hx rfl (hb hby d6_0) ?_
    refine XS.istore X0.here hx rfl (hb hby d6_1) rfl (l' := #[va o0, vi 0, va o1, vi 0, vi 2, vi 0, uu]) rfl ?_
    refine XS.iload X0.here hx rfl (hb hby d6_3) rfl ?_
    refine XS.iload X0.here hx rfl (hb hby d6_5) rfl ?_
    refine XS.icmpNo X0.here hx rfl (hb hby d6_7) rfl (tlt (by decide : (0 : Int32) < (2 : Int32))).2.1 ?_
    refine XS.aloadN X0.here hx rfl (hb hby d6_10) rfl rfl ?_
    refine XS.iloadN X0.here hx rfl (hb hby d6_11) rfl ?_
    refine X0.caload hx (j := (0 : Int32)) (v := (.int p0)) (by rw [e0]; exact Ar1.1) (State.isArrayOf_alike hZ.alike Ar1.2.1) Ar1.2.2 hin1_0 (Has.at Hh1 hin1_0 rfl) (g := (mkF m 12 #[va o0, vi 0, va o1, vi 0, vi 2, vi 0, uu] [(.int 0), (.ref o0)])) rfl rfl (hb hby d6_12) _ ?_
    show Steps p.tables e below (s₁.setTop (mkF m 13 #[va o0, vi 0, va o1, vi 0, vi 2, vi 0, uu] [(.int p0)])) _
    refine XS.istore X0.here hx rfl (hb hby d6_13) rfl (l' := #[va o0, vi 0, va o1, vi 0, vi 2, vi 0, vi p0]) rfl ?_
    refine XS.iload X0.here hx rfl (hb hby d6_15) rfl ?_
    refine XS.sipush X0.here hx rfl (hb hby d6_17) ?_
    refine XS.icmpYes X0.here hx rfl (pc0 := 20) (pc' := 26) rfl (hb hby d6_20) rfl (flt hc0).2.2.2 (by decide) (by decide) ?_
    refine XS.aloadN X0.here hx rfl (hb hby d6_26) rfl rfl ?_
    refine XS.iloadN X0.here hx rfl (hb hby d6_27) rfl ?_
    refine XS.iload X0.here hx rfl (hb hby d6_28) rfl ?_
    refine XS.i2b X0.here hx rfl (hb hby d6_30) rfl ?_
    show Steps p.tables e below (s₁.setTop (mkF m 31 #[va o0, vi 0, va o1, vi 0, vi 2, vi 0, vi p0] [(.int (bb p0)), (.int 0), (.ref o1)])) _
    refine st3 _ ?_
    refine XS.iinc X3.here hx rfl (hb hby d6_32) rfl (l' := #[va o0, vi ((0 : Int32) + (1 : Int32)), va o1, vi 0, vi 2, vi 0, vi p0]) rfl ?_
    show Steps p.tables e below (T3.setTop (mkF m 35 #[va o0, vi ((0 : Int32) + (1 : Int32)), va o1, vi 0, vi 2, vi 0, vi p0] [])) _
    rw [show (((0 : Int32) + (1 : Int32)) : Int32) = (1 : Int32) from by decide]
    refine XS.iinc X3.here hx rfl (hb hby d6_35) rfl (l' := #[va o0, vi 1, va o1, vi ((0 : Int32) + (1 : Int32)), vi 2, vi 0, vi p0]) rfl ?_
    show Steps p.tables e below (T3.setTop (mkF m 38 #[va o0, vi 1, va o1, vi ((0 : Int32) + (1 : Int32)), vi 2, vi 0, vi p0] [])) _
    rw [show (((0 : Int32) + (1 : Int32)) : Int32) = (1 : Int32) from by decide]
    refine XS.iinc X3.here hx rfl (hb hby d6_38) rfl (l' := #[va o0, vi 1, va o1, vi 1, vi 2, vi ((0 : Int32) + (1 : Int32)), vi p0]) rfl ?_
    show Steps p.tables e below (T3.setTop (mkF m 41 #[va o0, vi 1, va o1, vi 1, vi 2, vi ((0 : Int32) + (1 : Int32)), vi p0] [])) _
    rw [show (((0 : Int32) + (1 : Int32)) : Int32) = (1 : Int32) from by decide]
    refine XS.goto X3.here hx rfl (pc0 := 41) (pc' := 3) rfl (hb hby d6_41) (by decide) (by decide) ?_
    refine XS.iload X3.here hx rfl (hb hby d6_3) rfl ?_
    refine XS.iload X3.here hx rfl (hb hby d6_5) rfl ?_
    refine XS.icmpNo X3.here hx rfl (hb hby d6_7) rfl (tlt (by decide : (1 : Int32) < (2 : Int32))).2.1 ?_
    refine XS.aloadN X3.here hx rfl (hb hby d6_10) rfl rfl ?_
    refine XS.iloadN X3.here hx rfl (hb hby d6_11) rfl ?_
    refine X3.caload hx (j := (1 : Int32)) (v := (.int p1)) (by rw [e3]; exact Ar5.1) (State.isArrayOf_alike hZ.alike Ar5.2.1) Ar5.2.2 hin5_1 (Has.at Hh5 hin5_1 rfl) (g := (mkF m 12 #[va o0, vi 1, va o1, vi 1, vi 2, vi 1, vi p0] [(.int 1), (.ref o0)])) rfl rfl (hb hby d6_12) _ ?_
    show Steps p.tables e below (T3.setTop (mkF m 13 #[va o0, vi 1, va o1, vi 1, vi 2, vi 1, vi p0] [(.int p1)])) _
    refine XS.istore X3.here hx rfl (hb hby d6_13) rfl (l' := #[va o0, vi 1, va o1, vi 1, vi 2, vi 1, vi p1]) rfl ?_
    refine XS.iload X3.here hx rfl (hb hby d6_15) rfl ?_
    refine XS.sipush X3.here hx rfl (hb hby d6_17) ?_
    refine XS.icmpYes X3.here hx rfl (pc0 := 20) (pc' := 26) rfl (hb hby d6_20) rfl (flt hc1).2.2.2 (by decide) (by decide) ?_
    refine XS.aloadN X3.here hx rfl (hb hby d6_26) rfl rfl ?_
    refine XS.iloadN X3.here hx rfl (hb hby d6_27) rfl ?_
    refine XS.iload X3.here hx rfl (hb hby d6_28) rfl ?_
    refine XS.i2b X3.here hx rfl (hb hby d6_30) rfl ?_
    show Steps p.tables e below (T3.setTop (mkF m 31 #[va o0, vi 1, va o1, vi 1, vi 2, vi 1, vi p1] [(.int (bb p1)), (.int 1), (.ref o1)])) _
    refine st7 _ ?_
    refine XS.iinc X7.here hx rfl (hb hby d6_32) rfl (l' := #[va o0, vi ((1 : Int32) + (1 : Int32)), va o1, vi 1, vi 2, vi 1, vi p1]) rfl ?_
    show Steps p.tables e below (T7.setTop (mkF m 35 #[va o0, vi ((1 : Int32) + (1 : Int32)), va o1, vi 1, vi 2, vi 1, vi p1] [])) _
    rw [show (((1 : Int32) + (1 : Int32)) : Int32) = (2 : Int32) from by decide]
    refine XS.iinc X7.here hx rfl (hb hby d6_35) rfl (l' := #[va o0, vi 2, va o1, vi ((1 : Int32) + (1 : Int32)), vi 2, vi 1, vi p1]) rfl ?_
    show Steps p.tables e below (T7.setTop (mkF m 38 #[va o0, vi 2, va o1, vi ((1 : Int32) + (1 : Int32)), vi 2, vi 1, vi p1] [])) _
    rw [show (((1 : Int32) + (1 : Int32)) : Int32) = (2 : Int32) from by decide]
    refine XS.iinc X7.here hx rfl (hb hby d6_38) rfl (l' := #[va o0, vi 2, va o1, vi 2, vi 2, vi ((1 : Int32) + (1 : Int32)), vi p1]) rfl ?_
    show Steps p.tables e below (T7.setTop (mkF m 41 #[va o0, vi 2, va o1, vi 2, vi 2, vi ((1 : Int32) + (1 : Int32)), vi p1] [])) _
    rw [show (((1 : Int32) + (1 : Int32)) : Int32) = (2 : Int32) from by decide]
    refine XS.goto X7.here hx rfl (pc0 := 41) (pc' := 3) rfl (hb hby d6_41) (by decide) (by decide) ?_
    refine XS.iload X7.here hx rfl (hb hby d6_3) rfl ?_
    refine XS.iload X7.here hx rfl (hb hby d6_5) rfl ?_
    refine XS.icmpYes X7.here hx rfl (pc0 := 7) (pc' := 44) rfl (hb hby d6_7) rfl (flt (by decide : ¬ ((2 : Int32) < (2 : Int32)))).2.1 (by decide) (by decide) ?_
    refine XS.iload X7.here hx rfl (hb hby d6_44) rfl ?_
    exact retOut X7 hx (t := .int) (i := .ireturn) hrt rfl (Or.inl ⟨rfl, Or.inl rfl, _, rfl⟩) (hb hby d6_46) hr
  · show Q6_0 Z z_COMPACT_STRINGS o0 o1 kk_o0 kk_o1 p0 p1 h0 n0 (some (.int 2)) T7.heap _
    rw [e7]; exact ⟨rfl, N7, K7, V7⟩
theorem pd_0 : parseMethodDescriptor "([CI[BII)I" = some ⟨[(.array .char), .int, (.array .byte), .int, .int], some .int⟩ := by decide +kernel
theorem d5_12 : decode jdk_52_method_16_code 12 = .ok (.istore 4, 2) := by decide +kernel
theorem d5_14 : decode jdk_52_method_16_code 14 = .ok (.iload 4, 2) := by decide +kernel
theorem d5_16 : decode jdk_52_method_16_code 16 = .ok (.iload_n 2, 1) := by decide +kernel
theorem d5_17 : decode jdk_52_method_16_code 17 = .ok (.if_icmp .eq 40, 3) := by decide +kernel
theorem d5_57 : decode jdk_52_method_16_code 57 = .ok (.aload_n 3, 1) := by decide +kernel
theorem d5_58 : decode jdk_52_method_16_code 58 = .ok (.areturn, 1) := by decide +kernel
def Q5_0 (Z : State) (z_COMPACT_STRINGS : Int32) (o0 : Addr) (kk_o0 : ClassId) (p0 : Int32) (p1 : Int32) (h0 : Heap) (n0 : Nat) (v : Option Value) (h : Heap) (L : List Loc) : Prop := ∃ (b1 : Addr), ∃ (k1 : ClassId), v = (some (.ref b1)) ∧ Fr n0 L ∧ Keep h0 h [] ∧ Arv Z h b1 k1 .byte (2 : Int32) [(.int (bb (bb p0))), (.int (bb (bb p1)))] (.int 0) ∧ h0.size ≤ b1
theorem rm5_0 (l : Launch) (Z : State) (a0 : Array Value) (hw : HW Z a0) (ws : List Jvm.Cond) (z_COMPACT_STRINGS : Int32) (o0 : Addr) (kk_o0 : ClassId) (p0 : Int32) (p1 : Int32) (h0 : Heap) (n0 : Nat) (O0 : Old Z n0 h0) (S : SF Z z_COMPACT_STRINGS) (V_o0 : Arv Z h0 o0 kk_o0 .char (2 : Int32) [(.int p0), (.int p1)] (.int 0)) (hc0 : ¬ ((255 : Int32) < p0)) (hc1 : ¬ ((255 : Int32) < p1)) :
    Pay l Z (⟨sC2, "compress", "([CII)[B"⟩ : MethodName) ws jdk_52_method_16_code 6 (some (.array .byte)) #[(.ref o0), (.int 0), (.int 2)] h0 ({ frames := 1, cells := 1, slots := 2, locals := 18 } : Room) (Q5_0 Z z_COMPACT_STRINGS o0 kk_o0 p0 p1 h0 n0) := by
  refine own_body (plainFor_of_name pn_2) (L0 := #[va o0, vi 0, vi 2, uu, uu, uu]) (fun _ => by first | rfl | (simp [entryFrame, mkF, argsToLocals, Value.category]; done)) ?_
  intro p e s m below meth c s₁ hrt hlk hx hby hml hZ hown0 hnm X0 e0
  have hown : s.vm.findClass sC2 = some m.cls := hown0
  have N0 := Fr.nil n0
  have K0 : Keep h0 h0 [] := Keep.refl _ _
  obtain ⟨T1, h1, k1, X1, e1, E1, A1, st1⟩ := newP X0 hx hZ (ww hw 26 rfl) e0 (g := (mkF m 1 #[va o0, vi 0, vi 2, uu, uu, uu] [(.int 2)])) rfl (hb hby d5_1) rfl (by decide) (cap := 2) (by decide) (by decide) (by decide) (by decide)
  obtain ⟨b1, qs1⟩ : ∃ z, z = h0.size := ⟨_, rfl⟩
  rw [← qs1] at A1 st1
  have ne_o0_b1 : o0 ≠ b1 := Nat.ne_of_lt (Nat.lt_of_lt_of_le V_o0.lt (Nat.le_of_eq qs1.symm))
  have g_b1 : n0 ≤ b1 := Nat.le_trans (own_old O0) (Nat.le_of_eq qs1.symm)
  have sz_b1 : h0.size ≤ b1 := Nat.le_trans K0.1 (Nat.le_of_eq qs1.symm)
  have O1 := O0.ext E1
  have K1 : Keep h0 h1 [] := K0.ext E1
  have V_b1 : Arv Z h1 b1 k1 .byte (2 : Int32) [(.int 0), (.int 0)] (.int 0) := (Arv.new A1 (by decide)).pad (pad_rep [] (.int 0) 2)
  have fc2 := (V_o0.ext E1)
  obtain ⟨_, _, ⟨T3, L3, k3, n3⟩, -, X3, ⟨Lc3, hQ3, l3, y3, z3⟩, st3⟩ := Jvm.LawKit.callS X1 hx (y := (⟨sC2, "compress", "([CI[BII)I"⟩ : MethodName)) hown (mvT hZ (ww hw 27 rfl)) (mvT hZ (ww hw 28 rfl)) (mvT hZ (ww hw 24 rfl)) (mvT hZ (ww hw 29 rfl)) (by decide) (backOf (W := 0) (rm6_0 l Z a0 hw [] z_COMPACT_STRINGS o0 b1 kk_o0 k1 p0 p1 h1 n0 O1 S fc2 V_b1 ne_o0_b1 g_b1 hc0 hc1) hZ (ww hw 29 rfl) (ww hw 24 rfl) (by decide) (by decide)) (g := (mkF m 9 #[va o0, vi 0, vi 2, va b1, uu, uu] [(.int 2), (.int 0), (.ref b1), (.int 0), (.ref o0)])) rfl (by rw [hml]; rfl) (argsL := [(.ref o0), (.int 0), (.ref b1), (.int 0), (.int 2)]) (rest := []) (lenOf pd_0 rfl) rfl (by show 2 * 0 + _ ≤ _; exact Nat.le_of_eq rfl) (hb hby d5_9) (fun _ _ => ⟨rfl, e1, (by decide : 1 + 0 ≤ _), (by decide : 2 + 0 ≤ _)⟩)
  dsimp only [Pt.U, Pt.locs, Pt.cells, Pt.slots] at X3 l3 y3 z3 st3 hQ3
  subst l3 y3 z3
  obtain ⟨rfl, Nq3, Kc3, P0_3⟩ := hQ3
  have N3 := Fr.app N0 Nq3
  have O3 := O1.keep Kc3 (allS g_b1 all0)
  have K3 : Keep h0 T3.heap [] := K1.trans Kc3 (allS (Or.inr sz_b1) all0)
  obtain ⟨fs, hr, hrun, hended, hW, hsame⟩ := X3.leave (v := (some (.ref b1))) (fun h => by rw [hrt] at h; cases h)
  refine ⟨_, _, ?_, hrun, hended, _, _, rfl, ?_, ⟨_, rfl⟩, hW, hsame.mono (by decide) (by decide)⟩
  · show Steps p.tables e below (s₁.setTop (mkF m 0 #[va o0, vi 0, vi 2, uu, uu, uu] [])) _
    refine XS.iloadN X0.here hx rfl (hb hby d5_0) rfl ?_
    refine st1 _ ?_
    refine XS.astoreN X1.here hx rfl (hb hby d5_3) rfl rfl (l' := #[va o0, vi 0, vi 2, va b1, uu, uu]) rfl ?_
    refine XS.aloadN X1.here hx rfl (hb hby d5_4) rfl rfl ?_
    refine XS.iloadN X1.here hx rfl (hb hby d5_5) rfl ?_
    refine XS.aloadN X1.here hx rfl (hb hby d5_6) rfl rfl ?_
    refine XS.iconst X1.here hx rfl (hb hby d5_7) ?_
    refine XS.iloadN X1.here hx rfl (hb hby d5_8) rfl ?_
    show Steps p.tables e below (T1.setTop (mkF m 9 #[va o0, vi 0, vi 2, va b1, uu, uu] [(.int 2), (.int 0), (.ref b1), (.int 0), (.ref o0)])) _
    refine st3 _ ?_
    refine XS.istore X3.here hx rfl (hb hby d5_12) rfl (l' := #[va o0, vi 0, vi 2, va b1, vi 2, uu]) rfl ?_
    refine XS.iload X3.here hx rfl (hb hby d5_14) rfl ?_
    refine XS.iloadN X3.here hx rfl (hb hby d5_16) rfl ?_
    refine XS.icmpYes X3.here hx rfl (pc0 := 17) (pc' := 57) rfl (hb hby d5_17) rfl (teq (by decide : (2 : Int32) = (2 : Int32))).1 (by decide) (by decide) ?_
    refine XS.aloadN X3.here hx rfl (hb hby d5_57) rfl rfl ?_
    exact retOut X3 hx (t := (.array .byte)) (i := .areturn) hrt rfl (Or.inr (Or.inr (Or.inr (Or.inr ⟨rfl, rfl, rfl⟩)))) (hb hby d5_58) hr
  · show Q5_0 Z z_COMPACT_STRINGS o0 kk_o0 p0 p1 h0 n0 (some (.ref b1)) T3.heap _
    exact (⟨b1, k1, rfl, N3, K3, P0_3, sz_b1⟩)
theorem pd_1 : parseMethodDescriptor "([CII)[B" = some ⟨[(.array .char), .int, .int], some (.array .byte)⟩ := by decide +kernel
theorem d3_39 : decode jdk_42_method_149_code 39 = .ok (.astore 5, 2) := by decide +kernel
theorem d3_41 : decode jdk_42_method_149_code 41 = .ok (.aload_n 0, 1) := by decide +kernel
theorem d3_42 : decode jdk_42_method_149_code 42 = .ok (.aload 5, 2) := by decide +kernel
theorem d3_44 : decode jdk_42_method_149_code 44 = .ok (.iload_n 3, 1) := by decide +kernel
theorem d3_45 : decode jdk_42_method_149_code 45 = .ok (.invokestatic 47, 3) := by decide +kernel
theorem d7_0 : decode jdk_52_method_15_code 0 = .ok (.iload_n 1, 1) := by decide +kernel
theorem d7_1 : decode jdk_52_method_15_code 1 = .ok (.aload_n 0, 1) := by decide +kernel
theorem d7_2 : decode jdk_52_method_15_code 2 = .ok (.arraylength, 1) := by decide +kernel
theorem d7_3 : decode jdk_52_method_15_code 3 = .ok (.isub, 1) := by decide +kernel
theorem d7_4 : decode jdk_52_method_15_code 4 = .ok (.bipush 31, 2) := by decide +kernel
theorem d7_6 : decode jdk_52_method_15_code 6 = .ok (.iushr, 1) := by decide +kernel
theorem d7_7 : decode jdk_52_method_15_code 7 = .ok (.i2b, 1) := by decide +kernel
theorem d7_8 : decode jdk_52_method_15_code 8 = .ok (.ireturn, 1) := by decide +kernel
def Q7_0 (Z : State) (z_COMPACT_STRINGS : Int32) (o0 : Addr) (kk_o0 : ClassId) (p0 : Int32) (p1 : Int32) (h0 : Heap) (n0 : Nat) (v : Option Value) (h : Heap) (L : List Loc) : Prop := v = (some (.int 0)) ∧ Fr n0 L ∧ h = h0
theorem rm7_0 (l : Launch) (Z : State) (a0 : Array Value) (hw : HW Z a0) (ws : List Jvm.Cond) (z_COMPACT_STRINGS : Int32) (o0 : Addr) (kk_o0 : ClassId) (p0 : Int32) (p1 : Int32) (h0 : Heap) (n0 : Nat) (O0 : Old Z n0 h0) (S : SF Z z_COMPACT_STRINGS) (V_o0 : Arv Z h0 o0 kk_o0 .byte (2 : Int32) [(.int p0), (.int p1)] (.int 0)) :
    Pay l Z (⟨sC2, "coderFromArrayLen", "([BI)B"⟩ : MethodName) ws jdk_52_method_15_code 2 (some .byte) #[(.ref o0), (.int 2)] h0 ({ frames := 0, cells := 0, slots := 0, locals := 0 } : Room) (Q7_0 Z z_COMPACT_STRINGS o0 kk_o0 p0 p1 h0 n0) := by
  refine own_body (plainFor_of_name pn_2) (L0 := #[va o0, vi 2]) (fun _ => by first | rfl | (simp [entryFrame, mkF, argsToLocals, Value.category]; done)) ?_
  intro p e s m below meth c s₁ hrt hlk hx hby hml hZ hown0 hnm X0 e0
  have hown : s.vm.findClass sC2 = some m.cls := hown0
  have N0 := Fr.nil n0
  have K0 : Keep h0 h0 [] := Keep.refl _ _
  obtain ⟨cl1, Ar1, qk1, Sz1, Ng1, Hh1, Gg1⟩ := id V_o0
  obtain ⟨fs, hr, hrun, hended, hW, hsame⟩ := X0.leave (v := (some (.int 0))) (fun h => by rw [hrt] at h; cases h)
  refine ⟨_, _, ?_, hrun, hended, _, _, rfl, ?_, ⟨_, rfl⟩, hW, hsame.mono (by decide) (by decide)⟩
  · show Steps p.tables e below (s₁.setTop (mkF m 0 #[va o0, vi 2] [])) _
    refine XS.iloadN X0.here hx rfl (hb hby d7_0) rfl ?_
    refine XS.aloadN X0.here hx rfl (hb hby d7_1) rfl rfl ?_
    refine X0.arraylength hx (by rw [e0]; exact Ar1.1) (State.isArrayOf_alike hZ.alike Ar1.2.1) (g := (mkF m 2 #[va o0, vi 2] [(.ref o0), (.int 2)])) rfl rfl (hb hby d7_2) _ ?_
    rw [len_of Sz1 Ng1]
    refine XS.isub X0.here hx rfl (hb hby d7_3) rfl ?_
    show Steps p.tables e below (s₁.setTop (mkF m 4 #[va o0, vi 2] [(.int ((2 : Int32) - (2 : Int32)))])) _
    rw [show (((2 : Int32) - (2 : Int32)) : Int32) = (0 : Int32) from by decide]
    refine XS.bipush X0.here hx rfl (hb hby d7_4) ?_
    refine XS.iushr X0.here hx rfl (hb hby d7_6) rfl ?_
    show Steps p.tables e below (s₁.setTop (mkF m 7 #[va o0, vi 2] [(.int (((0 : Int32).toUInt32 >>> ((31 : Int32) &&& 31).toUInt32).toInt32))])) _
    rw [show ((((0 : Int32).toUInt32 >>> ((31 : Int32) &&& 31).toUInt32).toInt32) : Int32) = (0 : Int32) from by decide]
    refine XS.i2b X0.here hx rfl (hb hby d7_7) rfl ?_
    show Steps p.tables e below (s₁.setTop (mkF m 8 #[va o0, vi 2] [(.int (bb (0 : Int32)))])) _
    rw [show ((bb (0 : Int32)) : Int32) = (0 : Int32) from by decide]
    exact retN X0 hx (t := .byte) hrt (by simp) (hb hby d7_8) hr
  · show Q7_0 Z z_COMPACT_STRINGS o0 kk_o0 p0 p1 h0 n0 (some (.int 0)) s₁.heap _
    exact (⟨rfl, N0, e0⟩)
theorem pd_2 : parseMethodDescriptor "([BI)B" = some ⟨[(.array .byte), .int], some .byte⟩ := by decide +kernel
theorem d3_48 : decode jdk_42_method_149_code 48 = .ok (.putfield 15, 3) := by decide +kernel
theorem d3_51 : decode jdk_42_method_149_code 51 = .ok (.aload_n 0, 1) := by decide +kernel
theorem d3_52 : decode jdk_42_method_149_code 52 = .ok (.aload 5, 2) := by decide +kernel
theorem d3_54 : decode jdk_42_method_149_code 54 = .ok (.putfield 9, 3) := by decide +kernel
theorem d3_57 : decode jdk_42_method_149_code 57 = .ok (.return_, 1) := by decide +kernel
def Q3_0 (Z : State) (z_COMPACT_STRINGS : Int32) (o0 : Addr) (o1 : Addr) (kk_o1 : ClassId) (p0 : Int32) (p1 : Int32) (h0 : Heap) (n0 : Nat) (v : Option Value) (h : Heap) (L : List Loc) : Prop := ∃ (b1_3 : Addr), ∃ (k1_3 : ClassId), v = none ∧ Fr n0 L ∧ Keep h0 h [o0] ∧ Exa Z h o0 sC0 ∧ Fld Z h o0 sC0 "coder" "B" (.int 0) ∧ Fld Z h o0 sC0 "value" "[B" (.ref b1_3) ∧ Arv Z h b1_3 k1_3 .byte (2 : Int32) [(.int (bb (bb p0))), (.int (bb (bb p1)))] (.int 0) ∧ h0.size ≤ b1_3
theorem rm3_0 (l : Launch) (Z : State) (a0 : Array Value) (hw : HW Z a0) (ws : List Jvm.Cond) (z_COMPACT_STRINGS : Int32) (o0 : Addr) (o1 : Addr) (kk_o1 : ClassId) (p0 : Int32) (p1 : Int32) (h0 : Heap) (n0 : Nat) (O0 : Old Z n0 h0) (S : SF Z z_COMPACT_STRINGS) (E_o0 : Exa Z h0 o0 sC0) (F_coder_o0 : Fld Z h0 o0 sC0 "coder" "B" (.int 0)) (F_value_o0 : Fld Z h0 o0 sC0 "value" "[B" .null) (V_o1 : Arv Z h0 o1 kk_o1 .char (2 : Int32) [(.int p0), (.int p1)] (.int 0)) (g_o0 : n0 ≤ o0) (hc0 : ¬ ((255 : Int32) < p0)) (hc1 : ¬ ((255 : Int32) < p1)) :
    Pay l Z (⟨sC0, "<init>", "([CIILjava/lang/Void;)V"⟩ : MethodName) ws jdk_42_method_149_code 6 none #[(.ref o0), (.ref o1), (.int 0), (.int 2), .null] h0 ({ frames := 2, cells := 1, slots := 2, locals := 35 } : Room) (Q3_0 Z z_COMPACT_STRINGS o0 o1 kk_o1 p0 p1 h0 n0) := by
  obtain ⟨S_z_COMPACT_STRINGS, hz_z_COMPACT_STRINGS, -⟩ := id S
  refine own_body (plainFor_of_name pn_1) (L0 := #[va o0, va o1, vi 0, vi 2, .val .null, uu]) (fun _ => by first | rfl | (simp [entryFrame, mkF, argsToLocals, Value.category]; done)) ?_
  intro p e s m below meth c s₁ hrt hlk hx hby hml hZ hown0 hnm X0 e0
  have hown : s.vm.findClass sC0 = some m.cls := hown0
  have N0 := Fr.nil n0
  have K0 : Keep h0 h0 [o0] := Keep.refl _ _
  obtain ⟨T1, X1, e1, st1⟩ := initO X0 hx hZ hown (ww hw 18 rfl) (ww hw 19 rfl) (ww hw 20 rfl) e0 (g := (mkF m 1 #[va o0, va o1, vi 0, vi 2, .val .null, uu] [(.ref o0)])) rfl (by rw [hml]; rfl) rfl (hb hby d3_1) (by decide) (W := 0) (by show 2 * 0 + _ ≤ _; exact Nat.le_of_eq rfl) (by decide)
  obtain ⟨T2, X2, e2, st2⟩ := getS2 X1 hx hZ hown (host := "") (Or.inl (ww hw 21 rfl)) Via.refl e1 (S_z_COMPACT_STRINGS.ext O0.2) (g := (mkF m 27 #[va o0, va o1, vi 0, vi 2, .val .null, uu] [])) rfl (hb hby d3_27)
  obtain ⟨_, _, ⟨T3, L3, k3, n3⟩, -, X3, ⟨Lc3, hQ3, l3, y3, z3⟩, st3⟩ := Jvm.LawKit.callS X2 hx (y := (⟨sC2, "compress", "([CII)[B"⟩ : MethodName)) hown (mvT hZ (ww hw 22 rfl)) (mvT hZ (ww hw 23 rfl)) (mvT hZ (ww hw 24 rfl)) (mvT hZ (ww hw 25 rfl)) (by decide) (backOf (W := 0) (rm5_0 l Z a0 hw [] z_COMPACT_STRINGS o1 kk_o1 p0 p1 h0 n0 O0 S V_o1 hc0 hc1) hZ (ww hw 25 rfl) (ww hw 24 rfl) (by decide) (by decide)) (g := (mkF m 36 #[va o0, va o1, vi 0, vi 2, .val .null, uu] [(.int 2), (.int 0), (.ref o1)])) rfl (by rw [hml]; rfl) (argsL := [(.ref o1), (.int 0), (.int 2)]) (rest := []) (lenOf pd_1 rfl) rfl (by show 2 * 0 + _ ≤ _; exact Nat.le_of_eq rfl) (hb hby d3_36) (fun _ _ => ⟨rfl, e2, (by decide : 0 + 1 ≤ _), (by decide : 0 + 2 ≤ _)⟩)
  dsimp only [Pt.U, Pt.locs, Pt.cells, Pt.slots] at X3 l3 y3 z3 st3 hQ3
  subst l3 y3 z3
  obtain ⟨b1_3, k1_3, rfl, Nq3, Kc3, P0_3, P1_3⟩ := hQ3
  have N3 := Fr.app N0 Nq3
  have ne_o0_b1_3 : o0 ≠ b1_3 := Nat.ne_of_lt (Nat.lt_of_lt_of_le E_o0.lt P1_3)
  have ne_o1_b1_3 : o1 ≠ b1_3 := Nat.ne_of_lt (Nat.lt_of_lt_of_le V_o1.lt P1_3)
  have g_b1_3 : n0 ≤ b1_3 := Nat.le_trans (own_old O0) P1_3
  have sz_b1_3 : h0.size ≤ b1_3 := Nat.le_trans K0.1 P1_3
  have O3 := O0.keep Kc3 all0
  have K3 : Keep h0 T3.heap [o0] := K0.trans Kc3 all0
  obtain ⟨_, _, ⟨T4, L4, k4, n4⟩, -, X4, ⟨Lc4, hQ4, l4, y4, z4⟩, st4⟩ := Jvm.LawKit.callS X3 hx (y := (⟨sC2, "coderFromArrayLen", "([BI)B"⟩ : MethodName)) hown (mvT hZ (ww hw 30 rfl)) (mvT hZ (ww hw 31 rfl)) (mvT hZ (ww hw 24 rfl)) (mvT hZ (ww hw 32 rfl)) (by decide) (backOf (W := 1) (rm7_0 l Z a0 hw [] z_COMPACT_STRINGS b1_3 k1_3 (bb (bb p0)) (bb (bb p1)) T3.heap n0 O3 S P0_3) hZ (ww hw 32 rfl) (ww hw 24 rfl) (by decide) (by decide)) (g := (mkF m 45 #[va o0, va o1, vi 0, vi 2, .val .null, va b1_3] [(.int 2), (.ref b1_3), (.ref o0)])) rfl (by rw [hml]; rfl) (argsL := [(.ref b1_3), (.int 2)]) (rest := [(.ref o0)]) (lenOf pd_2 rfl) rfl (by show 2 * 0 + _ ≤ _; exact Nat.le_of_eq rfl) (hb hby d3_45) (fun _ _ => ⟨rfl, rfl, (by decide : 1 + 0 ≤ _), (by decide : 2 + 0 ≤ _)⟩)
  dsimp only [Pt.U, Pt.locs, Pt.cells, Pt.slots] at X4 l4 y4 z4 st4 hQ4
  subst l4 y4 z4
  obtain ⟨rfl, Nq4, e4⟩ := hQ4
  have N4 := Fr.app N3 Nq4
  have fc5 := (F_coder_o0.keep Kc3 nin0)
  have fc6 := (E_o0.keep Kc3)
  obtain ⟨T7, h7, X7, e7, W7, st7⟩ := putFN X4 hx hZ hown (ww hw 33 rfl) Via.refl e4 fc5 fc6 (Or.inr ⟨(ww hw 34 rfl), rfl, hnm⟩) (ww hw 9 rfl) (ty := .byte) (v' := (.int 0)) (by decide) rfl (by decide) (g := (mkF m 48 #[va o0, va o1, vi 0, vi 2, .val .null, va b1_3] [(.int 0), (.ref o0)])) rfl rfl (hb hby d3_48)
  have Fw7 := fc5.same W7
  have O7 := O3.wr W7 g_o0
  have K7 : Keep h0 h7 [o0] := K3.wr W7 (Or.inl (List.mem_of_getElem? (i := 0) rfl))
  have N7 := Fr.snoc X7 N4 g_o0
  have fc8 := ((F_value_o0.keep Kc3 nin0).other W7 (Or.inr (slot_ne (Or.inr (ww hw 36 rfl)) (Or.inr (ww hw 34 rfl)) (by decide) (t := (.array .byte)) (t' := .byte) (by decide) (by decide))))
  have fc9 := (fc6.wr W7)
  obtain ⟨T10, h10, X10, e10, W10, st10⟩ := putF X7 hx hZ hown (host := "") (Or.inl (ww hw 35 rfl)) Via.refl e7 fc8 fc9 (Or.inr ⟨(ww hw 36 rfl), rfl, hnm⟩) (ww hw 9 rfl) (ty := (.array .byte)) (by decide) rfl rfl (g := (mkF m 54 #[va o0, va o1, vi 0, vi 2, .val .null, va b1_3] [(.ref b1_3), (.ref o0)])) rfl rfl (hb hby d3_54)
  have Fw10 := fc8.same W10
  have O10 := O7.wr W10 g_o0
  have K10 : Keep h0 h10 [o0] := K7.wr W10 (Or.inl (List.mem_of_getElem? (i := 0) rfl))
  have N10 := Fr.snoc X10 N7 g_o0
  obtain ⟨fs, hr, hrun, hended, hW, hsame⟩ := X10.leave (v := none) (fun _ => rfl)
  have fc11 := (fc9.wr W10)
  have fc12 := (Fw7.other W10 (Or.inr (slot_ne (Or.inr (ww hw 34 rfl)) (Or.inr (ww hw 36 rfl)) (by decide) (t := .byte) (t' := (.array .byte)) (by decide) (by decide))))
  have fc13 := ((P0_3.other W7 (Ne.symm ne_o0_b1_3)).other W10 (Ne.symm ne_o0_b1_3))
  refine ⟨_, _, ?_, hrun, hended, _, _, rfl, ?_, ⟨_, rfl⟩, hW, hsame.mono (by decide) (by decide)⟩
  · show Steps p.tables e below (s₁.setTop (mkF m 0 #[va o0, va o1, vi 0, vi 2, .val .null, uu] [])) _
    refine XS.aloadN X0.here hx rfl (hb hby d3_0) rfl rfl ?_
    refine st1 _ ?_
    refine XS.iloadN X1.here hx rfl (hb hby d3_4) rfl ?_
    refine XS.ifYes X1.here hx rfl (pc0 := 5) (pc' := 27) rfl (hb hby d3_5) rfl ((if0 _ _).trans (feq (by decide : ¬ ((2 : Int32) = (0 : Int32)))).2) (by decide) (by decide) ?_
    refine st2 _ ?_
    refine XS.ifNo X2.here hx rfl (hb hby d3_30) rfl ((if0 _ _).trans (feq hz_z_COMPACT_STRINGS).1) ?_
    refine XS.aloadN X2.here hx rfl (hb hby d3_33) rfl rfl ?_
    refine XS.iloadN X2.here hx rfl (hb hby d3_34) rfl ?_
    show Steps p.tables e below (T2.setTop (mkF m 35 #[va o0, va o1, vi 0, vi 2, .val .null, uu] [(.int 0), (.ref o1)])) _
    refine XS.iloadN X2.here hx rfl (hb hby d3_35) rfl ?_
    refine st3 _ ?_
    refine XS.astore X3.here hx rfl (hb hby d3_39) rfl rfl (l' := #[va o0, va o1, vi 0, vi 2, .val .null, va b1_3]) rfl ?_
    refine XS.aloadN X3.here hx rfl (hb hby d3_41) rfl rfl ?_
    refine XS.aload X3.here hx rfl (hb hby d3_42) rfl rfl ?_
    refine XS.iloadN X3.here hx rfl (hb hby d3_44) rfl ?_
    refine st4 _ ?_
    refine st7 _ ?_
    show Steps p.tables e below (T7.setTop (mkF m 51 #[va o0, va o1, vi 0, vi 2, .val .null, va b1_3] [])) _
    refine XS.aloadN X7.here hx rfl (hb hby d3_51) rfl rfl ?_
    refine XS.aload X7.here hx rfl (hb hby d3_52) rfl rfl ?_
    refine st10 _ ?_
    exact X10.returnOut hx hrt (hb hby d3_57) hr
  · show Q3_0 Z z_COMPACT_STRINGS o0 o1 kk_o1 p0 p1 h0 n0 none T10.heap _
    rw [e10]; exact ⟨b1_3, k1_3, rfl, N10, K10, fc11, fc12, Fw10, fc13, sz_b1_3⟩
theorem pd_3 : parseMethodDescriptor "([CIILjava/lang/Void;)V" = some ⟨[(.array .char), .int, .int, (.object "java/lang/Void")], none⟩ := by decide +kernel
theorem d2_9 : decode jdk_42_method_3_code 9 = .ok (.return_, 1) := by decide +kernel
def Q2_0 (Z : State) (z_COMPACT_STRINGS : Int32) (o0 : Addr) (o1 : Addr) (kk_o1 : ClassId) (p0 : Int32) (p1 : Int32) (h0 : Heap) (n0 : Nat) (v : Option Value) (h : Heap) (L : List Loc) : Prop := ∃ (b1_3_2 : Addr), ∃ (k1_3_2 : ClassId), v = none ∧ Fr n0 L ∧ Keep h0 h [o0] ∧ Exa Z h o0 sC0 ∧ Fld Z h o0 sC0 "coder" "B" (.int 0) ∧ Fld Z h o0 sC0 "value" "[B" (.ref b1_3_2) ∧ Arv Z h b1_3_2 k1_3_2 .byte (2 : Int32) [(.int (bb (bb p0))), (.int (bb (bb p1)))] (.int 0) ∧ h0.size ≤ b1_3_2
theorem rm2_0 (l : Launch) (Z : State) (a0 : Array Value) (hw : HW Z a0) (ws : List Jvm.Cond) (z_COMPACT_STRINGS : Int32) (o0 : Addr) (o1 : Addr) (kk_o1 : ClassId) (p0 : Int32) (p1 : Int32) (h0 : Heap) (n0 : Nat) (O0 : Old Z n0 h0) (S : SF Z z_COMPACT_STRINGS) (E_o0 : Exa Z h0 o0 sC0) (F_coder_o0 : Fld Z h0 o0 sC0 "coder" "B" (.int 0)) (F_value_o0 : Fld Z h0 o0 sC0 "value" "[B" .null) (V_o1 : Arv Z h0 o1 kk_o1 .char (2 : Int32) [(.int p0), (.int p1)] (.int 0)) (g_o0 : n0 ≤ o0) (hc0 : ¬ ((255 : Int32) < p0)) (hc1 : ¬ ((255 : Int32) < p1)) :
    Pay l Z (⟨sC0, "<init>", "([C)V"⟩ : MethodName) ws jdk_42_method_3_code 2 none #[(.ref o0), (.ref o1)] h0 ({ frames := 3, cells := 1, slots := 2, locals := 52 } : Room) (Q2_0 Z z_COMPACT_STRINGS o0 o1 kk_o1 p0 p1 h0 n0) := by
  refine own_body (plainFor_of_name pn_1) (L0 := #[va o0, va o1]) (fun _ => by first | rfl | (simp [entryFrame, mkF, argsToLocals, Value.category]; done)) ?_
  intro p e s m below meth c s₁ hrt hlk hx hby hml hZ hown0 hnm X0 e0
  have hown : s.vm.findClass sC0 = some m.cls := hown0
  have N0 := Fr.nil n0
  have K0 : Keep h0 h0 [o0] := Keep.refl _ _
  obtain ⟨cl1, Ar1, qk1, Sz1, Ng1, Hh1, Gg1⟩ := id V_o1
  obtain ⟨_, _, ⟨T2, L2, k2, n2⟩, -, X2, ⟨Lc2, hQ2, l2, y2, z2⟩, st2⟩ := X0.specialBack hx (y := (⟨sC0, "<init>", "([CIILjava/lang/Void;)V"⟩ : MethodName)) rfl hown (mvT hZ (ww hw 14 rfl)) (mvT hZ (ww hw 15 rfl)) (mvT hZ (ww hw 17 rfl)) (by decide) (backOf (W := 0) (rm3_0 l Z a0 hw [] z_COMPACT_STRINGS o0 o1 kk_o1 p0 p1 h0 n0 O0 S E_o0 F_coder_o0 F_value_o0 V_o1 g_o0 hc0 hc1) hZ (ww hw 17 rfl) (ww hw 10 rfl) (by decide) (by decide)) (g := (mkF m 6 #[va o0, va o1] [.null, (.int 2), (.int 0), (.ref o1), (.ref o0)])) rfl (by rw [hml]; rfl) (Steps.refl _) (a := o0) (argsL := [(.ref o1), (.int 0), (.int 2), .null]) (rest := []) (lenOf pd_3 rfl) rfl (by show 2 * 0 + _ ≤ _; exact Nat.le_of_eq rfl) (hb hby d2_6) (fun _ _ => ⟨rfl, e0, (by decide : 0 + 1 ≤ _), (by decide : 0 + 2 ≤ _)⟩)
  dsimp only [Pt.U, Pt.locs, Pt.cells, Pt.slots] at X2 l2 y2 z2 st2 hQ2
  subst l2 y2 z2
  obtain ⟨b1_3_2, k1_3_2, rfl, Nq2, Kc2, P0_2, P1_2, P2_2, P3_2, P4_2⟩ := hQ2
  have N2 := Fr.app N0 Nq2
  have ne_o0_b1_3_2 : o0 ≠ b1_3_2 := Nat.ne_of_lt (Nat.lt_of_lt_of_le E_o0.lt P4_2)
  have ne_o1_b1_3_2 : o1 ≠ b1_3_2 := Nat.ne_of_lt (Nat.lt_of_lt_of_le V_o1.lt P4_2)
  have g_b1_3_2 : n0 ≤ b1_3_2 := Nat.le_trans (own_old O0) P4_2
  have sz_b1_3_2 : h0.size ≤ b1_3_2 := Nat.le_trans K0.1 P4_2
  have O2 := O0.keep Kc2 (allS g_o0 all0)
  have K2 : Keep h0 T2.heap [o0] := K0.trans Kc2 (allS (Or.inl (List.mem_of_getElem? (i := 0) rfl)) all0)
  obtain ⟨fs, hr, hrun, hended, hW, hsame⟩ := X2.leave (v := none) (fun _ => rfl)
  refine ⟨_, _, ?_, hrun, hended, _, _, rfl, ?_, ⟨_, rfl⟩, hW, hsame.mono (by decide) (by decide)⟩
  · show Steps p.tables e below (s₁.setTop (mkF m 0 #[va o0, va o1] [])) _
    refine XS.aloadN X0.here hx rfl (hb hby d2_0) rfl rfl ?_
    refine XS.aloadN X0.here hx rfl (hb hby d2_1) rfl rfl ?_
    refine XS.iconst X0.here hx rfl (hb hby d2_2) ?_
    refine XS.aloadN X0.here hx rfl (hb hby d2_3) rfl rfl ?_
    refine X0.arraylength hx (by rw [e0]; exact Ar1.1) (State.isArrayOf_alike hZ.alike Ar1.2.1) (g := (mkF m 4 #[va o0, va o1] [(.ref o1), (.int 0), (.ref o1), (.ref o0)])) rfl rfl (hb hby d2_4) _ ?_
    rw [len_of Sz1 Ng1]
    refine XS.aconstNull X0.here hx rfl (hb hby d2_5) ?_
    refine st2.trans ?_
    exact X2.returnOut hx hrt (hb hby d2_9) hr
  · show Q2_0 Z z_COMPACT_STRINGS o0 o1 kk_o1 p0 p1 h0 n0 none T2.heap _
    exact (⟨b1_3_2, k1_3_2, rfl, N2, K2, P0_2, P1_2, P2_2, P3_2, sz_b1_3_2⟩)
theorem pd_4 : parseMethodDescriptor "([C)V" = some ⟨[(.array .char)], none⟩ := by decide +kernel
theorem d1_33 : decode method_2_code 33 = .ok (.areturn, 1) := by decide +kernel
def Q1_0 (Z : State) (z_COMPACT_STRINGS : Int32) (p0 : Int32) (h0 : Heap) (n0 : Nat) (v : Option Value) (h : Heap) (L : List Loc) : Prop := ∃ (b6 : Addr), ∃ (b1_3_2_8 : Addr), ∃ (k1_3_2_8 : ClassId), v = (some (.ref b6)) ∧ Fr n0 L ∧ Keep h0 h [] ∧ Exa Z h b6 sC0 ∧ Fld Z h b6 sC0 "coder" "B" (.int 0) ∧ Fld Z h b6 sC0 "value" "[B" (.ref b1_3_2_8) ∧ Arv Z h b1_3_2_8 k1_3_2_8 .byte (2 : Int32) [(.int (bb (bb (cc (cc (p0 &&& (255 : Int32))))))), (.int (bb (bb (cc (cc (((p0.toUInt32 >>> ((8 : Int32) &&& 31).toUInt32).toInt32) &&& (255 : Int32)))))))] (.int 0) ∧ h0.size ≤ b6 ∧ h0.size ≤ b1_3_2_8 ∧ b6 ≠ b1_3_2_8
theorem rm1_0 (l : Launch) (Z : State) (a0 : Array Value) (hw : HW Z a0) (ws : List Jvm.Cond) (z_COMPACT_STRINGS : Int32) (p0 : Int32) (h0 : Heap) (n0 : Nat) (O0 : Old Z n0 h0) (S : SF Z z_COMPACT_STRINGS) (hc0 : ¬ ((255 : Int32) < (cc (cc (p0 &&& (255 : Int32)))))) (hc1 : ¬ ((255 : Int32) < (cc (cc (((p0.toUInt32 >>> ((8 : Int32) &&& 31).toUInt32).toInt32) &&& (255 : Int32)))))) :
    Pay l Z My1 ws method_2_code 2 (some (.object sC0)) #[(.int p0)] h0 ({ frames := 4, cells := 3, slots := 8, locals := 66 } : Room) (Q1_0 Z z_COMPACT_STRINGS p0 h0 n0) := by
  refine own_body (plainFor_of_name pn_0) (L0 := #[vi p0, uu]) (fun _ => by first | rfl | (simp [entryFrame, mkF, argsToLocals, Value.category]; done)) ?_
  intro p e s m below meth c s₁ hrt hlk hx hby hml hZ hown0 hnm X0 e0
  have hown : s.vm.findClass "com/example/darogan/darogan/FrameEqualsPinLaw" = some m.cls := hown0
  have N0 := Fr.nil n0
  have K0 : Keep h0 h0 [] := Keep.refl _ _
  obtain ⟨T1, h1, k1, X1, e1, E1, A1, st1⟩ := newP X0 hx hZ (ww hw 7 rfl) e0 (g := (mkF m 1 #[vi p0, uu] [(.int 2)])) rfl (hb hby d1_1) rfl (by decide) (cap := 2) (by decide) (by decide) (by decide) (by decide)
  obtain ⟨b1, qs1⟩ : ∃ z, z = h0.size := ⟨_, rfl⟩
  rw [← qs1] at A1 st1
  have g_b1 : n0 ≤ b1 := Nat.le_trans (own_old O0) (Nat.le_of_eq qs1.symm)
  have sz_b1 : h0.size ≤ b1 := Nat.le_trans K0.1 (Nat.le_of_eq qs1.symm)
  have O1 := O0.ext E1
  have K1 : Keep h0 h1 [] := K0.ext E1
  have V_b1 : Arv Z h1 b1 k1 .char (2 : Int32) [(.int 0), (.int 0)] (.int 0) := (Arv.new A1 (by decide)).pad (pad_rep [] (.int 0) 2)
  obtain ⟨cl2, Ar2, qk2, Sz2, Ng2, Hh2, Gg2⟩ := id V_b1
  have hin2_0 : ¬ ((0 : Int32) < 0 ∨ cl2.slots.size ≤ ((0 : Int32)).toNatClampNeg) := inb_of Sz2 ⟨by decide, by decide⟩
  obtain ⟨T3, h3, X3, e3, W3, st3⟩ := stC X1 hx hZ e1 Ar2 (j := (0 : Int32)) hin2_0 (g := (mkF m 12 #[vi p0, va b1] [(.int (cc (p0 &&& (255 : Int32)))), (.int 0), (.ref b1)])) rfl rfl (hb hby d1_12)
  have V3 : Arv Z h3 b1 k1 .char (2 : Int32) [(.int (cc (cc (p0 &&& (255 : Int32))))), (.int 0)] (.int 0) := Arv.set Ar2 qk2 Sz2 Ng2 Hh2 Gg2 (fits_nar_char _) W3 0 rfl (Nat.le_of_ble_eq_true rfl)
  have O3 := O1.wr W3 g_b1
  have K3 : Keep h0 h3 [] := K1.wr W3 (Or.inr sz_b1)
  have N3 := Fr.snoc X3 N0 g_b1
  obtain ⟨cl4, Ar4, qk4, Sz4, Ng4, Hh4, Gg4⟩ := id V3
  have hin4_1 : ¬ ((1 : Int32) < 0 ∨ cl4.slots.size ≤ ((1 : Int32)).toNatClampNeg) := inb_of Sz4 ⟨by decide, by decide⟩
  obtain ⟨T5, h5, X5, e5, W5, st5⟩ := stC X3 hx hZ e3 Ar4 (j := (1 : Int32)) hin4_1 (g := (mkF m 24 #[vi p0, va b1] [(.int (cc (((p0.toUInt32 >>> ((8 : Int32) &&& 31).toUInt32).toInt32) &&& (255 : Int32)))), (.int 1), (.ref b1)])) rfl rfl (hb hby d1_24)
  have V5 : Arv Z h5 b1 k1 .char (2 : Int32) [(.int (cc (cc (p0 &&& (255 : Int32))))), (.int (cc (cc (((p0.toUInt32 >>> ((8 : Int32) &&& 31).toUInt32).toInt32) &&& (255 : Int32)))))] (.int 0) := Arv.set Ar4 qk4 Sz4 Ng4 Hh4 Gg4 (fits_nar_char _) W5 1 rfl (Nat.le_of_ble_eq_true rfl)
  have O5 := O3.wr W5 g_b1
  have K5 : Keep h0 h5 [] := K3.wr W5 (Or.inr sz_b1)
  have N5 := Fr.snoc X5 N3 g_b1
  obtain ⟨T6, h6, X6, e6, E6, A6, D6, -, st6⟩ := newO X5 hx hZ hown (ww hw 8 rfl) (ww hw 9 rfl) (ww hw 10 rfl) e5 (g := (mkF m 25 #[vi p0, va b1] [])) rfl (hb hby d1_25) (by decide) (by decide)
  obtain ⟨b6, qs6⟩ : ∃ z, z = h5.size := ⟨_, rfl⟩
  rw [← qs6] at A6 D6 st6
  have ne_b1_b6 : b1 ≠ b6 := Nat.ne_of_lt (Nat.lt_of_lt_of_le V5.lt (Nat.le_of_eq qs6.symm))
  have g_b6 : n0 ≤ b6 := Nat.le_trans (own_old O5) (Nat.le_of_eq qs6.symm)
  have sz_b6 : h0.size ≤ b6 := Nat.le_trans K5.1 (Nat.le_of_eq qs6.symm)
  have O6 := O5.ext E6
  have K6 : Keep h0 h6 [] := K5.ext E6
  have F_coder_b6 : Fld Z h6 b6 sC0 "coder" "B" (.int 0) := D6 (Or.inr (ww hw 34 rfl)) (ty := .byte) (by decide)
  have F_value_b6 : Fld Z h6 b6 sC0 "value" "[B" .null := D6 (Or.inr (ww hw 36 rfl)) (ty := (.array .byte)) (by decide)
  have fc7 := (V5.ext E6)
  obtain ⟨_, _, ⟨T8, L8, k8, n8⟩, -, X8, ⟨Lc8, hQ8, l8, y8, z8⟩, st8⟩ := X6.specialBack hx (y := (⟨sC0, "<init>", "([C)V"⟩ : MethodName)) rfl hown (mvT hZ (ww hw 11 rfl)) (mvT hZ (ww hw 12 rfl)) (mvT hZ (ww hw 13 rfl)) (by decide) (backOf (W := 1) (rm2_0 l Z a0 hw [] z_COMPACT_STRINGS b6 b1 k1 (cc (cc (p0 &&& (255 : Int32)))) (cc (cc (((p0.toUInt32 >>> ((8 : Int32) &&& 31).toUInt32).toInt32) &&& (255 : Int32)))) h6 n0 O6 S A6 F_coder_b6 F_value_b6 fc7 g_b6 hc0 hc1) hZ (ww hw 13 rfl) (ww hw 10 rfl) (by decide) (by decide)) (g := (mkF m 30 #[vi p0, va b1] [(.ref b1), (.ref b6), (.ref b6)])) rfl (by rw [hml]; rfl) (Steps.refl _) (a := b6) (argsL := [(.ref b1)]) (rest := [(.ref b6)]) (lenOf pd_4 rfl) rfl (by show 2 * 0 + _ ≤ _; exact Nat.le_of_eq rfl) (hb hby d1_30) (fun _ _ => ⟨rfl, e6, (by decide : 2 + 1 ≤ _), (by decide : 6 + 2 ≤ _)⟩)
  dsimp only [Pt.U, Pt.locs, Pt.cells, Pt.slots] at X8 l8 y8 z8 st8 hQ8
  subst l8 y8 z8
  obtain ⟨b1_3_2_8, k1_3_2_8, rfl, Nq8, Kc8, P0_8, P1_8, P2_8, P3_8, P4_8⟩ := hQ8
  have N8 := Fr.app N5 Nq8
  have ne_b1_b1_3_2_8 : b1 ≠ b1_3_2_8 := Nat.ne_of_lt (Nat.lt_of_lt_of_le fc7.lt P4_8)
  have ne_b6_b1_3_2_8 : b6 ≠ b1_3_2_8 := Nat.ne_of_lt (Nat.lt_of_lt_of_le A6.lt P4_8)
  have g_b1_3_2_8 : n0 ≤ b1_3_2_8 := Nat.le_trans (own_old O6) P4_8
  have sz_b1_3_2_8 : h0.size ≤ b1_3_2_8 := Nat.le_trans K6.1 P4_8
  have O8 := O6.keep Kc8 (allS g_b6 all0)
  have K8 : Keep h0 T8.heap [] := K6.trans Kc8 (allS (Or.inr sz_b6) all0)
  obtain ⟨fs, hr, hrun, hended, hW, hsame⟩ := X8.leave (v := (some (.ref b6))) (fun h => by rw [hrt] at h; cases h)
  refine ⟨_, _, ?_, hrun, hended, _, _, rfl, ?_, ⟨_, rfl⟩, hW, hsame.mono (by decide) (by decide)⟩
  · show Steps p.tables e below (s₁.setTop (mkF m 0 #[vi p0, uu] [])) _
    refine XS.iconst X0.here hx rfl (hb hby d1_0) ?_
    refine st1 _ ?_
    refine XS.astoreN X1.here hx rfl (hb hby d1_3) rfl rfl (l' := #[vi p0, va b1]) rfl ?_
    refine XS.aloadN X1.here hx rfl (hb hby d1_4) rfl rfl ?_
    refine XS.iconst X1.here hx rfl (hb hby d1_5) ?_
    refine XS.iloadN X1.here hx rfl (hb hby d1_6) rfl ?_
    refine XS.sipush X1.here hx rfl (hb hby d1_7) ?_
    refine XS.iand X1.here hx rfl (hb hby d1_10) rfl ?_
    show Steps p.tables e below (T1.setTop (mkF m 11 #[vi p0, va b1] [(.int (p0 &&& (255 : Int32))), (.int 0), (.ref b1)])) _
    refine XS.i2c X1.here hx rfl (hb hby d1_11) rfl ?_
    refine st3 _ ?_
    refine XS.aloadN X3.here hx rfl (hb hby d1_13) rfl rfl ?_
    refine XS.iconst X3.here hx rfl (hb hby d1_14) ?_
    refine XS.iloadN X3.here hx rfl (hb hby d1_15) rfl ?_
    refine XS.bipush X3.here hx rfl (hb hby d1_16) ?_
    refine XS.iushr X3.here hx rfl (hb hby d1_18) rfl ?_
    refine XS.sipush X3.here hx rfl (hb hby d1_19) ?_
    show Steps p.tables e below (T3.setTop (mkF m 22 #[vi p0, va b1] [(.int 255), (.int ((p0.toUInt32 >>> ((8 : Int32) &&& 31).toUInt32).toInt32)), (.int 1), (.ref b1)])) _
    refine XS.iand X3.here hx rfl (hb hby d1_22) rfl ?_
    refine XS.i2c X3.here hx rfl (hb hby d1_23) rfl ?_
    refine st5 _ ?_
    refine st6 _ ?_
    refine XS.dup X6.here hx rfl (hb hby d1_28) rfl rfl ?_
    refine XS.aloadN X6.here hx rfl (hb hby d1_29) rfl rfl ?_
    refine st8.trans ?_
    exact retOut X8 hx (t := (.object sC0)) (i := .areturn) hrt rfl (Or.inr (Or.inr (Or.inr (Or.inr ⟨rfl, rfl, rfl⟩)))) (hb hby d1_33) hr
  · show Q1_0 Z z_COMPACT_STRINGS p0 h0 n0 (some (.ref b6)) T8.heap _
    exact (⟨b6, b1_3_2_8, k1_3_2_8, rfl, N8, K8, P0_8, P1_8, P2_8, P3_8, sz_b6, sz_b1_3_2_8, ne_b6_b1_3_2_8⟩)
theorem pd_5 : parseMethodDescriptor "(I)Ljava/lang/String;" = some ⟨[.int], some (.object sC0)⟩ := by decide +kernel
theorem pn_3 : plainName "com/example/darogan/darogan/CallSite$Frame" = true := by first | (simp [plainName, overriddenIn]; done) | decide +kernel
theorem d8_0 : decode prog_3_method_2_code 0 = .ok (.aload_n 0, 1) := by decide +kernel
theorem d8_1 : decode prog_3_method_2_code 1 = .ok (.invokespecial 1, 3) := by decide +kernel
theorem pn_4 : plainName "java/lang/Record" = true := by first | (simp [plainName, overriddenIn]; done) | decide +kernel
theorem d9_0 : decode jdk_30_method_1_code 0 = .ok (.aload_n 0, 1) := by decide +kernel
theorem d9_1 : decode jdk_30_method_1_code 1 = .ok (.invokespecial 1, 3) := by decide +kernel
theorem d9_4 : decode jdk_30_method_1_code 4 = .ok (.return_, 1) := by decide +kernel
def Q9_0 (Z : State) (z_COMPACT_STRINGS : Int32) (o0 : Addr) (h0 : Heap) (n0 : Nat) (v : Option Value) (h : Heap) (L : List Loc) : Prop := v = none ∧ Fr n0 L ∧ h = h0
theorem rm9_0 (l : Launch) (Z : State) (a0 : Array Value) (hw : HW Z a0) (ws : List Jvm.Cond) (z_COMPACT_STRINGS : Int32) (o0 : Addr) (h0 : Heap) (n0 : Nat) (O0 : Old Z n0 h0) (S : SF Z z_COMPACT_STRINGS) :
    Pay l Z (⟨"java/lang/Record", "<init>", "()V"⟩ : MethodName) ws jdk_30_method_1_code 1 none #[(.ref o0)] h0 ({ frames := 1, cells := 0, slots := 0, locals := 12 } : Room) (Q9_0 Z z_COMPACT_STRINGS o0 h0 n0) := by
  refine own_body (plainFor_of_name pn_4) (L0 := #[va o0]) (fun _ => by first | rfl | (simp [entryFrame, mkF, argsToLocals, Value.category]; done)) ?_
  intro p e s m below meth c s₁ hrt hlk hx hby hml hZ hown0 hnm X0 e0
  have hown : s.vm.findClass "java/lang/Record" = some m.cls := hown0
  have N0 := Fr.nil n0
  have K0 : Keep h0 h0 [] := Keep.refl _ _
  obtain ⟨T1, X1, e1, st1⟩ := initO X0 hx hZ hown (ww hw 45 rfl) (ww hw 19 rfl) (ww hw 20 rfl) e0 (g := (mkF m 1 #[va o0] [(.ref o0)])) rfl (by rw [hml]; rfl) rfl (hb hby d9_1) (by decide) (W := 0) (by show 2 * 0 + _ ≤ _; exact Nat.le_of_eq rfl) (by decide)
  obtain ⟨fs, hr, hrun, hended, hW, hsame⟩ := X1.leave (v := none) (fun _ => rfl)
  refine ⟨_, _, ?_, hrun, hended, _, _, rfl, ?_, ⟨_, rfl⟩, hW, hsame.mono (by decide) (by decide)⟩
  · show Steps p.tables e below (s₁.setTop (mkF m 0 #[va o0] [])) _
    refine XS.aloadN X0.here hx rfl (hb hby d9_0) rfl rfl ?_
    refine st1 _ ?_
    exact X1.returnOut hx hrt (hb hby d9_4) hr
  · show Q9_0 Z z_COMPACT_STRINGS o0 h0 n0 none T1.heap _
    exact (⟨rfl, N0, e1⟩)
theorem pd_6 : parseMethodDescriptor "()V" = some ⟨[], none⟩ := by decide +kernel
theorem d8_4 : decode prog_3_method_2_code 4 = .ok (.aload_n 0, 1) := by decide +kernel
theorem d8_5 : decode prog_3_method_2_code 5 = .ok (.aload_n 1, 1) := by decide +kernel
theorem d8_6 : decode prog_3_method_2_code 6 = .ok (.putfield 7, 3) := by decide +kernel
theorem d8_9 : decode prog_3_method_2_code 9 = .ok (.aload_n 0, 1) := by decide +kernel
theorem d8_10 : decode prog_3_method_2_code 10 = .ok (.aload_n 2, 1) := by decide +kernel
theorem d8_11 : decode prog_3_method_2_code 11 = .ok (.putfield 13, 3) := by decide +kernel
theorem d8_14 : decode prog_3_method_2_code 14 = .ok (.aload_n 0, 1) := by decide +kernel
theorem d8_15 : decode prog_3_method_2_code 15 = .ok (.aload_n 3, 1) := by decide +kernel
theorem d8_16 : decode prog_3_method_2_code 16 = .ok (.putfield 16, 3) := by decide +kernel
theorem d8_19 : decode prog_3_method_2_code 19 = .ok (.aload_n 0, 1) := by decide +kernel
theorem d8_20 : decode prog_3_method_2_code 20 = .ok (.iload 4, 2) := by decide +kernel
theorem d8_22 : decode prog_3_method_2_code 22 = .ok (.putfield 19, 3) := by decide +kernel
theorem d8_25 : decode prog_3_method_2_code 25 = .ok (.return_, 1) := by decide +kernel
def Q8_0 (Z : State) (z_COMPACT_STRINGS : Int32) (o0 : Addr) (o1 : Addr) (o2 : Addr) (o3 : Addr) (o4 : Addr) (o5 : Addr) (o6 : Addr) (kk_o2 : ClassId) (kk_o4 : ClassId) (kk_o6 : ClassId) (p6 : Int32) (p0 : Int32) (p1 : Int32) (p2 : Int32) (p3 : Int32) (p4 : Int32) (p5 : Int32) (h0 : Heap) (n0 : Nat) (v : Option Value) (h : Heap) (L : List Loc) : Prop := v = none ∧ Fr n0 L ∧ Keep h0 h [o0] ∧ Exa Z h o0 sC1 ∧ Fld Z h o0 sC1 "className" "Ljava/lang/String;" (.ref o1) ∧ Fld Z h o0 sC1 "descriptor" "Ljava/lang/String;" (.ref o5) ∧ Fld Z h o0 sC1 "instruction" "I" (.int p6) ∧ Fld Z h o0 sC1 "method" "Ljava/lang/String;" (.ref o3)
theorem rm8_0 (l : Launch) (Z : State) (a0 : Array Value) (hw : HW Z a0) (ws : List Jvm.Cond) (z_COMPACT_STRINGS : Int32) (o0 : Addr) (o1 : Addr) (o2 : Addr) (o3 : Addr) (o4 : Addr) (o5 : Addr) (o6 : Addr) (kk_o2 : ClassId) (kk_o4 : ClassId) (kk_o6 : ClassId) (p6 : Int32) (p0 : Int32) (p1 : Int32) (p2 : Int32) (p3 : Int32) (p4 : Int32) (p5 : Int32) (h0 : Heap) (n0 : Nat) (O0 : Old Z n0 h0) (S : SF Z z_COMPACT_STRINGS) (E_o0 : Exa Z h0 o0 sC1) (F_className_o0 : Fld Z h0 o0 sC1 "className" "Ljava/lang/String;" .null) (F_descriptor_o0 : Fld Z h0 o0 sC1 "descriptor" "Ljava/lang/String;" .null) (F_instruction_o0 : Fld Z h0 o0 sC1 "instruction" "I" (.int 0)) (F_method_o0 : Fld Z h0 o0 sC1 "method" "Ljava/lang/String;" .null) (g_o0 : n0 ≤ o0) :
    Pay l Z (⟨sC1, "<init>", "(Ljava/lang/String;Ljava/lang/String;Ljava/lang/String;I)V"⟩ : MethodName) ws prog_3_method_2_code 5 none #[(.ref o0), (.ref o1), (.ref o3), (.ref o5), (.int p6)] h0 ({ frames := 2, cells := 0, slots := 0, locals := 24 } : Room) (Q8_0 Z z_COMPACT_STRINGS o0 o1 o2 o3 o4 o5 o6 kk_o2 kk_o4 kk_o6 p6 p0 p1 p2 p3 p4 p5 h0 n0) := by
  refine own_body (plainFor_of_name pn_3) (L0 := #[va o0, va o1, va o3, va o5, vi p6]) (fun _ => by first | rfl | (simp [entryFrame, mkF, argsToLocals, Value.category]; done)) ?_
  intro p e s m below meth c s₁ hrt hlk hx hby hml hZ hown0 hnm X0 e0
  have hown : s.vm.findClass sC1 = some m.cls := hown0
  have N0 := Fr.nil n0
  have K0 : Keep h0 h0 [o0] := Keep.refl _ _
  obtain ⟨_, _, ⟨T1, L1, k1, n1⟩, -, X1, ⟨Lc1, hQ1, l1, y1, z1⟩, st1⟩ := X0.specialBack hx (y := (⟨"java/lang/Record", "<init>", "()V"⟩ : MethodName)) rfl hown (mvT hZ (ww hw 40 rfl)) (mvT hZ (ww hw 41 rfl)) (mvT hZ (ww hw 44 rfl)) (by decide) (backOf (W := 0) (rm9_0 l Z a0 hw [] z_COMPACT_STRINGS o0 h0 n0 O0 S) hZ (ww hw 44 rfl) (ww hw 43 rfl) (by decide) (by decide)) (g := (mkF m 1 #[va o0, va o1, va o3, va o5, vi p6] [(.ref o0)])) rfl (by rw [hml]; rfl) (Steps.refl _) (a := o0) (argsL := []) (rest := []) (lenOf pd_6 rfl) rfl (by show 2 * 0 + _ ≤ _; exact Nat.le_of_eq rfl) (hb hby d8_1) (fun _ _ => ⟨rfl, e0, (by decide : 0 + 0 ≤ _), (by decide : 0 + 0 ≤ _)⟩)
  dsimp only [Pt.U, Pt.locs, Pt.cells, Pt.slots] at X1 l1 y1 z1 st1 hQ1
  subst l1 y1 z1
  obtain ⟨rfl, Nq1, e1⟩ := hQ1
  have N1 := Fr.app N0 Nq1
  obtain ⟨T2, h2, X2, e2, W2, st2⟩ := putF X1 hx hZ hown (host := "") (Or.inl (ww hw 46 rfl)) Via.refl e1 F_className_o0 E_o0 (Or.inr ⟨(ww hw 47 rfl), rfl, hnm⟩) (ww hw 1 rfl) (ty := (.object sC0)) (by decide) rfl rfl (g := (mkF m 6 #[va o0, va o1, va o3, va o5, vi p6] [(.ref o1), (.ref o0)])) rfl rfl (hb hby d8_6)
  have Fw2 := F_className_o0.same W2
  have O2 := O0.wr W2 g_o0
  have K2 : Keep h0 h2 [o0] := K0.wr W2 (Or.inl (List.mem_of_getElem? (i := 0) rfl))
  have N2 := Fr.snoc X2 N1 g_o0
  have fc3 := (F_method_o0.other W2 (Or.inr (slot_ne (Or.inr (ww hw 49 rfl)) (Or.inr (ww hw 47 rfl)) (by decide) (t := (.object sC0)) (t' := (.object sC0)) (by decide) (by decide))))
  have fc4 := (E_o0.wr W2)
  obtain ⟨T5, h5, X5, e5, W5, st5⟩ := putF X2 hx hZ hown (host := "") (Or.inl (ww hw 48 rfl)) Via.refl e2 fc3 fc4 (Or.inr ⟨(ww hw 49 rfl), rfl, hnm⟩) (ww hw 1 rfl) (ty := (.object sC0)) (by decide) rfl rfl (g := (mkF m 11 #[va o0, va o1, va o3, va o5, vi p6] [(.ref o3), (.ref o0)])) rfl rfl (hb hby d8_11)
  have Fw5 := fc3.same W5
  have O5 := O2.wr W5 g_o0
  have K5 : Keep h0 h5 [o0] := K2.wr W5 (Or.inl (List.mem_of_getElem? (i := 0) rfl))
  have N5 := Fr.snoc X5 N2 g_o0
  have fc6 := ((F_descriptor_o0.other W2 (Or.inr (slot_ne (Or.inr (ww hw 51 rfl)) (Or.inr (ww hw 47 rfl)) (by decide) (t := (.object sC0)) (t' := (.object sC0)) (by decide) (by decide)))).other W5 (Or.inr (slot_ne (Or.inr (ww hw 51 rfl)) (Or.inr (ww hw 49 rfl)) (by decide) (t := (.object sC0)) (t' := (.object sC0)) (by decide) (by decide))))
  have fc7 := (fc4.wr W5)
  obtain ⟨T8, h8, X8, e8, W8, st8⟩ := putF X5 hx hZ hown (host := "") (Or.inl (ww hw 50 rfl)) Via.refl e5 fc6 fc7 (Or.inr ⟨(ww hw 51 rfl), rfl, hnm⟩) (ww hw 1 rfl) (ty := (.object sC0)) (by decide) rfl rfl (g := (mkF m 16 #[va o0, va o1, va o3, va o5, vi p6] [(.ref o5), (.ref o0)])) rfl rfl (hb hby d8_16)
  have Fw8 := fc6.same W8
  have O8 := O5.wr W8 g_o0
  have K8 : Keep h0 h8 [o0] := K5.wr W8 (Or.inl (List.mem_of_getElem? (i := 0) rfl))
  have N8 := Fr.snoc X8 N5 g_o0
  have fc9 := (((F_instruction_o0.other W2 (Or.inr (slot_ne (Or.inr (ww hw 53 rfl)) (Or.inr (ww hw 47 rfl)) (by decide) (t := .int) (t' := (.object sC0)) (by decide) (by decide)))).other W5 (Or.inr (slot_ne (Or.inr (ww hw 53 rfl)) (Or.inr (ww hw 49 rfl)) (by decide) (t := .int) (t' := (.object sC0)) (by decide) (by decide)))).other W8 (Or.inr (slot_ne (Or.inr (ww hw 53 rfl)) (Or.inr (ww hw 51 rfl)) (by decide) (t := .int) (t' := (.object sC0)) (by decide) (by decide))))
  have fc10 := (fc7.wr W8)
  obtain ⟨T11, h11, X11, e11, W11, st11⟩ := putF X8 hx hZ hown (host := "") (Or.inl (ww hw 52 rfl)) Via.refl e8 fc9 fc10 (Or.inr ⟨(ww hw 53 rfl), rfl, hnm⟩) (ww hw 1 rfl) (ty := .int) (by decide) rfl rfl (g := (mkF m 22 #[va o0, va o1, va o3, va o5, vi p6] [(.int p6), (.ref o0)])) rfl rfl (hb hby d8_22)
  have Fw11 := fc9.same W11
  have O11 := O8.wr W11 g_o0
  have K11 : Keep h0 h11 [o0] := K8.wr W11 (Or.inl (List.mem_of_getElem? (i := 0) rfl))
  have N11 := Fr.snoc X11 N8 g_o0
  obtain ⟨fs, hr, hrun, hended, hW, hsame⟩ := X11.leave (v := none) (fun _ => rfl)
  have fc12 := (fc10.wr W11)
  have fc13 := (((Fw2.other W5 (Or.inr (slot_ne (Or.inr (ww hw 47 rfl)) (Or.inr (ww hw 49 rfl)) (by decide) (t := (.object sC0)) (t' := (.object sC0)) (by decide) (by decide)))).other W8 (Or.inr (slot_ne (Or.inr (ww hw 47 rfl)) (Or.inr (ww hw 51 rfl)) (by decide) (t := (.object sC0)) (t' := (.object sC0)) (by decide) (by decide)))).other W11 (Or.inr (slot_ne (Or.inr (ww hw 47 rfl)) (Or.inr (ww hw 53 rfl)) (by decide) (t := (.object sC0)) (t' := .int) (by decide) (by decide))))
  have fc14 := (Fw8.other W11 (Or.inr (slot_ne (Or.inr (ww hw 51 rfl)) (Or.inr (ww hw 53 rfl)) (by decide) (t := (.object sC0)) (t' := .int) (by decide) (by decide))))
  have fc15 := ((Fw5.other W8 (Or.inr (slot_ne (Or.inr (ww hw 49 rfl)) (Or.inr (ww hw 51 rfl)) (by decide) (t := (.object sC0)) (t' := (.object sC0)) (by decide) (by decide)))).other W11 (Or.inr (slot_ne (Or.inr (ww hw 49 rfl)) (Or.inr (ww hw 53 rfl)) (by decide) (t := (.object sC0)) (t' := .int) (by decide) (by decide))))
  refine ⟨_, _, ?_, hrun, hended, _, _, rfl, ?_, ⟨_, rfl⟩, hW, hsame.mono (by decide) (by decide)⟩
  · show Steps p.tables e below (s₁.setTop (mkF m 0 #[va o0, va o1, va o3, va o5, vi p6] [])) _
    refine XS.aloadN X0.here hx rfl (hb hby d8_0) rfl rfl ?_
    refine st1.trans ?_
    refine XS.aloadN X1.here hx rfl (hb hby d8_4) rfl rfl ?_
    refine XS.aloadN X1.here hx rfl (hb hby d8_5) rfl rfl ?_
    refine st2 _ ?_
    refine XS.aloadN X2.here hx rfl (hb hby d8_9) rfl rfl ?_
    refine XS.aloadN X2.here hx rfl (hb hby d8_10) rfl rfl ?_
    refine st5 _ ?_
    show Steps p.tables e below (T5.setTop (mkF m 14 #[va o0, va o1, va o3, va o5, vi p6] [])) _
    refine XS.aloadN X5.here hx rfl (hb hby d8_14) rfl rfl ?_
    refine XS.aloadN X5.here hx rfl (hb hby d8_15) rfl rfl ?_
    refine st8 _ ?_
    refine XS.aloadN X8.here hx rfl (hb hby d8_19) rfl rfl ?_
    refine XS.iload X8.here hx rfl (hb hby d8_20) rfl ?_
    refine st11 _ ?_
    exact X11.returnOut hx hrt (hb hby d8_25) hr
  · show Q8_0 Z z_COMPACT_STRINGS o0 o1 o2 o3 o4 o5 o6 kk_o2 kk_o4 kk_o6 p6 p0 p1 p2 p3 p4 p5 h0 n0 none T11.heap _
    rw [e11]; exact ⟨rfl, N11, K11, fc12, fc13, fc14, Fw11, fc15⟩
theorem pd_7 : parseMethodDescriptor "(Ljava/lang/String;Ljava/lang/String;Ljava/lang/String;I)V" = some ⟨[(.object sC0), (.object sC0), (.object sC0), .int], none⟩ := by decide +kernel
theorem d10_0 : decode method_3_code 0 = .ok (.iload_n 0, 1) := by decide +kernel
theorem d10_1 : decode method_3_code 1 = .ok (.ldc 12, 2) := by decide +kernel
theorem d10_3 : decode method_3_code 3 = .ok (.iand, 1) := by decide +kernel
theorem d10_4 : decode method_3_code 4 = .ok (.iload_n 1, 1) := by decide +kernel
theorem d10_5 : decode method_3_code 5 = .ok (.ldc 12, 2) := by decide +kernel
theorem d10_7 : decode method_3_code 7 = .ok (.iand, 1) := by decide +kernel
theorem d10_8 : decode method_3_code 8 = .ok (.if_icmp .ne 7, 3) := by decide +kernel
theorem d10_15 : decode method_3_code 15 = .ok (.iconst 0, 1) := by decide +kernel
theorem d10_16 : decode method_3_code 16 = .ok (.ireturn, 1) := by decide +kernel
def Q10_0 (Z : State) (z_COMPACT_STRINGS : Int32) (p0 : Int32) (p1 : Int32) (h0 : Heap) (n0 : Nat) (v : Option Value) (h : Heap) (L : List Loc) : Prop := v = (some (.int 0)) ∧ Fr n0 L ∧ h = h0
theorem rm10_0 (l : Launch) (Z : State) (a0 : Array Value) (hw : HW Z a0) (ws : List Jvm.Cond) (z_COMPACT_STRINGS : Int32) (p0 : Int32) (p1 : Int32) (h0 : Heap) (n0 : Nat) (O0 : Old Z n0 h0) (S : SF Z z_COMPACT_STRINGS) (hc0 : ¬ ((p0 &&& (65535 : Int32)) = (p1 &&& (65535 : Int32)))) :
    Pay l Z My10 ws method_3_code 2 (some .boolean) #[(.int p0), (.int p1)] h0 ({ frames := 0, cells := 0, slots := 0, locals := 0 } : Room) (Q10_0 Z z_COMPACT_STRINGS p0 p1 h0 n0) := by
  refine own_body (plainFor_of_name pn_0) (L0 := #[vi p0, vi p1]) (fun _ => by first | rfl | (simp [entryFrame, mkF, argsToLocals, Value.category]; done)) ?_
  intro p e s m below meth c s₁ hrt hlk hx hby hml hZ hown0 hnm X0 e0
  have hown : s.vm.findClass "com/example/darogan/darogan/FrameEqualsPinLaw" = some m.cls := hown0
  have N0 := Fr.nil n0
  have K0 : Keep h0 h0 [] := Keep.refl _ _
  obtain ⟨fs, hr, hrun, hended, hW, hsame⟩ := X0.leave (v := (some (.int 0))) (fun h => by rw [hrt] at h; cases h)
  refine ⟨_, _, ?_, hrun, hended, _, _, rfl, ?_, ⟨_, rfl⟩, hW, hsame.mono (by decide) (by decide)⟩
  · show Steps p.tables e below (s₁.setTop (mkF m 0 #[vi p0, vi p1] [])) _
    refine XS.iloadN X0.here hx rfl (hb hby d10_0) rfl ?_
    refine X0.ldcInt hx hown (mvT hZ (ww hw 57 rfl)) (g := (mkF m 1 #[vi p0, vi p1] [(.int p0)])) rfl (hb hby d10_1) _ ?_
    refine XS.iand X0.here hx rfl (hb hby d10_3) rfl ?_
    refine XS.iloadN X0.here hx rfl (hb hby d10_4) rfl ?_
    refine X0.ldcInt hx hown (mvT hZ (ww hw 57 rfl)) (g := (mkF m 5 #[vi p0, vi p1] [(.int p1), (.int (p0 &&& (65535 : Int32)))])) rfl (hb hby d10_5) _ ?_
    refine XS.iand X0.here hx rfl (hb hby d10_7) rfl ?_
    refine XS.icmpYes X0.here hx rfl (pc0 := 8) (pc' := 15) rfl (hb hby d10_8) rfl (feq hc0).2 (by decide) (by decide) ?_
    refine XS.iconst X0.here hx rfl (hb hby d10_15) ?_
    show Steps p.tables e below (s₁.setTop (mkF m 16 #[vi p0, vi p1] [(.int 0)])) _
    exact retN X0 hx (t := .boolean) hrt (by simp) (hb hby d10_16) hr
  · show Q10_0 Z z_COMPACT_STRINGS p0 p1 h0 n0 (some (.int 0)) s₁.heap _
    exact (⟨rfl, N0, e0⟩)
theorem d10_11 : decode method_3_code 11 = .ok (.iconst 1, 1) := by decide +kernel
theorem d10_12 : decode method_3_code 12 = .ok (.goto 4, 3) := by decide +kernel
def Q10_1 (Z : State) (z_COMPACT_STRINGS : Int32) (p0 : Int32) (p1 : Int32) (h0 : Heap) (n0 : Nat) (v : Option Value) (h : Heap) (L : List Loc) : Prop := v = (some (.int 1)) ∧ Fr n0 L ∧ h = h0
theorem rm10_1 (l : Launch) (Z : State) (a0 : Array Value) (hw : HW Z a0) (ws : List Jvm.Cond) (z_COMPACT_STRINGS : Int32) (p0 : Int32) (p1 : Int32) (h0 : Heap) (n0 : Nat) (O0 : Old Z n0 h0) (S : SF Z z_COMPACT_STRINGS) (hc0 : (p0 &&& (65535 : Int32)) = (p1 &&& (65535 : Int32))) :
    Pay l Z My10 ws method_3_code 2 (some .boolean) #[(.int p0), (.int p1)] h0 ({ frames := 0, cells := 0, slots := 0, locals := 0 } : Room) (Q10_1 Z z_COMPACT_STRINGS p0 p1 h0 n0) := by
  refine own_body (plainFor_of_name pn_0) (L0 := #[vi p0, vi p1]) (fun _ => by first | rfl | (simp [entryFrame, mkF, argsToLocals, Value.category]; done)) ?_
  intro p e s m below meth c s₁ hrt hlk hx hby hml hZ hown0 hnm X0 e0
  have hown : s.vm.findClass "com/example/darogan/darogan/FrameEqualsPinLaw" = some m.cls := hown0
  have N0 := Fr.nil n0
  have K0 : Keep h0 h0 [] := Keep.refl _ _
  obtain ⟨fs, hr, hrun, hended, hW, hsame⟩ := X0.leave (v := (some (.int 1))) (fun h => by rw [hrt] at h; cases h)
  refine ⟨_, _, ?_, hrun, hended, _, _, rfl, ?_, ⟨_, rfl⟩, hW, hsame.mono (by decide) (by decide)⟩
  · show Steps p.tables e below (s₁.setTop (mkF m 0 #[vi p0, vi p1] [])) _
    refine XS.iloadN X0.here hx rfl (hb hby d10_0) rfl ?_
    refine X0.ldcInt hx hown (mvT hZ (ww hw 57 rfl)) (g := (mkF m 1 #[vi p0, vi p1] [(.int p0)])) rfl (hb hby d10_1) _ ?_
    refine XS.iand X0.here hx rfl (hb hby d10_3) rfl ?_
    refine XS.iloadN X0.here hx rfl (hb hby d10_4) rfl ?_
    refine X0.ldcInt hx hown (mvT hZ (ww hw 57 rfl)) (g := (mkF m 5 #[vi p0, vi p1] [(.int p1), (.int (p0 &&& (65535 : Int32)))])) rfl (hb hby d10_5) _ ?_
    refine XS.iand X0.here hx rfl (hb hby d10_7) rfl ?_
    refine XS.icmpNo X0.here hx rfl (hb hby d10_8) rfl (teq hc0).2 ?_
    refine XS.iconst X0.here hx rfl (hb hby d10_11) ?_
    show Steps p.tables e below (s₁.setTop (mkF m 12 #[vi p0, vi p1] [(.int 1)])) _
    refine XS.goto X0.here hx rfl (pc0 := 12) (pc' := 16) rfl (hb hby d10_12) (by decide) (by decide) ?_
    exact retN X0 hx (t := .boolean) hrt (by simp) (hb hby d10_16) hr
  · show Q10_1 Z z_COMPACT_STRINGS p0 p1 h0 n0 (some (.int 1)) s₁.heap _
    exact (⟨rfl, N0, e0⟩)
theorem pd_8 : parseMethodDescriptor "(II)Z" = some ⟨[.int, .int], some .boolean⟩ := by decide +kernel
theorem d11_0 : decode prog_3_method_6_code 0 = .ok (.aload_n 1, 1) := by decide +kernel
theorem d11_1 : decode prog_3_method_6_code 1 = .ok (.instanceof 8, 3) := by decide +kernel
theorem d11_4 : decode prog_3_method_6_code 4 = .ok (.ifCond .eq 31, 3) := by decide +kernel
theorem d11_7 : decode prog_3_method_6_code 7 = .ok (.aload_n 1, 1) := by decide +kernel
theorem d11_8 : decode prog_3_method_6_code 8 = .ok (.checkcast 8, 3) := by decide +kernel
theorem d11_11 : decode prog_3_method_6_code 11 = .ok (.astore_n 2, 1) := by decide +kernel
theorem d11_12 : decode prog_3_method_6_code 12 = .ok (.aload_n 0, 1) := by decide +kernel
theorem d11_13 : decode prog_3_method_6_code 13 = .ok (.getfield 19, 3) := by decide +kernel
theorem d11_16 : decode prog_3_method_6_code 16 = .ok (.aload_n 2, 1) := by decide +kernel
theorem d11_17 : decode prog_3_method_6_code 17 = .ok (.getfield 19, 3) := by decide +kernel
theorem d11_20 : decode prog_3_method_6_code 20 = .ok (.if_icmp .ne 15, 3) := by decide +kernel
theorem d11_23 : decode prog_3_method_6_code 23 = .ok (.aload_n 0, 1) := by decide +kernel
theorem d11_24 : decode prog_3_method_6_code 24 = .ok (.aload_n 2, 1) := by decide +kernel
theorem d11_25 : decode prog_3_method_6_code 25 = .ok (.invokevirtual 52, 3) := by decide +kernel
theorem d12_0 : decode prog_3_method_4_code 0 = .ok (.aload_n 0, 1) := by decide +kernel
theorem d12_1 : decode prog_3_method_4_code 1 = .ok (.aload_n 1, 1) := by decide +kernel
theorem d12_2 : decode prog_3_method_4_code 2 = .ok (.getfield 7, 3) := by decide +kernel
theorem d12_5 : decode prog_3_method_4_code 5 = .ok (.aload_n 1, 1) := by decide +kernel
theorem d12_6 : decode prog_3_method_4_code 6 = .ok (.getfield 13, 3) := by decide +kernel
theorem d12_9 : decode prog_3_method_4_code 9 = .ok (.aload_n 1, 1) := by decide +kernel
theorem d12_10 : decode prog_3_method_4_code 10 = .ok (.getfield 16, 3) := by decide +kernel
theorem d12_13 : decode prog_3_method_4_code 13 = .ok (.invokevirtual 42, 3) := by decide +kernel
theorem d13_0 : decode prog_3_method_5_code 0 = .ok (.aload_n 0, 1) := by decide +kernel
theorem d13_1 : decode prog_3_method_5_code 1 = .ok (.getfield 7, 3) := by decide +kernel
theorem d13_4 : decode prog_3_method_5_code 4 = .ok (.aload_n 1, 1) := by decide +kernel
theorem d13_5 : decode prog_3_method_5_code 5 = .ok (.invokevirtual 46, 3) := by decide +kernel
theorem d14_0 : decode jdk_42_method_66_code 0 = .ok (.aload_n 0, 1) := by decide +kernel
theorem d14_1 : decode jdk_42_method_66_code 1 = .ok (.aload_n 1, 1) := by decide +kernel
theorem d14_2 : decode jdk_42_method_66_code 2 = .ok (.if_acmp .ne 5, 3) := by decide +kernel
theorem d14_7 : decode jdk_42_method_66_code 7 = .ok (.aload_n 1, 1) := by decide +kernel
theorem d14_8 : decode jdk_42_method_66_code 8 = .ok (.instanceof 10, 3) := by decide +kernel
theorem d14_11 : decode jdk_42_method_66_code 11 = .ok (.ifCond .eq 43, 3) := by decide +kernel
theorem d14_14 : decode jdk_42_method_66_code 14 = .ok (.aload_n 1, 1) := by decide +kernel
theorem d14_15 : decode jdk_42_method_66_code 15 = .ok (.checkcast 10, 3) := by decide +kernel
theorem d14_18 : decode jdk_42_method_66_code 18 = .ok (.astore_n 2, 1) := by decide +kernel
theorem d14_19 : decode jdk_42_method_66_code 19 = .ok (.getstatic 38, 3) := by decide +kernel
theorem d14_22 : decode jdk_42_method_66_code 22 = .ok (.ifCond .eq 14, 3) := by decide +kernel
theorem d14_25 : decode jdk_42_method_66_code 25 = .ok (.aload_n 0, 1) := by decide +kernel
theorem d14_26 : decode jdk_42_method_66_code 26 = .ok (.getfield 15, 3) := by decide +kernel
theorem d14_29 : decode jdk_42_method_66_code 29 = .ok (.aload_n 2, 1) := by decide +kernel
theorem d14_30 : decode jdk_42_method_66_code 30 = .ok (.getfield 15, 3) := by decide +kernel
theorem d14_33 : decode jdk_42_method_66_code 33 = .ok (.if_icmp .ne 21, 3) := by decide +kernel
theorem d14_36 : decode jdk_42_method_66_code 36 = .ok (.aload_n 0, 1) := by decide +kernel
theorem d14_37 : decode jdk_42_method_66_code 37 = .ok (.getfield 9, 3) := by decide +kernel
theorem d14_40 : decode jdk_42_method_66_code 40 = .ok (.aload_n 2, 1) := by decide +kernel
theorem d14_41 : decode jdk_42_method_66_code 41 = .ok (.getfield 9, 3) := by decide +kernel
theorem d14_44 : decode jdk_42_method_66_code 44 = .ok (.invokestatic 541, 3) := by decide +kernel
theorem pn_5 : plainName "java/lang/StringLatin1" = true := by first | (simp [plainName, overriddenIn]; done) | decide +kernel
theorem d15_0 : decode jdk_43_method_13_code 0 = .ok (.aload_n 0, 1) := by decide +kernel
theorem d15_1 : decode jdk_43_method_13_code 1 = .ok (.arraylength, 1) := by decide +kernel
theorem d15_2 : decode jdk_43_method_13_code 2 = .ok (.aload_n 1, 1) := by decide +kernel
theorem d15_3 : decode jdk_43_method_13_code 3 = .ok (.arraylength, 1) := by decide +kernel
theorem d15_4 : decode jdk_43_method_13_code 4 = .ok (.if_icmp .ne 30, 3) := by decide +kernel
theorem d15_7 : decode jdk_43_method_13_code 7 = .ok (.iconst 0, 1) := by decide +kernel
theorem d15_8 : decode jdk_43_method_13_code 8 = .ok (.istore_n 2, 1) := by decide +kernel
theorem d15_9 : decode jdk_43_method_13_code 9 = .ok (.iload_n 2, 1) := by decide +kernel
theorem d15_10 : decode jdk_43_method_13_code 10 = .ok (.aload_n 0, 1) := by decide +kernel
theorem d15_11 : decode jdk_43_method_13_code 11 = .ok (.arraylength, 1) := by decide +kernel
theorem d15_12 : decode jdk_43_method_13_code 12 = .ok (.if_icmp .ge 20, 3) := by decide +kernel
theorem d15_15 : decode jdk_43_method_13_code 15 = .ok (.aload_n 0, 1) := by decide +kernel
theorem d15_16 : decode jdk_43_method_13_code 16 = .ok (.iload_n 2, 1) := by decide +kernel
theorem d15_17 : decode jdk_43_method_13_code 17 = .ok (.baload, 1) := by decide +kernel
theorem d15_18 : decode jdk_43_method_13_code 18 = .ok (.aload_n 1, 1) := by decide +kernel
theorem d15_19 : decode jdk_43_method_13_code 19 = .ok (.iload_n 2, 1) := by decide +kernel
theorem d15_20 : decode jdk_43_method_13_code 20 = .ok (.baload, 1) := by decide +kernel
theorem d15_21 : decode jdk_43_method_13_code 21 = .ok (.if_icmp .eq 5, 3) := by decide +kernel
theorem d15_26 : decode jdk_43_method_13_code 26 = .ok (.iinc 2 1, 3) := by decide +kernel
theorem d15_29 : decode jdk_43_method_13_code 29 = .ok (.goto (-20), 3) := by decide +kernel
theorem d15_32 : decode jdk_43_method_13_code 32 = .ok (.iconst 1, 1) := by decide +kernel
theorem d15_33 : decode jdk_43_method_13_code 33 = .ok (.ireturn, 1) := by decide +kernel
def Q15_0 (Z : State) (z_COMPACT_STRINGS : Int32) (o0 : Addr) (o1 : Addr) (kk_o0 : ClassId) (kk_o1 : ClassId) (p0 : Int32) (p1 : Int32) (p2 : Int32) (p3 : Int32) (h0 : Heap) (n0 : Nat) (v : Option Value) (h : Heap) (L : List Loc) : Prop := v = (some (.int 1)) ∧ Fr n0 L ∧ h = h0
theorem rm15_0 (l : Launch) (Z : State) (a0 : Array Value) (hw : HW Z a0) (ws : List Jvm.Cond) (z_COMPACT_STRINGS : Int32) (o0 : Addr) (o1 : Addr) (kk_o0 : ClassId) (kk_o1 : ClassId) (p0 : Int32) (p1 : Int32) (p2 : Int32) (p3 : Int32) (h0 : Heap) (n0 : Nat) (O0 : Old Z n0 h0) (S : SF Z z_COMPACT_STRINGS) (V_o0 : Arv Z h0 o0 kk_o0 .byte (2 : Int32) [(.int p0), (.int p1)] (.int 0)) (V_o1 : Arv Z h0 o1 kk_o1 .byte (2 : Int32) [(.int p2), (.int p3)] (.int 0)) (hc0 : p0 = p2) (hc1 : p1 = p3) :
    Pay l Z My15 ws jdk_43_method_13_code 3 (some .boolean) #[(.ref o0), (.ref o1)] h0 ({ frames := 0, cells := 0, slots := 0, locals := 0 } : Room) (Q15_0 Z z_COMPACT_STRINGS o0 o1 kk_o0 kk_o1 p0 p1 p2 p3 h0 n0) := by
  refine own_body (plainFor_of_name pn_5) (L0 := #[va o0, va o1, uu]) (fun _ => by first | rfl | (simp [entryFrame, mkF, argsToLocals, Value.category]; done)) ?_
  intro p e s m below meth c s₁ hrt hlk hx hby hml hZ hown0 hnm X0 e0
  have hown : s.vm.findClass "java/lang/StringLatin1" = some m.cls := hown0
  have N0 := Fr.nil n0
  have K0 : Keep h0 h0 [] := Keep.refl _ _
  obtain ⟨cl1, Ar1, qk1, Sz1, Ng1, Hh1, Gg1⟩ := id V_o0
  obtain ⟨cl2, Ar2, qk2, Sz2, Ng2, Hh2, Gg2⟩ := id V_o1
  have hin1_0 : ¬ ((0 : Int32) < 0 ∨ cl1.slots.size ≤ ((0 : Int32)).toNatClampNeg) := inb_of Sz1 ⟨by decide, by decide⟩
  have hin2_0 : ¬ ((0 : Int32) < 0 ∨ cl2.slots.size ≤ ((0 : Int32)).toNatClampNeg) := inb_of Sz2 ⟨by decide, by decide⟩
  have hin1_1 : ¬ ((1 : Int32) < 0 ∨ cl1.slots.size ≤ ((1 : Int32)).toNatClampNeg) := inb_of Sz1 ⟨by decide, by decide⟩
  have hin2_1 : ¬ ((1 : Int32) < 0 ∨ cl2.slots.size ≤ ((1 : Int32)).toNatClampNeg) := inb_of Sz2 ⟨by decide, by decide⟩
  obtain ⟨fs, hr, hrun, hended, hW, hsame⟩ := X0.leave (v := (some (.int 1))) (fun h => by rw [hrt] at h; cases h)
  refine ⟨_, _, ?_, hrun, hended, _, _, rfl, ?_, ⟨_, rfl⟩, hW, hsame.mono (by decide) (by decide)⟩
  · show Steps p.tables e below (s₁.setTop (mkF m 0 #[va o0, va o1, uu] [])) _
    refine XS.aloadN X0.here hx rfl (hb hby d15_0) rfl rfl ?_
    refine X0.arraylength hx (by rw [e0]; exact Ar1.1) (State.isArrayOf_alike hZ.alike Ar1.2.1) (g := (mkF m 1 #[va o0, va o1, uu] [(.ref o0)])) rfl rfl (hb hby d15_1) _ ?_
    rw [len_of Sz1 Ng1]
    refine XS.aloadN X0.here hx rfl (hb hby d15_2) rfl rfl ?_
    refine X0.arraylength hx (by rw [e0]; exact Ar2.1) (State.isArrayOf_alike hZ.alike Ar2.2.1) (g := (mkF m 3 #[va o0, va o1, uu] [(.ref o1), (.int 2)])) rfl rfl (hb hby d15_3) _ ?_
    rw [len_of Sz2 Ng2]
    refine XS.icmpNo X0.here hx rfl (hb hby d15_4) rfl (teq (by decide : (2 : Int32) = (2 : Int32))).2 ?_
    refine XS.iconst X0.here hx rfl (hb hby d15_7) ?_
    refine XS.istoreN X0.here hx rfl (hb hby d15_8) rfl (l' := #[va o0, va o1, vi 0]) rfl ?_
    refine XS.iloadN X0.here hx rfl (hb hby d15_9) rfl ?_
    show Steps p.tables e below (s₁.setTop (mkF m 10 #[va o0, va o1, vi 0] [(.int 0)])) _
    refine XS.aloadN X0.here hx rfl (hb hby d15_10) rfl rfl ?_
    refine X0.arraylength hx (by rw [e0]; exact Ar1.1) (State.isArrayOf_alike hZ.alike Ar1.2.1) (g := (mkF m 11 #[va o0, va o1, vi 0] [(.ref o0), (.int 0)])) rfl rfl (hb hby d15_11) _ ?_
    rw [len_of Sz1 Ng1]
    refine XS.icmpNo X0.here hx rfl (hb hby d15_12) rfl (tlt (by decide : (0 : Int32) < (2 : Int32))).2.1 ?_
    refine XS.aloadN X0.here hx rfl (hb hby d15_15) rfl rfl ?_
    refine XS.iloadN X0.here hx rfl (hb hby d15_16) rfl ?_
    refine X0.baloadBytes hx (j := (0 : Int32)) (v := (.int p0)) (by rw [e0]; exact Ar1.1) (State.isArrayOf_alike hZ.alike Ar1.2.1) Ar1.2.2 hin1_0 (Has.at Hh1 hin1_0 rfl) (g := (mkF m 17 #[va o0, va o1, vi 0] [(.int 0), (.ref o0)])) rfl rfl (hb hby d15_17) _ ?_
    refine XS.aloadN X0.here hx rfl (hb hby d15_18) rfl rfl ?_
    refine XS.iloadN X0.here hx rfl (hb hby d15_19) rfl ?_
    show Steps p.tables e below (s₁.setTop (mkF m 20 #[va o0, va o1, vi 0] [(.int 0), (.ref o1), (.int p0)])) _
    refine X0.baloadBytes hx (j := (0 : Int32)) (v := (.int p2)) (by rw [e0]; exact Ar2.1) (State.isArrayOf_alike hZ.alike Ar2.2.1) Ar2.2.2 hin2_0 (Has.at Hh2 hin2_0 rfl) (g := (mkF m 20 #[va o0, va o1, vi 0] [(.int 0), (.ref o1), (.int p0)])) rfl rfl (hb hby d15_20) _ ?_
    refine XS.icmpYes X0.here hx rfl (pc0 := 21) (pc' := 26) rfl (hb hby d15_21) rfl (teq hc0).1 (by decide) (by decide) ?_
    refine XS.iinc X0.here hx rfl (hb hby d15_26) rfl (l' := #[va o0, va o1, vi ((0 : Int32) + (1 : Int32))]) rfl ?_
    show Steps p.tables e below (s₁.setTop (mkF m 29 #[va o0, va o1, vi ((0 : Int32) + (1 : Int32))] [])) _
    rw [show (((0 : Int32) + (1 : Int32)) : Int32) = (1 : Int32) from by decide]
    refine XS.goto X0.here hx rfl (pc0 := 29) (pc' := 9) rfl (hb hby d15_29) (by decide) (by decide) ?_
    refine XS.iloadN X0.here hx rfl (hb hby d15_9) rfl ?_
    refine XS.aloadN X0.here hx rfl (hb hby d15_10) rfl rfl ?_
    refine X0.arraylength hx (by rw [e0]; exact Ar1.1) (State.isArrayOf_alike hZ.alike Ar1.2.1) (g := (mkF m 11 #[va o0, va o1, vi 1] [(.ref o0), (.int 1)])) rfl rfl (hb hby d15_11) _ ?_
    rw [len_of Sz1 Ng1]
    refine XS.icmpNo X0.here hx rfl (hb hby d15_12) rfl (tlt (by decide : (1 : Int32) < (2 : Int32))).2.1 ?_
    refine XS.aloadN X0.here hx rfl (hb hby d15_15) rfl rfl ?_
    refine XS.iloadN X0.here hx rfl (hb hby d15_16) rfl ?_
    show Steps p.tables e below (s₁.setTop (mkF m 17 #[va o0, va o1, vi 1] [(.int 1), (.ref o0)])) _
    refine X0.baloadBytes hx (j := (1 : Int32)) (v := (.int p1)) (by rw [e0]; exact Ar1.1) (State.isArrayOf_alike hZ.alike Ar1.2.1) Ar1.2.2 hin1_1 (Has.at Hh1 hin1_1 rfl) (g := (mkF m 17 #[va o0, va o1, vi 1] [(.int 1), (.ref o0)])) rfl rfl (hb hby d15_17) _ ?_
    refine XS.aloadN X0.here hx rfl (hb hby d15_18) rfl rfl ?_
    refine XS.iloadN X0.here hx rfl (hb hby d15_19) rfl ?_
    refine X0.baloadBytes hx (j := (1 : Int32)) (v := (.int p3)) (by rw [e0]; exact Ar2.1) (State.isArrayOf_alike hZ.alike Ar2.2.1) Ar2.2.2 hin2_1 (Has.at Hh2 hin2_1 rfl) (g := (mkF m 20 #[va o0, va o1, vi 1] [(.int 1), (.ref o1), (.int p1)])) rfl rfl (hb hby d15_20) _ ?_
    refine XS.icmpYes X0.here hx rfl (pc0 := 21) (pc' := 26) rfl (hb hby d15_21) rfl (teq hc1).1 (by decide) (by decide) ?_
    refine XS.iinc X0.here hx rfl (hb hby d15_26) rfl (l' := #[va o0, va o1, vi ((1 : Int32) + (1 : Int32))]) rfl ?_
    show Steps p.tables e below (s₁.setTop (mkF m 29 #[va o0, va o1, vi ((1 : Int32) + (1 : Int32))] [])) _
    rw [show (((1 : Int32) + (1 : Int32)) : Int32) = (2 : Int32) from by decide]
    refine XS.goto X0.here hx rfl (pc0 := 29) (pc' := 9) rfl (hb hby d15_29) (by decide) (by decide) ?_
    refine XS.iloadN X0.here hx rfl (hb hby d15_9) rfl ?_
    refine XS.aloadN X0.here hx rfl (hb hby d15_10) rfl rfl ?_
    refine X0.arraylength hx (by rw [e0]; exact Ar1.1) (State.isArrayOf_alike hZ.alike Ar1.2.1) (g := (mkF m 11 #[va o0, va o1, vi 2] [(.ref o0), (.int 2)])) rfl rfl (hb hby d15_11) _ ?_
    rw [len_of Sz1 Ng1]
    refine XS.icmpYes X0.here hx rfl (pc0 := 12) (pc' := 32) rfl (hb hby d15_12) rfl (flt (by decide : ¬ ((2 : Int32) < (2 : Int32)))).2.1 (by decide) (by decide) ?_
    refine XS.iconst X0.here hx rfl (hb hby d15_32) ?_
    exact retN X0 hx (t := .boolean) hrt (by simp) (hb hby d15_33) hr
  · show Q15_0 Z z_COMPACT_STRINGS o0 o1 kk_o0 kk_o1 p0 p1 p2 p3 h0 n0 (some (.int 1)) s₁.heap _
    exact (⟨rfl, N0, e0⟩)
theorem pd_9 : parseMethodDescriptor "([B[B)Z" = some ⟨[(.array .byte), (.array .byte)], some .boolean⟩ := by decide +kernel
theorem d14_47 : decode jdk_42_method_66_code 47 = .ok (.ifCond .eq 7, 3) := by decide +kernel
theorem d14_50 : decode jdk_42_method_66_code 50 = .ok (.iconst 1, 1) := by decide +kernel
theorem d14_51 : decode jdk_42_method_66_code 51 = .ok (.goto 4, 3) := by decide +kernel
theorem d14_55 : decode jdk_42_method_66_code 55 = .ok (.ireturn, 1) := by decide +kernel
def Q14_0 (Z : State) (z_COMPACT_STRINGS : Int32) (o0 : Addr) (o1 : Addr) (o2 : Addr) (o3 : Addr) (kk_o1 : ClassId) (kk_o3 : ClassId) (p0 : Int32) (p1 : Int32) (p2 : Int32) (p3 : Int32) (h0 : Heap) (n0 : Nat) (v : Option Value) (h : Heap) (L : List Loc) : Prop := v = (some (.int 1)) ∧ Fr n0 L ∧ h = h0
theorem rm14_0 (l : Launch) (Z : State) (a0 : Array Value) (hw : HW Z a0) (ws : List Jvm.Cond) (z_COMPACT_STRINGS : Int32) (o0 : Addr) (o1 : Addr) (o2 : Addr) (o3 : Addr) (kk_o1 : ClassId) (kk_o3 : ClassId) (p0 : Int32) (p1 : Int32) (p2 : Int32) (p3 : Int32) (h0 : Heap) (n0 : Nat) (O0 : Old Z n0 h0) (S : SF Z z_COMPACT_STRINGS) (F_coder_o0 : Fld Z h0 o0 sC0 "coder" "B" (.int 0)) (F_value_o0 : Fld Z h0 o0 sC0 "value" "[B" (.ref o1)) (V_o1 : Arv Z h0 o1 kk_o1 .byte (2 : Int32) [(.int p0), (.int p1)] (.int 0)) (E_o2 : Exa Z h0 o2 sC0) (F_coder_o2 : Fld Z h0 o2 sC0 "coder" "B" (.int 0)) (F_value_o2 : Fld Z h0 o2 sC0 "value" "[B" (.ref o3)) (V_o3 : Arv Z h0 o3 kk_o3 .byte (2 : Int32) [(.int p2), (.int p3)] (.int 0)) (ne_o0_o2 : o0 ≠ o2) (hc0 : p0 = p2) (hc1 : p1 = p3) :
    Pay l Z My14 ws jdk_42_method_66_code 3 (some .boolean) #[(.ref o0), (.ref o2)] h0 ({ frames := 1, cells := 0, slots := 0, locals := 14 } : Room) (Q14_0 Z z_COMPACT_STRINGS o0 o1 o2 o3 kk_o1 kk_o3 p0 p1 p2 p3 h0 n0) := by
  obtain ⟨S_z_COMPACT_STRINGS, hz_z_COMPACT_STRINGS, -⟩ := id S
  refine own_body (plainFor_of_name pn_1) (L0 := #[va o0, va o2, uu]) (fun _ => by first | rfl | (simp [entryFrame, mkF, argsToLocals, Value.category]; done)) ?_
  intro p e s m below meth c s₁ hrt hlk hx hby hml hZ hown0 hnm X0 e0
  have hown : s.vm.findClass sC0 = some m.cls := hown0
  have N0 := Fr.nil n0
  have K0 : Keep h0 h0 [] := Keep.refl _ _
  obtain ⟨T1, X1, e1, st1⟩ := instY X0 hx hZ hown (ww hw 80 rfl) e0 (Ins.self E_o2) (g := (mkF m 8 #[va o0, va o2, uu] [(.ref o2)])) rfl rfl (hb hby d14_8)
  obtain ⟨T2, X2, e2, st2⟩ := castY X1 hx hZ hown (ww hw 80 rfl) e1 (Ins.self E_o2) (g := (mkF m 15 #[va o0, va o2, uu] [(.ref o2)])) rfl rfl (hb hby d14_15)
  obtain ⟨T3, X3, e3, st3⟩ := getS2 X2 hx hZ hown (host := "") (Or.inl (ww hw 21 rfl)) Via.refl e2 (S_z_COMPACT_STRINGS.ext O0.2) (g := (mkF m 19 #[va o0, va o2, va o2] [])) rfl (hb hby d14_19)
  obtain ⟨T4, X4, e4, st4⟩ := getF X3 hx hZ hown (host := "") (Or.inl (ww hw 33 rfl)) Via.refl e3 F_coder_o0 (g := (mkF m 26 #[va o0, va o2, va o2] [(.ref o0)])) rfl rfl (hb hby d14_26)
  obtain ⟨T5, X5, e5, st5⟩ := getF X4 hx hZ hown (host := "") (Or.inl (ww hw 33 rfl)) Via.refl e4 F_coder_o2 (g := (mkF m 30 #[va o0, va o2, va o2] [(.ref o2), (.int 0)])) rfl rfl (hb hby d14_30)
  obtain ⟨T6, X6, e6, st6⟩ := getF X5 hx hZ hown (host := "") (Or.inl (ww hw 35 rfl)) Via.refl e5 F_value_o0 (g := (mkF m 37 #[va o0, va o2, va o2] [(.ref o0)])) rfl rfl (hb hby d14_37)
  obtain ⟨T7, X7, e7, st7⟩ := getF X6 hx hZ hown (host := "") (Or.inl (ww hw 35 rfl)) Via.refl e6 F_value_o2 (g := (mkF m 41 #[va o0, va o2, va o2] [(.ref o2), (.ref o1)])) rfl rfl (hb hby d14_41)
  obtain ⟨_, _, ⟨T8, L8, k8, n8⟩, -, X8, ⟨Lc8, hQ8, l8, y8, z8⟩, st8⟩ := Jvm.LawKit.callS X7 hx (y := My15) hown (mvT hZ (ww hw 81 rfl)) (mvT hZ (ww hw 82 rfl)) (mvT hZ (ww hw 83 rfl)) (mvT hZ (ww hw 84 rfl)) (by decide) (backOf (W := 0) (rm15_0 l Z a0 hw [] z_COMPACT_STRINGS o1 o3 kk_o1 kk_o3 p0 p1 p2 p3 h0 n0 O0 S V_o1 V_o3 hc0 hc1) hZ (ww hw 84 rfl) (ww hw 83 rfl) (by decide) (by decide)) (g := (mkF m 44 #[va o0, va o2, va o2] [(.ref o3), (.ref o1)])) rfl (by rw [hml]; rfl) (argsL := [(.ref o1), (.ref o3)]) (rest := []) (lenOf pd_9 rfl) rfl (by show 2 * 0 + _ ≤ _; exact Nat.le_of_eq rfl) (hb hby d14_44) (fun _ _ => ⟨rfl, e7, (by decide : 0 + 0 ≤ _), (by decide : 0 + 0 ≤ _)⟩)
  dsimp only [Pt.U, Pt.locs, Pt.cells, Pt.slots] at X8 l8 y8 z8 st8 hQ8
  subst l8 y8 z8
  obtain ⟨rfl, Nq8, e8⟩ := hQ8
  have N8 := Fr.app N0 Nq8
  obtain ⟨fs, hr, hrun, hended, hW, hsame⟩ := X8.leave (v := (some (.int 1))) (fun h => by rw [hrt] at h; cases h)
  refine ⟨_, _, ?_, hrun, hended, _, _, rfl, ?_, ⟨_, rfl⟩, hW, hsame.mono (by decide) (by decide)⟩
  · show Steps p.tables e below (s₁.setTop (mkF m 0 #[va o0, va o2, uu] [])) _
    refine XS.aloadN X0.here hx rfl (hb hby d14_0) rfl rfl ?_
    refine XS.aloadN X0.here hx rfl (hb hby d14_1) rfl rfl ?_
    refine Jvm.RoadKit.acmp (g := (mkF m 2 #[va o0, va o2, uu] [(.ref o2), (.ref o0)])) X0 hx rfl rfl rfl (pc0 := 2) (pc' := 7) (same := false) rfl (hb hby d14_2) rfl (decide_eq_false fun q => ne_o0_o2 (Value.ref.inj q)) (by decide) (by decide) ?_
    refine XS.aloadN X0.here hx rfl (hb hby d14_7) rfl rfl ?_
    refine st1 _ ?_
    refine XS.ifNo X1.here hx rfl (hb hby d14_11) rfl ((if0 _ _).trans (feq (by decide : ¬ ((1 : Int32) = (0 : Int32)))).1) ?_
    refine XS.aloadN X1.here hx rfl (hb hby d14_14) rfl rfl ?_
    refine st2 _ ?_
    show Steps p.tables e below (T2.setTop (mkF m 18 #[va o0, va o2, uu] [(.ref o2)])) _
    refine XS.astoreN X2.here hx rfl (hb hby d14_18) rfl rfl (l' := #[va o0, va o2, va o2]) rfl ?_
    refine st3 _ ?_
    refine XS.ifNo X3.here hx rfl (hb hby d14_22) rfl ((if0 _ _).trans (feq hz_z_COMPACT_STRINGS).1) ?_
    refine XS.aloadN X3.here hx rfl (hb hby d14_25) rfl rfl ?_
    refine st4 _ ?_
    refine XS.aloadN X4.here hx rfl (hb hby d14_29) rfl rfl ?_
    refine st5 _ ?_
    refine XS.icmpNo X5.here hx rfl (hb hby d14_33) rfl (teq (by decide : (0 : Int32) = (0 : Int32))).2 ?_
    show Steps p.tables e below (T5.setTop (mkF m 36 #[va o0, va o2, va o2] [])) _
    refine XS.aloadN X5.here hx rfl (hb hby d14_36) rfl rfl ?_
    refine st6 _ ?_
    refine XS.aloadN X6.here hx rfl (hb hby d14_40) rfl rfl ?_
    refine st7 _ ?_
    refine st8 _ ?_
    refine XS.ifNo X8.here hx rfl (hb hby d14_47) rfl ((if0 _ _).trans (feq (by decide : ¬ ((1 : Int32) = (0 : Int32)))).1) ?_
    refine XS.iconst X8.here hx rfl (hb hby d14_50) ?_
    refine XS.goto X8.here hx rfl (pc0 := 51) (pc' := 55) rfl (hb hby d14_51) (by decide) (by decide) ?_
    show Steps p.tables e below (T8.setTop (mkF m 55 #[va o0, va o2, va o2] [(.int 1)])) _
    exact retN X8 hx (t := .boolean) hrt (by simp) (hb hby d14_55) hr
  · show Q14_0 Z z_COMPACT_STRINGS o0 o1 o2 o3 kk_o1 kk_o3 p0 p1 p2 p3 h0 n0 (some (.int 1)) T8.heap _
    exact (⟨rfl, N8, e8⟩)
theorem pd_10 : parseMethodDescriptor "(Ljava/lang/Object;)Z" = some ⟨[(.object "java/lang/Object")], some .boolean⟩ := by decide +kernel
theorem d13_8 : decode prog_3_method_5_code 8 = .ok (.ifCond .eq 29, 3) := by decide +kernel
theorem d13_11 : decode prog_3_method_5_code 11 = .ok (.aload_n 0, 1) := by decide +kernel
theorem d13_12 : decode prog_3_method_5_code 12 = .ok (.getfield 13, 3) := by decide +kernel
theorem d13_15 : decode prog_3_method_5_code 15 = .ok (.aload_n 2, 1) := by decide +kernel
theorem d13_16 : decode prog_3_method_5_code 16 = .ok (.invokevirtual 46, 3) := by decide +kernel
theorem d13_19 : decode prog_3_method_5_code 19 = .ok (.ifCond .eq 18, 3) := by decide +kernel
theorem d13_22 : decode prog_3_method_5_code 22 = .ok (.aload_n 0, 1) := by decide +kernel
theorem d13_23 : decode prog_3_method_5_code 23 = .ok (.getfield 16, 3) := by decide +kernel
theorem d13_26 : decode prog_3_method_5_code 26 = .ok (.aload_n 3, 1) := by decide +kernel
theorem d13_27 : decode prog_3_method_5_code 27 = .ok (.invokevirtual 46, 3) := by decide +kernel
theorem d13_30 : decode prog_3_method_5_code 30 = .ok (.ifCond .eq 7, 3) := by decide +kernel
theorem d13_33 : decode prog_3_method_5_code 33 = .ok (.iconst 1, 1) := by decide +kernel
theorem d13_34 : decode prog_3_method_5_code 34 = .ok (.goto 4, 3) := by decide +kernel
theorem d13_38 : decode prog_3_method_5_code 38 = .ok (.ireturn, 1) := by decide +kernel
def Q13_0 (Z : State) (z_COMPACT_STRINGS : Int32) (o0 : Addr) (o1 : Addr) (o2 : Addr) (o3 : Addr) (o4 : Addr) (o5 : Addr) (o6 : Addr) (o7 : Addr) (o8 : Addr) (o9 : Addr) (o10 : Addr) (o11 : Addr) (o12 : Addr) (kk_o2 : ClassId) (kk_o4 : ClassId) (kk_o6 : ClassId) (kk_o8 : ClassId) (kk_o10 : ClassId) (kk_o12 : ClassId) (p4 : Int32) (p0 : Int32) (p1 : Int32) (p2 : Int32) (p3 : Int32) (p5 : Int32) (p6 : Int32) (p7 : Int32) (p8 : Int32) (p9 : Int32) (p10 : Int32) (p11 : Int32) (p12 : Int32) (h0 : Heap) (n0 : Nat) (v : Option Value) (h : Heap) (L : List Loc) : Prop := v = (some (.int 1)) ∧ Fr n0 L ∧ h = h0
theorem rm13_0 (l : Launch) (Z : State) (a0 : Array Value) (hw : HW Z a0) (ws : List Jvm.Cond) (z_COMPACT_STRINGS : Int32) (o0 : Addr) (o1 : Addr) (o2 : Addr) (o3 : Addr) (o4 : Addr) (o5 : Addr) (o6 : Addr) (o7 : Addr) (o8 : Addr) (o9 : Addr) (o10 : Addr) (o11 : Addr) (o12 : Addr) (kk_o2 : ClassId) (kk_o4 : ClassId) (kk_o6 : ClassId) (kk_o8 : ClassId) (kk_o10 : ClassId) (kk_o12 : ClassId) (p4 : Int32) (p0 : Int32) (p1 : Int32) (p2 : Int32) (p3 : Int32) (p5 : Int32) (p6 : Int32) (p7 : Int32) (p8 : Int32) (p9 : Int32) (p10 : Int32) (p11 : Int32) (p12 : Int32) (h0 : Heap) (n0 : Nat) (O0 : Old Z n0 h0) (S : SF Z z_COMPACT_STRINGS) (F_className_o0 : Fld Z h0 o0 sC1 "className" "Ljava/lang/String;" (.ref o1)) (F_descriptor_o0 : Fld Z h0 o0 sC1 "descriptor" "Ljava/lang/String;" (.ref o3)) (F_method_o0 : Fld Z h0 o0 sC1 "method" "Ljava/lang/String;" (.ref o5)) (E_o1 : Exa Z h0 o1 sC0) (F_coder_o1 : Fld Z h0 o1 sC0 "coder" "B" (.int 0)) (F_value_o1 : Fld Z h0 o1 sC0 "value" "[B" (.ref o2)) (V_o2 : Arv Z h0 o2 kk_o2 .byte (2 : Int32) [(.int p0), (.int p1)] (.int 0)) (E_o3 : Exa Z h0 o3 sC0) (F_coder_o3 : Fld Z h0 o3 sC0 "coder" "B" (.int 0)) (F_value_o3 : Fld Z h0 o3 sC0 "value" "[B" (.ref o4)) (V_o4 : Arv Z h0 o4 kk_o4 .byte (2 : Int32) [(.int p2), (.int p3)] (.int 0)) (E_o5 : Exa Z h0 o5 sC0) (F_coder_o5 : Fld Z h0 o5 sC0 "coder" "B" (.int 0)) (F_value_o5 : Fld Z h0 o5 sC0 "value" "[B" (.ref o6)) (V_o6 : Arv Z h0 o6 kk_o6 .byte (2 : Int32) [(.int p5), (.int p6)] (.int 0)) (E_o7 : Exa Z h0 o7 sC0) (F_coder_o7 : Fld Z h0 o7 sC0 "coder" "B" (.int 0)) (F_value_o7 : Fld Z h0 o7 sC0 "value" "[B" (.ref o8)) (V_o8 : Arv Z h0 o8 kk_o8 .byte (2 : Int32) [(.int p7), (.int p8)] (.int 0)) (E_o9 : Exa Z h0 o9 sC0) (F_coder_o9 : Fld Z h0 o9 sC0 "coder" "B" (.int 0)) (F_value_o9 : Fld Z h0 o9 sC0 "value" "[B" (.ref o10)) (V_o10 : Arv Z h0 o10 kk_o10 .byte (2 : Int32) [(.int p9), (.int p10)] (.int 0)) (E_o11 : Exa Z h0 o11 sC0) (F_coder_o11 : Fld Z h0 o11 sC0 "coder" "B" (.int 0)) (F_value_o11 : Fld Z h0 o11 sC0 "value" "[B" (.ref o12)) (V_o12 : Arv Z h0 o12 kk_o12 .byte (2 : Int32) [(.int p11), (.int p12)] (.int 0)) (ne_o1_o7 : o1 ≠ o7) (ne_o3_o11 : o3 ≠ o11) (ne_o5_o9 : o5 ≠ o9) (hc0 : p0 = p7) (hc1 : p1 = p8) (hc2 : p5 = p9) (hc3 : p6 = p10) (hc4 : p2 = p11) (hc5 : p3 = p12) :
    Pay l Z My13 ws prog_3_method_5_code 4 (some .boolean) #[(.ref o0), (.ref o7), (.ref o9), (.ref o11)] h0 ({ frames := 2, cells := 0, slots := 0, locals := 28 } : Room) (Q13_0 Z z_COMPACT_STRINGS o0 o1 o2 o3 o4 o5 o6 o7 o8 o9 o10 o11 o12 kk_o2 kk_o4 kk_o6 kk_o8 kk_o10 kk_o12 p4 p0 p1 p2 p3 p5 p6 p7 p8 p9 p10 p11 p12 h0 n0) := by
  refine own_body (plainFor_of_name pn_3) (L0 := #[va o0, va o7, va o9, va o11]) (fun _ => by first | rfl | (simp [entryFrame, mkF, argsToLocals, Value.category]; done)) ?_
  intro p e s m below meth c s₁ hrt hlk hx hby hml hZ hown0 hnm X0 e0
  have hown : s.vm.findClass sC1 = some m.cls := hown0
  have N0 := Fr.nil n0
  have K0 : Keep h0 h0 [] := Keep.refl _ _
  obtain ⟨T1, X1, e1, st1⟩ := getF X0 hx hZ hown (host := "") (Or.inl (ww hw 46 rfl)) Via.refl e0 F_className_o0 (g := (mkF m 1 #[va o0, va o7, va o9, va o11] [(.ref o0)])) rfl rfl (hb hby d13_1)
  obtain ⟨cq2, kq2, q2a, q2b, q2c⟩ := isOf hZ e1 E_o1
  obtain ⟨_, _, ⟨T2, L2, k2, n2⟩, -, X2, ⟨Lc2, hQ2, l2, y2, z2⟩, st2⟩ := X1.virtualBack hx (y := My14) (z := My14) hown (mvT hZ (ww hw 73 rfl)) (mvT hZ (ww hw 74 rfl)) (notFace_of_selects (args := #[]) (mvT hZ (ww hw 76 rfl))) (mvT hZ (ww hw 76 rfl)) (mvT hZ (ww hw 75 rfl)) (by decide) (backOf (W := 0) (rm14_0 l Z a0 hw [] z_COMPACT_STRINGS o1 o2 o7 o8 kk_o2 kk_o8 p0 p1 p7 p8 h0 n0 O0 S F_coder_o1 F_value_o1 V_o2 E_o7 F_coder_o7 F_value_o7 V_o8 ne_o1_o7 hc0 hc1) hZ (ww hw 77 rfl) (ww hw 10 rfl) (by decide) (by decide)) q2a q2c (g := (mkF m 5 #[va o0, va o7, va o9, va o11] [(.ref o7), (.ref o1)])) rfl (by rw [hml]; rfl) (Steps.refl _) (argsL := [(.ref o7)]) (rest := []) (lenOf pd_10 rfl) rfl (by show 2 * 0 + _ ≤ _; exact Nat.le_of_eq rfl) (hb hby d13_5) (fun _ _ => ⟨rfl, e1, (by decide : 0 + 0 ≤ _), (by decide : 0 + 0 ≤ _)⟩)
  dsimp only [Pt.U, Pt.locs, Pt.cells, Pt.slots] at X2 l2 y2 z2 st2 hQ2
  subst l2 y2 z2
  obtain ⟨rfl, Nq2, e2⟩ := hQ2
  have N2 := Fr.app N0 Nq2
  obtain ⟨T3, X3, e3, st3⟩ := getF X2 hx hZ hown (host := "") (Or.inl (ww hw 48 rfl)) Via.refl e2 F_method_o0 (g := (mkF m 12 #[va o0, va o7, va o9, va o11] [(.ref o0)])) rfl rfl (hb hby d13_12)
  obtain ⟨cq4, kq4, q4a, q4b, q4c⟩ := isOf hZ e3 E_o5
  obtain ⟨_, _, ⟨T4, L4, k4, n4⟩, -, X4, ⟨Lc4, hQ4, l4, y4, z4⟩, st4⟩ := X3.virtualBack hx (y := My14) (z := My14) hown (mvT hZ (ww hw 73 rfl)) (mvT hZ (ww hw 74 rfl)) (notFace_of_selects (args := #[]) (mvT hZ (ww hw 76 rfl))) (mvT hZ (ww hw 76 rfl)) (mvT hZ (ww hw 75 rfl)) (by decide) (backOf (W := 0) (rm14_0 l Z a0 hw [] z_COMPACT_STRINGS o5 o6 o9 o10 kk_o6 kk_o10 p5 p6 p9 p10 h0 n0 O0 S F_coder_o5 F_value_o5 V_o6 E_o9 F_coder_o9 F_value_o9 V_o10 ne_o5_o9 hc2 hc3) hZ (ww hw 77 rfl) (ww hw 10 rfl) (by decide) (by decide)) q4a q4c (g := (mkF m 16 #[va o0, va o7, va o9, va o11] [(.ref o9), (.ref o5)])) rfl (by rw [hml]; rfl) (Steps.refl _) (argsL := [(.ref o9)]) (rest := []) (lenOf pd_10 rfl) rfl (by show 2 * 0 + _ ≤ _; exact Nat.le_of_eq rfl) (hb hby d13_16) (fun _ _ => ⟨rfl, e3, (by decide : 0 + 0 ≤ _), (by decide : 0 + 0 ≤ _)⟩)
  dsimp only [Pt.U, Pt.locs, Pt.cells, Pt.slots] at X4 l4 y4 z4 st4 hQ4
  subst l4 y4 z4
  obtain ⟨rfl, Nq4, e4⟩ := hQ4
  have N4 := Fr.app N2 Nq4
  obtain ⟨T5, X5, e5, st5⟩ := getF X4 hx hZ hown (host := "") (Or.inl (ww hw 50 rfl)) Via.refl e4 F_descriptor_o0 (g := (mkF m 23 #[va o0, va o7, va o9, va o11] [(.ref o0)])) rfl rfl (hb hby d13_23)
  obtain ⟨cq6, kq6, q6a, q6b, q6c⟩ := isOf hZ e5 E_o3
  obtain ⟨_, _, ⟨T6, L6, k6, n6⟩, -, X6, ⟨Lc6, hQ6, l6, y6, z6⟩, st6⟩ := X5.virtualBack hx (y := My14) (z := My14) hown (mvT hZ (ww hw 73 rfl)) (mvT hZ (ww hw 74 rfl)) (notFace_of_selects (args := #[]) (mvT hZ (ww hw 76 rfl))) (mvT hZ (ww hw 76 rfl)) (mvT hZ (ww hw 75 rfl)) (by decide) (backOf (W := 0) (rm14_0 l Z a0 hw [] z_COMPACT_STRINGS o3 o4 o11 o12 kk_o4 kk_o12 p2 p3 p11 p12 h0 n0 O0 S F_coder_o3 F_value_o3 V_o4 E_o11 F_coder_o11 F_value_o11 V_o12 ne_o3_o11 hc4 hc5) hZ (ww hw 77 rfl) (ww hw 10 rfl) (by decide) (by decide)) q6a q6c (g := (mkF m 27 #[va o0, va o7, va o9, va o11] [(.ref o11), (.ref o3)])) rfl (by rw [hml]; rfl) (Steps.refl _) (argsL := [(.ref o11)]) (rest := []) (lenOf pd_10 rfl) rfl (by show 2 * 0 + _ ≤ _; exact Nat.le_of_eq rfl) (hb hby d13_27) (fun _ _ => ⟨rfl, e5, (by decide : 0 + 0 ≤ _), (by decide : 0 + 0 ≤ _)⟩)
  dsimp only [Pt.U, Pt.locs, Pt.cells, Pt.slots] at X6 l6 y6 z6 st6 hQ6
  subst l6 y6 z6
  obtain ⟨rfl, Nq6, e6⟩ := hQ6
  have N6 := Fr.app N4 Nq6
  obtain ⟨fs, hr, hrun, hended, hW, hsame⟩ := X6.leave (v := (some (.int 1))) (fun h => by rw [hrt] at h; cases h)
  refine ⟨_, _, ?_, hrun, hended, _, _, rfl, ?_, ⟨_, rfl⟩, hW, hsame.mono (by decide) (by decide)⟩
  · show Steps p.tables e below (s₁.setTop (mkF m 0 #[va o0, va o7, va o9, va o11] [])) _
    refine XS.aloadN X0.here hx rfl (hb hby d13_0) rfl rfl ?_
    refine st1 _ ?_
    refine XS.aloadN X1.here hx rfl (hb hby d13_4) rfl rfl ?_
    refine st2.trans ?_
    refine XS.ifNo X2.here hx rfl (hb hby d13_8) rfl ((if0 _ _).trans (feq (by decide : ¬ ((1 : Int32) = (0 : Int32)))).1) ?_
    refine XS.aloadN X2.here hx rfl (hb hby d13_11) rfl rfl ?_
    refine st3 _ ?_
    refine XS.aloadN X3.here hx rfl (hb hby d13_15) rfl rfl ?_
    show Steps p.tables e below (T3.setTop (mkF m 16 #[va o0, va o7, va o9, va o11] [(.ref o9), (.ref o5)])) _
    refine st4.trans ?_
    refine XS.ifNo X4.here hx rfl (hb hby d13_19) rfl ((if0 _ _).trans (feq (by decide : ¬ ((1 : Int32) = (0 : Int32)))).1) ?_
    refine XS.aloadN X4.here hx rfl (hb hby d13_22) rfl rfl ?_
    refine st5 _ ?_
    refine XS.aloadN X5.here hx rfl (hb hby d13_26) rfl rfl ?_
    refine st6.trans ?_
    refine XS.ifNo X6.here hx rfl (hb hby d13_30) rfl ((if0 _ _).trans (feq (by decide : ¬ ((1 : Int32) = (0 : Int32)))).1) ?_
    refine XS.iconst X6.here hx rfl (hb hby d13_33) ?_
    show Steps p.tables e below (T6.setTop (mkF m 34 #[va o0, va o7, va o9, va o11] [(.int 1)])) _
    refine XS.goto X6.here hx rfl (pc0 := 34) (pc' := 38) rfl (hb hby d13_34) (by decide) (by decide) ?_
    exact retN X6 hx (t := .boolean) hrt (by simp) (hb hby d13_38) hr
  · show Q13_0 Z z_COMPACT_STRINGS o0 o1 o2 o3 o4 o5 o6 o7 o8 o9 o10 o11 o12 kk_o2 kk_o4 kk_o6 kk_o8 kk_o10 kk_o12 p4 p0 p1 p2 p3 p5 p6 p7 p8 p9 p10 p11 p12 h0 n0 (some (.int 1)) T6.heap _
    exact (⟨rfl, N6, e6⟩)
theorem pd_11 : parseMethodDescriptor "(Ljava/lang/String;Ljava/lang/String;Ljava/lang/String;)Z" = some ⟨[(.object sC0), (.object sC0), (.object sC0)], some .boolean⟩ := by decide +kernel
theorem d12_16 : decode prog_3_method_4_code 16 = .ok (.ireturn, 1) := by decide +kernel
def Q12_0 (Z : State) (z_COMPACT_STRINGS : Int32) (o0 : Addr) (o1 : Addr) (o2 : Addr) (o3 : Addr) (o4 : Addr) (o5 : Addr) (o6 : Addr) (o7 : Addr) (o8 : Addr) (o9 : Addr) (o10 : Addr) (o11 : Addr) (o12 : Addr) (o13 : Addr) (kk_o2 : ClassId) (kk_o4 : ClassId) (kk_o6 : ClassId) (kk_o9 : ClassId) (kk_o11 : ClassId) (kk_o13 : ClassId) (p4 : Int32) (p0 : Int32) (p1 : Int32) (p2 : Int32) (p3 : Int32) (p5 : Int32) (p6 : Int32) (p11 : Int32) (p7 : Int32) (p8 : Int32) (p9 : Int32) (p10 : Int32) (p12 : Int32) (p13 : Int32) (h0 : Heap) (n0 : Nat) (v : Option Value) (h : Heap) (L : List Loc) : Prop := v = (some (.int 1)) ∧ Fr n0 L ∧ h = h0
theorem rm12_0 (l : Launch) (Z : State) (a0 : Array Value) (hw : HW Z a0) (ws : List Jvm.Cond) (z_COMPACT_STRINGS : Int32) (o0 : Addr) (o1 : Addr) (o2 : Addr) (o3 : Addr) (o4 : Addr) (o5 : Addr) (o6 : Addr) (o7 : Addr) (o8 : Addr) (o9 : Addr) (o10 : Addr) (o11 : Addr) (o12 : Addr) (o13 : Addr) (kk_o2 : ClassId) (kk_o4 : ClassId) (kk_o6 : ClassId) (kk_o9 : ClassId) (kk_o11 : ClassId) (kk_o13 : ClassId) (p4 : Int32) (p0 : Int32) (p1 : Int32) (p2 : Int32) (p3 : Int32) (p5 : Int32) (p6 : Int32) (p11 : Int32) (p7 : Int32) (p8 : Int32) (p9 : Int32) (p10 : Int32) (p12 : Int32) (p13 : Int32) (h0 : Heap) (n0 : Nat) (O0 : Old Z n0 h0) (S : SF Z z_COMPACT_STRINGS) (E_o0 : Exa Z h0 o0 sC1) (F_className_o0 : Fld Z h0 o0 sC1 "className" "Ljava/lang/String;" (.ref o1)) (F_descriptor_o0 : Fld Z h0 o0 sC1 "descriptor" "Ljava/lang/String;" (.ref o3)) (F_method_o0 : Fld Z h0 o0 sC1 "method" "Ljava/lang/String;" (.ref o5)) (E_o1 : Exa Z h0 o1 sC0) (F_coder_o1 : Fld Z h0 o1 sC0 "coder" "B" (.int 0)) (F_value_o1 : Fld Z h0 o1 sC0 "value" "[B" (.ref o2)) (V_o2 : Arv Z h0 o2 kk_o2 .byte (2 : Int32) [(.int p0), (.int p1)] (.int 0)) (E_o3 : Exa Z h0 o3 sC0) (F_coder_o3 : Fld Z h0 o3 sC0 "coder" "B" (.int 0)) (F_value_o3 : Fld Z h0 o3 sC0 "value" "[B" (.ref o4)) (V_o4 : Arv Z h0 o4 kk_o4 .byte (2 : Int32) [(.int p2), (.int p3)] (.int 0)) (E_o5 : Exa Z h0 o5 sC0) (F_coder_o5 : Fld Z h0 o5 sC0 "coder" "B" (.int 0)) (F_value_o5 : Fld Z h0 o5 sC0 "value" "[B" (.ref o6)) (V_o6 : Arv Z h0 o6 kk_o6 .byte (2 : Int32) [(.int p5), (.int p6)] (.int 0)) (F_className_o7 : Fld Z h0 o7 sC1 "className" "Ljava/lang/String;" (.ref o8)) (F_descriptor_o7 : Fld Z h0 o7 sC1 "descriptor" "Ljava/lang/String;" (.ref o10)) (F_method_o7 : Fld Z h0 o7 sC1 "method" "Ljava/lang/String;" (.ref o12)) (E_o8 : Exa Z h0 o8 sC0) (F_coder_o8 : Fld Z h0 o8 sC0 "coder" "B" (.int 0)) (F_value_o8 : Fld Z h0 o8 sC0 "value" "[B" (.ref o9)) (V_o9 : Arv Z h0 o9 kk_o9 .byte (2 : Int32) [(.int p7), (.int p8)] (.int 0)) (E_o10 : Exa Z h0 o10 sC0) (F_coder_o10 : Fld Z h0 o10 sC0 "coder" "B" (.int 0)) (F_value_o10 : Fld Z h0 o10 sC0 "value" "[B" (.ref o11)) (V_o11 : Arv Z h0 o11 kk_o11 .byte (2 : Int32) [(.int p9), (.int p10)] (.int 0)) (E_o12 : Exa Z h0 o12 sC0) (F_coder_o12 : Fld Z h0 o12 sC0 "coder" "B" (.int 0)) (F_value_o12 : Fld Z h0 o12 sC0 "value" "[B" (.ref o13)) (V_o13 : Arv Z h0 o13 kk_o13 .byte (2 : Int32) [(.int p12), (.int p13)] (.int 0)) (ne_o1_o8 : o1 ≠ o8) (ne_o3_o10 : o3 ≠ o10) (ne_o5_o12 : o5 ≠ o12) (hc0 : p0 = p7) (hc1 : p1 = p8) (hc2 : p5 = p12) (hc3 : p6 = p13) (hc4 : p2 = p9) (hc5 : p3 = p10) :
    Pay l Z My12 ws prog_3_method_4_code 2 (some .boolean) #[(.ref o0), (.ref o7)] h0 ({ frames := 3, cells := 0, slots := 0, locals := 43 } : Room) (Q12_0 Z z_COMPACT_STRINGS o0 o1 o2 o3 o4 o5 o6 o7 o8 o9 o10 o11 o12 o13 kk_o2 kk_o4 kk_o6 kk_o9 kk_o11 kk_o13 p4 p0 p1 p2 p3 p5 p6 p11 p7 p8 p9 p10 p12 p13 h0 n0) := by
  refine own_body (plainFor_of_name pn_3) (L0 := #[va o0, va o7]) (fun _ => by first | rfl | (simp [entryFrame, mkF, argsToLocals, Value.category]; done)) ?_
  intro p e s m below meth c s₁ hrt hlk hx hby hml hZ hown0 hnm X0 e0
  have hown : s.vm.findClass sC1 = some m.cls := hown0
  have N0 := Fr.nil n0
  have K0 : Keep h0 h0 [] := Keep.refl _ _
  obtain ⟨T1, X1, e1, st1⟩ := getF X0 hx hZ hown (host := "") (Or.inl (ww hw 46 rfl)) Via.refl e0 F_className_o7 (g := (mkF m 2 #[va o0, va o7] [(.ref o7), (.ref o0)])) rfl rfl (hb hby d12_2)
  obtain ⟨T2, X2, e2, st2⟩ := getF X1 hx hZ hown (host := "") (Or.inl (ww hw 48 rfl)) Via.refl e1 F_method_o7 (g := (mkF m 6 #[va o0, va o7] [(.ref o7), (.ref o8), (.ref o0)])) rfl rfl (hb hby d12_6)
  obtain ⟨T3, X3, e3, st3⟩ := getF X2 hx hZ hown (host := "") (Or.inl (ww hw 50 rfl)) Via.refl e2 F_descriptor_o7 (g := (mkF m 10 #[va o0, va o7] [(.ref o7), (.ref o12), (.ref o8), (.ref o0)])) rfl rfl (hb hby d12_10)
  obtain ⟨cq4, qa4, qb4⟩ := E_o0.cell
  obtain ⟨_, _, ⟨T4, L4, k4, n4⟩, -, X4, ⟨Lc4, hQ4, l4, y4, z4⟩, st4⟩ := X3.privateBack hx (y := My13) hown (mvT hZ (ww hw 69 rfl)) (mvT hZ (ww hw 70 rfl)) (own_selp (by decide) (mvT hZ (ww hw 1 rfl)) (mvP hZ (ww hw 71 rfl)) (mvT hZ (ww hw 70 rfl))) (Cond.privateMethod_at (mvP hZ (ww hw 71 rfl) (args := #[]))) (mvT hZ (ww hw 72 rfl)) (by decide) (backOf (W := 0) (rm13_0 l Z a0 hw [] z_COMPACT_STRINGS o0 o1 o2 o3 o4 o5 o6 o8 o9 o12 o13 o10 o11 kk_o2 kk_o4 kk_o6 kk_o9 kk_o13 kk_o11 p4 p0 p1 p2 p3 p5 p6 p7 p8 p12 p13 p9 p10 h0 n0 O0 S F_className_o0 F_descriptor_o0 F_method_o0 E_o1 F_coder_o1 F_value_o1 V_o2 E_o3 F_coder_o3 F_value_o3 V_o4 E_o5 F_coder_o5 F_value_o5 V_o6 E_o8 F_coder_o8 F_value_o8 V_o9 E_o12 F_coder_o12 F_value_o12 V_o13 E_o10 F_coder_o10 F_value_o10 V_o11 ne_o1_o8 ne_o3_o10 ne_o5_o12 hc0 hc1 hc2 hc3 hc4 hc5) hZ (ww hw 72 rfl) (ww hw 2 rfl) (by decide) (by decide)) (g := (mkF m 13 #[va o0, va o7] [(.ref o10), (.ref o12), (.ref o8), (.ref o0)])) rfl (by rw [hml]; rfl) (Steps.refl _) (a := o0) (by rw [e3]; exact qa4) qb4 (argsL := [(.ref o8), (.ref o12), (.ref o10)]) (rest := []) (lenOf pd_11 rfl) rfl (by show 2 * 0 + _ ≤ _; exact Nat.le_of_eq rfl) (hb hby d12_13) (fun _ _ => ⟨rfl, e3, (by decide : 0 + 0 ≤ _), (by decide : 0 + 0 ≤ _)⟩)
  dsimp only [Pt.U, Pt.locs, Pt.cells, Pt.slots] at X4 l4 y4 z4 st4 hQ4
  subst l4 y4 z4
  obtain ⟨rfl, Nq4, e4⟩ := hQ4
  have N4 := Fr.app N0 Nq4
  obtain ⟨fs, hr, hrun, hended, hW, hsame⟩ := X4.leave (v := (some (.int 1))) (fun h => by rw [hrt] at h; cases h)
  refine ⟨_, _, ?_, hrun, hended, _, _, rfl, ?_, ⟨_, rfl⟩, hW, hsame.mono (by decide) (by decide)⟩
  · show Steps p.tables e below (s₁.setTop (mkF m 0 #[va o0, va o7] [])) _
    refine XS.aloadN X0.here hx rfl (hb hby d12_0) rfl rfl ?_
    refine XS.aloadN X0.here hx rfl (hb hby d12_1) rfl rfl ?_
    refine st1 _ ?_
    refine XS.aloadN X1.here hx rfl (hb hby d12_5) rfl rfl ?_
    refine st2 _ ?_
    refine XS.aloadN X2.here hx rfl (hb hby d12_9) rfl rfl ?_
    refine st3 _ ?_
    refine st4.trans ?_
    show Steps p.tables e below (T4.setTop (mkF m 16 #[va o0, va o7] [(.int 1)])) _
    exact retN X4 hx (t := .boolean) hrt (by simp) (hb hby d12_16) hr
  · show Q12_0 Z z_COMPACT_STRINGS o0 o1 o2 o3 o4 o5 o6 o7 o8 o9 o10 o11 o12 o13 kk_o2 kk_o4 kk_o6 kk_o9 kk_o11 kk_o13 p4 p0 p1 p2 p3 p5 p6 p11 p7 p8 p9 p10 p12 p13 h0 n0 (some (.int 1)) T4.heap _
    exact (⟨rfl, N4, e4⟩)
theorem pd_12 : parseMethodDescriptor "(Lcom/example/darogan/darogan/CallSite$Frame;)Z" = some ⟨[(.object sC1)], some .boolean⟩ := by decide +kernel
theorem d11_28 : decode prog_3_method_6_code 28 = .ok (.ifCond .eq 7, 3) := by decide +kernel
theorem d11_31 : decode prog_3_method_6_code 31 = .ok (.iconst 1, 1) := by decide +kernel
theorem d11_32 : decode prog_3_method_6_code 32 = .ok (.goto 4, 3) := by decide +kernel
theorem d11_36 : decode prog_3_method_6_code 36 = .ok (.ireturn, 1) := by decide +kernel
def Q11_0 (Z : State) (z_COMPACT_STRINGS : Int32) (o0 : Addr) (o1 : Addr) (o2 : Addr) (o3 : Addr) (o4 : Addr) (o5 : Addr) (o6 : Addr) (o7 : Addr) (o8 : Addr) (o9 : Addr) (o10 : Addr) (o11 : Addr) (o12 : Addr) (o13 : Addr) (kk_o2 : ClassId) (kk_o4 : ClassId) (kk_o6 : ClassId) (kk_o9 : ClassId) (kk_o11 : ClassId) (kk_o13 : ClassId) (p4 : Int32) (p0 : Int32) (p1 : Int32) (p2 : Int32) (p3 : Int32) (p5 : Int32) (p6 : Int32) (p11 : Int32) (p7 : Int32) (p8 : Int32) (p9 : Int32) (p10 : Int32) (p12 : Int32) (p13 : Int32) (h0 : Heap) (n0 : Nat) (v : Option Value) (h : Heap) (L : List Loc) : Prop := v = (some (.int 1)) ∧ Fr n0 L ∧ h = h0
theorem rm11_0 (l : Launch) (Z : State) (a0 : Array Value) (hw : HW Z a0) (ws : List Jvm.Cond) (z_COMPACT_STRINGS : Int32) (o0 : Addr) (o1 : Addr) (o2 : Addr) (o3 : Addr) (o4 : Addr) (o5 : Addr) (o6 : Addr) (o7 : Addr) (o8 : Addr) (o9 : Addr) (o10 : Addr) (o11 : Addr) (o12 : Addr) (o13 : Addr) (kk_o2 : ClassId) (kk_o4 : ClassId) (kk_o6 : ClassId) (kk_o9 : ClassId) (kk_o11 : ClassId) (kk_o13 : ClassId) (p4 : Int32) (p0 : Int32) (p1 : Int32) (p2 : Int32) (p3 : Int32) (p5 : Int32) (p6 : Int32) (p11 : Int32) (p7 : Int32) (p8 : Int32) (p9 : Int32) (p10 : Int32) (p12 : Int32) (p13 : Int32) (h0 : Heap) (n0 : Nat) (O0 : Old Z n0 h0) (S : SF Z z_COMPACT_STRINGS) (E_o0 : Exa Z h0 o0 sC1) (F_className_o0 : Fld Z h0 o0 sC1 "className" "Ljava/lang/String;" (.ref o1)) (F_descriptor_o0 : Fld Z h0 o0 sC1 "descriptor" "Ljava/lang/String;" (.ref o3)) (F_instruction_o0 : Fld Z h0 o0 sC1 "instruction" "I" (.int p4)) (F_method_o0 : Fld Z h0 o0 sC1 "method" "Ljava/lang/String;" (.ref o5)) (E_o1 : Exa Z h0 o1 sC0) (F_coder_o1 : Fld Z h0 o1 sC0 "coder" "B" (.int 0)) (F_value_o1 : Fld Z h0 o1 sC0 "value" "[B" (.ref o2)) (V_o2 : Arv Z h0 o2 kk_o2 .byte (2 : Int32) [(.int p0), (.int p1)] (.int 0)) (E_o3 : Exa Z h0 o3 sC0) (F_coder_o3 : Fld Z h0 o3 sC0 "coder" "B" (.int 0)) (F_value_o3 : Fld Z h0 o3 sC0 "value" "[B" (.ref o4)) (V_o4 : Arv Z h0 o4 kk_o4 .byte (2 : Int32) [(.int p2), (.int p3)] (.int 0)) (E_o5 : Exa Z h0 o5 sC0) (F_coder_o5 : Fld Z h0 o5 sC0 "coder" "B" (.int 0)) (F_value_o5 : Fld Z h0 o5 sC0 "value" "[B" (.ref o6)) (V_o6 : Arv Z h0 o6 kk_o6 .byte (2 : Int32) [(.int p5), (.int p6)] (.int 0)) (E_o7 : Exa Z h0 o7 sC1) (F_className_o7 : Fld Z h0 o7 sC1 "className" "Ljava/lang/String;" (.ref o8)) (F_descriptor_o7 : Fld Z h0 o7 sC1 "descriptor" "Ljava/lang/String;" (.ref o10)) (F_instruction_o7 : Fld Z h0 o7 sC1 "instruction" "I" (.int p11)) (F_method_o7 : Fld Z h0 o7 sC1 "method" "Ljava/lang/String;" (.ref o12)) (E_o8 : Exa Z h0 o8 sC0) (F_coder_o8 : Fld Z h0 o8 sC0 "coder" "B" (.int 0)) (F_value_o8 : Fld Z h0 o8 sC0 "value" "[B" (.ref o9)) (V_o9 : Arv Z h0 o9 kk_o9 .byte (2 : Int32) [(.int p7), (.int p8)] (.int 0)) (E_o10 : Exa Z h0 o10 sC0) (F_coder_o10 : Fld Z h0 o10 sC0 "coder" "B" (.int 0)) (F_value_o10 : Fld Z h0 o10 sC0 "value" "[B" (.ref o11)) (V_o11 : Arv Z h0 o11 kk_o11 .byte (2 : Int32) [(.int p9), (.int p10)] (.int 0)) (E_o12 : Exa Z h0 o12 sC0) (F_coder_o12 : Fld Z h0 o12 sC0 "coder" "B" (.int 0)) (F_value_o12 : Fld Z h0 o12 sC0 "value" "[B" (.ref o13)) (V_o13 : Arv Z h0 o13 kk_o13 .byte (2 : Int32) [(.int p12), (.int p13)] (.int 0)) (ne_o1_o8 : o1 ≠ o8) (ne_o3_o10 : o3 ≠ o10) (ne_o5_o12 : o5 ≠ o12) (hc0 : p4 = p11) (hc1 : p0 = p7) (hc2 : p1 = p8) (hc3 : p5 = p12) (hc4 : p6 = p13) (hc5 : p2 = p9) (hc6 : p3 = p10) :
    Pay l Z My11 ws prog_3_method_6_code 3 (some .boolean) #[(.ref o0), (.ref o7)] h0 ({ frames := 4, cells := 0, slots := 0, locals := 56 } : Room) (Q11_0 Z z_COMPACT_STRINGS o0 o1 o2 o3 o4 o5 o6 o7 o8 o9 o10 o11 o12 o13 kk_o2 kk_o4 kk_o6 kk_o9 kk_o11 kk_o13 p4 p0 p1 p2 p3 p5 p6 p11 p7 p8 p9 p10 p12 p13 h0 n0) := by
  refine own_body (plainFor_of_name pn_3) (L0 := #[va o0, va o7, uu]) (fun _ => by first | rfl | (simp [entryFrame, mkF, argsToLocals, Value.category]; done)) ?_
  intro p e s m below meth c s₁ hrt hlk hx hby hml hZ hown0 hnm X0 e0
  have hown : s.vm.findClass sC1 = some m.cls := hown0
  have N0 := Fr.nil n0
  have K0 : Keep h0 h0 [] := Keep.refl _ _
  obtain ⟨T1, X1, e1, st1⟩ := instY X0 hx hZ hown (ww hw 63 rfl) e0 (Ins.self E_o7) (g := (mkF m 1 #[va o0, va o7, uu] [(.ref o7)])) rfl rfl (hb hby d11_1)
  obtain ⟨T2, X2, e2, st2⟩ := castY X1 hx hZ hown (ww hw 63 rfl) e1 (Ins.self E_o7) (g := (mkF m 8 #[va o0, va o7, uu] [(.ref o7)])) rfl rfl (hb hby d11_8)
  obtain ⟨T3, X3, e3, st3⟩ := getF X2 hx hZ hown (host := "") (Or.inl (ww hw 52 rfl)) Via.refl e2 F_instruction_o0 (g := (mkF m 13 #[va o0, va o7, va o7] [(.ref o0)])) rfl rfl (hb hby d11_13)
  obtain ⟨T4, X4, e4, st4⟩ := getF X3 hx hZ hown (host := "") (Or.inl (ww hw 52 rfl)) Via.refl e3 F_instruction_o7 (g := (mkF m 17 #[va o0, va o7, va o7] [(.ref o7), (.int p4)])) rfl rfl (hb hby d11_17)
  obtain ⟨cq5, qa5, qb5⟩ := E_o0.cell
  obtain ⟨_, _, ⟨T5, L5, k5, n5⟩, -, X5, ⟨Lc5, hQ5, l5, y5, z5⟩, st5⟩ := X4.privateBack hx (y := My12) hown (mvT hZ (ww hw 65 rfl)) (mvT hZ (ww hw 66 rfl)) (own_selp (by decide) (mvT hZ (ww hw 1 rfl)) (mvP hZ (ww hw 67 rfl)) (mvT hZ (ww hw 66 rfl))) (Cond.privateMethod_at (mvP hZ (ww hw 67 rfl) (args := #[]))) (mvT hZ (ww hw 68 rfl)) (by decide) (backOf (W := 0) (rm12_0 l Z a0 hw [] z_COMPACT_STRINGS o0 o1 o2 o3 o4 o5 o6 o7 o8 o9 o10 o11 o12 o13 kk_o2 kk_o4 kk_o6 kk_o9 kk_o11 kk_o13 p4 p0 p1 p2 p3 p5 p6 p11 p7 p8 p9 p10 p12 p13 h0 n0 O0 S E_o0 F_className_o0 F_descriptor_o0 F_method_o0 E_o1 F_coder_o1 F_value_o1 V_o2 E_o3 F_coder_o3 F_value_o3 V_o4 E_o5 F_coder_o5 F_value_o5 V_o6 F_className_o7 F_descriptor_o7 F_method_o7 E_o8 F_coder_o8 F_value_o8 V_o9 E_o10 F_coder_o10 F_value_o10 V_o11 E_o12 F_coder_o12 F_value_o12 V_o13 ne_o1_o8 ne_o3_o10 ne_o5_o12 hc1 hc2 hc3 hc4 hc5 hc6) hZ (ww hw 68 rfl) (ww hw 2 rfl) (by decide) (by decide)) (g := (mkF m 25 #[va o0, va o7, va o7] [(.ref o7), (.ref o0)])) rfl (by rw [hml]; rfl) (Steps.refl _) (a := o0) (by rw [e4]; exact qa5) qb5 (argsL := [(.ref o7)]) (rest := []) (lenOf pd_12 rfl) rfl (by show 2 * 0 + _ ≤ _; exact Nat.le_of_eq rfl) (hb hby d11_25) (fun _ _ => ⟨rfl, e4, (by decide : 0 + 0 ≤ _), (by decide : 0 + 0 ≤ _)⟩)
  dsimp only [Pt.U, Pt.locs, Pt.cells, Pt.slots] at X5 l5 y5 z5 st5 hQ5
  subst l5 y5 z5
  obtain ⟨rfl, Nq5, e5⟩ := hQ5
  have N5 := Fr.app N0 Nq5
  obtain ⟨fs, hr, hrun, hended, hW, hsame⟩ := X5.leave (v := (some (.int 1))) (fun h => by rw [hrt] at h; cases h)
  refine ⟨_, _, ?_, hrun, hended, _, _, rfl, ?_, ⟨_, rfl⟩, hW, hsame.mono (by decide) (by decide)⟩
  · show Steps p.tables e below (s₁.setTop (mkF m 0 #[va o0, va o7, uu] [])) _
    refine XS.aloadN X0.here hx rfl (hb hby d11_0) rfl rfl ?_
    refine st1 _ ?_
    refine XS.ifNo X1.here hx rfl (hb hby d11_4) rfl ((if0 _ _).trans (feq (by decide : ¬ ((1 : Int32) = (0 : Int32)))).1) ?_
    refine XS.aloadN X1.here hx rfl (hb hby d11_7) rfl rfl ?_
    refine st2 _ ?_
    refine XS.astoreN X2.here hx rfl (hb hby d11_11) rfl rfl (l' := #[va o0, va o7, va o7]) rfl ?_
    refine XS.aloadN X2.here hx rfl (hb hby d11_12) rfl rfl ?_
    refine st3 _ ?_
    show Steps p.tables e below (T3.setTop (mkF m 16 #[va o0, va o7, va o7] [(.int p4)])) _
    refine XS.aloadN X3.here hx rfl (hb hby d11_16) rfl rfl ?_
    refine st4 _ ?_
    refine XS.icmpNo X4.here hx rfl (hb hby d11_20) rfl (teq hc0).2 ?_
    refine XS.aloadN X4.here hx rfl (hb hby d11_23) rfl rfl ?_
    refine XS.aloadN X4.here hx rfl (hb hby d11_24) rfl rfl ?_
    refine st5.trans ?_
    refine XS.ifNo X5.here hx rfl (hb hby d11_28) rfl ((if0 _ _).trans (feq (by decide : ¬ ((1 : Int32) = (0 : Int32)))).1) ?_
    refine XS.iconst X5.here hx rfl (hb hby d11_31) ?_
    show Steps p.tables e below (T5.setTop (mkF m 32 #[va o0, va o7, va o7] [(.int 1)])) _
    refine XS.goto X5.here hx rfl (pc0 := 32) (pc' := 36) rfl (hb hby d11_32) (by decide) (by decide) ?_
    exact retN X5 hx (t := .boolean) hrt (by simp) (hb hby d11_36) hr
  · show Q11_0 Z z_COMPACT_STRINGS o0 o1 o2 o3 o4 o5 o6 o7 o8 o9 o10 o11 o12 o13 kk_o2 kk_o4 kk_o6 kk_o9 kk_o11 kk_o13 p4 p0 p1 p2 p3 p5 p6 p11 p7 p8 p9 p10 p12 p13 h0 n0 (some (.int 1)) T5.heap _
    exact (⟨rfl, N5, e5⟩)
theorem d14_5 : decode jdk_42_method_66_code 5 = .ok (.iconst 1, 1) := by decide +kernel
theorem d14_6 : decode jdk_42_method_66_code 6 = .ok (.ireturn, 1) := by decide +kernel
def Q14_1 (Z : State) (z_COMPACT_STRINGS : Int32) (o0 : Addr) (o1 : Addr) (kk_o1 : ClassId) (p0 : Int32) (p1 : Int32) (h0 : Heap) (n0 : Nat) (v : Option Value) (h : Heap) (L : List Loc) : Prop := v = (some (.int 1)) ∧ Fr n0 L ∧ h = h0
theorem rm14_1 (l : Launch) (Z : State) (a0 : Array Value) (hw : HW Z a0) (ws : List Jvm.Cond) (z_COMPACT_STRINGS : Int32) (o0 : Addr) (o1 : Addr) (kk_o1 : ClassId) (p0 : Int32) (p1 : Int32) (h0 : Heap) (n0 : Nat) (O0 : Old Z n0 h0) (S : SF Z z_COMPACT_STRINGS) :
    Pay l Z My14 ws jdk_42_method_66_code 3 (some .boolean) #[(.ref o0), (.ref o0)] h0 ({ frames := 0, cells := 0, slots := 0, locals := 0 } : Room) (Q14_1 Z z_COMPACT_STRINGS o0 o1 kk_o1 p0 p1 h0 n0) := by
  refine own_body (plainFor_of_name pn_1) (L0 := #[va o0, va o0, uu]) (fun _ => by first | rfl | (simp [entryFrame, mkF, argsToLocals, Value.category]; done)) ?_
  intro p e s m below meth c s₁ hrt hlk hx hby hml hZ hown0 hnm X0 e0
  have hown : s.vm.findClass sC0 = some m.cls := hown0
  have N0 := Fr.nil n0
  have K0 : Keep h0 h0 [] := Keep.refl _ _
  obtain ⟨fs, hr, hrun, hended, hW, hsame⟩ := X0.leave (v := (some (.int 1))) (fun h => by rw [hrt] at h; cases h)
  refine ⟨_, _, ?_, hrun, hended, _, _, rfl, ?_, ⟨_, rfl⟩, hW, hsame.mono (by decide) (by decide)⟩
  · show Steps p.tables e below (s₁.setTop (mkF m 0 #[va o0, va o0, uu] [])) _
    refine XS.aloadN X0.here hx rfl (hb hby d14_0) rfl rfl ?_
    refine XS.aloadN X0.here hx rfl (hb hby d14_1) rfl rfl ?_
    refine Jvm.RoadKit.acmp (g := (mkF m 2 #[va o0, va o0, uu] [(.ref o0), (.ref o0)])) X0 hx rfl rfl rfl (pc0 := 2) (pc' := 5) (same := true) rfl (hb hby d14_2) rfl (decide_eq_true rfl) (by decide) (by decide) ?_
    refine XS.iconst X0.here hx rfl (hb hby d14_5) ?_
    exact retN X0 hx (t := .boolean) hrt (by simp) (hb hby d14_6) hr
  · show Q14_1 Z z_COMPACT_STRINGS o0 o1 kk_o1 p0 p1 h0 n0 (some (.int 1)) s₁.heap _
    exact (⟨rfl, N0, e0⟩)
def Q13_1 (Z : State) (z_COMPACT_STRINGS : Int32) (o0 : Addr) (o1 : Addr) (o2 : Addr) (o3 : Addr) (o4 : Addr) (o5 : Addr) (o6 : Addr) (kk_o2 : ClassId) (kk_o4 : ClassId) (kk_o6 : ClassId) (p4 : Int32) (p0 : Int32) (p1 : Int32) (p2 : Int32) (p3 : Int32) (p5 : Int32) (p6 : Int32) (h0 : Heap) (n0 : Nat) (v : Option Value) (h : Heap) (L : List Loc) : Prop := v = (some (.int 1)) ∧ Fr n0 L ∧ h = h0
theorem rm13_1 (l : Launch) (Z : State) (a0 : Array Value) (hw : HW Z a0) (ws : List Jvm.Cond) (z_COMPACT_STRINGS : Int32) (o0 : Addr) (o1 : Addr) (o2 : Addr) (o3 : Addr) (o4 : Addr) (o5 : Addr) (o6 : Addr) (kk_o2 : ClassId) (kk_o4 : ClassId) (kk_o6 : ClassId) (p4 : Int32) (p0 : Int32) (p1 : Int32) (p2 : Int32) (p3 : Int32) (p5 : Int32) (p6 : Int32) (h0 : Heap) (n0 : Nat) (O0 : Old Z n0 h0) (S : SF Z z_COMPACT_STRINGS) (F_className_o0 : Fld Z h0 o0 sC1 "className" "Ljava/lang/String;" (.ref o1)) (F_descriptor_o0 : Fld Z h0 o0 sC1 "descriptor" "Ljava/lang/String;" (.ref o3)) (F_method_o0 : Fld Z h0 o0 sC1 "method" "Ljava/lang/String;" (.ref o5)) (E_o1 : Exa Z h0 o1 sC0) (E_o3 : Exa Z h0 o3 sC0) (E_o5 : Exa Z h0 o5 sC0) :
    Pay l Z My13 ws prog_3_method_5_code 4 (some .boolean) #[(.ref o0), (.ref o1), (.ref o5), (.ref o3)] h0 ({ frames := 1, cells := 0, slots := 0, locals := 14 } : Room) (Q13_1 Z z_COMPACT_STRINGS o0 o1 o2 o3 o4 o5 o6 kk_o2 kk_o4 kk_o6 p4 p0 p1 p2 p3 p5 p6 h0 n0) := by
  refine own_body (plainFor_of_name pn_3) (L0 := #[va o0, va o1, va o5, va o3]) (fun _ => by first | rfl | (simp [entryFrame, mkF, argsToLocals, Value.category]; done)) ?_
  intro p e s m below meth c s₁ hrt hlk hx hby hml hZ hown0 hnm X0 e0
  have hown : s.vm.findClass sC1 = some m.cls := hown0
  have N0 := Fr.nil n0
  have K0 : Keep h0 h0 [] := Keep.refl _ _
  obtain ⟨T1, X1, e1, st1⟩ := getF X0 hx hZ hown (host := "") (Or.inl (ww hw 46 rfl)) Via.refl e0 F_className_o0 (g := (mkF m 1 #[va o0, va o1, va o5, va o3] [(.ref o0)])) rfl rfl (hb hby d13_1)
  obtain ⟨cq2, kq2, q2a, q2b, q2c⟩ := isOf hZ e1 E_o1
  obtain ⟨_, _, ⟨T2, L2, k2, n2⟩, -, X2, ⟨Lc2, hQ2, l2, y2, z2⟩, st2⟩ := X1.virtualBack hx (y := My14) (z := My14) hown (mvT hZ (ww hw 73 rfl)) (mvT hZ (ww hw 74 rfl)) (notFace_of_selects (args := #[]) (mvT hZ (ww hw 76 rfl))) (mvT hZ (ww hw 76 rfl)) (mvT hZ (ww hw 75 rfl)) (by decide) (backOf (W := 0) (rm14_1 l Z a0 hw [] z_COMPACT_STRINGS o1 o2 kk_o2 p0 p1 h0 n0 O0 S) hZ (ww hw 77 rfl) (ww hw 10 rfl) (by decide) (by decide)) q2a q2c (g := (mkF m 5 #[va o0, va o1, va o5, va o3] [(.ref o1), (.ref o1)])) rfl (by rw [hml]; rfl) (Steps.refl _) (argsL := [(.ref o1)]) (rest := []) (lenOf pd_10 rfl) rfl (by show 2 * 0 + _ ≤ _; exact Nat.le_of_eq rfl) (hb hby d13_5) (fun _ _ => ⟨rfl, e1, (by decide : 0 + 0 ≤ _), (by decide : 0 + 0 ≤ _)⟩)
  dsimp only [Pt.U, Pt.locs, Pt.cells, Pt.slots] at X2 l2 y2 z2 st2 hQ2
  subst l2 y2 z2
  obtain ⟨rfl, Nq2, e2⟩ := hQ2
  have N2 := Fr.app N0 Nq2
  obtain ⟨T3, X3, e3, st3⟩ := getF X2 hx hZ hown (host := "") (Or.inl (ww hw 48 rfl)) Via.refl e2 F_method_o0 (g := (mkF m 12 #[va o0, va o1, va o5, va o3] [(.ref o0)])) rfl rfl (hb hby d13_12)
  obtain ⟨cq4, kq4, q4a, q4b, q4c⟩ := isOf hZ e3 E_o5
  obtain ⟨_, _, ⟨T4, L4, k4, n4⟩, -, X4, ⟨Lc4, hQ4, l4, y4, z4⟩, st4⟩ := X3.virtualBack hx (y := My14) (z := My14) hown (mvT hZ (ww hw 73 rfl)) (mvT hZ (ww hw 74 rfl)) (notFace_of_selects (args := #[]) (mvT hZ (ww hw 76 rfl))) (mvT hZ (ww hw 76 rfl)) (mvT hZ (ww hw 75 rfl)) (by decide) (backOf (W := 0) (rm14_1 l Z a0 hw [] z_COMPACT_STRINGS o5 o6 kk_o6 p5 p6 h0 n0 O0 S) hZ (ww hw 77 rfl) (ww hw 10 rfl) (by decide) (by decide)) q4a q4c (g := (mkF m 16 #[va o0, va o1, va o5, va o3] [(.ref o5), (.ref o5)])) rfl (by rw [hml]; rfl) (Steps.refl _) (argsL := [(.ref o5)]) (rest := []) (lenOf pd_10 rfl) rfl (by show 2 * 0 + _ ≤ _; exact Nat.le_of_eq rfl) (hb hby d13_16) (fun _ _ => ⟨rfl, e3, (by decide : 0 + 0 ≤ _), (by decide : 0 + 0 ≤ _)⟩)
  dsimp only [Pt.U, Pt.locs, Pt.cells, Pt.slots] at X4 l4 y4 z4 st4 hQ4
  subst l4 y4 z4
  obtain ⟨rfl, Nq4, e4⟩ := hQ4
  have N4 := Fr.app N2 Nq4
  obtain ⟨T5, X5, e5, st5⟩ := getF X4 hx hZ hown (host := "") (Or.inl (ww hw 50 rfl)) Via.refl e4 F_descriptor_o0 (g := (mkF m 23 #[va o0, va o1, va o5, va o3] [(.ref o0)])) rfl rfl (hb hby d13_23)
  obtain ⟨cq6, kq6, q6a, q6b, q6c⟩ := isOf hZ e5 E_o3
  obtain ⟨_, _, ⟨T6, L6, k6, n6⟩, -, X6, ⟨Lc6, hQ6, l6, y6, z6⟩, st6⟩ := X5.virtualBack hx (y := My14) (z := My14) hown (mvT hZ (ww hw 73 rfl)) (mvT hZ (ww hw 74 rfl)) (notFace_of_selects (args := #[]) (mvT hZ (ww hw 76 rfl))) (mvT hZ (ww hw 76 rfl)) (mvT hZ (ww hw 75 rfl)) (by decide) (backOf (W := 0) (rm14_1 l Z a0 hw [] z_COMPACT_STRINGS o3 o4 kk_o4 p2 p3 h0 n0 O0 S) hZ (ww hw 77 rfl) (ww hw 10 rfl) (by decide) (by decide)) q6a q6c (g := (mkF m 27 #[va o0, va o1, va o5, va o3] [(.ref o3), (.ref o3)])) rfl (by rw [hml]; rfl) (Steps.refl _) (argsL := [(.ref o3)]) (rest := []) (lenOf pd_10 rfl) rfl (by show 2 * 0 + _ ≤ _; exact Nat.le_of_eq rfl) (hb hby d13_27) (fun _ _ => ⟨rfl, e5, (by decide : 0 + 0 ≤ _), (by decide : 0 + 0 ≤ _)⟩)
  dsimp only [Pt.U, Pt.locs, Pt.cells, Pt.slots] at X6 l6 y6 z6 st6 hQ6
  subst l6 y6 z6
  obtain ⟨rfl, Nq6, e6⟩ := hQ6
  have N6 := Fr.app N4 Nq6
  obtain ⟨fs, hr, hrun, hended, hW, hsame⟩ := X6.leave (v := (some (.int 1))) (fun h => by rw [hrt] at h; cases h)
  refine ⟨_, _, ?_, hrun, hended, _, _, rfl, ?_, ⟨_, rfl⟩, hW, hsame.mono (by decide) (by decide)⟩
  · show Steps p.tables e below (s₁.setTop (mkF m 0 #[va o0, va o1, va o5, va o3] [])) _
    refine XS.aloadN X0.here hx rfl (hb hby d13_0) rfl rfl ?_
    refine st1 _ ?_
    refine XS.aloadN X1.here hx rfl (hb hby d13_4) rfl rfl ?_
    refine st2.trans ?_
    refine XS.ifNo X2.here hx rfl (hb hby d13_8) rfl ((if0 _ _).trans (feq (by decide : ¬ ((1 : Int32) = (0 : Int32)))).1) ?_
    refine XS.aloadN X2.here hx rfl (hb hby d13_11) rfl rfl ?_
    refine st3 _ ?_
    refine XS.aloadN X3.here hx rfl (hb hby d13_15) rfl rfl ?_
    show Steps p.tables e below (T3.setTop (mkF m 16 #[va o0, va o1, va o5, va o3] [(.ref o5), (.ref o5)])) _
    refine st4.trans ?_
    refine XS.ifNo X4.here hx rfl (hb hby d13_19) rfl ((if0 _ _).trans (feq (by decide : ¬ ((1 : Int32) = (0 : Int32)))).1) ?_
    refine XS.aloadN X4.here hx rfl (hb hby d13_22) rfl rfl ?_
    refine st5 _ ?_
    refine XS.aloadN X5.here hx rfl (hb hby d13_26) rfl rfl ?_
    refine st6.trans ?_
    refine XS.ifNo X6.here hx rfl (hb hby d13_30) rfl ((if0 _ _).trans (feq (by decide : ¬ ((1 : Int32) = (0 : Int32)))).1) ?_
    refine XS.iconst X6.here hx rfl (hb hby d13_33) ?_
    show Steps p.tables e below (T6.setTop (mkF m 34 #[va o0, va o1, va o5, va o3] [(.int 1)])) _
    refine XS.goto X6.here hx rfl (pc0 := 34) (pc' := 38) rfl (hb hby d13_34) (by decide) (by decide) ?_
    exact retN X6 hx (t := .boolean) hrt (by simp) (hb hby d13_38) hr
  · show Q13_1 Z z_COMPACT_STRINGS o0 o1 o2 o3 o4 o5 o6 kk_o2 kk_o4 kk_o6 p4 p0 p1 p2 p3 p5 p6 h0 n0 (some (.int 1)) T6.heap _
    exact (⟨rfl, N6, e6⟩)
def Q12_1 (Z : State) (z_COMPACT_STRINGS : Int32) (o0 : Addr) (o1 : Addr) (o2 : Addr) (o3 : Addr) (o4 : Addr) (o5 : Addr) (o6 : Addr) (kk_o2 : ClassId) (kk_o4 : ClassId) (kk_o6 : ClassId) (p4 : Int32) (p0 : Int32) (p1 : Int32) (p2 : Int32) (p3 : Int32) (p5 : Int32) (p6 : Int32) (h0 : Heap) (n0 : Nat) (v : Option Value) (h : Heap) (L : List Loc) : Prop := v = (some (.int 1)) ∧ Fr n0 L ∧ h = h0
theorem rm12_1 (l : Launch) (Z : State) (a0 : Array Value) (hw : HW Z a0) (ws : List Jvm.Cond) (z_COMPACT_STRINGS : Int32) (o0 : Addr) (o1 : Addr) (o2 : Addr) (o3 : Addr) (o4 : Addr) (o5 : Addr) (o6 : Addr) (kk_o2 : ClassId) (kk_o4 : ClassId) (kk_o6 : ClassId) (p4 : Int32) (p0 : Int32) (p1 : Int32) (p2 : Int32) (p3 : Int32) (p5 : Int32) (p6 : Int32) (h0 : Heap) (n0 : Nat) (O0 : Old Z n0 h0) (S : SF Z z_COMPACT_STRINGS) (E_o0 : Exa Z h0 o0 sC1) (F_className_o0 : Fld Z h0 o0 sC1 "className" "Ljava/lang/String;" (.ref o1)) (F_descriptor_o0 : Fld Z h0 o0 sC1 "descriptor" "Ljava/lang/String;" (.ref o3)) (F_method_o0 : Fld Z h0 o0 sC1 "method" "Ljava/lang/String;" (.ref o5)) (E_o1 : Exa Z h0 o1 sC0) (E_o3 : Exa Z h0 o3 sC0) (E_o5 : Exa Z h0 o5 sC0) :
    Pay l Z My12 ws prog_3_method_4_code 2 (some .boolean) #[(.ref o0), (.ref o0)] h0 ({ frames := 2, cells := 0, slots := 0, locals := 29 } : Room) (Q12_1 Z z_COMPACT_STRINGS o0 o1 o2 o3 o4 o5 o6 kk_o2 kk_o4 kk_o6 p4 p0 p1 p2 p3 p5 p6 h0 n0) := by
  refine own_body (plainFor_of_name pn_3) (L0 := #[va o0, va o0]) (fun _ => by first | rfl | (simp [entryFrame, mkF, argsToLocals, Value.category]; done)) ?_
  intro p e s m below meth c s₁ hrt hlk hx hby hml hZ hown0 hnm X0 e0
  have hown : s.vm.findClass sC1 = some m.cls := hown0
  have N0 := Fr.nil n0
  have K0 : Keep h0 h0 [] := Keep.refl _ _
  obtain ⟨T1, X1, e1, st1⟩ := getF X0 hx hZ hown (host := "") (Or.inl (ww hw 46 rfl)) Via.refl e0 F_className_o0 (g := (mkF m 2 #[va o0, va o0] [(.ref o0), (.ref o0)])) rfl rfl (hb hby d12_2)
  obtain ⟨T2, X2, e2, st2⟩ := getF X1 hx hZ hown (host := "") (Or.inl (ww hw 48 rfl)) Via.refl e1 F_method_o0 (g := (mkF m 6 #[va o0, va o0] [(.ref o0), (.ref o1), (.ref o0)])) rfl rfl (hb hby d12_6)
  obtain ⟨T3, X3, e3, st3⟩ := getF X2 hx hZ hown (host := "") (Or.inl (ww hw 50 rfl)) Via.refl e2 F_descriptor_o0 (g := (mkF m 10 #[va o0, va o0] [(.ref o0), (.ref o5), (.ref o1), (.ref o0)])) rfl rfl (hb hby d12_10)
  obtain ⟨cq4, qa4, qb4⟩ := E_o0.cell
  obtain ⟨_, _, ⟨T4, L4, k4, n4⟩, -, X4, ⟨Lc4, hQ4, l4, y4, z4⟩, st4⟩ := X3.privateBack hx (y := My13) hown (mvT hZ (ww hw 69 rfl)) (mvT hZ (ww hw 70 rfl)) (own_selp (by decide) (mvT hZ (ww hw 1 rfl)) (mvP hZ (ww hw 71 rfl)) (mvT hZ (ww hw 70 rfl))) (Cond.privateMethod_at (mvP hZ (ww hw 71 rfl) (args := #[]))) (mvT hZ (ww hw 72 rfl)) (by decide) (backOf (W := 0) (rm13_1 l Z a0 hw [] z_COMPACT_STRINGS o0 o1 o2 o3 o4 o5 o6 kk_o2 kk_o4 kk_o6 p4 p0 p1 p2 p3 p5 p6 h0 n0 O0 S F_className_o0 F_descriptor_o0 F_method_o0 E_o1 E_o3 E_o5) hZ (ww hw 72 rfl) (ww hw 2 rfl) (by decide) (by decide)) (g := (mkF m 13 #[va o0, va o0] [(.ref o3), (.ref o5), (.ref o1), (.ref o0)])) rfl (by rw [hml]; rfl) (Steps.refl _) (a := o0) (by rw [e3]; exact qa4) qb4 (argsL := [(.ref o1), (.ref o5), (.ref o3)]) (rest := []) (lenOf pd_11 rfl) rfl (by show 2 * 0 + _ ≤ _; exact Nat.le_of_eq rfl) (hb hby d12_13) (fun _ _ => ⟨rfl, e3, (by decide : 0 + 0 ≤ _), (by decide : 0 + 0 ≤ _)⟩)
  dsimp only [Pt.U, Pt.locs, Pt.cells, Pt.slots] at X4 l4 y4 z4 st4 hQ4
  subst l4 y4 z4
  obtain ⟨rfl, Nq4, e4⟩ := hQ4
  have N4 := Fr.app N0 Nq4
  obtain ⟨fs, hr, hrun, hended, hW, hsame⟩ := X4.leave (v := (some (.int 1))) (fun h => by rw [hrt] at h; cases h)
  refine ⟨_, _, ?_, hrun, hended, _, _, rfl, ?_, ⟨_, rfl⟩, hW, hsame.mono (by decide) (by decide)⟩
  · show Steps p.tables e below (s₁.setTop (mkF m 0 #[va o0, va o0] [])) _
    refine XS.aloadN X0.here hx rfl (hb hby d12_0) rfl rfl ?_
    refine XS.aloadN X0.here hx rfl (hb hby d12_1) rfl rfl ?_
    refine st1 _ ?_
    refine XS.aloadN X1.here hx rfl (hb hby d12_5) rfl rfl ?_
    refine st2 _ ?_
    refine XS.aloadN X2.here hx rfl (hb hby d12_9) rfl rfl ?_
    refine st3 _ ?_
    refine st4.trans ?_
    show Steps p.tables e below (T4.setTop (mkF m 16 #[va o0, va o0] [(.int 1)])) _
    exact retN X4 hx (t := .boolean) hrt (by simp) (hb hby d12_16) hr
  · show Q12_1 Z z_COMPACT_STRINGS o0 o1 o2 o3 o4 o5 o6 kk_o2 kk_o4 kk_o6 p4 p0 p1 p2 p3 p5 p6 h0 n0 (some (.int 1)) T4.heap _
    exact (⟨rfl, N4, e4⟩)
def Q11_1 (Z : State) (z_COMPACT_STRINGS : Int32) (o0 : Addr) (o1 : Addr) (o2 : Addr) (o3 : Addr) (o4 : Addr) (o5 : Addr) (o6 : Addr) (kk_o2 : ClassId) (kk_o4 : ClassId) (kk_o6 : ClassId) (p4 : Int32) (p0 : Int32) (p1 : Int32) (p2 : Int32) (p3 : Int32) (p5 : Int32) (p6 : Int32) (h0 : Heap) (n0 : Nat) (v : Option Value) (h : Heap) (L : List Loc) : Prop := v = (some (.int 1)) ∧ Fr n0 L ∧ h = h0
theorem rm11_1 (l : Launch) (Z : State) (a0 : Array Value) (hw : HW Z a0) (ws : List Jvm.Cond) (z_COMPACT_STRINGS : Int32) (o0 : Addr) (o1 : Addr) (o2 : Addr) (o3 : Addr) (o4 : Addr) (o5 : Addr) (o6 : Addr) (kk_o2 : ClassId) (kk_o4 : ClassId) (kk_o6 : ClassId) (p4 : Int32) (p0 : Int32) (p1 : Int32) (p2 : Int32) (p3 : Int32) (p5 : Int32) (p6 : Int32) (h0 : Heap) (n0 : Nat) (O0 : Old Z n0 h0) (S : SF Z z_COMPACT_STRINGS) (E_o0 : Exa Z h0 o0 sC1) (F_className_o0 : Fld Z h0 o0 sC1 "className" "Ljava/lang/String;" (.ref o1)) (F_descriptor_o0 : Fld Z h0 o0 sC1 "descriptor" "Ljava/lang/String;" (.ref o3)) (F_instruction_o0 : Fld Z h0 o0 sC1 "instruction" "I" (.int p4)) (F_method_o0 : Fld Z h0 o0 sC1 "method" "Ljava/lang/String;" (.ref o5)) (E_o1 : Exa Z h0 o1 sC0) (E_o3 : Exa Z h0 o3 sC0) (E_o5 : Exa Z h0 o5 sC0) :
    Pay l Z My11 ws prog_3_method_6_code 3 (some .boolean) #[(.ref o0), (.ref o0)] h0 ({ frames := 3, cells := 0, slots := 0, locals := 42 } : Room) (Q11_1 Z z_COMPACT_STRINGS o0 o1 o2 o3 o4 o5 o6 kk_o2 kk_o4 kk_o6 p4 p0 p1 p2 p3 p5 p6 h0 n0) := by
  refine own_body (plainFor_of_name pn_3) (L0 := #[va o0, va o0, uu]) (fun _ => by first | rfl | (simp [entryFrame, mkF, argsToLocals, Value.category]; done)) ?_
  intro p e s m below meth c s₁ hrt hlk hx hby hml hZ hown0 hnm X0 e0
  have hown : s.vm.findClass sC1 = some m.cls := hown0
  have N0 := Fr.nil n0
  have K0 : Keep h0 h0 [] := Keep.refl _ _
  obtain ⟨T1, X1, e1, st1⟩ := instY X0 hx hZ hown (ww hw 63 rfl) e0 (Ins.self E_o0) (g := (mkF m 1 #[va o0, va o0, uu] [(.ref o0)])) rfl rfl (hb hby d11_1)
  obtain ⟨T2, X2, e2, st2⟩ := castY X1 hx hZ hown (ww hw 63 rfl) e1 (Ins.self E_o0) (g := (mkF m 8 #[va o0, va o0, uu] [(.ref o0)])) rfl rfl (hb hby d11_8)
  obtain ⟨T3, X3, e3, st3⟩ := getF X2 hx hZ hown (host := "") (Or.inl (ww hw 52 rfl)) Via.refl e2 F_instruction_o0 (g := (mkF m 13 #[va o0, va o0, va o0] [(.ref o0)])) rfl rfl (hb hby d11_13)
  obtain ⟨T4, X4, e4, st4⟩ := getF X3 hx hZ hown (host := "") (Or.inl (ww hw 52 rfl)) Via.refl e3 F_instruction_o0 (g := (mkF m 17 #[va o0, va o0, va o0] [(.ref o0), (.int p4)])) rfl rfl (hb hby d11_17)
  obtain ⟨cq5, qa5, qb5⟩ := E_o0.cell
  obtain ⟨_, _, ⟨T5, L5, k5, n5⟩, -, X5, ⟨Lc5, hQ5, l5, y5, z5⟩, st5⟩ := X4.privateBack hx (y := My12) hown (mvT hZ (ww hw 65 rfl)) (mvT hZ (ww hw 66 rfl)) (own_selp (by decide) (mvT hZ (ww hw 1 rfl)) (mvP hZ (ww hw 67 rfl)) (mvT hZ (ww hw 66 rfl))) (Cond.privateMethod_at (mvP hZ (ww hw 67 rfl) (args := #[]))) (mvT hZ (ww hw 68 rfl)) (by decide) (backOf (W := 0) (rm12_1 l Z a0 hw [] z_COMPACT_STRINGS o0 o1 o2 o3 o4 o5 o6 kk_o2 kk_o4 kk_o6 p4 p0 p1 p2 p3 p5 p6 h0 n0 O0 S E_o0 F_className_o0 F_descriptor_o0 F_method_o0 E_o1 E_o3 E_o5) hZ (ww hw 68 rfl) (ww hw 2 rfl) (by decide) (by decide)) (g := (mkF m 25 #[va o0, va o0, va o0] [(.ref o0), (.ref o0)])) rfl (by rw [hml]; rfl) (Steps.refl _) (a := o0) (by rw [e4]; exact qa5) qb5 (argsL := [(.ref o0)]) (rest := []) (lenOf pd_12 rfl) rfl (by show 2 * 0 + _ ≤ _; exact Nat.le_of_eq rfl) (hb hby d11_25) (fun _ _ => ⟨rfl, e4, (by decide : 0 + 0 ≤ _), (by decide : 0 + 0 ≤ _)⟩)
  dsimp only [Pt.U, Pt.locs, Pt.cells, Pt.slots] at X5 l5 y5 z5 st5 hQ5
  subst l5 y5 z5
  obtain ⟨rfl, Nq5, e5⟩ := hQ5
  have N5 := Fr.app N0 Nq5
  obtain ⟨fs, hr, hrun, hended, hW, hsame⟩ := X5.leave (v := (some (.int 1))) (fun h => by rw [hrt] at h; cases h)
  refine ⟨_, _, ?_, hrun, hended, _, _, rfl, ?_, ⟨_, rfl⟩, hW, hsame.mono (by decide) (by decide)⟩
  · show Steps p.tables e below (s₁.setTop (mkF m 0 #[va o0, va o0, uu] [])) _
    refine XS.aloadN X0.here hx rfl (hb hby d11_0) rfl rfl ?_
    refine st1 _ ?_
    refine XS.ifNo X1.here hx rfl (hb hby d11_4) rfl ((if0 _ _).trans (feq (by decide : ¬ ((1 : Int32) = (0 : Int32)))).1) ?_
    refine XS.aloadN X1.here hx rfl (hb hby d11_7) rfl rfl ?_
    refine st2 _ ?_
    refine XS.astoreN X2.here hx rfl (hb hby d11_11) rfl rfl (l' := #[va o0, va o0, va o0]) rfl ?_
    refine XS.aloadN X2.here hx rfl (hb hby d11_12) rfl rfl ?_
    refine st3 _ ?_
    show Steps p.tables e below (T3.setTop (mkF m 16 #[va o0, va o0, va o0] [(.int p4)])) _
    refine XS.aloadN X3.here hx rfl (hb hby d11_16) rfl rfl ?_
    refine st4 _ ?_
    refine XS.icmpNo X4.here hx rfl (hb hby d11_20) rfl (teq (rfl : p4 = p4)).2 ?_
    refine XS.aloadN X4.here hx rfl (hb hby d11_23) rfl rfl ?_
    refine XS.aloadN X4.here hx rfl (hb hby d11_24) rfl rfl ?_
    refine st5.trans ?_
    refine XS.ifNo X5.here hx rfl (hb hby d11_28) rfl ((if0 _ _).trans (feq (by decide : ¬ ((1 : Int32) = (0 : Int32)))).1) ?_
    refine XS.iconst X5.here hx rfl (hb hby d11_31) ?_
    show Steps p.tables e below (T5.setTop (mkF m 32 #[va o0, va o0, va o0] [(.int 1)])) _
    refine XS.goto X5.here hx rfl (pc0 := 32) (pc' := 36) rfl (hb hby d11_32) (by decide) (by decide) ?_
    exact retN X5 hx (t := .boolean) hrt (by simp) (hb hby d11_36) hr
  · show Q11_1 Z z_COMPACT_STRINGS o0 o1 o2 o3 o4 o5 o6 kk_o2 kk_o4 kk_o6 p4 p0 p1 p2 p3 p5 p6 h0 n0 (some (.int 1)) T5.heap _
    exact (⟨rfl, N5, e5⟩)
theorem d11_35 : decode prog_3_method_6_code 35 = .ok (.iconst 0, 1) := by decide +kernel
def Q11_2 (Z : State) (z_COMPACT_STRINGS : Int32) (o0 : Addr) (o1 : Addr) (o2 : Addr) (o3 : Addr) (o4 : Addr) (o5 : Addr) (o6 : Addr) (kk_o2 : ClassId) (kk_o4 : ClassId) (kk_o6 : ClassId) (p4 : Int32) (p0 : Int32) (p1 : Int32) (p2 : Int32) (p3 : Int32) (p5 : Int32) (p6 : Int32) (h0 : Heap) (n0 : Nat) (v : Option Value) (h : Heap) (L : List Loc) : Prop := v = (some (.int 0)) ∧ Fr n0 L ∧ h = h0
theorem rm11_2 (l : Launch) (Z : State) (a0 : Array Value) (hw : HW Z a0) (ws : List Jvm.Cond) (z_COMPACT_STRINGS : Int32) (o0 : Addr) (o1 : Addr) (o2 : Addr) (o3 : Addr) (o4 : Addr) (o5 : Addr) (o6 : Addr) (kk_o2 : ClassId) (kk_o4 : ClassId) (kk_o6 : ClassId) (p4 : Int32) (p0 : Int32) (p1 : Int32) (p2 : Int32) (p3 : Int32) (p5 : Int32) (p6 : Int32) (h0 : Heap) (n0 : Nat) (O0 : Old Z n0 h0) (S : SF Z z_COMPACT_STRINGS) :
    Pay l Z My11 ws prog_3_method_6_code 3 (some .boolean) #[(.ref o0), .null] h0 ({ frames := 0, cells := 0, slots := 0, locals := 0 } : Room) (Q11_2 Z z_COMPACT_STRINGS o0 o1 o2 o3 o4 o5 o6 kk_o2 kk_o4 kk_o6 p4 p0 p1 p2 p3 p5 p6 h0 n0) := by
  refine own_body (plainFor_of_name pn_3) (L0 := #[va o0, .val .null, uu]) (fun _ => by first | rfl | (simp [entryFrame, mkF, argsToLocals, Value.category]; done)) ?_
  intro p e s m below meth c s₁ hrt hlk hx hby hml hZ hown0 hnm X0 e0
  have hown : s.vm.findClass sC1 = some m.cls := hown0
  have N0 := Fr.nil n0
  have K0 : Keep h0 h0 [] := Keep.refl _ _
  obtain ⟨fs, hr, hrun, hended, hW, hsame⟩ := X0.leave (v := (some (.int 0))) (fun h => by rw [hrt] at h; cases h)
  refine ⟨_, _, ?_, hrun, hended, _, _, rfl, ?_, ⟨_, rfl⟩, hW, hsame.mono (by decide) (by decide)⟩
  · show Steps p.tables e below (s₁.setTop (mkF m 0 #[va o0, .val .null, uu] [])) _
    refine XS.aloadN X0.here hx rfl (hb hby d11_0) rfl rfl ?_
    refine X0.instanceofNull hx (g := (mkF m 1 #[va o0, .val .null, uu] [.null])) rfl rfl (hb hby d11_1) _ ?_
    refine XS.ifYes X0.here hx rfl (pc0 := 4) (pc' := 35) rfl (hb hby d11_4) rfl ((if0 _ _).trans (teq (by decide : (0 : Int32) = (0 : Int32))).1) (by decide) (by decide) ?_
    refine XS.iconst X0.here hx rfl (hb hby d11_35) ?_
    exact retN X0 hx (t := .boolean) hrt (by simp) (hb hby d11_36) hr
  · show Q11_2 Z z_COMPACT_STRINGS o0 o1 o2 o3 o4 o5 o6 kk_o2 kk_o4 kk_o6 p4 p0 p1 p2 p3 p5 p6 h0 n0 (some (.int 0)) s₁.heap _
    exact (⟨rfl, N0, e0⟩)
def Q11_3 (Z : State) (z_COMPACT_STRINGS : Int32) (o0 : Addr) (o1 : Addr) (o2 : Addr) (o3 : Addr) (o4 : Addr) (o5 : Addr) (o6 : Addr) (o7 : Addr) (o8 : Addr) (kk_o2 : ClassId) (kk_o4 : ClassId) (kk_o6 : ClassId) (kk_o8 : ClassId) (p4 : Int32) (p0 : Int32) (p1 : Int32) (p2 : Int32) (p3 : Int32) (p5 : Int32) (p6 : Int32) (p7 : Int32) (p8 : Int32) (h0 : Heap) (n0 : Nat) (v : Option Value) (h : Heap) (L : List Loc) : Prop := v = (some (.int 0)) ∧ Fr n0 L ∧ h = h0
theorem rm11_3 (l : Launch) (Z : State) (a0 : Array Value) (hw : HW Z a0) (ws : List Jvm.Cond) (z_COMPACT_STRINGS : Int32) (o0 : Addr) (o1 : Addr) (o2 : Addr) (o3 : Addr) (o4 : Addr) (o5 : Addr) (o6 : Addr) (o7 : Addr) (o8 : Addr) (kk_o2 : ClassId) (kk_o4 : ClassId) (kk_o6 : ClassId) (kk_o8 : ClassId) (p4 : Int32) (p0 : Int32) (p1 : Int32) (p2 : Int32) (p3 : Int32) (p5 : Int32) (p6 : Int32) (p7 : Int32) (p8 : Int32) (h0 : Heap) (n0 : Nat) (O0 : Old Z n0 h0) (S : SF Z z_COMPACT_STRINGS) (E_o7 : Exa Z h0 o7 sC0) :
    Pay l Z My11 ws prog_3_method_6_code 3 (some .boolean) #[(.ref o0), (.ref o7)] h0 ({ frames := 0, cells := 0, slots := 0, locals := 0 } : Room) (Q11_3 Z z_COMPACT_STRINGS o0 o1 o2 o3 o4 o5 o6 o7 o8 kk_o2 kk_o4 kk_o6 kk_o8 p4 p0 p1 p2 p3 p5 p6 p7 p8 h0 n0) := by
  refine own_body (plainFor_of_name pn_3) (L0 := #[va o0, va o7, uu]) (fun _ => by first | rfl | (simp [entryFrame, mkF, argsToLocals, Value.category]; done)) ?_
  intro p e s m below meth c s₁ hrt hlk hx hby hml hZ hown0 hnm X0 e0
  have hown : s.vm.findClass sC1 = some m.cls := hown0
  have N0 := Fr.nil n0
  have K0 : Keep h0 h0 [] := Keep.refl _ _
  obtain ⟨T1, X1, e1, st1⟩ := instNo X0 hx hZ hown (ww hw 63 rfl) e0 E_o7 (own_notIns (ww hw 78 rfl) (ww hw 79 rfl) (ww hw 1 rfl) (by decide) (by decide)) (g := (mkF m 1 #[va o0, va o7, uu] [(.ref o7)])) rfl rfl (hb hby d11_1)
  obtain ⟨fs, hr, hrun, hended, hW, hsame⟩ := X1.leave (v := (some (.int 0))) (fun h => by rw [hrt] at h; cases h)
  refine ⟨_, _, ?_, hrun, hended, _, _, rfl, ?_, ⟨_, rfl⟩, hW, hsame.mono (by decide) (by decide)⟩
  · show Steps p.tables e below (s₁.setTop (mkF m 0 #[va o0, va o7, uu] [])) _
    refine XS.aloadN X0.here hx rfl (hb hby d11_0) rfl rfl ?_
    refine st1 _ ?_
    refine XS.ifYes X1.here hx rfl (pc0 := 4) (pc' := 35) rfl (hb hby d11_4) rfl ((if0 _ _).trans (teq (by decide : (0 : Int32) = (0 : Int32))).1) (by decide) (by decide) ?_
    refine XS.iconst X1.here hx rfl (hb hby d11_35) ?_
    exact retN X1 hx (t := .boolean) hrt (by simp) (hb hby d11_36) hr
  · show Q11_3 Z z_COMPACT_STRINGS o0 o1 o2 o3 o4 o5 o6 o7 o8 kk_o2 kk_o4 kk_o6 kk_o8 p4 p0 p1 p2 p3 p5 p6 p7 p8 h0 n0 (some (.int 0)) T1.heap _
    exact (⟨rfl, N0, e1⟩)
def Q11_4 (Z : State) (z_COMPACT_STRINGS : Int32) (o0 : Addr) (o1 : Addr) (o2 : Addr) (o3 : Addr) (o4 : Addr) (o5 : Addr) (o6 : Addr) (o7 : Addr) (o8 : Addr) (o9 : Addr) (o10 : Addr) (o11 : Addr) (o12 : Addr) (o13 : Addr) (kk_o2 : ClassId) (kk_o4 : ClassId) (kk_o6 : ClassId) (kk_o9 : ClassId) (kk_o11 : ClassId) (kk_o13 : ClassId) (p4 : Int32) (p0 : Int32) (p1 : Int32) (p2 : Int32) (p3 : Int32) (p5 : Int32) (p6 : Int32) (p11 : Int32) (p7 : Int32) (p8 : Int32) (p9 : Int32) (p10 : Int32) (p12 : Int32) (p13 : Int32) (h0 : Heap) (n0 : Nat) (v : Option Value) (h : Heap) (L : List Loc) : Prop := v = (some (.int 0)) ∧ Fr n0 L ∧ h = h0
theorem rm11_4 (l : Launch) (Z : State) (a0 : Array Value) (hw : HW Z a0) (ws : List Jvm.Cond) (z_COMPACT_STRINGS : Int32) (o0 : Addr) (o1 : Addr) (o2 : Addr) (o3 : Addr) (o4 : Addr) (o5 : Addr) (o6 : Addr) (o7 : Addr) (o8 : Addr) (o9 : Addr) (o10 : Addr) (o11 : Addr) (o12 : Addr) (o13 : Addr) (kk_o2 : ClassId) (kk_o4 : ClassId) (kk_o6 : ClassId) (kk_o9 : ClassId) (kk_o11 : ClassId) (kk_o13 : ClassId) (p4 : Int32) (p0 : Int32) (p1 : Int32) (p2 : Int32) (p3 : Int32) (p5 : Int32) (p6 : Int32) (p11 : Int32) (p7 : Int32) (p8 : Int32) (p9 : Int32) (p10 : Int32) (p12 : Int32) (p13 : Int32) (h0 : Heap) (n0 : Nat) (O0 : Old Z n0 h0) (S : SF Z z_COMPACT_STRINGS) (F_instruction_o0 : Fld Z h0 o0 sC1 "instruction" "I" (.int p4)) (E_o7 : Exa Z h0 o7 sC1) (F_instruction_o7 : Fld Z h0 o7 sC1 "instruction" "I" (.int p11)) (hc0 : ¬ (p4 = p11)) :
    Pay l Z My11 ws prog_3_method_6_code 3 (some .boolean) #[(.ref o0), (.ref o7)] h0 ({ frames := 0, cells := 0, slots := 0, locals := 0 } : Room) (Q11_4 Z z_COMPACT_STRINGS o0 o1 o2 o3 o4 o5 o6 o7 o8 o9 o10 o11 o12 o13 kk_o2 kk_o4 kk_o6 kk_o9 kk_o11 kk_o13 p4 p0 p1 p2 p3 p5 p6 p11 p7 p8 p9 p10 p12 p13 h0 n0) := by
  refine own_body (plainFor_of_name pn_3) (L0 := #[va o0, va o7, uu]) (fun _ => by first | rfl | (simp [entryFrame, mkF, argsToLocals, Value.category]; done)) ?_
  intro p e s m below meth c s₁ hrt hlk hx hby hml hZ hown0 hnm X0 e0
  have hown : s.vm.findClass sC1 = some m.cls := hown0
  have N0 := Fr.nil n0
  have K0 : Keep h0 h0 [] := Keep.refl _ _
  obtain ⟨T1, X1, e1, st1⟩ := instY X0 hx hZ hown (ww hw 63 rfl) e0 (Ins.self E_o7) (g := (mkF m 1 #[va o0, va o7, uu] [(.ref o7)])) rfl rfl (hb hby d11_1)
  obtain ⟨T2, X2, e2, st2⟩ := castY X1 hx hZ hown (ww hw 63 rfl) e1 (Ins.self E_o7) (g := (mkF m 8 #[va o0, va o7, uu] [(.ref o7)])) rfl rfl (hb hby d11_8)
  obtain ⟨T3, X3, e3, st3⟩ := getF X2 hx hZ hown (host := "") (Or.inl (ww hw 52 rfl)) Via.refl e2 F_instruction_o0 (g := (mkF m 13 #[va o0, va o7, va o7] [(.ref o0)])) rfl rfl (hb hby d11_13)
  obtain ⟨T4, X4, e4, st4⟩ := getF X3 hx hZ hown (host := "") (Or.inl (ww hw 52 rfl)) Via.refl e3 F_instruction_o7 (g := (mkF m 17 #[va o0, va o7, va o7] [(.ref o7), (.int p4)])) rfl rfl (hb hby d11_17)
  obtain ⟨fs, hr, hrun, hended, hW, hsame⟩ := X4.leave (v := (some (.int 0))) (fun h => by rw [hrt] at h; cases h)
  refine ⟨_, _, ?_, hrun, hended, _, _, rfl, ?_, ⟨_, rfl⟩, hW, hsame.mono (by decide) (by decide)⟩
  · show Steps p.tables e below (s₁.setTop (mkF m 0 #[va o0, va o7, uu] [])) _
    refine XS.aloadN X0.here hx rfl (hb hby d11_0) rfl rfl ?_
    refine st1 _ ?_
    refine XS.ifNo X1.here hx rfl (hb hby d11_4) rfl ((if0 _ _).trans (feq (by decide : ¬ ((1 : Int32) = (0 : Int32)))).1) ?_
    refine XS.aloadN X1.here hx rfl (hb hby d11_7) rfl rfl ?_
    refine st2 _ ?_
    refine XS.astoreN X2.here hx rfl (hb hby d11_11) rfl rfl (l' := #[va o0, va o7, va o7]) rfl ?_
    refine XS.aloadN X2.here hx rfl (hb hby d11_12) rfl rfl ?_
    refine st3 _ ?_
    show Steps p.tables e below (T3.setTop (mkF m 16 #[va o0, va o7, va o7] [(.int p4)])) _
    refine XS.aloadN X3.here hx rfl (hb hby d11_16) rfl rfl ?_
    refine st4 _ ?_
    refine XS.icmpYes X4.here hx rfl (pc0 := 20) (pc' := 35) rfl (hb hby d11_20) rfl (feq hc0).2 (by decide) (by decide) ?_
    refine XS.iconst X4.here hx rfl (hb hby d11_35) ?_
    exact retN X4 hx (t := .boolean) hrt (by simp) (hb hby d11_36) hr
  · show Q11_4 Z z_COMPACT_STRINGS o0 o1 o2 o3 o4 o5 o6 o7 o8 o9 o10 o11 o12 o13 kk_o2 kk_o4 kk_o6 kk_o9 kk_o11 kk_o13 p4 p0 p1 p2 p3 p5 p6 p11 p7 p8 p9 p10 p12 p13 h0 n0 (some (.int 0)) T4.heap _
    exact (⟨rfl, N0, e4⟩)
theorem d15_24 : decode jdk_43_method_13_code 24 = .ok (.iconst 0, 1) := by decide +kernel
theorem d15_25 : decode jdk_43_method_13_code 25 = .ok (.ireturn, 1) := by decide +kernel
def Q15_1 (Z : State) (z_COMPACT_STRINGS : Int32) (o0 : Addr) (o1 : Addr) (kk_o0 : ClassId) (kk_o1 : ClassId) (p0 : Int32) (p1 : Int32) (p2 : Int32) (p3 : Int32) (h0 : Heap) (n0 : Nat) (v : Option Value) (h : Heap) (L : List Loc) : Prop := v = (some (.int 0)) ∧ Fr n0 L ∧ h = h0
theorem rm15_1 (l : Launch) (Z : State) (a0 : Array Value) (hw : HW Z a0) (ws : List Jvm.Cond) (z_COMPACT_STRINGS : Int32) (o0 : Addr) (o1 : Addr) (kk_o0 : ClassId) (kk_o1 : ClassId) (p0 : Int32) (p1 : Int32) (p2 : Int32) (p3 : Int32) (h0 : Heap) (n0 : Nat) (O0 : Old Z n0 h0) (S : SF Z z_COMPACT_STRINGS) (V_o0 : Arv Z h0 o0 kk_o0 .byte (2 : Int32) [(.int p0), (.int p1)] (.int 0)) (V_o1 : Arv Z h0 o1 kk_o1 .byte (2 : Int32) [(.int p2), (.int p3)] (.int 0)) (hc0 : ¬ (p0 = p2)) :
    Pay l Z My15 ws jdk_43_method_13_code 3 (some .boolean) #[(.ref o0), (.ref o1)] h0 ({ frames := 0, cells := 0, slots := 0, locals := 0 } : Room) (Q15_1 Z z_COMPACT_STRINGS o0 o1 kk_o0 kk_o1 p0 p1 p2 p3 h0 n0) := by
  refine own_body (plainFor_of_name pn_5) (L0 := #[va o0, va o1, uu]) (fun _ => by first | rfl | (simp [entryFrame, mkF, argsToLocals, Value.category]; done)) ?_
  intro p e s m below meth c s₁ hrt hlk hx hby hml hZ hown0 hnm X0 e0
  have hown : s.vm.findClass "java/lang/StringLatin1" = some m.cls := hown0
  have N0 := Fr.nil n0
  have K0 : Keep h0 h0 [] := Keep.refl _ _
  obtain ⟨cl1, Ar1, qk1, Sz1, Ng1, Hh1, Gg1⟩ := id V_o0
  obtain ⟨cl2, Ar2, qk2, Sz2, Ng2, Hh2, Gg2⟩ := id V_o1
  have hin1_0 : ¬ ((0 : Int32) < 0 ∨ cl1.slots.size ≤ ((0 : Int32)).toNatClampNeg) := inb_of Sz1 ⟨by decide, by decide⟩
  have hin2_0 : ¬ ((0 : Int32) < 0 ∨ cl2.slots.size ≤ ((0 : Int32)).toNatClampNeg) := inb_of Sz2 ⟨by decide, by decide⟩
  obtain ⟨fs, hr, hrun, hended, hW, hsame⟩ := X0.leave (v := (some (.int 0))) (fun h => by rw [hrt] at h; cases h)
  refine ⟨_, _, ?_, hrun, hended, _, _, rfl, ?_, ⟨_, rfl⟩, hW, hsame.mono (by decide) (by decide)⟩
  · show Steps p.tables e below (s₁.setTop (mkF m 0 #[va o0, va o1, uu] [])) _
    refine XS.aloadN X0.here hx rfl (hb hby d15_0) rfl rfl ?_
    refine X0.arraylength hx (by rw [e0]; exact Ar1.1) (State.isArrayOf_alike hZ.alike Ar1.2.1) (g := (mkF m 1 #[va o0, va o1, uu] [(.ref o0)])) rfl rfl (hb hby d15_1) _ ?_
    rw [len_of Sz1 Ng1]
    refine XS.aloadN X0.here hx rfl (hb hby d15_2) rfl rfl ?_
    refine X0.arraylength hx (by rw [e0]; exact Ar2.1) (State.isArrayOf_alike hZ.alike Ar2.2.1) (g := (mkF m 3 #[va o0, va o1, uu] [(.ref o1), (.int 2)])) rfl rfl (hb hby d15_3) _ ?_
    rw [len_of Sz2 Ng2]
    refine XS.icmpNo X0.here hx rfl (hb hby d15_4) rfl (teq (by decide : (2 : Int32) = (2 : Int32))).2 ?_
    refine XS.iconst X0.here hx rfl (hb hby d15_7) ?_
    refine XS.istoreN X0.here hx rfl (hb hby d15_8) rfl (l' := #[va o0, va o1, vi 0]) rfl ?_
    refine XS.iloadN X0.here hx rfl (hb hby d15_9) rfl ?_
    show Steps p.tables e below (s₁.setTop (mkF m 10 #[va o0, va o1, vi 0] [(.int 0)])) _
    refine XS.aloadN X0.here hx rfl (hb hby d15_10) rfl rfl ?_
    refine X0.arraylength hx (by rw [e0]; exact Ar1.1) (State.isArrayOf_alike hZ.alike Ar1.2.1) (g := (mkF m 11 #[va o0, va o1, vi 0] [(.ref o0), (.int 0)])) rfl rfl (hb hby d15_11) _ ?_
    rw [len_of Sz1 Ng1]
    refine XS.icmpNo X0.here hx rfl (hb hby d15_12) rfl (tlt (by decide : (0 : Int32) < (2 : Int32))).2.1 ?_
    refine XS.aloadN X0.here hx rfl (hb hby d15_15) rfl rfl ?_
    refine XS.iloadN X0.here hx rfl (hb hby d15_16) rfl ?_
    refine X0.baloadBytes hx (j := (0 : Int32)) (v := (.int p0)) (by rw [e0]; exact Ar1.1) (State.isArrayOf_alike hZ.alike Ar1.2.1) Ar1.2.2 hin1_0 (Has.at Hh1 hin1_0 rfl) (g := (mkF m 17 #[va o0, va o1, vi 0] [(.int 0), (.ref o0)])) rfl rfl (hb hby d15_17) _ ?_
    refine XS.aloadN X0.here hx rfl (hb hby d15_18) rfl rfl ?_
    refine XS.iloadN X0.here hx rfl (hb hby d15_19) rfl ?_
    show Steps p.tables e below (s₁.setTop (mkF m 20 #[va o0, va o1, vi 0] [(.int 0), (.ref o1), (.int p0)])) _
    refine X0.baloadBytes hx (j := (0 : Int32)) (v := (.int p2)) (by rw [e0]; exact Ar2.1) (State.isArrayOf_alike hZ.alike Ar2.2.1) Ar2.2.2 hin2_0 (Has.at Hh2 hin2_0 rfl) (g := (mkF m 20 #[va o0, va o1, vi 0] [(.int 0), (.ref o1), (.int p0)])) rfl rfl (hb hby d15_20) _ ?_
    refine XS.icmpNo X0.here hx rfl (hb hby d15_21) rfl (feq hc0).1 ?_
    refine XS.iconst X0.here hx rfl (hb hby d15_24) ?_
    exact retN X0 hx (t := .boolean) hrt (by simp) (hb hby d15_25) hr
  · show Q15_1 Z z_COMPACT_STRINGS o0 o1 kk_o0 kk_o1 p0 p1 p2 p3 h0 n0 (some (.int 0)) s₁.heap _
    exact (⟨rfl, N0, e0⟩)
theorem d14_54 : decode jdk_42_method_66_code 54 = .ok (.iconst 0, 1) := by decide +kernel
def Q14_2 (Z : State) (z_COMPACT_STRINGS : Int32) (o0 : Addr) (o1 : Addr) (o2 : Addr) (o3 : Addr) (kk_o1 : ClassId) (kk_o3 : ClassId) (p0 : Int32) (p1 : Int32) (p2 : Int32) (p3 : Int32) (h0 : Heap) (n0 : Nat) (v : Option Value) (h : Heap) (L : List Loc) : Prop := v = (some (.int 0)) ∧ Fr n0 L ∧ h = h0
theorem rm14_2 (l : Launch) (Z : State) (a0 : Array Value) (hw : HW Z a0) (ws : List Jvm.Cond) (z_COMPACT_STRINGS : Int32) (o0 : Addr) (o1 : Addr) (o2 : Addr) (o3 : Addr) (kk_o1 : ClassId) (kk_o3 : ClassId) (p0 : Int32) (p1 : Int32) (p2 : Int32) (p3 : Int32) (h0 : Heap) (n0 : Nat) (O0 : Old Z n0 h0) (S : SF Z z_COMPACT_STRINGS) (F_coder_o0 : Fld Z h0 o0 sC0 "coder" "B" (.int 0)) (F_value_o0 : Fld Z h0 o0 sC0 "value" "[B" (.ref o1)) (V_o1 : Arv Z h0 o1 kk_o1 .byte (2 : Int32) [(.int p0), (.int p1)] (.int 0)) (E_o2 : Exa Z h0 o2 sC0) (F_coder_o2 : Fld Z h0 o2 sC0 "coder" "B" (.int 0)) (F_value_o2 : Fld Z h0 o2 sC0 "value" "[B" (.ref o3)) (V_o3 : Arv Z h0 o3 kk_o3 .byte (2 : Int32) [(.int p2), (.int p3)] (.int 0)) (ne_o0_o2 : o0 ≠ o2) (hc0 : ¬ (p0 = p2)) :
    Pay l Z My14 ws jdk_42_method_66_code 3 (some .boolean) #[(.ref o0), (.ref o2)] h0 ({ frames := 1, cells := 0, slots := 0, locals := 14 } : Room) (Q14_2 Z z_COMPACT_STRINGS o0 o1 o2 o3 kk_o1 kk_o3 p0 p1 p2 p3 h0 n0) := by
  obtain ⟨S_z_COMPACT_STRINGS, hz_z_COMPACT_STRINGS, -⟩ := id S
  refine own_body (plainFor_of_name pn_1) (L0 := #[va o0, va o2, uu]) (fun _ => by first | rfl | (simp [entryFrame, mkF, argsToLocals, Value.category]; done)) ?_
  intro p e s m below meth c s₁ hrt hlk hx hby hml hZ hown0 hnm X0 e0
  have hown : s.vm.findClass sC0 = some m.cls := hown0
  have N0 := Fr.nil n0
  have K0 : Keep h0 h0 [] := Keep.refl _ _
  obtain ⟨T1, X1, e1, st1⟩ := instY X0 hx hZ hown (ww hw 80 rfl) e0 (Ins.self E_o2) (g := (mkF m 8 #[va o0, va o2, uu] [(.ref o2)])) rfl rfl (hb hby d14_8)
  obtain ⟨T2, X2, e2, st2⟩ := castY X1 hx hZ hown (ww hw 80 rfl) e1 (Ins.self E_o2) (g := (mkF m 15 #[va o0, va o2, uu] [(.ref o2)])) rfl rfl (hb hby d14_15)
  obtain ⟨T3, X3, e3, st3⟩ := getS2 X2 hx hZ hown (host := "") (Or.inl (ww hw 21 rfl)) Via.refl e2 (S_z_COMPACT_STRINGS.ext O0.2) (g := (mkF m 19 #[va o0, va o2, va o2] [])) rfl (hb hby d14_19)
  obtain ⟨T4, X4, e4, st4⟩ := getF X3 hx hZ hown (host := "") (Or.inl (ww hw 33 rfl)) Via.refl e3 F_coder_o0 (g := (mkF m 26 #[va o0, va o2, va o2] [(.ref o0)])) rfl rfl (hb hby d14_26)
  obtain ⟨T5, X5, e5, st5⟩ := getF X4 hx hZ hown (host := "") (Or.inl (ww hw 33 rfl)) Via.refl e4 F_coder_o2 (g := (mkF m 30 #[va o0, va o2, va o2] [(.ref o2), (.int 0)])) rfl rfl (hb hby d14_30)
  obtain ⟨T6, X6, e6, st6⟩ := getF X5 hx hZ hown (host := "") (Or.inl (ww hw 35 rfl)) Via.refl e5 F_value_o0 (g := (mkF m 37 #[va o0, va o2, va o2] [(.ref o0)])) rfl rfl (hb hby d14_37)
  obtain ⟨T7, X7, e7, st7⟩ := getF X6 hx hZ hown (host := "") (Or.inl (ww hw 35 rfl)) Via.refl e6 F_value_o2 (g := (mkF m 41 #[va o0, va o2, va o2] [(.ref o2), (.ref o1)])) rfl rfl (hb hby d14_41)
  obtain ⟨_, _, ⟨T8, L8, k8, n8⟩, -, X8, ⟨Lc8, hQ8, l8, y8, z8⟩, st8⟩ := Jvm.LawKit.callS X7 hx (y := My15) hown (mvT hZ (ww hw 81 rfl)) (mvT hZ (ww hw 82 rfl)) (mvT hZ (ww hw 83 rfl)) (mvT hZ (ww hw 84 rfl)) (by decide) (backOf (W := 0) (rm15_1 l Z a0 hw [] z_COMPACT_STRINGS o1 o3 kk_o1 kk_o3 p0 p1 p2 p3 h0 n0 O0 S V_o1 V_o3 hc0) hZ (ww hw 84 rfl) (ww hw 83 rfl) (by decide) (by decide)) (g := (mkF m 44 #[va o0, va o2, va o2] [(.ref o3), (.ref o1)])) rfl (by rw [hml]; rfl) (argsL := [(.ref o1), (.ref o3)]) (rest := []) (lenOf pd_9 rfl) rfl (by show 2 * 0 + _ ≤ _; exact Nat.le_of_eq rfl) (hb hby d14_44) (fun _ _ => ⟨rfl, e7, (by decide : 0 + 0 ≤ _), (by decide : 0 + 0 ≤ _)⟩)
  dsimp only [Pt.U, Pt.locs, Pt.cells, Pt.slots] at X8 l8 y8 z8 st8 hQ8
  subst l8 y8 z8
  obtain ⟨rfl, Nq8, e8⟩ := hQ8
  have N8 := Fr.app N0 Nq8
  obtain ⟨fs, hr, hrun, hended, hW, hsame⟩ := X8.leave (v := (some (.int 0))) (fun h => by rw [hrt] at h; cases h)
  refine ⟨_, _, ?_, hrun, hended, _, _, rfl, ?_, ⟨_, rfl⟩, hW, hsame.mono (by decide) (by decide)⟩
  · show Steps p.tables e below (s₁.setTop (mkF m 0 #[va o0, va o2, uu] [])) _
    refine XS.aloadN X0.here hx rfl (hb hby d14_0) rfl rfl ?_
    refine XS.aloadN X0.here hx rfl (hb hby d14_1) rfl rfl ?_
    refine Jvm.RoadKit.acmp (g := (mkF m 2 #[va o0, va o2, uu] [(.ref o2), (.ref o0)])) X0 hx rfl rfl rfl (pc0 := 2) (pc' := 7) (same := false) rfl (hb hby d14_2) rfl (decide_eq_false fun q => ne_o0_o2 (Value.ref.inj q)) (by decide) (by decide) ?_
    refine XS.aloadN X0.here hx rfl (hb hby d14_7) rfl rfl ?_
    refine st1 _ ?_
    refine XS.ifNo X1.here hx rfl (hb hby d14_11) rfl ((if0 _ _).trans (feq (by decide : ¬ ((1 : Int32) = (0 : Int32)))).1) ?_
    refine XS.aloadN X1.here hx rfl (hb hby d14_14) rfl rfl ?_
    refine st2 _ ?_
    show Steps p.tables e below (T2.setTop (mkF m 18 #[va o0, va o2, uu] [(.ref o2)])) _
    refine XS.astoreN X2.here hx rfl (hb hby d14_18) rfl rfl (l' := #[va o0, va o2, va o2]) rfl ?_
    refine st3 _ ?_
    refine XS.ifNo X3.here hx rfl (hb hby d14_22) rfl ((if0 _ _).trans (feq hz_z_COMPACT_STRINGS).1) ?_
    refine XS.aloadN X3.here hx rfl (hb hby d14_25) rfl rfl ?_
    refine st4 _ ?_
    refine XS.aloadN X4.here hx rfl (hb hby d14_29) rfl rfl ?_
    refine st5 _ ?_
    refine XS.icmpNo X5.here hx rfl (hb hby d14_33) rfl (teq (by decide : (0 : Int32) = (0 : Int32))).2 ?_
    show Steps p.tables e below (T5.setTop (mkF m 36 #[va o0, va o2, va o2] [])) _
    refine XS.aloadN X5.here hx rfl (hb hby d14_36) rfl rfl ?_
    refine st6 _ ?_
    refine XS.aloadN X6.here hx rfl (hb hby d14_40) rfl rfl ?_
    refine st7 _ ?_
    refine st8 _ ?_
    refine XS.ifYes X8.here hx rfl (pc0 := 47) (pc' := 54) rfl (hb hby d14_47) rfl ((if0 _ _).trans (teq (by decide : (0 : Int32) = (0 : Int32))).1) (by decide) (by decide) ?_
    refine XS.iconst X8.here hx rfl (hb hby d14_54) ?_
    exact retN X8 hx (t := .boolean) hrt (by simp) (hb hby d14_55) hr
  · show Q14_2 Z z_COMPACT_STRINGS o0 o1 o2 o3 kk_o1 kk_o3 p0 p1 p2 p3 h0 n0 (some (.int 0)) T8.heap _
    exact (⟨rfl, N8, e8⟩)
theorem d13_37 : decode prog_3_method_5_code 37 = .ok (.iconst 0, 1) := by decide +kernel
def Q13_2 (Z : State) (z_COMPACT_STRINGS : Int32) (o0 : Addr) (o1 : Addr) (o2 : Addr) (o3 : Addr) (o4 : Addr) (o5 : Addr) (o6 : Addr) (o7 : Addr) (o8 : Addr) (o9 : Addr) (o10 : Addr) (o11 : Addr) (o12 : Addr) (kk_o2 : ClassId) (kk_o4 : ClassId) (kk_o6 : ClassId) (kk_o8 : ClassId) (kk_o10 : ClassId) (kk_o12 : ClassId) (p4 : Int32) (p0 : Int32) (p1 : Int32) (p2 : Int32) (p3 : Int32) (p5 : Int32) (p6 : Int32) (p7 : Int32) (p8 : Int32) (p9 : Int32) (p10 : Int32) (p11 : Int32) (p12 : Int32) (h0 : Heap) (n0 : Nat) (v : Option Value) (h : Heap) (L : List Loc) : Prop := v = (some (.int 0)) ∧ Fr n0 L ∧ h = h0
theorem rm13_2 (l : Launch) (Z : State) (a0 : Array Value) (hw : HW Z a0) (ws : List Jvm.Cond) (z_COMPACT_STRINGS : Int32) (o0 : Addr) (o1 : Addr) (o2 : Addr) (o3 : Addr) (o4 : Addr) (o5 : Addr) (o6 : Addr) (o7 : Addr) (o8 : Addr) (o9 : Addr) (o10 : Addr) (o11 : Addr) (o12 : Addr) (kk_o2 : ClassId) (kk_o4 : ClassId) (kk_o6 : ClassId) (kk_o8 : ClassId) (kk_o10 : ClassId) (kk_o12 : ClassId) (p4 : Int32) (p0 : Int32) (p1 : Int32) (p2 : Int32) (p3 : Int32) (p5 : Int32) (p6 : Int32) (p7 : Int32) (p8 : Int32) (p9 : Int32) (p10 : Int32) (p11 : Int32) (p12 : Int32) (h0 : Heap) (n0 : Nat) (O0 : Old Z n0 h0) (S : SF Z z_COMPACT_STRINGS) (F_className_o0 : Fld Z h0 o0 sC1 "className" "Ljava/lang/String;" (.ref o1)) (F_descriptor_o0 : Fld Z h0 o0 sC1 "descriptor" "Ljava/lang/String;" (.ref o3)) (F_method_o0 : Fld Z h0 o0 sC1 "method" "Ljava/lang/String;" (.ref o5)) (E_o1 : Exa Z h0 o1 sC0) (F_coder_o1 : Fld Z h0 o1 sC0 "coder" "B" (.int 0)) (F_value_o1 : Fld Z h0 o1 sC0 "value" "[B" (.ref o2)) (V_o2 : Arv Z h0 o2 kk_o2 .byte (2 : Int32) [(.int p0), (.int p1)] (.int 0)) (E_o3 : Exa Z h0 o3 sC0) (F_coder_o3 : Fld Z h0 o3 sC0 "coder" "B" (.int 0)) (F_value_o3 : Fld Z h0 o3 sC0 "value" "[B" (.ref o4)) (V_o4 : Arv Z h0 o4 kk_o4 .byte (2 : Int32) [(.int p2), (.int p3)] (.int 0)) (E_o5 : Exa Z h0 o5 sC0) (F_coder_o5 : Fld Z h0 o5 sC0 "coder" "B" (.int 0)) (F_value_o5 : Fld Z h0 o5 sC0 "value" "[B" (.ref o6)) (V_o6 : Arv Z h0 o6 kk_o6 .byte (2 : Int32) [(.int p5), (.int p6)] (.int 0)) (E_o7 : Exa Z h0 o7 sC0) (F_coder_o7 : Fld Z h0 o7 sC0 "coder" "B" (.int 0)) (F_value_o7 : Fld Z h0 o7 sC0 "value" "[B" (.ref o8)) (V_o8 : Arv Z h0 o8 kk_o8 .byte (2 : Int32) [(.int p7), (.int p8)] (.int 0)) (E_o9 : Exa Z h0 o9 sC0) (F_coder_o9 : Fld Z h0 o9 sC0 "coder" "B" (.int 0)) (F_value_o9 : Fld Z h0 o9 sC0 "value" "[B" (.ref o10)) (V_o10 : Arv Z h0 o10 kk_o10 .byte (2 : Int32) [(.int p9), (.int p10)] (.int 0)) (E_o11 : Exa Z h0 o11 sC0) (F_coder_o11 : Fld Z h0 o11 sC0 "coder" "B" (.int 0)) (F_value_o11 : Fld Z h0 o11 sC0 "value" "[B" (.ref o12)) (V_o12 : Arv Z h0 o12 kk_o12 .byte (2 : Int32) [(.int p11), (.int p12)] (.int 0)) (ne_o1_o7 : o1 ≠ o7) (ne_o3_o11 : o3 ≠ o11) (ne_o5_o9 : o5 ≠ o9) (hc0 : p0 = p7) (hc1 : p1 = p8) (hc2 : p5 = p9) (hc3 : p6 = p10) (hc4 : ¬ (p2 = p11)) :
    Pay l Z My13 ws prog_3_method_5_code 4 (some .boolean) #[(.ref o0), (.ref o7), (.ref o9), (.ref o11)] h0 ({ frames := 2, cells := 0, slots := 0, locals := 28 } : Room) (Q13_2 Z z_COMPACT_STRINGS o0 o1 o2 o3 o4 o5 o6 o7 o8 o9 o10 o11 o12 kk_o2 kk_o4 kk_o6 kk_o8 kk_o10 kk_o12 p4 p0 p1 p2 p3 p5 p6 p7 p8 p9 p10 p11 p12 h0 n0) := by
  refine own_body (plainFor_of_name pn_3) (L0 := #[va o0, va o7, va o9, va o11]) (fun _ => by first | rfl | (simp [entryFrame, mkF, argsToLocals, Value.category]; done)) ?_
  intro p e s m below meth c s₁ hrt hlk hx hby hml hZ hown0 hnm X0 e0
  have hown : s.vm.findClass sC1 = some m.cls := hown0
  have N0 := Fr.nil n0
  have K0 : Keep h0 h0 [] := Keep.refl _ _
  obtain ⟨T1, X1, e1, st1⟩ := getF X0 hx hZ hown (host := "") (Or.inl (ww hw 46 rfl)) Via.refl e0 F_className_o0 (g := (mkF m 1 #[va o0, va o7, va o9, va o11] [(.ref o0)])) rfl rfl (hb hby d13_1)
  obtain ⟨cq2, kq2, q2a, q2b, q2c⟩ := isOf hZ e1 E_o1
  obtain ⟨_, _, ⟨T2, L2, k2, n2⟩, -, X2, ⟨Lc2, hQ2, l2, y2, z2⟩, st2⟩ := X1.virtualBack hx (y := My14) (z := My14) hown (mvT hZ (ww hw 73 rfl)) (mvT hZ (ww hw 74 rfl)) (notFace_of_selects (args := #[]) (mvT hZ (ww hw 76 rfl))) (mvT hZ (ww hw 76 rfl)) (mvT hZ (ww hw 75 rfl)) (by decide) (backOf (W := 0) (rm14_0 l Z a0 hw [] z_COMPACT_STRINGS o1 o2 o7 o8 kk_o2 kk_o8 p0 p1 p7 p8 h0 n0 O0 S F_coder_o1 F_value_o1 V_o2 E_o7 F_coder_o7 F_value_o7 V_o8 ne_o1_o7 hc0 hc1) hZ (ww hw 77 rfl) (ww hw 10 rfl) (by decide) (by decide)) q2a q2c (g := (mkF m 5 #[va o0, va o7, va o9, va o11] [(.ref o7), (.ref o1)])) rfl (by rw [hml]; rfl) (Steps.refl _) (argsL := [(.ref o7)]) (rest := []) (lenOf pd_10 rfl) rfl (by show 2 * 0 + _ ≤ _; exact Nat.le_of_eq rfl) (hb hby d13_5) (fun _ _ => ⟨rfl, e1, (by decide : 0 + 0 ≤ _), (by decide : 0 + 0 ≤ _)⟩)
  dsimp only [Pt.U, Pt.locs, Pt.cells, Pt.slots] at X2 l2 y2 z2 st2 hQ2
  subst l2 y2 z2
  obtain ⟨rfl, Nq2, e2⟩ := hQ2
  have N2 := Fr.app N0 Nq2
  obtain ⟨T3, X3, e3, st3⟩ := getF X2 hx hZ hown (host := "") (Or.inl (ww hw 48 rfl)) Via.refl e2 F_method_o0 (g := (mkF m 12 #[va o0, va o7, va o9, va o11] [(.ref o0)])) rfl rfl (hb hby d13_12)
  obtain ⟨cq4, kq4, q4a, q4b, q4c⟩ := isOf hZ e3 E_o5
  obtain ⟨_, _, ⟨T4, L4, k4, n4⟩, -, X4, ⟨Lc4, hQ4, l4, y4, z4⟩, st4⟩ := X3.virtualBack hx (y := My14) (z := My14) hown (mvT hZ (ww hw 73 rfl)) (mvT hZ (ww hw 74 rfl)) (notFace_of_selects (args := #[]) (mvT hZ (ww hw 76 rfl))) (mvT hZ (ww hw 76 rfl)) (mvT hZ (ww hw 75 rfl)) (by decide) (backOf (W := 0) (rm14_0 l Z a0 hw [] z_COMPACT_STRINGS o5 o6 o9 o10 kk_o6 kk_o10 p5 p6 p9 p10 h0 n0 O0 S F_coder_o5 F_value_o5 V_o6 E_o9 F_coder_o9 F_value_o9 V_o10 ne_o5_o9 hc2 hc3) hZ (ww hw 77 rfl) (ww hw 10 rfl) (by decide) (by decide)) q4a q4c (g := (mkF m 16 #[va o0, va o7, va o9, va o11] [(.ref o9), (.ref o5)])) rfl (by rw [hml]; rfl) (Steps.refl _) (argsL := [(.ref o9)]) (rest := []) (lenOf pd_10 rfl) rfl (by show 2 * 0 + _ ≤ _; exact Nat.le_of_eq rfl) (hb hby d13_16) (fun _ _ => ⟨rfl, e3, (by decide : 0 + 0 ≤ _), (by decide : 0 + 0 ≤ _)⟩)
  dsimp only [Pt.U, Pt.locs, Pt.cells, Pt.slots] at X4 l4 y4 z4 st4 hQ4
  subst l4 y4 z4
  obtain ⟨rfl, Nq4, e4⟩ := hQ4
  have N4 := Fr.app N2 Nq4
  obtain ⟨T5, X5, e5, st5⟩ := getF X4 hx hZ hown (host := "") (Or.inl (ww hw 50 rfl)) Via.refl e4 F_descriptor_o0 (g := (mkF m 23 #[va o0, va o7, va o9, va o11] [(.ref o0)])) rfl rfl (hb hby d13_23)
  obtain ⟨cq6, kq6, q6a, q6b, q6c⟩ := isOf hZ e5 E_o3
  obtain ⟨_, _, ⟨T6, L6, k6, n6⟩, -, X6, ⟨Lc6, hQ6, l6, y6, z6⟩, st6⟩ := X5.virtualBack hx (y := My14) (z := My14) hown (mvT hZ (ww hw 73 rfl)) (mvT hZ (ww hw 74 rfl)) (notFace_of_selects (args := #[]) (mvT hZ (ww hw 76 rfl))) (mvT hZ (ww hw 76 rfl)) (mvT hZ (ww hw 75 rfl)) (by decide) (backOf (W := 0) (rm14_2 l Z a0 hw [] z_COMPACT_STRINGS o3 o4 o11 o12 kk_o4 kk_o12 p2 p3 p11 p12 h0 n0 O0 S F_coder_o3 F_value_o3 V_o4 E_o11 F_coder_o11 F_value_o11 V_o12 ne_o3_o11 hc4) hZ (ww hw 77 rfl) (ww hw 10 rfl) (by decide) (by decide)) q6a q6c (g := (mkF m 27 #[va o0, va o7, va o9, va o11] [(.ref o11), (.ref o3)])) rfl (by rw [hml]; rfl) (Steps.refl _) (argsL := [(.ref o11)]) (rest := []) (lenOf pd_10 rfl) rfl (by show 2 * 0 + _ ≤ _; exact Nat.le_of_eq rfl) (hb hby d13_27) (fun _ _ => ⟨rfl, e5, (by decide : 0 + 0 ≤ _), (by decide : 0 + 0 ≤ _)⟩)
  dsimp only [Pt.U, Pt.locs, Pt.cells, Pt.slots] at X6 l6 y6 z6 st6 hQ6
  subst l6 y6 z6
  obtain ⟨rfl, Nq6, e6⟩ := hQ6
  have N6 := Fr.app N4 Nq6
  obtain ⟨fs, hr, hrun, hended, hW, hsame⟩ := X6.leave (v := (some (.int 0))) (fun h => by rw [hrt] at h; cases h)
  refine ⟨_, _, ?_, hrun, hended, _, _, rfl, ?_, ⟨_, rfl⟩, hW, hsame.mono (by decide) (by decide)⟩
  · show Steps p.tables e below (s₁.setTop (mkF m 0 #[va o0, va o7, va o9, va o11] [])) _
    refine XS.aloadN X0.here hx rfl (hb hby d13_0) rfl rfl ?_
    refine st1 _ ?_
    refine XS.aloadN X1.here hx rfl (hb hby d13_4) rfl rfl ?_
    refine st2.trans ?_
    refine XS.ifNo X2.here hx rfl (hb hby d13_8) rfl ((if0 _ _).trans (feq (by decide : ¬ ((1 : Int32) = (0 : Int32)))).1) ?_
    refine XS.aloadN X2.here hx rfl (hb hby d13_11) rfl rfl ?_
    refine st3 _ ?_
    refine XS.aloadN X3.here hx rfl (hb hby d13_15) rfl rfl ?_
    show Steps p.tables e below (T3.setTop (mkF m 16 #[va o0, va o7, va o9, va o11] [(.ref o9), (.ref o5)])) _
    refine st4.trans ?_
    refine XS.ifNo X4.here hx rfl (hb hby d13_19) rfl ((if0 _ _).trans (feq (by decide : ¬ ((1 : Int32) = (0 : Int32)))).1) ?_
    refine XS.aloadN X4.here hx rfl (hb hby d13_22) rfl rfl ?_
    refine st5 _ ?_
    refine XS.aloadN X5.here hx rfl (hb hby d13_26) rfl rfl ?_
    refine st6.trans ?_
    refine XS.ifYes X6.here hx rfl (pc0 := 30) (pc' := 37) rfl (hb hby d13_30) rfl ((if0 _ _).trans (teq (by decide : (0 : Int32) = (0 : Int32))).1) (by decide) (by decide) ?_
    refine XS.iconst X6.here hx rfl (hb hby d13_37) ?_
    show Steps p.tables e below (T6.setTop (mkF m 38 #[va o0, va o7, va o9, va o11] [(.int 0)])) _
    exact retN X6 hx (t := .boolean) hrt (by simp) (hb hby d13_38) hr
  · show Q13_2 Z z_COMPACT_STRINGS o0 o1 o2 o3 o4 o5 o6 o7 o8 o9 o10 o11 o12 kk_o2 kk_o4 kk_o6 kk_o8 kk_o10 kk_o12 p4 p0 p1 p2 p3 p5 p6 p7 p8 p9 p10 p11 p12 h0 n0 (some (.int 0)) T6.heap _
    exact (⟨rfl, N6, e6⟩)
def Q12_2 (Z : State) (z_COMPACT_STRINGS : Int32) (o0 : Addr) (o1 : Addr) (o2 : Addr) (o3 : Addr) (o4 : Addr) (o5 : Addr) (o6 : Addr) (o7 : Addr) (o8 : Addr) (o9 : Addr) (o10 : Addr) (o11 : Addr) (o12 : Addr) (o13 : Addr) (kk_o2 : ClassId) (kk_o4 : ClassId) (kk_o6 : ClassId) (kk_o9 : ClassId) (kk_o11 : ClassId) (kk_o13 : ClassId) (p4 : Int32) (p0 : Int32) (p1 : Int32) (p2 : Int32) (p3 : Int32) (p5 : Int32) (p6 : Int32) (p11 : Int32) (p7 : Int32) (p8 : Int32) (p9 : Int32) (p10 : Int32) (p12 : Int32) (p13 : Int32) (h0 : Heap) (n0 : Nat) (v : Option Value) (h : Heap) (L : List Loc) : Prop := v = (some (.int 0)) ∧ Fr n0 L ∧ h = h0
theorem rm12_2 (l : Launch) (Z : State) (a0 : Array Value) (hw : HW Z a0) (ws : List Jvm.Cond) (z_COMPACT_STRINGS : Int32) (o0 : Addr) (o1 : Addr) (o2 : Addr) (o3 : Addr) (o4 : Addr) (o5 : Addr) (o6 : Addr) (o7 : Addr) (o8 : Addr) (o9 : Addr) (o10 : Addr) (o11 : Addr) (o12 : Addr) (o13 : Addr) (kk_o2 : ClassId) (kk_o4 : ClassId) (kk_o6 : ClassId) (kk_o9 : ClassId) (kk_o11 : ClassId) (kk_o13 : ClassId) (p4 : Int32) (p0 : Int32) (p1 : Int32) (p2 : Int32) (p3 : Int32) (p5 : Int32) (p6 : Int32) (p11 : Int32) (p7 : Int32) (p8 : Int32) (p9 : Int32) (p10 : Int32) (p12 : Int32) (p13 : Int32) (h0 : Heap) (n0 : Nat) (O0 : Old Z n0 h0) (S : SF Z z_COMPACT_STRINGS) (E_o0 : Exa Z h0 o0 sC1) (F_className_o0 : Fld Z h0 o0 sC1 "className" "Ljava/lang/String;" (.ref o1)) (F_descriptor_o0 : Fld Z h0 o0 sC1 "descriptor" "Ljava/lang/String;" (.ref o3)) (F_method_o0 : Fld Z h0 o0 sC1 "method" "Ljava/lang/String;" (.ref o5)) (E_o1 : Exa Z h0 o1 sC0) (F_coder_o1 : Fld Z h0 o1 sC0 "coder" "B" (.int 0)) (F_value_o1 : Fld Z h0 o1 sC0 "value" "[B" (.ref o2)) (V_o2 : Arv Z h0 o2 kk_o2 .byte (2 : Int32) [(.int p0), (.int p1)] (.int 0)) (E_o3 : Exa Z h0 o3 sC0) (F_coder_o3 : Fld Z h0 o3 sC0 "coder" "B" (.int 0)) (F_value_o3 : Fld Z h0 o3 sC0 "value" "[B" (.ref o4)) (V_o4 : Arv Z h0 o4 kk_o4 .byte (2 : Int32) [(.int p2), (.int p3)] (.int 0)) (E_o5 : Exa Z h0 o5 sC0) (F_coder_o5 : Fld Z h0 o5 sC0 "coder" "B" (.int 0)) (F_value_o5 : Fld Z h0 o5 sC0 "value" "[B" (.ref o6)) (V_o6 : Arv Z h0 o6 kk_o6 .byte (2 : Int32) [(.int p5), (.int p6)] (.int 0)) (F_className_o7 : Fld Z h0 o7 sC1 "className" "Ljava/lang/String;" (.ref o8)) (F_descriptor_o7 : Fld Z h0 o7 sC1 "descriptor" "Ljava/lang/String;" (.ref o10)) (F_method_o7 : Fld Z h0 o7 sC1 "method" "Ljava/lang/String;" (.ref o12)) (E_o8 : Exa Z h0 o8 sC0) (F_coder_o8 : Fld Z h0 o8 sC0 "coder" "B" (.int 0)) (F_value_o8 : Fld Z h0 o8 sC0 "value" "[B" (.ref o9)) (V_o9 : Arv Z h0 o9 kk_o9 .byte (2 : Int32) [(.int p7), (.int p8)] (.int 0)) (E_o10 : Exa Z h0 o10 sC0) (F_coder_o10 : Fld Z h0 o10 sC0 "coder" "B" (.int 0)) (F_value_o10 : Fld Z h0 o10 sC0 "value" "[B" (.ref o11)) (V_o11 : Arv Z h0 o11 kk_o11 .byte (2 : Int32) [(.int p9), (.int p10)] (.int 0)) (E_o12 : Exa Z h0 o12 sC0) (F_coder_o12 : Fld Z h0 o12 sC0 "coder" "B" (.int 0)) (F_value_o12 : Fld Z h0 o12 sC0 "value" "[B" (.ref o13)) (V_o13 : Arv Z h0 o13 kk_o13 .byte (2 : Int32) [(.int p12), (.int p13)] (.int 0)) (ne_o1_o8 : o1 ≠ o8) (ne_o3_o10 : o3 ≠ o10) (ne_o5_o12 : o5 ≠ o12) (hc0 : p0 = p7) (hc1 : p1 = p8) (hc2 : p5 = p12) (hc3 : p6 = p13) (hc4 : ¬ (p2 = p9)) :
    Pay l Z My12 ws prog_3_method_4_code 2 (some .boolean) #[(.ref o0), (.ref o7)] h0 ({ frames := 3, cells := 0, slots := 0, locals := 43 } : Room) (Q12_2 Z z_COMPACT_STRINGS o0 o1 o2 o3 o4 o5 o6 o7 o8 o9 o10 o11 o12 o13 kk_o2 kk_o4 kk_o6 kk_o9 kk_o11 kk_o13 p4 p0 p1 p2 p3 p5 p6 p11 p7 p8 p9 p10 p12 p13 h0 n0) := by
  refine own_body (plainFor_of_name pn_3) (L0 := #[va o0, va o7]) (fun _ => by first | rfl | (simp [entryFrame, mkF, argsToLocals, Value.category]; done)) ?_
  intro p e s m below meth c s₁ hrt hlk hx hby hml hZ hown0 hnm X0 e0
  have hown : s.vm.findClass sC1 = some m.cls := hown0
  have N0 := Fr.nil n0
  have K0 : Keep h0 h0 [] := Keep.refl _ _
  obtain ⟨T1, X1, e1, st1⟩ := getF X0 hx hZ hown (host := "") (Or.inl (ww hw 46 rfl)) Via.refl e0 F_className_o7 (g := (mkF m 2 #[va o0, va o7] [(.ref o7), (.ref o0)])) rfl rfl (hb hby d12_2)
  obtain ⟨T2, X2, e2, st2⟩ := getF X1 hx hZ hown (host := "") (Or.inl (ww hw 48 rfl)) Via.refl e1 F_method_o7 (g := (mkF m 6 #[va o0, va o7] [(.ref o7), (.ref o8), (.ref o0)])) rfl rfl (hb hby d12_6)
  obtain ⟨T3, X3, e3, st3⟩ := getF X2 hx hZ hown (host := "") (Or.inl (ww hw 50 rfl)) Via.refl e2 F_descriptor_o7 (g := (mkF m 10 #[va o0, va o7] [(.ref o7), (.ref o12), (.ref o8), (.ref o0)])) rfl rfl (hb hby d12_10)
  obtain ⟨cq4, qa4, qb4⟩ := E_o0.cell
  obtain ⟨_, _, ⟨T4, L4, k4, n4⟩, -, X4, ⟨Lc4, hQ4, l4, y4, z4⟩, st4⟩ := X3.privateBack hx (y := My13) hown (mvT hZ (ww hw 69 rfl)) (mvT hZ (ww hw 70 rfl)) (own_selp (by decide) (mvT hZ (ww hw 1 rfl)) (mvP hZ (ww hw 71 rfl)) (mvT hZ (ww hw 70 rfl))) (Cond.privateMethod_at (mvP hZ (ww hw 71 rfl) (args := #[]))) (mvT hZ (ww hw 72 rfl)) (by decide) (backOf (W := 0) (rm13_2 l Z a0 hw [] z_COMPACT_STRINGS o0 o1 o2 o3 o4 o5 o6 o8 o9 o12 o13 o10 o11 kk_o2 kk_o4 kk_o6 kk_o9 kk_o13 kk_o11 p4 p0 p1 p2 p3 p5 p6 p7 p8 p12 p13 p9 p10 h0 n0 O0 S F_className_o0 F_descriptor_o0 F_method_o0 E_o1 F_coder_o1 F_value_o1 V_o2 E_o3 F_coder_o3 F_value_o3 V_o4 E_o5 F_coder_o5 F_value_o5 V_o6 E_o8 F_coder_o8 F_value_o8 V_o9 E_o12 F_coder_o12 F_value_o12 V_o13 E_o10 F_coder_o10 F_value_o10 V_o11 ne_o1_o8 ne_o3_o10 ne_o5_o12 hc0 hc1 hc2 hc3 hc4) hZ (ww hw 72 rfl) (ww hw 2 rfl) (by decide) (by decide)) (g := (mkF m 13 #[va o0, va o7] [(.ref o10), (.ref o12), (.ref o8), (.ref o0)])) rfl (by rw [hml]; rfl) (Steps.refl _) (a := o0) (by rw [e3]; exact qa4) qb4 (argsL := [(.ref o8), (.ref o12), (.ref o10)]) (rest := []) (lenOf pd_11 rfl) rfl (by show 2 * 0 + _ ≤ _; exact Nat.le_of_eq rfl) (hb hby d12_13) (fun _ _ => ⟨rfl, e3, (by decide : 0 + 0 ≤ _), (by decide : 0 + 0 ≤ _)⟩)
  dsimp only [Pt.U, Pt.locs, Pt.cells, Pt.slots] at X4 l4 y4 z4 st4 hQ4
  subst l4 y4 z4
  obtain ⟨rfl, Nq4, e4⟩ := hQ4
  have N4 := Fr.app N0 Nq4
  obtain ⟨fs, hr, hrun, hended, hW, hsame⟩ := X4.leave (v := (some (.int 0))) (fun h => by rw [hrt] at h; cases h)
  refine ⟨_, _, ?_, hrun, hended, _, _, rfl, ?_, ⟨_, rfl⟩, hW, hsame.mono (by decide) (by decide)⟩
  · show Steps p.tables e below (s₁.setTop (mkF m 0 #[va o0, va o7] [])) _
    refine XS.aloadN X0.here hx rfl (hb hby d12_0) rfl rfl ?_
    refine XS.aloadN X0.here hx rfl (hb hby d12_1) rfl rfl ?_
    refine st1 _ ?_
    refine XS.aloadN X1.here hx rfl (hb hby d12_5) rfl rfl ?_
    refine st2 _ ?_
    refine XS.aloadN X2.here hx rfl (hb hby d12_9) rfl rfl ?_
    refine st3 _ ?_
    refine st4.trans ?_
    show Steps p.tables e below (T4.setTop (mkF m 16 #[va o0, va o7] [(.int 0)])) _
    exact retN X4 hx (t := .boolean) hrt (by simp) (hb hby d12_16) hr
  · show Q12_2 Z z_COMPACT_STRINGS o0 o1 o2 o3 o4 o5 o6 o7 o8 o9 o10 o11 o12 o13 kk_o2 kk_o4 kk_o6 kk_o9 kk_o11 kk_o13 p4 p0 p1 p2 p3 p5 p6 p11 p7 p8 p9 p10 p12 p13 h0 n0 (some (.int 0)) T4.heap _
    exact (⟨rfl, N4, e4⟩)
def Q11_5 (Z : State) (z_COMPACT_STRINGS : Int32) (o0 : Addr) (o1 : Addr) (o2 : Addr) (o3 : Addr) (o4 : Addr) (o5 : Addr) (o6 : Addr) (o7 : Addr) (o8 : Addr) (o9 : Addr) (o10 : Addr) (o11 : Addr) (o12 : Addr) (o13 : Addr) (kk_o2 : ClassId) (kk_o4 : ClassId) (kk_o6 : ClassId) (kk_o9 : ClassId) (kk_o11 : ClassId) (kk_o13 : ClassId) (p4 : Int32) (p0 : Int32) (p1 : Int32) (p2 : Int32) (p3 : Int32) (p5 : Int32) (p6 : Int32) (p11 : Int32) (p7 : Int32) (p8 : Int32) (p9 : Int32) (p10 : Int32) (p12 : Int32) (p13 : Int32) (h0 : Heap) (n0 : Nat) (v : Option Value) (h : Heap) (L : List Loc) : Prop := v = (some (.int 0)) ∧ Fr n0 L ∧ h = h0
theorem rm11_5 (l : Launch) (Z : State) (a0 : Array Value) (hw : HW Z a0) (ws : List Jvm.Cond) (z_COMPACT_STRINGS : Int32) (o0 : Addr) (o1 : Addr) (o2 : Addr) (o3 : Addr) (o4 : Addr) (o5 : Addr) (o6 : Addr) (o7 : Addr) (o8 : Addr) (o9 : Addr) (o10 : Addr) (o11 : Addr) (o12 : Addr) (o13 : Addr) (kk_o2 : ClassId) (kk_o4 : ClassId) (kk_o6 : ClassId) (kk_o9 : ClassId) (kk_o11 : ClassId) (kk_o13 : ClassId) (p4 : Int32) (p0 : Int32) (p1 : Int32) (p2 : Int32) (p3 : Int32) (p5 : Int32) (p6 : Int32) (p11 : Int32) (p7 : Int32) (p8 : Int32) (p9 : Int32) (p10 : Int32) (p12 : Int32) (p13 : Int32) (h0 : Heap) (n0 : Nat) (O0 : Old Z n0 h0) (S : SF Z z_COMPACT_STRINGS) (E_o0 : Exa Z h0 o0 sC1) (F_className_o0 : Fld Z h0 o0 sC1 "className" "Ljava/lang/String;" (.ref o1)) (F_descriptor_o0 : Fld Z h0 o0 sC1 "descriptor" "Ljava/lang/String;" (.ref o3)) (F_instruction_o0 : Fld Z h0 o0 sC1 "instruction" "I" (.int p4)) (F_method_o0 : Fld Z h0 o0 sC1 "method" "Ljava/lang/String;" (.ref o5)) (E_o1 : Exa Z h0 o1 sC0) (F_coder_o1 : Fld Z h0 o1 sC0 "coder" "B" (.int 0)) (F_value_o1 : Fld Z h0 o1 sC0 "value" "[B" (.ref o2)) (V_o2 : Arv Z h0 o2 kk_o2 .byte (2 : Int32) [(.int p0), (.int p1)] (.int 0)) (E_o3 : Exa Z h0 o3 sC0) (F_coder_o3 : Fld Z h0 o3 sC0 "coder" "B" (.int 0)) (F_value_o3 : Fld Z h0 o3 sC0 "value" "[B" (.ref o4)) (V_o4 : Arv Z h0 o4 kk_o4 .byte (2 : Int32) [(.int p2), (.int p3)] (.int 0)) (E_o5 : Exa Z h0 o5 sC0) (F_coder_o5 : Fld Z h0 o5 sC0 "coder" "B" (.int 0)) (F_value_o5 : Fld Z h0 o5 sC0 "value" "[B" (.ref o6)) (V_o6 : Arv Z h0 o6 kk_o6 .byte (2 : Int32) [(.int p5), (.int p6)] (.int 0)) (E_o7 : Exa Z h0 o7 sC1) (F_className_o7 : Fld Z h0 o7 sC1 "className" "Ljava/lang/String;" (.ref o8)) (F_descriptor_o7 : Fld Z h0 o7 sC1 "descriptor" "Ljava/lang/String;" (.ref o10)) (F_instruction_o7 : Fld Z h0 o7 sC1 "instruction" "I" (.int p11)) (F_method_o7 : Fld Z h0 o7 sC1 "method" "Ljava/lang/String;" (.ref o12)) (E_o8 : Exa Z h0 o8 sC0) (F_coder_o8 : Fld Z h0 o8 sC0 "coder" "B" (.int 0)) (F_value_o8 : Fld Z h0 o8 sC0 "value" "[B" (.ref o9)) (V_o9 : Arv Z h0 o9 kk_o9 .byte (2 : Int32) [(.int p7), (.int p8)] (.int 0)) (E_o10 : Exa Z h0 o10 sC0) (F_coder_o10 : Fld Z h0 o10 sC0 "coder" "B" (.int 0)) (F_value_o10 : Fld Z h0 o10 sC0 "value" "[B" (.ref o11)) (V_o11 : Arv Z h0 o11 kk_o11 .byte (2 : Int32) [(.int p9), (.int p10)] (.int 0)) (E_o12 : Exa Z h0 o12 sC0) (F_coder_o12 : Fld Z h0 o12 sC0 "coder" "B" (.int 0)) (F_value_o12 : Fld Z h0 o12 sC0 "value" "[B" (.ref o13)) (V_o13 : Arv Z h0 o13 kk_o13 .byte (2 : Int32) [(.int p12), (.int p13)] (.int 0)) (ne_o1_o8 : o1 ≠ o8) (ne_o3_o10 : o3 ≠ o10) (ne_o5_o12 : o5 ≠ o12) (hc0 : p4 = p11) (hc1 : p0 = p7) (hc2 : p1 = p8) (hc3 : p5 = p12) (hc4 : p6 = p13) (hc5 : ¬ (p2 = p9)) :
    Pay l Z My11 ws prog_3_method_6_code 3 (some .boolean) #[(.ref o0), (.ref o7)] h0 ({ frames := 4, cells := 0, slots := 0, locals := 56 } : Room) (Q11_5 Z z_COMPACT_STRINGS o0 o1 o2 o3 o4 o5 o6 o7 o8 o9 o10 o11 o12 o13 kk_o2 kk_o4 kk_o6 kk_o9 kk_o11 kk_o13 p4 p0 p1 p2 p3 p5 p6 p11 p7 p8 p9 p10 p12 p13 h0 n0) := by
  refine own_body (plainFor_of_name pn_3) (L0 := #[va o0, va o7, uu]) (fun _ => by first | rfl | (simp [entryFrame, mkF, argsToLocals, Value.category]; done)) ?_
  intro p e s m below meth c s₁ hrt hlk hx hby hml hZ hown0 hnm X0 e0
  have hown : s.vm.findClass sC1 = some m.cls := hown0
  have N0 := Fr.nil n0
  have K0 : Keep h0 h0 [] := Keep.refl _ _
  obtain ⟨T1, X1, e1, st1⟩ := instY X0 hx hZ hown (ww hw 63 rfl) e0 (Ins.self E_o7) (g := (mkF m 1 #[va o0, va o7, uu] [(.ref o7)])) rfl rfl (hb hby d11_1)
  obtain ⟨T2, X2, e2, st2⟩ := castY X1 hx hZ hown (ww hw 63 rfl) e1 (Ins.self E_o7) (g := (mkF m 8 #[va o0, va o7, uu] [(.ref o7)])) rfl rfl (hb hby d11_8)
  obtain ⟨T3, X3, e3, st3⟩ := getF X2 hx hZ hown (host := "") (Or.inl (ww hw 52 rfl)) Via.refl e2 F_instruction_o0 (g := (mkF m 13 #[va o0, va o7, va o7] [(.ref o0)])) rfl rfl (hb hby d11_13)
  obtain ⟨T4, X4, e4, st4⟩ := getF X3 hx hZ hown (host := "") (Or.inl (ww hw 52 rfl)) Via.refl e3 F_instruction_o7 (g := (mkF m 17 #[va o0, va o7, va o7] [(.ref o7), (.int p4)])) rfl rfl (hb hby d11_17)
  obtain ⟨cq5, qa5, qb5⟩ := E_o0.cell
  obtain ⟨_, _, ⟨T5, L5, k5, n5⟩, -, X5, ⟨Lc5, hQ5, l5, y5, z5⟩, st5⟩ := X4.privateBack hx (y := My12) hown (mvT hZ (ww hw 65 rfl)) (mvT hZ (ww hw 66 rfl)) (own_selp (by decide) (mvT hZ (ww hw 1 rfl)) (mvP hZ (ww hw 67 rfl)) (mvT hZ (ww hw 66 rfl))) (Cond.privateMethod_at (mvP hZ (ww hw 67 rfl) (args := #[]))) (mvT hZ (ww hw 68 rfl)) (by decide) (backOf (W := 0) (rm12_2 l Z a0 hw [] z_COMPACT_STRINGS o0 o1 o2 o3 o4 o5 o6 o7 o8 o9 o10 o11 o12 o13 kk_o2 kk_o4 kk_o6 kk_o9 kk_o11 kk_o13 p4 p0 p1 p2 p3 p5 p6 p11 p7 p8 p9 p10 p12 p13 h0 n0 O0 S E_o0 F_className_o0 F_descriptor_o0 F_method_o0 E_o1 F_coder_o1 F_value_o1 V_o2 E_o3 F_coder_o3 F_value_o3 V_o4 E_o5 F_coder_o5 F_value_o5 V_o6 F_className_o7 F_descriptor_o7 F_method_o7 E_o8 F_coder_o8 F_value_o8 V_o9 E_o10 F_coder_o10 F_value_o10 V_o11 E_o12 F_coder_o12 F_value_o12 V_o13 ne_o1_o8 ne_o3_o10 ne_o5_o12 hc1 hc2 hc3 hc4 hc5) hZ (ww hw 68 rfl) (ww hw 2 rfl) (by decide) (by decide)) (g := (mkF m 25 #[va o0, va o7, va o7] [(.ref o7), (.ref o0)])) rfl (by rw [hml]; rfl) (Steps.refl _) (a := o0) (by rw [e4]; exact qa5) qb5 (argsL := [(.ref o7)]) (rest := []) (lenOf pd_12 rfl) rfl (by show 2 * 0 + _ ≤ _; exact Nat.le_of_eq rfl) (hb hby d11_25) (fun _ _ => ⟨rfl, e4, (by decide : 0 + 0 ≤ _), (by decide : 0 + 0 ≤ _)⟩)
  dsimp only [Pt.U, Pt.locs, Pt.cells, Pt.slots] at X5 l5 y5 z5 st5 hQ5
  subst l5 y5 z5
  obtain ⟨rfl, Nq5, e5⟩ := hQ5
  have N5 := Fr.app N0 Nq5
  obtain ⟨fs, hr, hrun, hended, hW, hsame⟩ := X5.leave (v := (some (.int 0))) (fun h => by rw [hrt] at h; cases h)
  refine ⟨_, _, ?_, hrun, hended, _, _, rfl, ?_, ⟨_, rfl⟩, hW, hsame.mono (by decide) (by decide)⟩
  · show Steps p.tables e below (s₁.setTop (mkF m 0 #[va o0, va o7, uu] [])) _
    refine XS.aloadN X0.here hx rfl (hb hby d11_0) rfl rfl ?_
    refine st1 _ ?_
    refine XS.ifNo X1.here hx rfl (hb hby d11_4) rfl ((if0 _ _).trans (feq (by decide : ¬ ((1 : Int32) = (0 : Int32)))).1) ?_
    refine XS.aloadN X1.here hx rfl (hb hby d11_7) rfl rfl ?_
    refine st2 _ ?_
    refine XS.astoreN X2.here hx rfl (hb hby d11_11) rfl rfl (l' := #[va o0, va o7, va o7]) rfl ?_
    refine XS.aloadN X2.here hx rfl (hb hby d11_12) rfl rfl ?_
    refine st3 _ ?_
    show Steps p.tables e below (T3.setTop (mkF m 16 #[va o0, va o7, va o7] [(.int p4)])) _
    refine XS.aloadN X3.here hx rfl (hb hby d11_16) rfl rfl ?_
    refine st4 _ ?_
    refine XS.icmpNo X4.here hx rfl (hb hby d11_20) rfl (teq hc0).2 ?_
    refine XS.aloadN X4.here hx rfl (hb hby d11_23) rfl rfl ?_
    refine XS.aloadN X4.here hx rfl (hb hby d11_24) rfl rfl ?_
    refine st5.trans ?_
    refine XS.ifYes X5.here hx rfl (pc0 := 28) (pc' := 35) rfl (hb hby d11_28) rfl ((if0 _ _).trans (teq (by decide : (0 : Int32) = (0 : Int32))).1) (by decide) (by decide) ?_
    refine XS.iconst X5.here hx rfl (hb hby d11_35) ?_
    show Steps p.tables e below (T5.setTop (mkF m 36 #[va o0, va o7, va o7] [(.int 0)])) _
    exact retN X5 hx (t := .boolean) hrt (by simp) (hb hby d11_36) hr
  · show Q11_5 Z z_COMPACT_STRINGS o0 o1 o2 o3 o4 o5 o6 o7 o8 o9 o10 o11 o12 o13 kk_o2 kk_o4 kk_o6 kk_o9 kk_o11 kk_o13 p4 p0 p1 p2 p3 p5 p6 p11 p7 p8 p9 p10 p12 p13 h0 n0 (some (.int 0)) T5.heap _
    exact (⟨rfl, N5, e5⟩)
def Q15_2 (Z : State) (z_COMPACT_STRINGS : Int32) (o0 : Addr) (o1 : Addr) (kk_o0 : ClassId) (kk_o1 : ClassId) (p0 : Int32) (p1 : Int32) (p2 : Int32) (p3 : Int32) (h0 : Heap) (n0 : Nat) (v : Option Value) (h : Heap) (L : List Loc) : Prop := v = (some (.int 0)) ∧ Fr n0 L ∧ h = h0
theorem rm15_2 (l : Launch) (Z : State) (a0 : Array Value) (hw : HW Z a0) (ws : List Jvm.Cond) (z_COMPACT_STRINGS : Int32) (o0 : Addr) (o1 : Addr) (kk_o0 : ClassId) (kk_o1 : ClassId) (p0 : Int32) (p1 : Int32) (p2 : Int32) (p3 : Int32) (h0 : Heap) (n0 : Nat) (O0 : Old Z n0 h0) (S : SF Z z_COMPACT_STRINGS) (V_o0 : Arv Z h0 o0 kk_o0 .byte (2 : Int32) [(.int p0), (.int p1)] (.int 0)) (V_o1 : Arv Z h0 o1 kk_o1 .byte (2 : Int32) [(.int p2), (.int p3)] (.int 0)) (hc0 : p0 = p2) (hc1 : ¬ (p1 = p3)) :
    Pay l Z My15 ws jdk_43_method_13_code 3 (some .boolean) #[(.ref o0), (.ref o1)] h0 ({ frames := 0, cells := 0, slots := 0, locals := 0 } : Room) (Q15_2 Z z_COMPACT_STRINGS o0 o1 kk_o0 kk_o1 p0 p1 p2 p3 h0 n0) := by
  refine own_body (plainFor_of_name pn_5) (L0 := #[va o0, va o1, uu]) (fun _ => by first | rfl | (simp [entryFrame, mkF, argsToLocals, Value.category]; done)) ?_
  intro p e s m below meth c s₁ hrt hlk hx hby hml hZ hown0 hnm X0 e0
  have hown : s.vm.findClass "java/lang/StringLatin1" = some m.cls := hown0
  have N0 := Fr.nil n0
  have K0 : Keep h0 h0 [] := Keep.refl _ _
  obtain ⟨cl1, Ar1, qk1, Sz1, Ng1, Hh1, Gg1⟩ := id V_o0
  obtain ⟨cl2, Ar2, qk2, Sz2, Ng2, Hh2, Gg2⟩ := id V_o1
  have hin1_0 : ¬ ((0 : Int32) < 0 ∨ cl1.slots.size ≤ ((0 : Int32)).toNatClampNeg) := inb_of Sz1 ⟨by decide, by decide⟩
  have hin2_0 : ¬ ((0 : Int32) < 0 ∨ cl2.slots.size ≤ ((0 : Int32)).toNatClampNeg) := inb_of Sz2 ⟨by decide, by decide⟩
  have hin1_1 : ¬ ((1 : Int32) < 0 ∨ cl1.slots.size ≤ ((1 : Int32)).toNatClampNeg) := inb_of Sz1 ⟨by decide, by decide⟩
  have hin2_1 : ¬ ((1 : Int32) < 0 ∨ cl2.slots.size ≤ ((1 : Int32)).toNatClampNeg) := inb_of Sz2 ⟨by decide, by decide⟩
  obtain ⟨fs, hr, hrun, hended, hW, hsame⟩ := X0.leave (v := (some (.int 0))) (fun h => by rw [hrt] at h; cases h)
  refine ⟨_, _, ?_, hrun, hended, _, _, rfl, ?_, ⟨_, rfl⟩, hW, hsame.mono (by decide) (by decide)⟩
  · show Steps p.tables e below (s₁.setTop (mkF m 0 #[va o0, va o1, uu] [])) _
    refine XS.aloadN X0.here hx rfl (hb hby d15_0) rfl rfl ?_
    refine X0.arraylength hx (by rw [e0]; exact Ar1.1) (State.isArrayOf_alike hZ.alike Ar1.2.1) (g := (mkF m 1 #[va o0, va o1, uu] [(.ref o0)])) rfl rfl (hb hby d15_1) _ ?_
    rw [len_of Sz1 Ng1]
    refine XS.aloadN X0.here hx rfl (hb hby d15_2) rfl rfl ?_
    refine X0.arraylength hx (by rw [e0]; exact Ar2.1) (State.isArrayOf_alike hZ.alike Ar2.2.1) (g := (mkF m 3 #[va o0, va o1, uu] [(.ref o1), (.int 2)])) rfl rfl (hb hby d15_3) _ ?_
    rw [len_of Sz2 Ng2]
    refine XS.icmpNo X0.here hx rfl (hb hby d15_4) rfl (teq (by decide : (2 : Int32) = (2 : Int32))).2 ?_
    refine XS.iconst X0.here hx rfl (hb hby d15_7) ?_
    refine XS.istoreN X0.here hx rfl (hb hby d15_8) rfl (l' := #[va o0, va o1, vi 0]) rfl ?_
    refine XS.iloadN X0.here hx rfl (hb hby d15_9) rfl ?_
    show Steps p.tables e below (s₁.setTop (mkF m 10 #[va o0, va o1, vi 0] [(.int 0)])) _
    refine XS.aloadN X0.here hx rfl (hb hby d15_10) rfl rfl ?_
    refine X0.arraylength hx (by rw [e0]; exact Ar1.1) (State.isArrayOf_alike hZ.alike Ar1.2.1) (g := (mkF m 11 #[va o0, va o1, vi 0] [(.ref o0), (.int 0)])) rfl rfl (hb hby d15_11) _ ?_
    rw [len_of Sz1 Ng1]
    refine XS.icmpNo X0.here hx rfl (hb hby d15_12) rfl (tlt (by decide : (0 : Int32) < (2 : Int32))).2.1 ?_
    refine XS.aloadN X0.here hx rfl (hb hby d15_15) rfl rfl ?_
    refine XS.iloadN X0.here hx rfl (hb hby d15_16) rfl ?_
    refine X0.baloadBytes hx (j := (0 : Int32)) (v := (.int p0)) (by rw [e0]; exact Ar1.1) (State.isArrayOf_alike hZ.alike Ar1.2.1) Ar1.2.2 hin1_0 (Has.at Hh1 hin1_0 rfl) (g := (mkF m 17 #[va o0, va o1, vi 0] [(.int 0), (.ref o0)])) rfl rfl (hb hby d15_17) _ ?_
    refine XS.aloadN X0.here hx rfl (hb hby d15_18) rfl rfl ?_
    refine XS.iloadN X0.here hx rfl (hb hby d15_19) rfl ?_
    show Steps p.tables e below (s₁.setTop (mkF m 20 #[va o0, va o1, vi 0] [(.int 0), (.ref o1), (.int p0)])) _
    refine X0.baloadBytes hx (j := (0 : Int32)) (v := (.int p2)) (by rw [e0]; exact Ar2.1) (State.isArrayOf_alike hZ.alike Ar2.2.1) Ar2.2.2 hin2_0 (Has.at Hh2 hin2_0 rfl) (g := (mkF m 20 #[va o0, va o1, vi 0] [(.int 0), (.ref o1), (.int p0)])) rfl rfl (hb hby d15_20) _ ?_
    refine XS.icmpYes X0.here hx rfl (pc0 := 21) (pc' := 26) rfl (hb hby d15_21) rfl (teq hc0).1 (by decide) (by decide) ?_
    refine XS.iinc X0.here hx rfl (hb hby d15_26) rfl (l' := #[va o0, va o1, vi ((0 : Int32) + (1 : Int32))]) rfl ?_
    show Steps p.tables e below (s₁.setTop (mkF m 29 #[va o0, va o1, vi ((0 : Int32) + (1 : Int32))] [])) _
    rw [show (((0 : Int32) + (1 : Int32)) : Int32) = (1 : Int32) from by decide]
    refine XS.goto X0.here hx rfl (pc0 := 29) (pc' := 9) rfl (hb hby d15_29) (by decide) (by decide) ?_
    refine XS.iloadN X0.here hx rfl (hb hby d15_9) rfl ?_
    refine XS.aloadN X0.here hx rfl (hb hby d15_10) rfl rfl ?_
    refine X0.arraylength hx (by rw [e0]; exact Ar1.1) (State.isArrayOf_alike hZ.alike Ar1.2.1) (g := (mkF m 11 #[va o0, va o1, vi 1] [(.ref o0), (.int 1)])) rfl rfl (hb hby d15_11) _ ?_
    rw [len_of Sz1 Ng1]
    refine XS.icmpNo X0.here hx rfl (hb hby d15_12) rfl (tlt (by decide : (1 : Int32) < (2 : Int32))).2.1 ?_
    refine XS.aloadN X0.here hx rfl (hb hby d15_15) rfl rfl ?_
    refine XS.iloadN X0.here hx rfl (hb hby d15_16) rfl ?_
    show Steps p.tables e below (s₁.setTop (mkF m 17 #[va o0, va o1, vi 1] [(.int 1), (.ref o0)])) _
    refine X0.baloadBytes hx (j := (1 : Int32)) (v := (.int p1)) (by rw [e0]; exact Ar1.1) (State.isArrayOf_alike hZ.alike Ar1.2.1) Ar1.2.2 hin1_1 (Has.at Hh1 hin1_1 rfl) (g := (mkF m 17 #[va o0, va o1, vi 1] [(.int 1), (.ref o0)])) rfl rfl (hb hby d15_17) _ ?_
    refine XS.aloadN X0.here hx rfl (hb hby d15_18) rfl rfl ?_
    refine XS.iloadN X0.here hx rfl (hb hby d15_19) rfl ?_
    refine X0.baloadBytes hx (j := (1 : Int32)) (v := (.int p3)) (by rw [e0]; exact Ar2.1) (State.isArrayOf_alike hZ.alike Ar2.2.1) Ar2.2.2 hin2_1 (Has.at Hh2 hin2_1 rfl) (g := (mkF m 20 #[va o0, va o1, vi 1] [(.int 1), (.ref o1), (.int p1)])) rfl rfl (hb hby d15_20) _ ?_
    refine XS.icmpNo X0.here hx rfl (hb hby d15_21) rfl (feq hc1).1 ?_
    refine XS.iconst X0.here hx rfl (hb hby d15_24) ?_
    exact retN X0 hx (t := .boolean) hrt (by simp) (hb hby d15_25) hr
  · show Q15_2 Z z_COMPACT_STRINGS o0 o1 kk_o0 kk_o1 p0 p1 p2 p3 h0 n0 (some (.int 0)) s₁.heap _
    exact (⟨rfl, N0, e0⟩)
def Q14_3 (Z : State) (z_COMPACT_STRINGS : Int32) (o0 : Addr) (o1 : Addr) (o2 : Addr) (o3 : Addr) (kk_o1 : ClassId) (kk_o3 : ClassId) (p0 : Int32) (p1 : Int32) (p2 : Int32) (p3 : Int32) (h0 : Heap) (n0 : Nat) (v : Option Value) (h : Heap) (L : List Loc) : Prop := v = (some (.int 0)) ∧ Fr n0 L ∧ h = h0
theorem rm14_3 (l : Launch) (Z : State) (a0 : Array Value) (hw : HW Z a0) (ws : List Jvm.Cond) (z_COMPACT_STRINGS : Int32) (o0 : Addr) (o1 : Addr) (o2 : Addr) (o3 : Addr) (kk_o1 : ClassId) (kk_o3 : ClassId) (p0 : Int32) (p1 : Int32) (p2 : Int32) (p3 : Int32) (h0 : Heap) (n0 : Nat) (O0 : Old Z n0 h0) (S : SF Z z_COMPACT_STRINGS) (F_coder_o0 : Fld Z h0 o0 sC0 "coder" "B" (.int 0)) (F_value_o0 : Fld Z h0 o0 sC0 "value" "[B" (.ref o1)) (V_o1 : Arv Z h0 o1 kk_o1 .byte (2 : Int32) [(.int p0), (.int p1)] (.int 0)) (E_o2 : Exa Z h0 o2 sC0) (F_coder_o2 : Fld Z h0 o2 sC0 "coder" "B" (.int 0)) (F_value_o2 : Fld Z h0 o2 sC0 "value" "[B" (.ref o3)) (V_o3 : Arv Z h0 o3 kk_o3 .byte (2 : Int32) [(.int p2), (.int p3)] (.int 0)) (ne_o0_o2 : o0 ≠ o2) (hc0 : p0 = p2) (hc1 : ¬ (p1 = p3)) :
    Pay l Z My14 ws jdk_42_method_66_code 3 (some .boolean) #[(.ref o0), (.ref o2)] h0 ({ frames := 1, cells := 0, slots := 0, locals := 14 } : Room) (Q14_3 Z z_COMPACT_STRINGS o0 o1 o2 o3 kk_o1 kk_o3 p0 p1 p2 p3 h0 n0) := by
  obtain ⟨S_z_COMPACT_STRINGS, hz_z_COMPACT_STRINGS, -⟩ := id S
  refine own_body (plainFor_of_name pn_1) (L0 := #[va o0, va o2, uu]) (fun _ => by first | rfl | (simp [entryFrame, mkF, argsToLocals, Value.category]; done)) ?_
  intro p e s m below meth c s₁ hrt hlk hx hby hml hZ hown0 hnm X0 e0
  have hown : s.vm.findClass sC0 = some m.cls := hown0
  have N0 := Fr.nil n0
  have K0 : Keep h0 h0 [] := Keep.refl _ _
  obtain ⟨T1, X1, e1, st1⟩ := instY X0 hx hZ hown (ww hw 80 rfl) e0 (Ins.self E_o2) (g := (mkF m 8 #[va o0, va o2, uu] [(.ref o2)])) rfl rfl (hb hby d14_8)
  obtain ⟨T2, X2, e2, st2⟩ := castY X1 hx hZ hown (ww hw 80 rfl) e1 (Ins.self E_o2) (g := (mkF m 15 #[va o0, va o2, uu] [(.ref o2)])) rfl rfl (hb hby d14_15)
  obtain ⟨T3, X3, e3, st3⟩ := getS2 X2 hx hZ hown (host := "") (Or.inl (ww hw 21 rfl)) Via.refl e2 (S_z_COMPACT_STRINGS.ext O0.2) (g := (mkF m 19 #[va o0, va o2, va o2] [])) rfl (hb hby d14_19)
  obtain ⟨T4, X4, e4, st4⟩ := getF X3 hx hZ hown (host := "") (Or.inl (ww hw 33 rfl)) Via.refl e3 F_coder_o0 (g := (mkF m 26 #[va o0, va o2, va o2] [(.ref o0)])) rfl rfl (hb hby d14_26)
  obtain ⟨T5, X5, e5, st5⟩ := getF X4 hx hZ hown (host := "") (Or.inl (ww hw 33 rfl)) Via.refl e4 F_coder_o2 (g := (mkF m 30 #[va o0, va o2, va o2] [(.ref o2), (.int 0)])) rfl rfl (hb hby d14_30)
  obtain ⟨T6, X6, e6, st6⟩ := getF X5 hx hZ hown (host := "") (Or.inl (ww hw 35 rfl)) Via.refl e5 F_value_o0 (g := (mkF m 37 #[va o0, va o2, va o2] [(.ref o0)])) rfl rfl (hb hby d14_37)
  obtain ⟨T7, X7, e7, st7⟩ := getF X6 hx hZ hown (host := "") (Or.inl (ww hw 35 rfl)) Via.refl e6 F_value_o2 (g := (mkF m 41 #[va o0, va o2, va o2] [(.ref o2), (.ref o1)])) rfl rfl (hb hby d14_41)
  obtain ⟨_, _, ⟨T8, L8, k8, n8⟩, -, X8, ⟨Lc8, hQ8, l8, y8, z8⟩, st8⟩ := Jvm.LawKit.callS X7 hx (y := My15) hown (mvT hZ (ww hw 81 rfl)) (mvT hZ (ww hw 82 rfl)) (mvT hZ (ww hw 83 rfl)) (mvT hZ (ww hw 84 rfl)) (by decide) (backOf (W := 0) (rm15_2 l Z a0 hw [] z_COMPACT_STRINGS o1 o3 kk_o1 kk_o3 p0 p1 p2 p3 h0 n0 O0 S V_o1 V_o3 hc0 hc1) hZ (ww hw 84 rfl) (ww hw 83 rfl) (by decide) (by decide)) (g := (mkF m 44 #[va o0, va o2, va o2] [(.ref o3), (.ref o1)])) rfl (by rw [hml]; rfl) (argsL := [(.ref o1), (.ref o3)]) (rest := []) (lenOf pd_9 rfl) rfl (by show 2 * 0 + _ ≤ _; exact Nat.le_of_eq rfl) (hb hby d14_44) (fun _ _ => ⟨rfl, e7, (by decide : 0 + 0 ≤ _), (by decide : 0 + 0 ≤ _)⟩)
  dsimp only [Pt.U, Pt.locs, Pt.cells, Pt.slots] at X8 l8 y8 z8 st8 hQ8
  subst l8 y8 z8
  obtain ⟨rfl, Nq8, e8⟩ := hQ8
  have N8 := Fr.app N0 Nq8
  obtain ⟨fs, hr, hrun, hended, hW, hsame⟩ := X8.leave (v := (some (.int 0))) (fun h => by rw [hrt] at h; cases h)
  refine ⟨_, _, ?_, hrun, hended, _, _, rfl, ?_, ⟨_, rfl⟩, hW, hsame.mono (by decide) (by decide)⟩
  · show Steps p.tables e below (s₁.setTop (mkF m 0 #[va o0, va o2, uu] [])) _
    refine XS.aloadN X0.here hx rfl (hb hby d14_0) rfl rfl ?_
    refine XS.aloadN X0.here hx rfl (hb hby d14_1) rfl rfl ?_
    refine Jvm.RoadKit.acmp (g := (mkF m 2 #[va o0, va o2, uu] [(.ref o2), (.ref o0)])) X0 hx rfl rfl rfl (pc0 := 2) (pc' := 7) (same := false) rfl (hb hby d14_2) rfl (decide_eq_false fun q => ne_o0_o2 (Value.ref.inj q)) (by decide) (by decide) ?_
    refine XS.aloadN X0.here hx rfl (hb hby d14_7) rfl rfl ?_
    refine st1 _ ?_
    refine XS.ifNo X1.here hx rfl (hb hby d14_11) rfl ((if0 _ _).trans (feq (by decide : ¬ ((1 : Int32) = (0 : Int32)))).1) ?_
    refine XS.aloadN X1.here hx rfl (hb hby d14_14) rfl rfl ?_
    refine st2 _ ?_
    show Steps p.tables e below (T2.setTop (mkF m 18 #[va o0, va o2, uu] [(.ref o2)])) _
    refine XS.astoreN X2.here hx rfl (hb hby d14_18) rfl rfl (l' := #[va o0, va o2, va o2]) rfl ?_
    refine st3 _ ?_
    refine XS.ifNo X3.here hx rfl (hb hby d14_22) rfl ((if0 _ _).trans (feq hz_z_COMPACT_STRINGS).1) ?_
    refine XS.aloadN X3.here hx rfl (hb hby d14_25) rfl rfl ?_
    refine st4 _ ?_
    refine XS.aloadN X4.here hx rfl (hb hby d14_29) rfl rfl ?_
    refine st5 _ ?_
    refine XS.icmpNo X5.here hx rfl (hb hby d14_33) rfl (teq (by decide : (0 : Int32) = (0 : Int32))).2 ?_
    show Steps p.tables e below (T5.setTop (mkF m 36 #[va o0, va o2, va o2] [])) _
    refine XS.aloadN X5.here hx rfl (hb hby d14_36) rfl rfl ?_
    refine st6 _ ?_
    refine XS.aloadN X6.here hx rfl (hb hby d14_40) rfl rfl ?_
    refine st7 _ ?_
    refine st8 _ ?_
    refine XS.ifYes X8.here hx rfl (pc0 := 47) (pc' := 54) rfl (hb hby d14_47) rfl ((if0 _ _).trans (teq (by decide : (0 : Int32) = (0 : Int32))).1) (by decide) (by decide) ?_
    refine XS.iconst X8.here hx rfl (hb hby d14_54) ?_
    exact retN X8 hx (t := .boolean) hrt (by simp) (hb hby d14_55) hr
  · show Q14_3 Z z_COMPACT_STRINGS o0 o1 o2 o3 kk_o1 kk_o3 p0 p1 p2 p3 h0 n0 (some (.int 0)) T8.heap _
    exact (⟨rfl, N8, e8⟩)
def Q13_3 (Z : State) (z_COMPACT_STRINGS : Int32) (o0 : Addr) (o1 : Addr) (o2 : Addr) (o3 : Addr) (o4 : Addr) (o5 : Addr) (o6 : Addr) (o7 : Addr) (o8 : Addr) (o9 : Addr) (o10 : Addr) (o11 : Addr) (o12 : Addr) (kk_o2 : ClassId) (kk_o4 : ClassId) (kk_o6 : ClassId) (kk_o8 : ClassId) (kk_o10 : ClassId) (kk_o12 : ClassId) (p4 : Int32) (p0 : Int32) (p1 : Int32) (p2 : Int32) (p3 : Int32) (p5 : Int32) (p6 : Int32) (p7 : Int32) (p8 : Int32) (p9 : Int32) (p10 : Int32) (p11 : Int32) (p12 : Int32) (h0 : Heap) (n0 : Nat) (v : Option Value) (h : Heap) (L : List Loc) : Prop := v = (some (.int 0)) ∧ Fr n0 L ∧ h = h0
theorem rm13_3 (l : Launch) (Z : State) (a0 : Array Value) (hw : HW Z a0) (ws : List Jvm.Cond) (z_COMPACT_STRINGS : Int32) (o0 : Addr) (o1 : Addr) (o2 : Addr) (o3 : Addr) (o4 : Addr) (o5 : Addr) (o6 : Addr) (o7 : Addr) (o8 : Addr) (o9 : Addr) (o10 : Addr) (o11 : Addr) (o12 : Addr) (kk_o2 : ClassId) (kk_o4 : ClassId) (kk_o6 : ClassId) (kk_o8 : ClassId) (kk_o10 : ClassId) (kk_o12 : ClassId) (p4 : Int32) (p0 : Int32) (p1 : Int32) (p2 : Int32) (p3 : Int32) (p5 : Int32) (p6 : Int32) (p7 : Int32) (p8 : Int32) (p9 : Int32) (p10 : Int32) (p11 : Int32) (p12 : Int32) (h0 : Heap) (n0 : Nat) (O0 : Old Z n0 h0) (S : SF Z z_COMPACT_STRINGS) (F_className_o0 : Fld Z h0 o0 sC1 "className" "Ljava/lang/String;" (.ref o1)) (F_descriptor_o0 : Fld Z h0 o0 sC1 "descriptor" "Ljava/lang/String;" (.ref o3)) (F_method_o0 : Fld Z h0 o0 sC1 "method" "Ljava/lang/String;" (.ref o5)) (E_o1 : Exa Z h0 o1 sC0) (F_coder_o1 : Fld Z h0 o1 sC0 "coder" "B" (.int 0)) (F_value_o1 : Fld Z h0 o1 sC0 "value" "[B" (.ref o2)) (V_o2 : Arv Z h0 o2 kk_o2 .byte (2 : Int32) [(.int p0), (.int p1)] (.int 0)) (E_o3 : Exa Z h0 o3 sC0) (F_coder_o3 : Fld Z h0 o3 sC0 "coder" "B" (.int 0)) (F_value_o3 : Fld Z h0 o3 sC0 "value" "[B" (.ref o4)) (V_o4 : Arv Z h0 o4 kk_o4 .byte (2 : Int32) [(.int p2), (.int p3)] (.int 0)) (E_o5 : Exa Z h0 o5 sC0) (F_coder_o5 : Fld Z h0 o5 sC0 "coder" "B" (.int 0)) (F_value_o5 : Fld Z h0 o5 sC0 "value" "[B" (.ref o6)) (V_o6 : Arv Z h0 o6 kk_o6 .byte (2 : Int32) [(.int p5), (.int p6)] (.int 0)) (E_o7 : Exa Z h0 o7 sC0) (F_coder_o7 : Fld Z h0 o7 sC0 "coder" "B" (.int 0)) (F_value_o7 : Fld Z h0 o7 sC0 "value" "[B" (.ref o8)) (V_o8 : Arv Z h0 o8 kk_o8 .byte (2 : Int32) [(.int p7), (.int p8)] (.int 0)) (E_o9 : Exa Z h0 o9 sC0) (F_coder_o9 : Fld Z h0 o9 sC0 "coder" "B" (.int 0)) (F_value_o9 : Fld Z h0 o9 sC0 "value" "[B" (.ref o10)) (V_o10 : Arv Z h0 o10 kk_o10 .byte (2 : Int32) [(.int p9), (.int p10)] (.int 0)) (E_o11 : Exa Z h0 o11 sC0) (F_coder_o11 : Fld Z h0 o11 sC0 "coder" "B" (.int 0)) (F_value_o11 : Fld Z h0 o11 sC0 "value" "[B" (.ref o12)) (V_o12 : Arv Z h0 o12 kk_o12 .byte (2 : Int32) [(.int p11), (.int p12)] (.int 0)) (ne_o1_o7 : o1 ≠ o7) (ne_o3_o11 : o3 ≠ o11) (ne_o5_o9 : o5 ≠ o9) (hc0 : p0 = p7) (hc1 : p1 = p8) (hc2 : p5 = p9) (hc3 : p6 = p10) (hc4 : p2 = p11) (hc5 : ¬ (p3 = p12)) :
    Pay l Z My13 ws prog_3_method_5_code 4 (some .boolean) #[(.ref o0), (.ref o7), (.ref o9), (.ref o11)] h0 ({ frames := 2, cells := 0, slots := 0, locals := 28 } : Room) (Q13_3 Z z_COMPACT_STRINGS o0 o1 o2 o3 o4 o5 o6 o7 o8 o9 o10 o11 o12 kk_o2 kk_o4 kk_o6 kk_o8 kk_o10 kk_o12 p4 p0 p1 p2 p3 p5 p6 p7 p8 p9 p10 p11 p12 h0 n0) := by
  refine own_body (plainFor_of_name pn_3) (L0 := #[va o0, va o7, va o9, va o11]) (fun _ => by first | rfl | (simp [entryFrame, mkF, argsToLocals, Value.category]; done)) ?_
  intro p e s m below meth c s₁ hrt hlk hx hby hml hZ hown0 hnm X0 e0
  have hown : s.vm.findClass sC1 = some m.cls := hown0
  have N0 := Fr.nil n0
  have K0 : Keep h0 h0 [] := Keep.refl _ _
  obtain ⟨T1, X1, e1, st1⟩ := getF X0 hx hZ hown (host := "") (Or.inl (ww hw 46 rfl)) Via.refl e0 F_className_o0 (g := (mkF m 1 #[va o0, va o7, va o9, va o11] [(.ref o0)])) rfl rfl (hb hby d13_1)
  obtain ⟨cq2, kq2, q2a, q2b, q2c⟩ := isOf hZ e1 E_o1
  obtain ⟨_, _, ⟨T2, L2, k2, n2⟩, -, X2, ⟨Lc2, hQ2, l2, y2, z2⟩, st2⟩ := X1.virtualBack hx (y := My14) (z := My14) hown (mvT hZ (ww hw 73 rfl)) (mvT hZ (ww hw 74 rfl)) (notFace_of_selects (args := #[]) (mvT hZ (ww hw 76 rfl))) (mvT hZ (ww hw 76 rfl)) (mvT hZ (ww hw 75 rfl)) (by decide) (backOf (W := 0) (rm14_0 l Z a0 hw [] z_COMPACT_STRINGS o1 o2 o7 o8 kk_o2 kk_o8 p0 p1 p7 p8 h0 n0 O0 S F_coder_o1 F_value_o1 V_o2 E_o7 F_coder_o7 F_value_o7 V_o8 ne_o1_o7 hc0 hc1) hZ (ww hw 77 rfl) (ww hw 10 rfl) (by decide) (by decide)) q2a q2c (g := (mkF m 5 #[va o0, va o7, va o9, va o11] [(.ref o7), (.ref o1)])) rfl (by rw [hml]; rfl) (Steps.refl _) (argsL := [(.ref o7)]) (rest := []) (lenOf pd_10 rfl) rfl (by show 2 * 0 + _ ≤ _; exact Nat.le_of_eq rfl) (hb hby d13_5) (fun _ _ => ⟨rfl, e1, (by decide : 0 + 0 ≤ _), (by decide : 0 + 0 ≤ _)⟩)
  dsimp only [Pt.U, Pt.locs, Pt.cells, Pt.slots] at X2 l2 y2 z2 st2 hQ2
  subst l2 y2 z2
  obtain ⟨rfl, Nq2, e2⟩ := hQ2
  have N2 := Fr.app N0 Nq2
  obtain ⟨T3, X3, e3, st3⟩ := getF X2 hx hZ hown (host := "") (Or.inl (ww hw 48 rfl)) Via.refl e2 F_method_o0 (g := (mkF m 12 #[va o0, va o7, va o9, va o11] [(.ref o0)])) rfl rfl (hb hby d13_12)
  obtain ⟨cq4, kq4, q4a, q4b, q4c⟩ := isOf hZ e3 E_o5
  obtain ⟨_, _, ⟨T4, L4, k4, n4⟩, -, X4, ⟨Lc4, hQ4, l4, y4, z4⟩, st4⟩ := X3.virtualBack hx (y := My14) (z := My14) hown (mvT hZ (ww hw 73 rfl)) (mvT hZ (ww hw 74 rfl)) (notFace_of_selects (args := #[]) (mvT hZ (ww hw 76 rfl))) (mvT hZ (ww hw 76 rfl)) (mvT hZ (ww hw 75 rfl)) (by decide) (backOf (W := 0) (rm14_0 l Z a0 hw [] z_COMPACT_STRINGS o5 o6 o9 o10 kk_o6 kk_o10 p5 p6 p9 p10 h0 n0 O0 S F_coder_o5 F_value_o5 V_o6 E_o9 F_coder_o9 F_value_o9 V_o10 ne_o5_o9 hc2 hc3) hZ (ww hw 77 rfl) (ww hw 10 rfl) (by decide) (by decide)) q4a q4c (g := (mkF m 16 #[va o0, va o7, va o9, va o11] [(.ref o9), (.ref o5)])) rfl (by rw [hml]; rfl) (Steps.refl _) (argsL := [(.ref o9)]) (rest := []) (lenOf pd_10 rfl) rfl (by show 2 * 0 + _ ≤ _; exact Nat.le_of_eq rfl) (hb hby d13_16) (fun _ _ => ⟨rfl, e3, (by decide : 0 + 0 ≤ _), (by decide : 0 + 0 ≤ _)⟩)
  dsimp only [Pt.U, Pt.locs, Pt.cells, Pt.slots] at X4 l4 y4 z4 st4 hQ4
  subst l4 y4 z4
  obtain ⟨rfl, Nq4, e4⟩ := hQ4
  have N4 := Fr.app N2 Nq4
  obtain ⟨T5, X5, e5, st5⟩ := getF X4 hx hZ hown (host := "") (Or.inl (ww hw 50 rfl)) Via.refl e4 F_descriptor_o0 (g := (mkF m 23 #[va o0, va o7, va o9, va o11] [(.ref o0)])) rfl rfl (hb hby d13_23)
  obtain ⟨cq6, kq6, q6a, q6b, q6c⟩ := isOf hZ e5 E_o3
  obtain ⟨_, _, ⟨T6, L6, k6, n6⟩, -, X6, ⟨Lc6, hQ6, l6, y6, z6⟩, st6⟩ := X5.virtualBack hx (y := My14) (z := My14) hown (mvT hZ (ww hw 73 rfl)) (mvT hZ (ww hw 74 rfl)) (notFace_of_selects (args := #[]) (mvT hZ (ww hw 76 rfl))) (mvT hZ (ww hw 76 rfl)) (mvT hZ (ww hw 75 rfl)) (by decide) (backOf (W := 0) (rm14_3 l Z a0 hw [] z_COMPACT_STRINGS o3 o4 o11 o12 kk_o4 kk_o12 p2 p3 p11 p12 h0 n0 O0 S F_coder_o3 F_value_o3 V_o4 E_o11 F_coder_o11 F_value_o11 V_o12 ne_o3_o11 hc4 hc5) hZ (ww hw 77 rfl) (ww hw 10 rfl) (by decide) (by decide)) q6a q6c (g := (mkF m 27 #[va o0, va o7, va o9, va o11] [(.ref o11), (.ref o3)])) rfl (by rw [hml]; rfl) (Steps.refl _) (argsL := [(.ref o11)]) (rest := []) (lenOf pd_10 rfl) rfl (by show 2 * 0 + _ ≤ _; exact Nat.le_of_eq rfl) (hb hby d13_27) (fun _ _ => ⟨rfl, e5, (by decide : 0 + 0 ≤ _), (by decide : 0 + 0 ≤ _)⟩)
  dsimp only [Pt.U, Pt.locs, Pt.cells, Pt.slots] at X6 l6 y6 z6 st6 hQ6
  subst l6 y6 z6
  obtain ⟨rfl, Nq6, e6⟩ := hQ6
  have N6 := Fr.app N4 Nq6
  obtain ⟨fs, hr, hrun, hended, hW, hsame⟩ := X6.leave (v := (some (.int 0))) (fun h => by rw [hrt] at h; cases h)
  refine ⟨_, _, ?_, hrun, hended, _, _, rfl, ?_, ⟨_, rfl⟩, hW, hsame.mono (by decide) (by decide)⟩
  · show Steps p.tables e below (s₁.setTop (mkF m 0 #[va o0, va o7, va o9, va o11] [])) _
    refine XS.aloadN X0.here hx rfl (hb hby d13_0) rfl rfl ?_
    refine st1 _ ?_
    refine XS.aloadN X1.here hx rfl (hb hby d13_4) rfl rfl ?_
    refine st2.trans ?_
    refine XS.ifNo X2.here hx rfl (hb hby d13_8) rfl ((if0 _ _).trans (feq (by decide : ¬ ((1 : Int32) = (0 : Int32)))).1) ?_
    refine XS.aloadN X2.here hx rfl (hb hby d13_11) rfl rfl ?_
    refine st3 _ ?_
    refine XS.aloadN X3.here hx rfl (hb hby d13_15) rfl rfl ?_
    show Steps p.tables e below (T3.setTop (mkF m 16 #[va o0, va o7, va o9, va o11] [(.ref o9), (.ref o5)])) _
    refine st4.trans ?_
    refine XS.ifNo X4.here hx rfl (hb hby d13_19) rfl ((if0 _ _).trans (feq (by decide : ¬ ((1 : Int32) = (0 : Int32)))).1) ?_
    refine XS.aloadN X4.here hx rfl (hb hby d13_22) rfl rfl ?_
    refine st5 _ ?_
    refine XS.aloadN X5.here hx rfl (hb hby d13_26) rfl rfl ?_
    refine st6.trans ?_
    refine XS.ifYes X6.here hx rfl (pc0 := 30) (pc' := 37) rfl (hb hby d13_30) rfl ((if0 _ _).trans (teq (by decide : (0 : Int32) = (0 : Int32))).1) (by decide) (by decide) ?_
    refine XS.iconst X6.here hx rfl (hb hby d13_37) ?_
    show Steps p.tables e below (T6.setTop (mkF m 38 #[va o0, va o7, va o9, va o11] [(.int 0)])) _
    exact retN X6 hx (t := .boolean) hrt (by simp) (hb hby d13_38) hr
  · show Q13_3 Z z_COMPACT_STRINGS o0 o1 o2 o3 o4 o5 o6 o7 o8 o9 o10 o11 o12 kk_o2 kk_o4 kk_o6 kk_o8 kk_o10 kk_o12 p4 p0 p1 p2 p3 p5 p6 p7 p8 p9 p10 p11 p12 h0 n0 (some (.int 0)) T6.heap _
    exact (⟨rfl, N6, e6⟩)
def Q12_3 (Z : State) (z_COMPACT_STRINGS : Int32) (o0 : Addr) (o1 : Addr) (o2 : Addr) (o3 : Addr) (o4 : Addr) (o5 : Addr) (o6 : Addr) (o7 : Addr) (o8 : Addr) (o9 : Addr) (o10 : Addr) (o11 : Addr) (o12 : Addr) (o13 : Addr) (kk_o2 : ClassId) (kk_o4 : ClassId) (kk_o6 : ClassId) (kk_o9 : ClassId) (kk_o11 : ClassId) (kk_o13 : ClassId) (p4 : Int32) (p0 : Int32) (p1 : Int32) (p2 : Int32) (p3 : Int32) (p5 : Int32) (p6 : Int32) (p11 : Int32) (p7 : Int32) (p8 : Int32) (p9 : Int32) (p10 : Int32) (p12 : Int32) (p13 : Int32) (h0 : Heap) (n0 : Nat) (v : Option Value) (h : Heap) (L : List Loc) : Prop := v = (some (.int 0)) ∧ Fr n0 L ∧ h = h0
theorem rm12_3 (l : Launch) (Z : State) (a0 : Array Value) (hw : HW Z a0) (ws : List Jvm.Cond) (z_COMPACT_STRINGS : Int32) (o0 : Addr) (o1 : Addr) (o2 : Addr) (o3 : Addr) (o4 : Addr) (o5 : Addr) (o6 : Addr) (o7 : Addr) (o8 : Addr) (o9 : Addr) (o10 : Addr) (o11 : Addr) (o12 : Addr) (o13 : Addr) (kk_o2 : ClassId) (kk_o4 : ClassId) (kk_o6 : ClassId) (kk_o9 : ClassId) (kk_o11 : ClassId) (kk_o13 : ClassId) (p4 : Int32) (p0 : Int32) (p1 : Int32) (p2 : Int32) (p3 : Int32) (p5 : Int32) (p6 : Int32) (p11 : Int32) (p7 : Int32) (p8 : Int32) (p9 : Int32) (p10 : Int32) (p12 : Int32) (p13 : Int32) (h0 : Heap) (n0 : Nat) (O0 : Old Z n0 h0) (S : SF Z z_COMPACT_STRINGS) (E_o0 : Exa Z h0 o0 sC1) (F_className_o0 : Fld Z h0 o0 sC1 "className" "Ljava/lang/String;" (.ref o1)) (F_descriptor_o0 : Fld Z h0 o0 sC1 "descriptor" "Ljava/lang/String;" (.ref o3)) (F_method_o0 : Fld Z h0 o0 sC1 "method" "Ljava/lang/String;" (.ref o5)) (E_o1 : Exa Z h0 o1 sC0) (F_coder_o1 : Fld Z h0 o1 sC0 "coder" "B" (.int 0)) (F_value_o1 : Fld Z h0 o1 sC0 "value" "[B" (.ref o2)) (V_o2 : Arv Z h0 o2 kk_o2 .byte (2 : Int32) [(.int p0), (.int p1)] (.int 0)) (E_o3 : Exa Z h0 o3 sC0) (F_coder_o3 : Fld Z h0 o3 sC0 "coder" "B" (.int 0)) (F_value_o3 : Fld Z h0 o3 sC0 "value" "[B" (.ref o4)) (V_o4 : Arv Z h0 o4 kk_o4 .byte (2 : Int32) [(.int p2), (.int p3)] (.int 0)) (E_o5 : Exa Z h0 o5 sC0) (F_coder_o5 : Fld Z h0 o5 sC0 "coder" "B" (.int 0)) (F_value_o5 : Fld Z h0 o5 sC0 "value" "[B" (.ref o6)) (V_o6 : Arv Z h0 o6 kk_o6 .byte (2 : Int32) [(.int p5), (.int p6)] (.int 0)) (F_className_o7 : Fld Z h0 o7 sC1 "className" "Ljava/lang/String;" (.ref o8)) (F_descriptor_o7 : Fld Z h0 o7 sC1 "descriptor" "Ljava/lang/String;" (.ref o10)) (F_method_o7 : Fld Z h0 o7 sC1 "method" "Ljava/lang/String;" (.ref o12)) (E_o8 : Exa Z h0 o8 sC0) (F_coder_o8 : Fld Z h0 o8 sC0 "coder" "B" (.int 0)) (F_value_o8 : Fld Z h0 o8 sC0 "value" "[B" (.ref o9)) (V_o9 : Arv Z h0 o9 kk_o9 .byte (2 : Int32) [(.int p7), (.int p8)] (.int 0)) (E_o10 : Exa Z h0 o10 sC0) (F_coder_o10 : Fld Z h0 o10 sC0 "coder" "B" (.int 0)) (F_value_o10 : Fld Z h0 o10 sC0 "value" "[B" (.ref o11)) (V_o11 : Arv Z h0 o11 kk_o11 .byte (2 : Int32) [(.int p9), (.int p10)] (.int 0)) (E_o12 : Exa Z h0 o12 sC0) (F_coder_o12 : Fld Z h0 o12 sC0 "coder" "B" (.int 0)) (F_value_o12 : Fld Z h0 o12 sC0 "value" "[B" (.ref o13)) (V_o13 : Arv Z h0 o13 kk_o13 .byte (2 : Int32) [(.int p12), (.int p13)] (.int 0)) (ne_o1_o8 : o1 ≠ o8) (ne_o3_o10 : o3 ≠ o10) (ne_o5_o12 : o5 ≠ o12) (hc0 : p0 = p7) (hc1 : p1 = p8) (hc2 : p5 = p12) (hc3 : p6 = p13) (hc4 : p2 = p9) (hc5 : ¬ (p3 = p10)) :
    Pay l Z My12 ws prog_3_method_4_code 2 (some .boolean) #[(.ref o0), (.ref o7)] h0 ({ frames := 3, cells := 0, slots := 0, locals := 43 } : Room) (Q12_3 Z z_COMPACT_STRINGS o0 o1 o2 o3 o4 o5 o6 o7 o8 o9 o10 o11 o12 o13 kk_o2 kk_o4 kk_o6 kk_o9 kk_o11 kk_o13 p4 p0 p1 p2 p3 p5 p6 p11 p7 p8 p9 p10 p12 p13 h0 n0) := by
  refine own_body (plainFor_of_name pn_3) (L0 := #[va o0, va o7]) (fun _ => by first | rfl | (simp [entryFrame, mkF, argsToLocals, Value.category]; done)) ?_
  intro p e s m below meth c s₁ hrt hlk hx hby hml hZ hown0 hnm X0 e0
  have hown : s.vm.findClass sC1 = some m.cls := hown0
  have N0 := Fr.nil n0
  have K0 : Keep h0 h0 [] := Keep.refl _ _
  obtain ⟨T1, X1, e1, st1⟩ := getF X0 hx hZ hown (host := "") (Or.inl (ww hw 46 rfl)) Via.refl e0 F_className_o7 (g := (mkF m 2 #[va o0, va o7] [(.ref o7), (.ref o0)])) rfl rfl (hb hby d12_2)
  obtain ⟨T2, X2, e2, st2⟩ := getF X1 hx hZ hown (host := "") (Or.inl (ww hw 48 rfl)) Via.refl e1 F_method_o7 (g := (mkF m 6 #[va o0, va o7] [(.ref o7), (.ref o8), (.ref o0)])) rfl rfl (hb hby d12_6)
  obtain ⟨T3, X3, e3, st3⟩ := getF X2 hx hZ hown (host := "") (Or.inl (ww hw 50 rfl)) Via.refl e2 F_descriptor_o7 (g := (mkF m 10 #[va o0, va o7] [(.ref o7), (.ref o12), (.ref o8), (.ref o0)])) rfl rfl (hb hby d12_10)
  obtain ⟨cq4, qa4, qb4⟩ := E_o0.cell
  obtain ⟨_, _, ⟨T4, L4, k4, n4⟩, -, X4, ⟨Lc4, hQ4, l4, y4, z4⟩, st4⟩ := X3.privateBack hx (y := My13) hown (mvT hZ (ww hw 69 rfl)) (mvT hZ (ww hw 70 rfl)) (own_selp (by decide) (mvT hZ (ww hw 1 rfl)) (mvP hZ (ww hw 71 rfl)) (mvT hZ (ww hw 70 rfl))) (Cond.privateMethod_at (mvP hZ (ww hw 71 rfl) (args := #[]))) (mvT hZ (ww hw 72 rfl)) (by decide) (backOf (W := 0) (rm13_3 l Z a0 hw [] z_COMPACT_STRINGS o0 o1 o2 o3 o4 o5 o6 o8 o9 o12 o13 o10 o11 kk_o2 kk_o4 kk_o6 kk_o9 kk_o13 kk_o11 p4 p0 p1 p2 p3 p5 p6 p7 p8 p12 p13 p9 p10 h0 n0 O0 S F_className_o0 F_descriptor_o0 F_method_o0 E_o1 F_coder_o1 F_value_o1 V_o2 E_o3 F_coder_o3 F_value_o3 V_o4 E_o5 F_coder_o5 F_value_o5 V_o6 E_o8 F_coder_o8 F_value_o8 V_o9 E_o12 F_coder_o12 F_value_o12 V_o13 E_o10 F_coder_o10 F_value_o10 V_o11 ne_o1_o8 ne_o3_o10 ne_o5_o12 hc0 hc1 hc2 hc3 hc4 hc5) hZ (ww hw 72 rfl) (ww hw 2 rfl) (by decide) (by decide)) (g := (mkF m 13 #[va o0, va o7] [(.ref o10), (.ref o12), (.ref o8), (.ref o0)])) rfl (by rw [hml]; rfl) (Steps.refl _) (a := o0) (by rw [e3]; exact qa4) qb4 (argsL := [(.ref o8), (.ref o12), (.ref o10)]) (rest := []) (lenOf pd_11 rfl) rfl (by show 2 * 0 + _ ≤ _; exact Nat.le_of_eq rfl) (hb hby d12_13) (fun _ _ => ⟨rfl, e3, (by decide : 0 + 0 ≤ _), (by decide : 0 + 0 ≤ _)⟩)
  dsimp only [Pt.U, Pt.locs, Pt.cells, Pt.slots] at X4 l4 y4 z4 st4 hQ4
  subst l4 y4 z4
  obtain ⟨rfl, Nq4, e4⟩ := hQ4
  have N4 := Fr.app N0 Nq4
  obtain ⟨fs, hr, hrun, hended, hW, hsame⟩ := X4.leave (v := (some (.int 0))) (fun h => by rw [hrt] at h; cases h)
  refine ⟨_, _, ?_, hrun, hended, _, _, rfl, ?_, ⟨_, rfl⟩, hW, hsame.mono (by decide) (by decide)⟩
  · show Steps p.tables e below (s₁.setTop (mkF m 0 #[va o0, va o7] [])) _
    refine XS.aloadN X0.here hx rfl (hb hby d12_0) rfl rfl ?_
    refine XS.aloadN X0.here hx rfl (hb hby d12_1) rfl rfl ?_
    refine st1 _ ?_
    refine XS.aloadN X1.here hx rfl (hb hby d12_5) rfl rfl ?_
    refine st2 _ ?_
    refine XS.aloadN X2.here hx rfl (hb hby d12_9) rfl rfl ?_
    refine st3 _ ?_
    refine st4.trans ?_
    show Steps p.tables e below (T4.setTop (mkF m 16 #[va o0, va o7] [(.int 0)])) _
    exact retN X4 hx (t := .boolean) hrt (by simp) (hb hby d12_16) hr
  · show Q12_3 Z z_COMPACT_STRINGS o0 o1 o2 o3 o4 o5 o6 o7 o8 o9 o10 o11 o12 o13 kk_o2 kk_o4 kk_o6 kk_o9 kk_o11 kk_o13 p4 p0 p1 p2 p3 p5 p6 p11 p7 p8 p9 p10 p12 p13 h0 n0 (some (.int 0)) T4.heap _
    exact (⟨rfl, N4, e4⟩)
def Q11_6 (Z : State) (z_COMPACT_STRINGS : Int32) (o0 : Addr) (o1 : Addr) (o2 : Addr) (o3 : Addr) (o4 : Addr) (o5 : Addr) (o6 : Addr) (o7 : Addr) (o8 : Addr) (o9 : Addr) (o10 : Addr) (o11 : Addr) (o12 : Addr) (o13 : Addr) (kk_o2 : ClassId) (kk_o4 : ClassId) (kk_o6 : ClassId) (kk_o9 : ClassId) (kk_o11 : ClassId) (kk_o13 : ClassId) (p4 : Int32) (p0 : Int32) (p1 : Int32) (p2 : Int32) (p3 : Int32) (p5 : Int32) (p6 : Int32) (p11 : Int32) (p7 : Int32) (p8 : Int32) (p9 : Int32) (p10 : Int32) (p12 : Int32) (p13 : Int32) (h0 : Heap) (n0 : Nat) (v : Option Value) (h : Heap) (L : List Loc) : Prop := v = (some (.int 0)) ∧ Fr n0 L ∧ h = h0
theorem rm11_6 (l : Launch) (Z : State) (a0 : Array Value) (hw : HW Z a0) (ws : List Jvm.Cond) (z_COMPACT_STRINGS : Int32) (o0 : Addr) (o1 : Addr) (o2 : Addr) (o3 : Addr) (o4 : Addr) (o5 : Addr) (o6 : Addr) (o7 : Addr) (o8 : Addr) (o9 : Addr) (o10 : Addr) (o11 : Addr) (o12 : Addr) (o13 : Addr) (kk_o2 : ClassId) (kk_o4 : ClassId) (kk_o6 : ClassId) (kk_o9 : ClassId) (kk_o11 : ClassId) (kk_o13 : ClassId) (p4 : Int32) (p0 : Int32) (p1 : Int32) (p2 : Int32) (p3 : Int32) (p5 : Int32) (p6 : Int32) (p11 : Int32) (p7 : Int32) (p8 : Int32) (p9 : Int32) (p10 : Int32) (p12 : Int32) (p13 : Int32) (h0 : Heap) (n0 : Nat) (O0 : Old Z n0 h0) (S : SF Z z_COMPACT_STRINGS) (E_o0 : Exa Z h0 o0 sC1) (F_className_o0 : Fld Z h0 o0 sC1 "className" "Ljava/lang/String;" (.ref o1)) (F_descriptor_o0 : Fld Z h0 o0 sC1 "descriptor" "Ljava/lang/String;" (.ref o3)) (F_instruction_o0 : Fld Z h0 o0 sC1 "instruction" "I" (.int p4)) (F_method_o0 : Fld Z h0 o0 sC1 "method" "Ljava/lang/String;" (.ref o5)) (E_o1 : Exa Z h0 o1 sC0) (F_coder_o1 : Fld Z h0 o1 sC0 "coder" "B" (.int 0)) (F_value_o1 : Fld Z h0 o1 sC0 "value" "[B" (.ref o2)) (V_o2 : Arv Z h0 o2 kk_o2 .byte (2 : Int32) [(.int p0), (.int p1)] (.int 0)) (E_o3 : Exa Z h0 o3 sC0) (F_coder_o3 : Fld Z h0 o3 sC0 "coder" "B" (.int 0)) (F_value_o3 : Fld Z h0 o3 sC0 "value" "[B" (.ref o4)) (V_o4 : Arv Z h0 o4 kk_o4 .byte (2 : Int32) [(.int p2), (.int p3)] (.int 0)) (E_o5 : Exa Z h0 o5 sC0) (F_coder_o5 : Fld Z h0 o5 sC0 "coder" "B" (.int 0)) (F_value_o5 : Fld Z h0 o5 sC0 "value" "[B" (.ref o6)) (V_o6 : Arv Z h0 o6 kk_o6 .byte (2 : Int32) [(.int p5), (.int p6)] (.int 0)) (E_o7 : Exa Z h0 o7 sC1) (F_className_o7 : Fld Z h0 o7 sC1 "className" "Ljava/lang/String;" (.ref o8)) (F_descriptor_o7 : Fld Z h0 o7 sC1 "descriptor" "Ljava/lang/String;" (.ref o10)) (F_instruction_o7 : Fld Z h0 o7 sC1 "instruction" "I" (.int p11)) (F_method_o7 : Fld Z h0 o7 sC1 "method" "Ljava/lang/String;" (.ref o12)) (E_o8 : Exa Z h0 o8 sC0) (F_coder_o8 : Fld Z h0 o8 sC0 "coder" "B" (.int 0)) (F_value_o8 : Fld Z h0 o8 sC0 "value" "[B" (.ref o9)) (V_o9 : Arv Z h0 o9 kk_o9 .byte (2 : Int32) [(.int p7), (.int p8)] (.int 0)) (E_o10 : Exa Z h0 o10 sC0) (F_coder_o10 : Fld Z h0 o10 sC0 "coder" "B" (.int 0)) (F_value_o10 : Fld Z h0 o10 sC0 "value" "[B" (.ref o11)) (V_o11 : Arv Z h0 o11 kk_o11 .byte (2 : Int32) [(.int p9), (.int p10)] (.int 0)) (E_o12 : Exa Z h0 o12 sC0) (F_coder_o12 : Fld Z h0 o12 sC0 "coder" "B" (.int 0)) (F_value_o12 : Fld Z h0 o12 sC0 "value" "[B" (.ref o13)) (V_o13 : Arv Z h0 o13 kk_o13 .byte (2 : Int32) [(.int p12), (.int p13)] (.int 0)) (ne_o1_o8 : o1 ≠ o8) (ne_o3_o10 : o3 ≠ o10) (ne_o5_o12 : o5 ≠ o12) (hc0 : p4 = p11) (hc1 : p0 = p7) (hc2 : p1 = p8) (hc3 : p5 = p12) (hc4 : p6 = p13) (hc5 : p2 = p9) (hc6 : ¬ (p3 = p10)) :
    Pay l Z My11 ws prog_3_method_6_code 3 (some .boolean) #[(.ref o0), (.ref o7)] h0 ({ frames := 4, cells := 0, slots := 0, locals := 56 } : Room) (Q11_6 Z z_COMPACT_STRINGS o0 o1 o2 o3 o4 o5 o6 o7 o8 o9 o10 o11 o12 o13 kk_o2 kk_o4 kk_o6 kk_o9 kk_o11 kk_o13 p4 p0 p1 p2 p3 p5 p6 p11 p7 p8 p9 p10 p12 p13 h0 n0) := by
  refine own_body (plainFor_of_name pn_3) (L0 := #[va o0, va o7, uu]) (fun _ => by first | rfl | (simp [entryFrame, mkF, argsToLocals, Value.category]; done)) ?_
  intro p e s m below meth c s₁ hrt hlk hx hby hml hZ hown0 hnm X0 e0
  have hown : s.vm.findClass sC1 = some m.cls := hown0
  have N0 := Fr.nil n0
  have K0 : Keep h0 h0 [] := Keep.refl _ _
  obtain ⟨T1, X1, e1, st1⟩ := instY X0 hx hZ hown (ww hw 63 rfl) e0 (Ins.self E_o7) (g := (mkF m 1 #[va o0, va o7, uu] [(.ref o7)])) rfl rfl (hb hby d11_1)
  obtain ⟨T2, X2, e2, st2⟩ := castY X1 hx hZ hown (ww hw 63 rfl) e1 (Ins.self E_o7) (g := (mkF m 8 #[va o0, va o7, uu] [(.ref o7)])) rfl rfl (hb hby d11_8)
  obtain ⟨T3, X3, e3, st3⟩ := getF X2 hx hZ hown (host := "") (Or.inl (ww hw 52 rfl)) Via.refl e2 F_instruction_o0 (g := (mkF m 13 #[va o0, va o7, va o7] [(.ref o0)])) rfl rfl (hb hby d11_13)
  obtain ⟨T4, X4, e4, st4⟩ := getF X3 hx hZ hown (host := "") (Or.inl (ww hw 52 rfl)) Via.refl e3 F_instruction_o7 (g := (mkF m 17 #[va o0, va o7, va o7] [(.ref o7), (.int p4)])) rfl rfl (hb hby d11_17)
  obtain ⟨cq5, qa5, qb5⟩ := E_o0.cell
  obtain ⟨_, _, ⟨T5, L5, k5, n5⟩, -, X5, ⟨Lc5, hQ5, l5, y5, z5⟩, st5⟩ := X4.privateBack hx (y := My12) hown (mvT hZ (ww hw 65 rfl)) (mvT hZ (ww hw 66 rfl)) (own_selp (by decide) (mvT hZ (ww hw 1 rfl)) (mvP hZ (ww hw 67 rfl)) (mvT hZ (ww hw 66 rfl))) (Cond.privateMethod_at (mvP hZ (ww hw 67 rfl) (args := #[]))) (mvT hZ (ww hw 68 rfl)) (by decide) (backOf (W := 0) (rm12_3 l Z a0 hw [] z_COMPACT_STRINGS o0 o1 o2 o3 o4 o5 o6 o7 o8 o9 o10 o11 o12 o13 kk_o2 kk_o4 kk_o6 kk_o9 kk_o11 kk_o13 p4 p0 p1 p2 p3 p5 p6 p11 p7 p8 p9 p10 p12 p13 h0 n0 O0 S E_o0 F_className_o0 F_descriptor_o0 F_method_o0 E_o1 F_coder_o1 F_value_o1 V_o2 E_o3 F_coder_o3 F_value_o3 V_o4 E_o5 F_coder_o5 F_value_o5 V_o6 F_className_o7 F_descriptor_o7 F_method_o7 E_o8 F_coder_o8 F_value_o8 V_o9 E_o10 F_coder_o10 F_value_o10 V_o11 E_o12 F_coder_o12 F_value_o12 V_o13 ne_o1_o8 ne_o3_o10 ne_o5_o12 hc1 hc2 hc3 hc4 hc5 hc6) hZ (ww hw 68 rfl) (ww hw 2 rfl) (by decide) (by decide)) (g := (mkF m 25 #[va o0, va o7, va o7] [(.ref o7), (.ref o0)])) rfl (by rw [hml]; rfl) (Steps.refl _) (a := o0) (by rw [e4]; exact qa5) qb5 (argsL := [(.ref o7)]) (rest := []) (lenOf pd_12 rfl) rfl (by show 2 * 0 + _ ≤ _; exact Nat.le_of_eq rfl) (hb hby d11_25) (fun _ _ => ⟨rfl, e4, (by decide : 0 + 0 ≤ _), (by decide : 0 + 0 ≤ _)⟩)
  dsimp only [Pt.U, Pt.locs, Pt.cells, Pt.slots] at X5 l5 y5 z5 st5 hQ5
  subst l5 y5 z5
  obtain ⟨rfl, Nq5, e5⟩ := hQ5
  have N5 := Fr.app N0 Nq5
  obtain ⟨fs, hr, hrun, hended, hW, hsame⟩ := X5.leave (v := (some (.int 0))) (fun h => by rw [hrt] at h; cases h)
  refine ⟨_, _, ?_, hrun, hended, _, _, rfl, ?_, ⟨_, rfl⟩, hW, hsame.mono (by decide) (by decide)⟩
  · show Steps p.tables e below (s₁.setTop (mkF m 0 #[va o0, va o7, uu] [])) _
    refine XS.aloadN X0.here hx rfl (hb hby d11_0) rfl rfl ?_
    refine st1 _ ?_
    refine XS.ifNo X1.here hx rfl (hb hby d11_4) rfl ((if0 _ _).trans (feq (by decide : ¬ ((1 : Int32) = (0 : Int32)))).1) ?_
    refine XS.aloadN X1.here hx rfl (hb hby d11_7) rfl rfl ?_
    refine st2 _ ?_
    refine XS.astoreN X2.here hx rfl (hb hby d11_11) rfl rfl (l' := #[va o0, va o7, va o7]) rfl ?_
    refine XS.aloadN X2.here hx rfl (hb hby d11_12) rfl rfl ?_
    refine st3 _ ?_
    show Steps p.tables e below (T3.setTop (mkF m 16 #[va o0, va o7, va o7] [(.int p4)])) _
    refine XS.aloadN X3.here hx rfl (hb hby d11_16) rfl rfl ?_
    refine st4 _ ?_
    refine XS.icmpNo X4.here hx rfl (hb hby d11_20) rfl (teq hc0).2 ?_
    refine XS.aloadN X4.here hx rfl (hb hby d11_23) rfl rfl ?_
    refine XS.aloadN X4.here hx rfl (hb hby d11_24) rfl rfl ?_
    refine st5.trans ?_
    refine XS.ifYes X5.here hx rfl (pc0 := 28) (pc' := 35) rfl (hb hby d11_28) rfl ((if0 _ _).trans (teq (by decide : (0 : Int32) = (0 : Int32))).1) (by decide) (by decide) ?_
    refine XS.iconst X5.here hx rfl (hb hby d11_35) ?_
    show Steps p.tables e below (T5.setTop (mkF m 36 #[va o0, va o7, va o7] [(.int 0)])) _
    exact retN X5 hx (t := .boolean) hrt (by simp) (hb hby d11_36) hr
  · show Q11_6 Z z_COMPACT_STRINGS o0 o1 o2 o3 o4 o5 o6 o7 o8 o9 o10 o11 o12 o13 kk_o2 kk_o4 kk_o6 kk_o9 kk_o11 kk_o13 p4 p0 p1 p2 p3 p5 p6 p11 p7 p8 p9 p10 p12 p13 h0 n0 (some (.int 0)) T5.heap _
    exact (⟨rfl, N5, e5⟩)
def Q13_4 (Z : State) (z_COMPACT_STRINGS : Int32) (o0 : Addr) (o1 : Addr) (o2 : Addr) (o3 : Addr) (o4 : Addr) (o5 : Addr) (o6 : Addr) (o7 : Addr) (o8 : Addr) (o9 : Addr) (o10 : Addr) (o11 : Addr) (o12 : Addr) (kk_o2 : ClassId) (kk_o4 : ClassId) (kk_o6 : ClassId) (kk_o8 : ClassId) (kk_o10 : ClassId) (kk_o12 : ClassId) (p4 : Int32) (p0 : Int32) (p1 : Int32) (p2 : Int32) (p3 : Int32) (p5 : Int32) (p6 : Int32) (p7 : Int32) (p8 : Int32) (p9 : Int32) (p10 : Int32) (p11 : Int32) (p12 : Int32) (h0 : Heap) (n0 : Nat) (v : Option Value) (h : Heap) (L : List Loc) : Prop := v = (some (.int 0)) ∧ Fr n0 L ∧ h = h0
theorem rm13_4 (l : Launch) (Z : State) (a0 : Array Value) (hw : HW Z a0) (ws : List Jvm.Cond) (z_COMPACT_STRINGS : Int32) (o0 : Addr) (o1 : Addr) (o2 : Addr) (o3 : Addr) (o4 : Addr) (o5 : Addr) (o6 : Addr) (o7 : Addr) (o8 : Addr) (o9 : Addr) (o10 : Addr) (o11 : Addr) (o12 : Addr) (kk_o2 : ClassId) (kk_o4 : ClassId) (kk_o6 : ClassId) (kk_o8 : ClassId) (kk_o10 : ClassId) (kk_o12 : ClassId) (p4 : Int32) (p0 : Int32) (p1 : Int32) (p2 : Int32) (p3 : Int32) (p5 : Int32) (p6 : Int32) (p7 : Int32) (p8 : Int32) (p9 : Int32) (p10 : Int32) (p11 : Int32) (p12 : Int32) (h0 : Heap) (n0 : Nat) (O0 : Old Z n0 h0) (S : SF Z z_COMPACT_STRINGS) (F_className_o0 : Fld Z h0 o0 sC1 "className" "Ljava/lang/String;" (.ref o1)) (F_method_o0 : Fld Z h0 o0 sC1 "method" "Ljava/lang/String;" (.ref o5)) (E_o1 : Exa Z h0 o1 sC0) (F_coder_o1 : Fld Z h0 o1 sC0 "coder" "B" (.int 0)) (F_value_o1 : Fld Z h0 o1 sC0 "value" "[B" (.ref o2)) (V_o2 : Arv Z h0 o2 kk_o2 .byte (2 : Int32) [(.int p0), (.int p1)] (.int 0)) (E_o5 : Exa Z h0 o5 sC0) (F_coder_o5 : Fld Z h0 o5 sC0 "coder" "B" (.int 0)) (F_value_o5 : Fld Z h0 o5 sC0 "value" "[B" (.ref o6)) (V_o6 : Arv Z h0 o6 kk_o6 .byte (2 : Int32) [(.int p5), (.int p6)] (.int 0)) (E_o7 : Exa Z h0 o7 sC0) (F_coder_o7 : Fld Z h0 o7 sC0 "coder" "B" (.int 0)) (F_value_o7 : Fld Z h0 o7 sC0 "value" "[B" (.ref o8)) (V_o8 : Arv Z h0 o8 kk_o8 .byte (2 : Int32) [(.int p7), (.int p8)] (.int 0)) (E_o9 : Exa Z h0 o9 sC0) (F_coder_o9 : Fld Z h0 o9 sC0 "coder" "B" (.int 0)) (F_value_o9 : Fld Z h0 o9 sC0 "value" "[B" (.ref o10)) (V_o10 : Arv Z h0 o10 kk_o10 .byte (2 : Int32) [(.int p9), (.int p10)] (.int 0)) (ne_o1_o7 : o1 ≠ o7) (ne_o5_o9 : o5 ≠ o9) (hc0 : p0 = p7) (hc1 : p1 = p8) (hc2 : ¬ (p5 = p9)) :
    Pay l Z My13 ws prog_3_method_5_code 4 (some .boolean) #[(.ref o0), (.ref o7), (.ref o9), (.ref o11)] h0 ({ frames := 2, cells := 0, slots := 0, locals := 28 } : Room) (Q13_4 Z z_COMPACT_STRINGS o0 o1 o2 o3 o4 o5 o6 o7 o8 o9 o10 o11 o12 kk_o2 kk_o4 kk_o6 kk_o8 kk_o10 kk_o12 p4 p0 p1 p2 p3 p5 p6 p7 p8 p9 p10 p11 p12 h0 n0) := by
  refine own_body (plainFor_of_name pn_3) (L0 := #[va o0, va o7, va o9, va o11]) (fun _ => by first | rfl | (simp [entryFrame, mkF, argsToLocals, Value.category]; done)) ?_
  intro p e s m below meth c s₁ hrt hlk hx hby hml hZ hown0 hnm X0 e0
  have hown : s.vm.findClass sC1 = some m.cls := hown0
  have N0 := Fr.nil n0
  have K0 : Keep h0 h0 [] := Keep.refl _ _
  obtain ⟨T1, X1, e1, st1⟩ := getF X0 hx hZ hown (host := "") (Or.inl (ww hw 46 rfl)) Via.refl e0 F_className_o0 (g := (mkF m 1 #[va o0, va o7, va o9, va o11] [(.ref o0)])) rfl rfl (hb hby d13_1)
  obtain ⟨cq2, kq2, q2a, q2b, q2c⟩ := isOf hZ e1 E_o1
  obtain ⟨_, _, ⟨T2, L2, k2, n2⟩, -, X2, ⟨Lc2, hQ2, l2, y2, z2⟩, st2⟩ := X1.virtualBack hx (y := My14) (z := My14) hown (mvT hZ (ww hw 73 rfl)) (mvT hZ (ww hw 74 rfl)) (notFace_of_selects (args := #[]) (mvT hZ (ww hw 76 rfl))) (mvT hZ (ww hw 76 rfl)) (mvT hZ (ww hw 75 rfl)) (by decide) (backOf (W := 0) (rm14_0 l Z a0 hw [] z_COMPACT_STRINGS o1 o2 o7 o8 kk_o2 kk_o8 p0 p1 p7 p8 h0 n0 O0 S F_coder_o1 F_value_o1 V_o2 E_o7 F_coder_o7 F_value_o7 V_o8 ne_o1_o7 hc0 hc1) hZ (ww hw 77 rfl) (ww hw 10 rfl) (by decide) (by decide)) q2a q2c (g := (mkF m 5 #[va o0, va o7, va o9, va o11] [(.ref o7), (.ref o1)])) rfl (by rw [hml]; rfl) (Steps.refl _) (argsL := [(.ref o7)]) (rest := []) (lenOf pd_10 rfl) rfl (by show 2 * 0 + _ ≤ _; exact Nat.le_of_eq rfl) (hb hby d13_5) (fun _ _ => ⟨rfl, e1, (by decide : 0 + 0 ≤ _), (by decide : 0 + 0 ≤ _)⟩)
  dsimp only [Pt.U, Pt.locs, Pt.cells, Pt.slots] at X2 l2 y2 z2 st2 hQ2
  subst l2 y2 z2
  obtain ⟨rfl, Nq2, e2⟩ := hQ2
  have N2 := Fr.app N0 Nq2
  obtain ⟨T3, X3, e3, st3⟩ := getF X2 hx hZ hown (host := "") (Or.inl (ww hw 48 rfl)) Via.refl e2 F_method_o0 (g := (mkF m 12 #[va o0, va o7, va o9, va o11] [(.ref o0)])) rfl rfl (hb hby d13_12)
  obtain ⟨cq4, kq4, q4a, q4b, q4c⟩ := isOf hZ e3 E_o5
  obtain ⟨_, _, ⟨T4, L4, k4, n4⟩, -, X4, ⟨Lc4, hQ4, l4, y4, z4⟩, st4⟩ := X3.virtualBack hx (y := My14) (z := My14) hown (mvT hZ (ww hw 73 rfl)) (mvT hZ (ww hw 74 rfl)) (notFace_of_selects (args := #[]) (mvT hZ (ww hw 76 rfl))) (mvT hZ (ww hw 76 rfl)) (mvT hZ (ww hw 75 rfl)) (by decide) (backOf (W := 0) (rm14_2 l Z a0 hw [] z_COMPACT_STRINGS o5 o6 o9 o10 kk_o6 kk_o10 p5 p6 p9 p10 h0 n0 O0 S F_coder_o5 F_value_o5 V_o6 E_o9 F_coder_o9 F_value_o9 V_o10 ne_o5_o9 hc2) hZ (ww hw 77 rfl) (ww hw 10 rfl) (by decide) (by decide)) q4a q4c (g := (mkF m 16 #[va o0, va o7, va o9, va o11] [(.ref o9), (.ref o5)])) rfl (by rw [hml]; rfl) (Steps.refl _) (argsL := [(.ref o9)]) (rest := []) (lenOf pd_10 rfl) rfl (by show 2 * 0 + _ ≤ _; exact Nat.le_of_eq rfl) (hb hby d13_16) (fun _ _ => ⟨rfl, e3, (by decide : 0 + 0 ≤ _), (by decide : 0 + 0 ≤ _)⟩)
  dsimp only [Pt.U, Pt.locs, Pt.cells, Pt.slots] at X4 l4 y4 z4 st4 hQ4
  subst l4 y4 z4
  obtain ⟨rfl, Nq4, e4⟩ := hQ4
  have N4 := Fr.app N2 Nq4
  obtain ⟨fs, hr, hrun, hended, hW, hsame⟩ := X4.leave (v := (some (.int 0))) (fun h => by rw [hrt] at h; cases h)
  refine ⟨_, _, ?_, hrun, hended, _, _, rfl, ?_, ⟨_, rfl⟩, hW, hsame.mono (by decide) (by decide)⟩
  · show Steps p.tables e below (s₁.setTop (mkF m 0 #[va o0, va o7, va o9, va o11] [])) _
    refine XS.aloadN X0.here hx rfl (hb hby d13_0) rfl rfl ?_
    refine st1 _ ?_
    refine XS.aloadN X1.here hx rfl (hb hby d13_4) rfl rfl ?_
    refine st2.trans ?_
    refine XS.ifNo X2.here hx rfl (hb hby d13_8) rfl ((if0 _ _).trans (feq (by decide : ¬ ((1 : Int32) = (0 : Int32)))).1) ?_
    refine XS.aloadN X2.here hx rfl (hb hby d13_11) rfl rfl ?_
    refine st3 _ ?_
    refine XS.aloadN X3.here hx rfl (hb hby d13_15) rfl rfl ?_
    show Steps p.tables e below (T3.setTop (mkF m 16 #[va o0, va o7, va o9, va o11] [(.ref o9), (.ref o5)])) _
    refine st4.trans ?_
    refine XS.ifYes X4.here hx rfl (pc0 := 19) (pc' := 37) rfl (hb hby d13_19) rfl ((if0 _ _).trans (teq (by decide : (0 : Int32) = (0 : Int32))).1) (by decide) (by decide) ?_
    refine XS.iconst X4.here hx rfl (hb hby d13_37) ?_
    exact retN X4 hx (t := .boolean) hrt (by simp) (hb hby d13_38) hr
  · show Q13_4 Z z_COMPACT_STRINGS o0 o1 o2 o3 o4 o5 o6 o7 o8 o9 o10 o11 o12 kk_o2 kk_o4 kk_o6 kk_o8 kk_o10 kk_o12 p4 p0 p1 p2 p3 p5 p6 p7 p8 p9 p10 p11 p12 h0 n0 (some (.int 0)) T4.heap _
    exact (⟨rfl, N4, e4⟩)
def Q12_4 (Z : State) (z_COMPACT_STRINGS : Int32) (o0 : Addr) (o1 : Addr) (o2 : Addr) (o3 : Addr) (o4 : Addr) (o5 : Addr) (o6 : Addr) (o7 : Addr) (o8 : Addr) (o9 : Addr) (o10 : Addr) (o11 : Addr) (o12 : Addr) (o13 : Addr) (kk_o2 : ClassId) (kk_o4 : ClassId) (kk_o6 : ClassId) (kk_o9 : ClassId) (kk_o11 : ClassId) (kk_o13 : ClassId) (p4 : Int32) (p0 : Int32) (p1 : Int32) (p2 : Int32) (p3 : Int32) (p5 : Int32) (p6 : Int32) (p11 : Int32) (p7 : Int32) (p8 : Int32) (p9 : Int32) (p10 : Int32) (p12 : Int32) (p13 : Int32) (h0 : Heap) (n0 : Nat) (v : Option Value) (h : Heap) (L : List Loc) : Prop := v = (some (.int 0)) ∧ Fr n0 L ∧ h = h0
theorem rm12_4 (l : Launch) (Z : State) (a0 : Array Value) (hw : HW Z a0) (ws : List Jvm.Cond) (z_COMPACT_STRINGS : Int32) (o0 : Addr) (o1 : Addr) (o2 : Addr) (o3 : Addr) (o4 : Addr) (o5 : Addr) (o6 : Addr) (o7 : Addr) (o8 : Addr) (o9 : Addr) (o10 : Addr) (o11 : Addr) (o12 : Addr) (o13 : Addr) (kk_o2 : ClassId) (kk_o4 : ClassId) (kk_o6 : ClassId) (kk_o9 : ClassId) (kk_o11 : ClassId) (kk_o13 : ClassId) (p4 : Int32) (p0 : Int32) (p1 : Int32) (p2 : Int32) (p3 : Int32) (p5 : Int32) (p6 : Int32) (p11 : Int32) (p7 : Int32) (p8 : Int32) (p9 : Int32) (p10 : Int32) (p12 : Int32) (p13 : Int32) (h0 : Heap) (n0 : Nat) (O0 : Old Z n0 h0) (S : SF Z z_COMPACT_STRINGS) (E_o0 : Exa Z h0 o0 sC1) (F_className_o0 : Fld Z h0 o0 sC1 "className" "Ljava/lang/String;" (.ref o1)) (F_method_o0 : Fld Z h0 o0 sC1 "method" "Ljava/lang/String;" (.ref o5)) (E_o1 : Exa Z h0 o1 sC0) (F_coder_o1 : Fld Z h0 o1 sC0 "coder" "B" (.int 0)) (F_value_o1 : Fld Z h0 o1 sC0 "value" "[B" (.ref o2)) (V_o2 : Arv Z h0 o2 kk_o2 .byte (2 : Int32) [(.int p0), (.int p1)] (.int 0)) (E_o5 : Exa Z h0 o5 sC0) (F_coder_o5 : Fld Z h0 o5 sC0 "coder" "B" (.int 0)) (F_value_o5 : Fld Z h0 o5 sC0 "value" "[B" (.ref o6)) (V_o6 : Arv Z h0 o6 kk_o6 .byte (2 : Int32) [(.int p5), (.int p6)] (.int 0)) (F_className_o7 : Fld Z h0 o7 sC1 "className" "Ljava/lang/String;" (.ref o8)) (F_descriptor_o7 : Fld Z h0 o7 sC1 "descriptor" "Ljava/lang/String;" (.ref o10)) (F_method_o7 : Fld Z h0 o7 sC1 "method" "Ljava/lang/String;" (.ref o12)) (E_o8 : Exa Z h0 o8 sC0) (F_coder_o8 : Fld Z h0 o8 sC0 "coder" "B" (.int 0)) (F_value_o8 : Fld Z h0 o8 sC0 "value" "[B" (.ref o9)) (V_o9 : Arv Z h0 o9 kk_o9 .byte (2 : Int32) [(.int p7), (.int p8)] (.int 0)) (E_o12 : Exa Z h0 o12 sC0) (F_coder_o12 : Fld Z h0 o12 sC0 "coder" "B" (.int 0)) (F_value_o12 : Fld Z h0 o12 sC0 "value" "[B" (.ref o13)) (V_o13 : Arv Z h0 o13 kk_o13 .byte (2 : Int32) [(.int p12), (.int p13)] (.int 0)) (ne_o1_o8 : o1 ≠ o8) (ne_o5_o12 : o5 ≠ o12) (hc0 : p0 = p7) (hc1 : p1 = p8) (hc2 : ¬ (p5 = p12)) :
    Pay l Z My12 ws prog_3_method_4_code 2 (some .boolean) #[(.ref o0), (.ref o7)] h0 ({ frames := 3, cells := 0, slots := 0, locals := 43 } : Room) (Q12_4 Z z_COMPACT_STRINGS o0 o1 o2 o3 o4 o5 o6 o7 o8 o9 o10 o11 o12 o13 kk_o2 kk_o4 kk_o6 kk_o9 kk_o11 kk_o13 p4 p0 p1 p2 p3 p5 p6 p11 p7 p8 p9 p10 p12 p13 h0 n0) := by
  refine own_body (plainFor_of_name pn_3) (L0 := #[va o0, va o7]) (fun _ => by first | rfl | (simp [entryFrame, mkF, argsToLocals, Value.category]; done)) ?_
  intro p e s m below meth c s₁ hrt hlk hx hby hml hZ hown0 hnm X0 e0
  have hown : s.vm.findClass sC1 = some m.cls := hown0
  have N0 := Fr.nil n0
  have K0 : Keep h0 h0 [] := Keep.refl _ _
  obtain ⟨T1, X1, e1, st1⟩ := getF X0 hx hZ hown (host := "") (Or.inl (ww hw 46 rfl)) Via.refl e0 F_className_o7 (g := (mkF m 2 #[va o0, va o7] [(.ref o7), (.ref o0)])) rfl rfl (hb hby d12_2)
  obtain ⟨T2, X2, e2, st2⟩ := getF X1 hx hZ hown (host := "") (Or.inl (ww hw 48 rfl)) Via.refl e1 F_method_o7 (g := (mkF m 6 #[va o0, va o7] [(.ref o7), (.ref o8), (.ref o0)])) rfl rfl (hb hby d12_6)
  obtain ⟨T3, X3, e3, st3⟩ := getF X2 hx hZ hown (host := "") (Or.inl (ww hw 50 rfl)) Via.refl e2 F_descriptor_o7 (g := (mkF m 10 #[va o0, va o7] [(.ref o7), (.ref o12), (.ref o8), (.ref o0)])) rfl rfl (hb hby d12_10)
  obtain ⟨cq4, qa4, qb4⟩ := E_o0.cell
  obtain ⟨_, _, ⟨T4, L4, k4, n4⟩, -, X4, ⟨Lc4, hQ4, l4, y4, z4⟩, st4⟩ := X3.privateBack hx (y := My13) hown (mvT hZ (ww hw 69 rfl)) (mvT hZ (ww hw 70 rfl)) (own_selp (by decide) (mvT hZ (ww hw 1 rfl)) (mvP hZ (ww hw 71 rfl)) (mvT hZ (ww hw 70 rfl))) (Cond.privateMethod_at (mvP hZ (ww hw 71 rfl) (args := #[]))) (mvT hZ (ww hw 72 rfl)) (by decide) (backOf (W := 0) (rm13_4 l Z a0 hw [] z_COMPACT_STRINGS o0 o1 o2 o3 o4 o5 o6 o8 o9 o12 o13 o10 o11 kk_o2 kk_o4 kk_o6 kk_o9 kk_o13 kk_o11 p4 p0 p1 p2 p3 p5 p6 p7 p8 p12 p13 p9 p10 h0 n0 O0 S F_className_o0 F_method_o0 E_o1 F_coder_o1 F_value_o1 V_o2 E_o5 F_coder_o5 F_value_o5 V_o6 E_o8 F_coder_o8 F_value_o8 V_o9 E_o12 F_coder_o12 F_value_o12 V_o13 ne_o1_o8 ne_o5_o12 hc0 hc1 hc2) hZ (ww hw 72 rfl) (ww hw 2 rfl) (by decide) (by decide)) (g := (mkF m 13 #[va o0, va o7] [(.ref o10), (.ref o12), (.ref o8), (.ref o0)])) rfl (by rw [hml]; rfl) (Steps.refl _) (a := o0) (by rw [e3]; exact qa4) qb4 (argsL := [(.ref o8), (.ref o12), (.ref o10)]) (rest := []) (lenOf pd_11 rfl) rfl (by show 2 * 0 + _ ≤ _; exact Nat.le_of_eq rfl) (hb hby d12_13) (fun _ _ => ⟨rfl, e3, (by decide : 0 + 0 ≤ _), (by decide : 0 + 0 ≤ _)⟩)
  dsimp only [Pt.U, Pt.locs, Pt.cells, Pt.slots] at X4 l4 y4 z4 st4 hQ4
  subst l4 y4 z4
  obtain ⟨rfl, Nq4, e4⟩ := hQ4
  have N4 := Fr.app N0 Nq4
  obtain ⟨fs, hr, hrun, hended, hW, hsame⟩ := X4.leave (v := (some (.int 0))) (fun h => by rw [hrt] at h; cases h)
  refine ⟨_, _, ?_, hrun, hended, _, _, rfl, ?_, ⟨_, rfl⟩, hW, hsame.mono (by decide) (by decide)⟩
  · show Steps p.tables e below (s₁.setTop (mkF m 0 #[va o0, va o7] [])) _
    refine XS.aloadN X0.here hx rfl (hb hby d12_0) rfl rfl ?_
    refine XS.aloadN X0.here hx rfl (hb hby d12_1) rfl rfl ?_
    refine st1 _ ?_
    refine XS.aloadN X1.here hx rfl (hb hby d12_5) rfl rfl ?_
    refine st2 _ ?_
    refine XS.aloadN X2.here hx rfl (hb hby d12_9) rfl rfl ?_
    refine st3 _ ?_
    refine st4.trans ?_
    show Steps p.tables e below (T4.setTop (mkF m 16 #[va o0, va o7] [(.int 0)])) _
    exact retN X4 hx (t := .boolean) hrt (by simp) (hb hby d12_16) hr
  · show Q12_4 Z z_COMPACT_STRINGS o0 o1 o2 o3 o4 o5 o6 o7 o8 o9 o10 o11 o12 o13 kk_o2 kk_o4 kk_o6 kk_o9 kk_o11 kk_o13 p4 p0 p1 p2 p3 p5 p6 p11 p7 p8 p9 p10 p12 p13 h0 n0 (some (.int 0)) T4.heap _
    exact (⟨rfl, N4, e4⟩)
def Q11_7 (Z : State) (z_COMPACT_STRINGS : Int32) (o0 : Addr) (o1 : Addr) (o2 : Addr) (o3 : Addr) (o4 : Addr) (o5 : Addr) (o6 : Addr) (o7 : Addr) (o8 : Addr) (o9 : Addr) (o10 : Addr) (o11 : Addr) (o12 : Addr) (o13 : Addr) (kk_o2 : ClassId) (kk_o4 : ClassId) (kk_o6 : ClassId) (kk_o9 : ClassId) (kk_o11 : ClassId) (kk_o13 : ClassId) (p4 : Int32) (p0 : Int32) (p1 : Int32) (p2 : Int32) (p3 : Int32) (p5 : Int32) (p6 : Int32) (p11 : Int32) (p7 : Int32) (p8 : Int32) (p9 : Int32) (p10 : Int32) (p12 : Int32) (p13 : Int32) (h0 : Heap) (n0 : Nat) (v : Option Value) (h : Heap) (L : List Loc) : Prop := v = (some (.int 0)) ∧ Fr n0 L ∧ h = h0
theorem rm11_7 (l : Launch) (Z : State) (a0 : Array Value) (hw : HW Z a0) (ws : List Jvm.Cond) (z_COMPACT_STRINGS : Int32) (o0 : Addr) (o1 : Addr) (o2 : Addr) (o3 : Addr) (o4 : Addr) (o5 : Addr) (o6 : Addr) (o7 : Addr) (o8 : Addr) (o9 : Addr) (o10 : Addr) (o11 : Addr) (o12 : Addr) (o13 : Addr) (kk_o2 : ClassId) (kk_o4 : ClassId) (kk_o6 : ClassId) (kk_o9 : ClassId) (kk_o11 : ClassId) (kk_o13 : ClassId) (p4 : Int32) (p0 : Int32) (p1 : Int32) (p2 : Int32) (p3 : Int32) (p5 : Int32) (p6 : Int32) (p11 : Int32) (p7 : Int32) (p8 : Int32) (p9 : Int32) (p10 : Int32) (p12 : Int32) (p13 : Int32) (h0 : Heap) (n0 : Nat) (O0 : Old Z n0 h0) (S : SF Z z_COMPACT_STRINGS) (E_o0 : Exa Z h0 o0 sC1) (F_className_o0 : Fld Z h0 o0 sC1 "className" "Ljava/lang/String;" (.ref o1)) (F_instruction_o0 : Fld Z h0 o0 sC1 "instruction" "I" (.int p4)) (F_method_o0 : Fld Z h0 o0 sC1 "method" "Ljava/lang/String;" (.ref o5)) (E_o1 : Exa Z h0 o1 sC0) (F_coder_o1 : Fld Z h0 o1 sC0 "coder" "B" (.int 0)) (F_value_o1 : Fld Z h0 o1 sC0 "value" "[B" (.ref o2)) (V_o2 : Arv Z h0 o2 kk_o2 .byte (2 : Int32) [(.int p0), (.int p1)] (.int 0)) (E_o5 : Exa Z h0 o5 sC0) (F_coder_o5 : Fld Z h0 o5 sC0 "coder" "B" (.int 0)) (F_value_o5 : Fld Z h0 o5 sC0 "value" "[B" (.ref o6)) (V_o6 : Arv Z h0 o6 kk_o6 .byte (2 : Int32) [(.int p5), (.int p6)] (.int 0)) (E_o7 : Exa Z h0 o7 sC1) (F_className_o7 : Fld Z h0 o7 sC1 "className" "Ljava/lang/String;" (.ref o8)) (F_descriptor_o7 : Fld Z h0 o7 sC1 "descriptor" "Ljava/lang/String;" (.ref o10)) (F_instruction_o7 : Fld Z h0 o7 sC1 "instruction" "I" (.int p11)) (F_method_o7 : Fld Z h0 o7 sC1 "method" "Ljava/lang/String;" (.ref o12)) (E_o8 : Exa Z h0 o8 sC0) (F_coder_o8 : Fld Z h0 o8 sC0 "coder" "B" (.int 0)) (F_value_o8 : Fld Z h0 o8 sC0 "value" "[B" (.ref o9)) (V_o9 : Arv Z h0 o9 kk_o9 .byte (2 : Int32) [(.int p7), (.int p8)] (.int 0)) (E_o12 : Exa Z h0 o12 sC0) (F_coder_o12 : Fld Z h0 o12 sC0 "coder" "B" (.int 0)) (F_value_o12 : Fld Z h0 o12 sC0 "value" "[B" (.ref o13)) (V_o13 : Arv Z h0 o13 kk_o13 .byte (2 : Int32) [(.int p12), (.int p13)] (.int 0)) (ne_o1_o8 : o1 ≠ o8) (ne_o5_o12 : o5 ≠ o12) (hc0 : p4 = p11) (hc1 : p0 = p7) (hc2 : p1 = p8) (hc3 : ¬ (p5 = p12)) :
    Pay l Z My11 ws prog_3_method_6_code 3 (some .boolean) #[(.ref o0), (.ref o7)] h0 ({ frames := 4, cells := 0, slots := 0, locals := 56 } : Room) (Q11_7 Z z_COMPACT_STRINGS o0 o1 o2 o3 o4 o5 o6 o7 o8 o9 o10 o11 o12 o13 kk_o2 kk_o4 kk_o6 kk_o9 kk_o11 kk_o13 p4 p0 p1 p2 p3 p5 p6 p11 p7 p8 p9 p10 p12 p13 h0 n0) := by
  refine own_body (plainFor_of_name pn_3) (L0 := #[va o0, va o7, uu]) (fun _ => by first | rfl | (simp [entryFrame, mkF, argsToLocals, Value.category]; done)) ?_
  intro p e s m below meth c s₁ hrt hlk hx hby hml hZ hown0 hnm X0 e0
  have hown : s.vm.findClass sC1 = some m.cls := hown0
  have N0 := Fr.nil n0
  have K0 : Keep h0 h0 [] := Keep.refl _ _
  obtain ⟨T1, X1, e1, st1⟩ := instY X0 hx hZ hown (ww hw 63 rfl) e0 (Ins.self E_o7) (g := (mkF m 1 #[va o0, va o7, uu] [(.ref o7)])) rfl rfl (hb hby d11_1)
  obtain ⟨T2, X2, e2, st2⟩ := castY X1 hx hZ hown (ww hw 63 rfl) e1 (Ins.self E_o7) (g := (mkF m 8 #[va o0, va o7, uu] [(.ref o7)])) rfl rfl (hb hby d11_8)
  obtain ⟨T3, X3, e3, st3⟩ := getF X2 hx hZ hown (host := "") (Or.inl (ww hw 52 rfl)) Via.refl e2 F_instruction_o0 (g := (mkF m 13 #[va o0, va o7, va o7] [(.ref o0)])) rfl rfl (hb hby d11_13)
  obtain ⟨T4, X4, e4, st4⟩ := getF X3 hx hZ hown (host := "") (Or.inl (ww hw 52 rfl)) Via.refl e3 F_instruction_o7 (g := (mkF m 17 #[va o0, va o7, va o7] [(.ref o7), (.int p4)])) rfl rfl (hb hby d11_17)
  obtain ⟨cq5, qa5, qb5⟩ := E_o0.cell
  obtain ⟨_, _, ⟨T5, L5, k5, n5⟩, -, X5, ⟨Lc5, hQ5, l5, y5, z5⟩, st5⟩ := X4.privateBack hx (y := My12) hown (mvT hZ (ww hw 65 rfl)) (mvT hZ (ww hw 66 rfl)) (own_selp (by decide) (mvT hZ (ww hw 1 rfl)) (mvP hZ (ww hw 67 rfl)) (mvT hZ (ww hw 66 rfl))) (Cond.privateMethod_at (mvP hZ (ww hw 67 rfl) (args := #[]))) (mvT hZ (ww hw 68 rfl)) (by decide) (backOf (W := 0) (rm12_4 l Z a0 hw [] z_COMPACT_STRINGS o0 o1 o2 o3 o4 o5 o6 o7 o8 o9 o10 o11 o12 o13 kk_o2 kk_o4 kk_o6 kk_o9 kk_o11 kk_o13 p4 p0 p1 p2 p3 p5 p6 p11 p7 p8 p9 p10 p12 p13 h0 n0 O0 S E_o0 F_className_o0 F_method_o0 E_o1 F_coder_o1 F_value_o1 V_o2 E_o5 F_coder_o5 F_value_o5 V_o6 F_className_o7 F_descriptor_o7 F_method_o7 E_o8 F_coder_o8 F_value_o8 V_o9 E_o12 F_coder_o12 F_value_o12 V_o13 ne_o1_o8 ne_o5_o12 hc1 hc2 hc3) hZ (ww hw 68 rfl) (ww hw 2 rfl) (by decide) (by decide)) (g := (mkF m 25 #[va o0, va o7, va o7] [(.ref o7), (.ref o0)])) rfl (by rw [hml]; rfl) (Steps.refl _) (a := o0) (by rw [e4]; exact qa5) qb5 (argsL := [(.ref o7)]) (rest := []) (lenOf pd_12 rfl) rfl (by show 2 * 0 + _ ≤ _; exact Nat.le_of_eq rfl) (hb hby d11_25) (fun _ _ => ⟨rfl, e4, (by decide : 0 + 0 ≤ _), (by decide : 0 + 0 ≤ _)⟩)
  dsimp only [Pt.U, Pt.locs, Pt.cells, Pt.slots] at X5 l5 y5 z5 st5 hQ5
  subst l5 y5 z5
  obtain ⟨rfl, Nq5, e5⟩ := hQ5
  have N5 := Fr.app N0 Nq5
  obtain ⟨fs, hr, hrun, hended, hW, hsame⟩ := X5.leave (v := (some (.int 0))) (fun h => by rw [hrt] at h; cases h)
  refine ⟨_, _, ?_, hrun, hended, _, _, rfl, ?_, ⟨_, rfl⟩, hW, hsame.mono (by decide) (by decide)⟩
  · show Steps p.tables e below (s₁.setTop (mkF m 0 #[va o0, va o7, uu] [])) _
    refine XS.aloadN X0.here hx rfl (hb hby d11_0) rfl rfl ?_
    refine st1 _ ?_
    refine XS.ifNo X1.here hx rfl (hb hby d11_4) rfl ((if0 _ _).trans (feq (by decide : ¬ ((1 : Int32) = (0 : Int32)))).1) ?_
    refine XS.aloadN X1.here hx rfl (hb hby d11_7) rfl rfl ?_
    refine st2 _ ?_
    refine XS.astoreN X2.here hx rfl (hb hby d11_11) rfl rfl (l' := #[va o0, va o7, va o7]) rfl ?_
    refine XS.aloadN X2.here hx rfl (hb hby d11_12) rfl rfl ?_
    refine st3 _ ?_
    show Steps p.tables e below (T3.setTop (mkF m 16 #[va o0, va o7, va o7] [(.int p4)])) _
    refine XS.aloadN X3.here hx rfl (hb hby d11_16) rfl rfl ?_
    refine st4 _ ?_
    refine XS.icmpNo X4.here hx rfl (hb hby d11_20) rfl (teq hc0).2 ?_
    refine XS.aloadN X4.here hx rfl (hb hby d11_23) rfl rfl ?_
    refine XS.aloadN X4.here hx rfl (hb hby d11_24) rfl rfl ?_
    refine st5.trans ?_
    refine XS.ifYes X5.here hx rfl (pc0 := 28) (pc' := 35) rfl (hb hby d11_28) rfl ((if0 _ _).trans (teq (by decide : (0 : Int32) = (0 : Int32))).1) (by decide) (by decide) ?_
    refine XS.iconst X5.here hx rfl (hb hby d11_35) ?_
    show Steps p.tables e below (T5.setTop (mkF m 36 #[va o0, va o7, va o7] [(.int 0)])) _
    exact retN X5 hx (t := .boolean) hrt (by simp) (hb hby d11_36) hr
  · show Q11_7 Z z_COMPACT_STRINGS o0 o1 o2 o3 o4 o5 o6 o7 o8 o9 o10 o11 o12 o13 kk_o2 kk_o4 kk_o6 kk_o9 kk_o11 kk_o13 p4 p0 p1 p2 p3 p5 p6 p11 p7 p8 p9 p10 p12 p13 h0 n0 (some (.int 0)) T5.heap _
    exact (⟨rfl, N5, e5⟩)
def Q13_5 (Z : State) (z_COMPACT_STRINGS : Int32) (o0 : Addr) (o1 : Addr) (o2 : Addr) (o3 : Addr) (o4 : Addr) (o5 : Addr) (o6 : Addr) (o7 : Addr) (o8 : Addr) (o9 : Addr) (o10 : Addr) (o11 : Addr) (o12 : Addr) (kk_o2 : ClassId) (kk_o4 : ClassId) (kk_o6 : ClassId) (kk_o8 : ClassId) (kk_o10 : ClassId) (kk_o12 : ClassId) (p4 : Int32) (p0 : Int32) (p1 : Int32) (p2 : Int32) (p3 : Int32) (p5 : Int32) (p6 : Int32) (p7 : Int32) (p8 : Int32) (p9 : Int32) (p10 : Int32) (p11 : Int32) (p12 : Int32) (h0 : Heap) (n0 : Nat) (v : Option Value) (h : Heap) (L : List Loc) : Prop := v = (some (.int 0)) ∧ Fr n0 L ∧ h = h0
theorem rm13_5 (l : Launch) (Z : State) (a0 : Array Value) (hw : HW Z a0) (ws : List Jvm.Cond) (z_COMPACT_STRINGS : Int32) (o0 : Addr) (o1 : Addr) (o2 : Addr) (o3 : Addr) (o4 : Addr) (o5 : Addr) (o6 : Addr) (o7 : Addr) (o8 : Addr) (o9 : Addr) (o10 : Addr) (o11 : Addr) (o12 : Addr) (kk_o2 : ClassId) (kk_o4 : ClassId) (kk_o6 : ClassId) (kk_o8 : ClassId) (kk_o10 : ClassId) (kk_o12 : ClassId) (p4 : Int32) (p0 : Int32) (p1 : Int32) (p2 : Int32) (p3 : Int32) (p5 : Int32) (p6 : Int32) (p7 : Int32) (p8 : Int32) (p9 : Int32) (p10 : Int32) (p11 : Int32) (p12 : Int32) (h0 : Heap) (n0 : Nat) (O0 : Old Z n0 h0) (S : SF Z z_COMPACT_STRINGS) (F_className_o0 : Fld Z h0 o0 sC1 "className" "Ljava/lang/String;" (.ref o1)) (F_method_o0 : Fld Z h0 o0 sC1 "method" "Ljava/lang/String;" (.ref o5)) (E_o1 : Exa Z h0 o1 sC0) (F_coder_o1 : Fld Z h0 o1 sC0 "coder" "B" (.int 0)) (F_value_o1 : Fld Z h0 o1 sC0 "value" "[B" (.ref o2)) (V_o2 : Arv Z h0 o2 kk_o2 .byte (2 : Int32) [(.int p0), (.int p1)] (.int 0)) (E_o5 : Exa Z h0 o5 sC0) (F_coder_o5 : Fld Z h0 o5 sC0 "coder" "B" (.int 0)) (F_value_o5 : Fld Z h0 o5 sC0 "value" "[B" (.ref o6)) (V_o6 : Arv Z h0 o6 kk_o6 .byte (2 : Int32) [(.int p5), (.int p6)] (.int 0)) (E_o7 : Exa Z h0 o7 sC0) (F_coder_o7 : Fld Z h0 o7 sC0 "coder" "B" (.int 0)) (F_value_o7 : Fld Z h0 o7 sC0 "value" "[B" (.ref o8)) (V_o8 : Arv Z h0 o8 kk_o8 .byte (2 : Int32) [(.int p7), (.int p8)] (.int 0)) (E_o9 : Exa Z h0 o9 sC0) (F_coder_o9 : Fld Z h0 o9 sC0 "coder" "B" (.int 0)) (F_value_o9 : Fld Z h0 o9 sC0 "value" "[B" (.ref o10)) (V_o10 : Arv Z h0 o10 kk_o10 .byte (2 : Int32) [(.int p9), (.int p10)] (.int 0)) (ne_o1_o7 : o1 ≠ o7) (ne_o5_o9 : o5 ≠ o9) (hc0 : p0 = p7) (hc1 : p1 = p8) (hc2 : p5 = p9) (hc3 : ¬ (p6 = p10)) :
    Pay l Z My13 ws prog_3_method_5_code 4 (some .boolean) #[(.ref o0), (.ref o7), (.ref o9), (.ref o11)] h0 ({ frames := 2, cells := 0, slots := 0, locals := 28 } : Room) (Q13_5 Z z_COMPACT_STRINGS o0 o1 o2 o3 o4 o5 o6 o7 o8 o9 o10 o11 o12 kk_o2 kk_o4 kk_o6 kk_o8 kk_o10 kk_o12 p4 p0 p1 p2 p3 p5 p6 p7 p8 p9 p10 p11 p12 h0 n0) := by
  refine own_body (plainFor_of_name pn_3) (L0 := #[va o0, va o7, va o9, va o11]) (fun _ => by first | rfl | (simp [entryFrame, mkF, argsToLocals, Value.category]; done)) ?_
  intro p e s m below meth c s₁ hrt hlk hx hby hml hZ hown0 hnm X0 e0
  have hown : s.vm.findClass sC1 = some m.cls := hown0
  have N0 := Fr.nil n0
  have K0 : Keep h0 h0 [] := Keep.refl _ _
  obtain ⟨T1, X1, e1, st1⟩ := getF X0 hx hZ hown (host := "") (Or.inl (ww hw 46 rfl)) Via.refl e0 F_className_o0 (g := (mkF m 1 #[va o0, va o7, va o9, va o11] [(.ref o0)])) rfl rfl (hb hby d13_1)
  obtain ⟨cq2, kq2, q2a, q2b, q2c⟩ := isOf hZ e1 E_o1
  obtain ⟨_, _, ⟨T2, L2, k2, n2⟩, -, X2, ⟨Lc2, hQ2, l2, y2, z2⟩, st2⟩ := X1.virtualBack hx (y := My14) (z := My14) hown (mvT hZ (ww hw 73 rfl)) (mvT hZ (ww hw 74 rfl)) (notFace_of_selects (args := #[]) (mvT hZ (ww hw 76 rfl))) (mvT hZ (ww hw 76 rfl)) (mvT hZ (ww hw 75 rfl)) (by decide) (backOf (W := 0) (rm14_0 l Z a0 hw [] z_COMPACT_STRINGS o1 o2 o7 o8 kk_o2 kk_o8 p0 p1 p7 p8 h0 n0 O0 S F_coder_o1 F_value_o1 V_o2 E_o7 F_coder_o7 F_value_o7 V_o8 ne_o1_o7 hc0 hc1) hZ (ww hw 77 rfl) (ww hw 10 rfl) (by decide) (by decide)) q2a q2c (g := (mkF m 5 #[va o0, va o7, va o9, va o11] [(.ref o7), (.ref o1)])) rfl (by rw [hml]; rfl) (Steps.refl _) (argsL := [(.ref o7)]) (rest := []) (lenOf pd_10 rfl) rfl (by show 2 * 0 + _ ≤ _; exact Nat.le_of_eq rfl) (hb hby d13_5) (fun _ _ => ⟨rfl, e1, (by decide : 0 + 0 ≤ _), (by decide : 0 + 0 ≤ _)⟩)
  dsimp only [Pt.U, Pt.locs, Pt.cells, Pt.slots] at X2 l2 y2 z2 st2 hQ2
  subst l2 y2 z2
  obtain ⟨rfl, Nq2, e2⟩ := hQ2
  have N2 := Fr.app N0 Nq2
  obtain ⟨T3, X3, e3, st3⟩ := getF X2 hx hZ hown (host := "") (Or.inl (ww hw 48 rfl)) Via.refl e2 F_method_o0 (g := (mkF m 12 #[va o0, va o7, va o9, va o11] [(.ref o0)])) rfl rfl (hb hby d13_12)
  obtain ⟨cq4, kq4, q4a, q4b, q4c⟩ := isOf hZ e3 E_o5
  obtain ⟨_, _, ⟨T4, L4, k4, n4⟩, -, X4, ⟨Lc4, hQ4, l4, y4, z4⟩, st4⟩ := X3.virtualBack hx (y := My14) (z := My14) hown (mvT hZ (ww hw 73 rfl)) (mvT hZ (ww hw 74 rfl)) (notFace_of_selects (args := #[]) (mvT hZ (ww hw 76 rfl))) (mvT hZ (ww hw 76 rfl)) (mvT hZ (ww hw 75 rfl)) (by decide) (backOf (W := 0) (rm14_3 l Z a0 hw [] z_COMPACT_STRINGS o5 o6 o9 o10 kk_o6 kk_o10 p5 p6 p9 p10 h0 n0 O0 S F_coder_o5 F_value_o5 V_o6 E_o9 F_coder_o9 F_value_o9 V_o10 ne_o5_o9 hc2 hc3) hZ (ww hw 77 rfl) (ww hw 10 rfl) (by decide) (by decide)) q4a q4c (g := (mkF m 16 #[va o0, va o7, va o9, va o11] [(.ref o9), (.ref o5)])) rfl (by rw [hml]; rfl) (Steps.refl _) (argsL := [(.ref o9)]) (rest := []) (lenOf pd_10 rfl) rfl (by show 2 * 0 + _ ≤ _; exact Nat.le_of_eq rfl) (hb hby d13_16) (fun _ _ => ⟨rfl, e3, (by decide : 0 + 0 ≤ _), (by decide : 0 + 0 ≤ _)⟩)
  dsimp only [Pt.U, Pt.locs, Pt.cells, Pt.slots] at X4 l4 y4 z4 st4 hQ4
  subst l4 y4 z4
  obtain ⟨rfl, Nq4, e4⟩ := hQ4
  have N4 := Fr.app N2 Nq4
  obtain ⟨fs, hr, hrun, hended, hW, hsame⟩ := X4.leave (v := (some (.int 0))) (fun h => by rw [hrt] at h; cases h)
  refine ⟨_, _, ?_, hrun, hended, _, _, rfl, ?_, ⟨_, rfl⟩, hW, hsame.mono (by decide) (by decide)⟩
  · show Steps p.tables e below (s₁.setTop (mkF m 0 #[va o0, va o7, va o9, va o11] [])) _
    refine XS.aloadN X0.here hx rfl (hb hby d13_0) rfl rfl ?_
    refine st1 _ ?_
    refine XS.aloadN X1.here hx rfl (hb hby d13_4) rfl rfl ?_
    refine st2.trans ?_
    refine XS.ifNo X2.here hx rfl (hb hby d13_8) rfl ((if0 _ _).trans (feq (by decide : ¬ ((1 : Int32) = (0 : Int32)))).1) ?_
    refine XS.aloadN X2.here hx rfl (hb hby d13_11) rfl rfl ?_
    refine st3 _ ?_
    refine XS.aloadN X3.here hx rfl (hb hby d13_15) rfl rfl ?_
    show Steps p.tables e below (T3.setTop (mkF m 16 #[va o0, va o7, va o9, va o11] [(.ref o9), (.ref o5)])) _
    refine st4.trans ?_
    refine XS.ifYes X4.here hx rfl (pc0 := 19) (pc' := 37) rfl (hb hby d13_19) rfl ((if0 _ _).trans (teq (by decide : (0 : Int32) = (0 : Int32))).1) (by decide) (by decide) ?_
    refine XS.iconst X4.here hx rfl (hb hby d13_37) ?_
    exact retN X4 hx (t := .boolean) hrt (by simp) (hb hby d13_38) hr
  · show Q13_5 Z z_COMPACT_STRINGS o0 o1 o2 o3 o4 o5 o6 o7 o8 o9 o10 o11 o12 kk_o2 kk_o4 kk_o6 kk_o8 kk_o10 kk_o12 p4 p0 p1 p2 p3 p5 p6 p7 p8 p9 p10 p11 p12 h0 n0 (some (.int 0)) T4.heap _
    exact (⟨rfl, N4, e4⟩)
def Q12_5 (Z : State) (z_COMPACT_STRINGS : Int32) (o0 : Addr) (o1 : Addr) (o2 : Addr) (o3 : Addr) (o4 : Addr) (o5 : Addr) (o6 : Addr) (o7 : Addr) (o8 : Addr) (o9 : Addr) (o10 : Addr) (o11 : Addr) (o12 : Addr) (o13 : Addr) (kk_o2 : ClassId) (kk_o4 : ClassId) (kk_o6 : ClassId) (kk_o9 : ClassId) (kk_o11 : ClassId) (kk_o13 : ClassId) (p4 : Int32) (p0 : Int32) (p1 : Int32) (p2 : Int32) (p3 : Int32) (p5 : Int32) (p6 : Int32) (p11 : Int32) (p7 : Int32) (p8 : Int32) (p9 : Int32) (p10 : Int32) (p12 : Int32) (p13 : Int32) (h0 : Heap) (n0 : Nat) (v : Option Value) (h : Heap) (L : List Loc) : Prop := v = (some (.int 0)) ∧ Fr n0 L ∧ h = h0
theorem rm12_5 (l : Launch) (Z : State) (a0 : Array Value) (hw : HW Z a0) (ws : List Jvm.Cond) (z_COMPACT_STRINGS : Int32) (o0 : Addr) (o1 : Addr) (o2 : Addr) (o3 : Addr) (o4 : Addr) (o5 : Addr) (o6 : Addr) (o7 : Addr) (o8 : Addr) (o9 : Addr) (o10 : Addr) (o11 : Addr) (o12 : Addr) (o13 : Addr) (kk_o2 : ClassId) (kk_o4 : ClassId) (kk_o6 : ClassId) (kk_o9 : ClassId) (kk_o11 : ClassId) (kk_o13 : ClassId) (p4 : Int32) (p0 : Int32) (p1 : Int32) (p2 : Int32) (p3 : Int32) (p5 : Int32) (p6 : Int32) (p11 : Int32) (p7 : Int32) (p8 : Int32) (p9 : Int32) (p10 : Int32) (p12 : Int32) (p13 : Int32) (h0 : Heap) (n0 : Nat) (O0 : Old Z n0 h0) (S : SF Z z_COMPACT_STRINGS) (E_o0 : Exa Z h0 o0 sC1) (F_className_o0 : Fld Z h0 o0 sC1 "className" "Ljava/lang/String;" (.ref o1)) (F_method_o0 : Fld Z h0 o0 sC1 "method" "Ljava/lang/String;" (.ref o5)) (E_o1 : Exa Z h0 o1 sC0) (F_coder_o1 : Fld Z h0 o1 sC0 "coder" "B" (.int 0)) (F_value_o1 : Fld Z h0 o1 sC0 "value" "[B" (.ref o2)) (V_o2 : Arv Z h0 o2 kk_o2 .byte (2 : Int32) [(.int p0), (.int p1)] (.int 0)) (E_o5 : Exa Z h0 o5 sC0) (F_coder_o5 : Fld Z h0 o5 sC0 "coder" "B" (.int 0)) (F_value_o5 : Fld Z h0 o5 sC0 "value" "[B" (.ref o6)) (V_o6 : Arv Z h0 o6 kk_o6 .byte (2 : Int32) [(.int p5), (.int p6)] (.int 0)) (F_className_o7 : Fld Z h0 o7 sC1 "className" "Ljava/lang/String;" (.ref o8)) (F_descriptor_o7 : Fld Z h0 o7 sC1 "descriptor" "Ljava/lang/String;" (.ref o10)) (F_method_o7 : Fld Z h0 o7 sC1 "method" "Ljava/lang/String;" (.ref o12)) (E_o8 : Exa Z h0 o8 sC0) (F_coder_o8 : Fld Z h0 o8 sC0 "coder" "B" (.int 0)) (F_value_o8 : Fld Z h0 o8 sC0 "value" "[B" (.ref o9)) (V_o9 : Arv Z h0 o9 kk_o9 .byte (2 : Int32) [(.int p7), (.int p8)] (.int 0)) (E_o12 : Exa Z h0 o12 sC0) (F_coder_o12 : Fld Z h0 o12 sC0 "coder" "B" (.int 0)) (F_value_o12 : Fld Z h0 o12 sC0 "value" "[B" (.ref o13)) (V_o13 : Arv Z h0 o13 kk_o13 .byte (2 : Int32) [(.int p12), (.int p13)] (.int 0)) (ne_o1_o8 : o1 ≠ o8) (ne_o5_o12 : o5 ≠ o12) (hc0 : p0 = p7) (hc1 : p1 = p8) (hc2 : p5 = p12) (hc3 : ¬ (p6 = p13)) :
    Pay l Z My12 ws prog_3_method_4_code 2 (some .boolean) #[(.ref o0), (.ref o7)] h0 ({ frames := 3, cells := 0, slots := 0, locals := 43 } : Room) (Q12_5 Z z_COMPACT_STRINGS o0 o1 o2 o3 o4 o5 o6 o7 o8 o9 o10 o11 o12 o13 kk_o2 kk_o4 kk_o6 kk_o9 kk_o11 kk_o13 p4 p0 p1 p2 p3 p5 p6 p11 p7 p8 p9 p10 p12 p13 h0 n0) := by
  refine own_body (plainFor_of_name pn_3) (L0 := #[va o0, va o7]) (fun _ => by first | rfl | (simp [entryFrame, mkF, argsToLocals, Value.category]; done)) ?_
  intro p e s m below meth c s₁ hrt hlk hx hby hml hZ hown0 hnm X0 e0
  have hown : s.vm.findClass sC1 = some m.cls := hown0
  have N0 := Fr.nil n0
  have K0 : Keep h0 h0 [] := Keep.refl _ _
  obtain ⟨T1, X1, e1, st1⟩ := getF X0 hx hZ hown (host := "") (Or.inl (ww hw 46 rfl)) Via.refl e0 F_className_o7 (g := (mkF m 2 #[va o0, va o7] [(.ref o7), (.ref o0)])) rfl rfl (hb hby d12_2)
  obtain ⟨T2, X2, e2, st2⟩ := getF X1 hx hZ hown (host := "") (Or.inl (ww hw 48 rfl)) Via.refl e1 F_method_o7 (g := (mkF m 6 #[va o0, va o7] [(.ref o7), (.ref o8), (.ref o0)])) rfl rfl (hb hby d12_6)
  obtain ⟨T3, X3, e3, st3⟩ := getF X2 hx hZ hown (host := "") (Or.inl (ww hw 50 rfl)) Via.refl e2 F_descriptor_o7 (g := (mkF m 10 #[va o0, va o7] [(.ref o7), (.ref o12), (.ref o8), (.ref o0)])) rfl rfl (hb hby d12_10)
  obtain ⟨cq4, qa4, qb4⟩ := E_o0.cell
  obtain ⟨_, _, ⟨T4, L4, k4, n4⟩, -, X4, ⟨Lc4, hQ4, l4, y4, z4⟩, st4⟩ := X3.privateBack hx (y := My13) hown (mvT hZ (ww hw 69 rfl)) (mvT hZ (ww hw 70 rfl)) (own_selp (by decide) (mvT hZ (ww hw 1 rfl)) (mvP hZ (ww hw 71 rfl)) (mvT hZ (ww hw 70 rfl))) (Cond.privateMethod_at (mvP hZ (ww hw 71 rfl) (args := #[]))) (mvT hZ (ww hw 72 rfl)) (by decide) (backOf (W := 0) (rm13_5 l Z a0 hw [] z_COMPACT_STRINGS o0 o1 o2 o3 o4 o5 o6 o8 o9 o12 o13 o10 o11 kk_o2 kk_o4 kk_o6 kk_o9 kk_o13 kk_o11 p4 p0 p1 p2 p3 p5 p6 p7 p8 p12 p13 p9 p10 h0 n0 O0 S F_className_o0 F_method_o0 E_o1 F_coder_o1 F_value_o1 V_o2 E_o5 F_coder_o5 F_value_o5 V_o6 E_o8 F_coder_o8 F_value_o8 V_o9 E_o12 F_coder_o12 F_value_o12 V_o13 ne_o1_o8 ne_o5_o12 hc0 hc1 hc2 hc3) hZ (ww hw 72 rfl) (ww hw 2 rfl) (by decide) (by decide)) (g := (mkF m 13 #[va o0, va o7] [(.ref o10), (.ref o12), (.ref o8), (.ref o0)])) rfl (by rw [hml]; rfl) (Steps.refl _) (a := o0) (by rw [e3]; exact qa4) qb4 (argsL := [(.ref o8), (.ref o12), (.ref o10)]) (rest := []) (lenOf pd_11 rfl) rfl (by show 2 * 0 + _ ≤ _; exact Nat.le_of_eq rfl) (hb hby d12_13) (fun _ _ => ⟨rfl, e3, (by decide : 0 + 0 ≤ _), (by decide : 0 + 0 ≤ _)⟩)
  dsimp only [Pt.U, Pt.locs, Pt.cells, Pt.slots] at X4 l4 y4 z4 st4 hQ4
  subst l4 y4 z4
  obtain ⟨rfl, Nq4, e4⟩ := hQ4
  have N4 := Fr.app N0 Nq4
  obtain ⟨fs, hr, hrun, hended, hW, hsame⟩ := X4.leave (v := (some (.int 0))) (fun h => by rw [hrt] at h; cases h)
  refine ⟨_, _, ?_, hrun, hended, _, _, rfl, ?_, ⟨_, rfl⟩, hW, hsame.mono (by decide) (by decide)⟩
  · show Steps p.tables e below (s₁.setTop (mkF m 0 #[va o0, va o7] [])) _
    refine XS.aloadN X0.here hx rfl (hb hby d12_0) rfl rfl ?_
    refine XS.aloadN X0.here hx rfl (hb hby d12_1) rfl rfl ?_
    refine st1 _ ?_
    refine XS.aloadN X1.here hx rfl (hb hby d12_5) rfl rfl ?_
    refine st2 _ ?_
    refine XS.aloadN X2.here hx rfl (hb hby d12_9) rfl rfl ?_
    refine st3 _ ?_
    refine st4.trans ?_
    show Steps p.tables e below (T4.setTop (mkF m 16 #[va o0, va o7] [(.int 0)])) _
    exact retN X4 hx (t := .boolean) hrt (by simp) (hb hby d12_16) hr
  · show Q12_5 Z z_COMPACT_STRINGS o0 o1 o2 o3 o4 o5 o6 o7 o8 o9 o10 o11 o12 o13 kk_o2 kk_o4 kk_o6 kk_o9 kk_o11 kk_o13 p4 p0 p1 p2 p3 p5 p6 p11 p7 p8 p9 p10 p12 p13 h0 n0 (some (.int 0)) T4.heap _
    exact (⟨rfl, N4, e4⟩)
def Q11_8 (Z : State) (z_COMPACT_STRINGS : Int32) (o0 : Addr) (o1 : Addr) (o2 : Addr) (o3 : Addr) (o4 : Addr) (o5 : Addr) (o6 : Addr) (o7 : Addr) (o8 : Addr) (o9 : Addr) (o10 : Addr) (o11 : Addr) (o12 : Addr) (o13 : Addr) (kk_o2 : ClassId) (kk_o4 : ClassId) (kk_o6 : ClassId) (kk_o9 : ClassId) (kk_o11 : ClassId) (kk_o13 : ClassId) (p4 : Int32) (p0 : Int32) (p1 : Int32) (p2 : Int32) (p3 : Int32) (p5 : Int32) (p6 : Int32) (p11 : Int32) (p7 : Int32) (p8 : Int32) (p9 : Int32) (p10 : Int32) (p12 : Int32) (p13 : Int32) (h0 : Heap) (n0 : Nat) (v : Option Value) (h : Heap) (L : List Loc) : Prop := v = (some (.int 0)) ∧ Fr n0 L ∧ h = h0
theorem rm11_8 (l : Launch) (Z : State) (a0 : Array Value) (hw : HW Z a0) (ws : List Jvm.Cond) (z_COMPACT_STRINGS : Int32) (o0 : Addr) (o1 : Addr) (o2 : Addr) (o3 : Addr) (o4 : Addr) (o5 : Addr) (o6 : Addr) (o7 : Addr) (o8 : Addr) (o9 : Addr) (o10 : Addr) (o11 : Addr) (o12 : Addr) (o13 : Addr) (kk_o2 : ClassId) (kk_o4 : ClassId) (kk_o6 : ClassId) (kk_o9 : ClassId) (kk_o11 : ClassId) (kk_o13 : ClassId) (p4 : Int32) (p0 : Int32) (p1 : Int32) (p2 : Int32) (p3 : Int32) (p5 : Int32) (p6 : Int32) (p11 : Int32) (p7 : Int32) (p8 : Int32) (p9 : Int32) (p10 : Int32) (p12 : Int32) (p13 : Int32) (h0 : Heap) (n0 : Nat) (O0 : Old Z n0 h0) (S : SF Z z_COMPACT_STRINGS) (E_o0 : Exa Z h0 o0 sC1) (F_className_o0 : Fld Z h0 o0 sC1 "className" "Ljava/lang/String;" (.ref o1)) (F_instruction_o0 : Fld Z h0 o0 sC1 "instruction" "I" (.int p4)) (F_method_o0 : Fld Z h0 o0 sC1 "method" "Ljava/lang/String;" (.ref o5)) (E_o1 : Exa Z h0 o1 sC0) (F_coder_o1 : Fld Z h0 o1 sC0 "coder" "B" (.int 0)) (F_value_o1 : Fld Z h0 o1 sC0 "value" "[B" (.ref o2)) (V_o2 : Arv Z h0 o2 kk_o2 .byte (2 : Int32) [(.int p0), (.int p1)] (.int 0)) (E_o5 : Exa Z h0 o5 sC0) (F_coder_o5 : Fld Z h0 o5 sC0 "coder" "B" (.int 0)) (F_value_o5 : Fld Z h0 o5 sC0 "value" "[B" (.ref o6)) (V_o6 : Arv Z h0 o6 kk_o6 .byte (2 : Int32) [(.int p5), (.int p6)] (.int 0)) (E_o7 : Exa Z h0 o7 sC1) (F_className_o7 : Fld Z h0 o7 sC1 "className" "Ljava/lang/String;" (.ref o8)) (F_descriptor_o7 : Fld Z h0 o7 sC1 "descriptor" "Ljava/lang/String;" (.ref o10)) (F_instruction_o7 : Fld Z h0 o7 sC1 "instruction" "I" (.int p11)) (F_method_o7 : Fld Z h0 o7 sC1 "method" "Ljava/lang/String;" (.ref o12)) (E_o8 : Exa Z h0 o8 sC0) (F_coder_o8 : Fld Z h0 o8 sC0 "coder" "B" (.int 0)) (F_value_o8 : Fld Z h0 o8 sC0 "value" "[B" (.ref o9)) (V_o9 : Arv Z h0 o9 kk_o9 .byte (2 : Int32) [(.int p7), (.int p8)] (.int 0)) (E_o12 : Exa Z h0 o12 sC0) (F_coder_o12 : Fld Z h0 o12 sC0 "coder" "B" (.int 0)) (F_value_o12 : Fld Z h0 o12 sC0 "value" "[B" (.ref o13)) (V_o13 : Arv Z h0 o13 kk_o13 .byte (2 : Int32) [(.int p12), (.int p13)] (.int 0)) (ne_o1_o8 : o1 ≠ o8) (ne_o5_o12 : o5 ≠ o12) (hc0 : p4 = p11) (hc1 : p0 = p7) (hc2 : p1 = p8) (hc3 : p5 = p12) (hc4 : ¬ (p6 = p13)) :
    Pay l Z My11 ws prog_3_method_6_code 3 (some .boolean) #[(.ref o0), (.ref o7)] h0 ({ frames := 4, cells := 0, slots := 0, locals := 56 } : Room) (Q11_8 Z z_COMPACT_STRINGS o0 o1 o2 o3 o4 o5 o6 o7 o8 o9 o10 o11 o12 o13 kk_o2 kk_o4 kk_o6 kk_o9 kk_o11 kk_o13 p4 p0 p1 p2 p3 p5 p6 p11 p7 p8 p9 p10 p12 p13 h0 n0) := by
  refine own_body (plainFor_of_name pn_3) (L0 := #[va o0, va o7, uu]) (fun _ => by first | rfl | (simp [entryFrame, mkF, argsToLocals, Value.category]; done)) ?_
  intro p e s m below meth c s₁ hrt hlk hx hby hml hZ hown0 hnm X0 e0
  have hown : s.vm.findClass sC1 = some m.cls := hown0
  have N0 := Fr.nil n0
  have K0 : Keep h0 h0 [] := Keep.refl _ _
  obtain ⟨T1, X1, e1, st1⟩ := instY X0 hx hZ hown (ww hw 63 rfl) e0 (Ins.self E_o7) (g := (mkF m 1 #[va o0, va o7, uu] [(.ref o7)])) rfl rfl (hb hby d11_1)
  obtain ⟨T2, X2, e2, st2⟩ := castY X1 hx hZ hown (ww hw 63 rfl) e1 (Ins.self E_o7) (g := (mkF m 8 #[va o0, va o7, uu] [(.ref o7)])) rfl rfl (hb hby d11_8)
  obtain ⟨T3, X3, e3, st3⟩ := getF X2 hx hZ hown (host := "") (Or.inl (ww hw 52 rfl)) Via.refl e2 F_instruction_o0 (g := (mkF m 13 #[va o0, va o7, va o7] [(.ref o0)])) rfl rfl (hb hby d11_13)
  obtain ⟨T4, X4, e4, st4⟩ := getF X3 hx hZ hown (host := "") (Or.inl (ww hw 52 rfl)) Via.refl e3 F_instruction_o7 (g := (mkF m 17 #[va o0, va o7, va o7] [(.ref o7), (.int p4)])) rfl rfl (hb hby d11_17)
  obtain ⟨cq5, qa5, qb5⟩ := E_o0.cell
  obtain ⟨_, _, ⟨T5, L5, k5, n5⟩, -, X5, ⟨Lc5, hQ5, l5, y5, z5⟩, st5⟩ := X4.privateBack hx (y := My12) hown (mvT hZ (ww hw 65 rfl)) (mvT hZ (ww hw 66 rfl)) (own_selp (by decide) (mvT hZ (ww hw 1 rfl)) (mvP hZ (ww hw 67 rfl)) (mvT hZ (ww hw 66 rfl))) (Cond.privateMethod_at (mvP hZ (ww hw 67 rfl) (args := #[]))) (mvT hZ (ww hw 68 rfl)) (by decide) (backOf (W := 0) (rm12_5 l Z a0 hw [] z_COMPACT_STRINGS o0 o1 o2 o3 o4 o5 o6 o7 o8 o9 o10 o11 o12 o13 kk_o2 kk_o4 kk_o6 kk_o9 kk_o11 kk_o13 p4 p0 p1 p2 p3 p5 p6 p11 p7 p8 p9 p10 p12 p13 h0 n0 O0 S E_o0 F_className_o0 F_method_o0 E_o1 F_coder_o1 F_value_o1 V_o2 E_o5 F_coder_o5 F_value_o5 V_o6 F_className_o7 F_descriptor_o7 F_method_o7 E_o8 F_coder_o8 F_value_o8 V_o9 E_o12 F_coder_o12 F_value_o12 V_o13 ne_o1_o8 ne_o5_o12 hc1 hc2 hc3 hc4) hZ (ww hw 68 rfl) (ww hw 2 rfl) (by decide) (by decide)) (g := (mkF m 25 #[va o0, va o7, va o7] [(.ref o7), (.ref o0)])) rfl (by rw [hml]; rfl) (Steps.refl _) (a := o0) (by rw [e4]; exact qa5) qb5 (argsL := [(.ref o7)]) (rest := []) (lenOf pd_12 rfl) rfl (by show 2 * 0 + _ ≤ _; exact Nat.le_of_eq rfl) (hb hby d11_25) (fun _ _ => ⟨rfl, e4, (by decide : 0 + 0 ≤ _), (by decide : 0 + 0 ≤ _)⟩)
  dsimp only [Pt.U, Pt.locs, Pt.cells, Pt.slots] at X5 l5 y5 z5 st5 hQ5
  subst l5 y5 z5
  obtain ⟨rfl, Nq5, e5⟩ := hQ5
  have N5 := Fr.app N0 Nq5
  obtain ⟨fs, hr, hrun, hended, hW, hsame⟩ := X5.leave (v := (some (.int 0))) (fun h => by rw [hrt] at h; cases h)
  refine ⟨_, _, ?_, hrun, hended, _, _, rfl, ?_, ⟨_, rfl⟩, hW, hsame.mono (by decide) (by decide)⟩
  · show Steps p.tables e below (s₁.setTop (mkF m 0 #[va o0, va o7, uu] [])) _
    refine XS.aloadN X0.here hx rfl (hb hby d11_0) rfl rfl ?_
    refine st1 _ ?_
    refine XS.ifNo X1.here hx rfl (hb hby d11_4) rfl ((if0 _ _).trans (feq (by decide : ¬ ((1 : Int32) = (0 : Int32)))).1) ?_
    refine XS.aloadN X1.here hx rfl (hb hby d11_7) rfl rfl ?_
    refine st2 _ ?_
    refine XS.astoreN X2.here hx rfl (hb hby d11_11) rfl rfl (l' := #[va o0, va o7, va o7]) rfl ?_
    refine XS.aloadN X2.here hx rfl (hb hby d11_12) rfl rfl ?_
    refine st3 _ ?_
    show Steps p.tables e below (T3.setTop (mkF m 16 #[va o0, va o7, va o7] [(.int p4)])) _
    refine XS.aloadN X3.here hx rfl (hb hby d11_16) rfl rfl ?_
    refine st4 _ ?_
    refine XS.icmpNo X4.here hx rfl (hb hby d11_20) rfl (teq hc0).2 ?_
    refine XS.aloadN X4.here hx rfl (hb hby d11_23) rfl rfl ?_
    refine XS.aloadN X4.here hx rfl (hb hby d11_24) rfl rfl ?_
    refine st5.trans ?_
    refine XS.ifYes X5.here hx rfl (pc0 := 28) (pc' := 35) rfl (hb hby d11_28) rfl ((if0 _ _).trans (teq (by decide : (0 : Int32) = (0 : Int32))).1) (by decide) (by decide) ?_
    refine XS.iconst X5.here hx rfl (hb hby d11_35) ?_
    show Steps p.tables e below (T5.setTop (mkF m 36 #[va o0, va o7, va o7] [(.int 0)])) _
    exact retN X5 hx (t := .boolean) hrt (by simp) (hb hby d11_36) hr
  · show Q11_8 Z z_COMPACT_STRINGS o0 o1 o2 o3 o4 o5 o6 o7 o8 o9 o10 o11 o12 o13 kk_o2 kk_o4 kk_o6 kk_o9 kk_o11 kk_o13 p4 p0 p1 p2 p3 p5 p6 p11 p7 p8 p9 p10 p12 p13 h0 n0 (some (.int 0)) T5.heap _
    exact (⟨rfl, N5, e5⟩)
def Q13_6 (Z : State) (z_COMPACT_STRINGS : Int32) (o0 : Addr) (o1 : Addr) (o2 : Addr) (o3 : Addr) (o4 : Addr) (o5 : Addr) (o6 : Addr) (o7 : Addr) (o8 : Addr) (o9 : Addr) (o10 : Addr) (o11 : Addr) (o12 : Addr) (kk_o2 : ClassId) (kk_o4 : ClassId) (kk_o6 : ClassId) (kk_o8 : ClassId) (kk_o10 : ClassId) (kk_o12 : ClassId) (p4 : Int32) (p0 : Int32) (p1 : Int32) (p2 : Int32) (p3 : Int32) (p5 : Int32) (p6 : Int32) (p7 : Int32) (p8 : Int32) (p9 : Int32) (p10 : Int32) (p11 : Int32) (p12 : Int32) (h0 : Heap) (n0 : Nat) (v : Option Value) (h : Heap) (L : List Loc) : Prop := v = (some (.int 0)) ∧ Fr n0 L ∧ h = h0
theorem rm13_6 (l : Launch) (Z : State) (a0 : Array Value) (hw : HW Z a0) (ws : List Jvm.Cond) (z_COMPACT_STRINGS : Int32) (o0 : Addr) (o1 : Addr) (o2 : Addr) (o3 : Addr) (o4 : Addr) (o5 : Addr) (o6 : Addr) (o7 : Addr) (o8 : Addr) (o9 : Addr) (o10 : Addr) (o11 : Addr) (o12 : Addr) (kk_o2 : ClassId) (kk_o4 : ClassId) (kk_o6 : ClassId) (kk_o8 : ClassId) (kk_o10 : ClassId) (kk_o12 : ClassId) (p4 : Int32) (p0 : Int32) (p1 : Int32) (p2 : Int32) (p3 : Int32) (p5 : Int32) (p6 : Int32) (p7 : Int32) (p8 : Int32) (p9 : Int32) (p10 : Int32) (p11 : Int32) (p12 : Int32) (h0 : Heap) (n0 : Nat) (O0 : Old Z n0 h0) (S : SF Z z_COMPACT_STRINGS) (F_className_o0 : Fld Z h0 o0 sC1 "className" "Ljava/lang/String;" (.ref o1)) (E_o1 : Exa Z h0 o1 sC0) (F_coder_o1 : Fld Z h0 o1 sC0 "coder" "B" (.int 0)) (F_value_o1 : Fld Z h0 o1 sC0 "value" "[B" (.ref o2)) (V_o2 : Arv Z h0 o2 kk_o2 .byte (2 : Int32) [(.int p0), (.int p1)] (.int 0)) (E_o7 : Exa Z h0 o7 sC0) (F_coder_o7 : Fld Z h0 o7 sC0 "coder" "B" (.int 0)) (F_value_o7 : Fld Z h0 o7 sC0 "value" "[B" (.ref o8)) (V_o8 : Arv Z h0 o8 kk_o8 .byte (2 : Int32) [(.int p7), (.int p8)] (.int 0)) (ne_o1_o7 : o1 ≠ o7) (hc0 : p0 = p7) (hc1 : ¬ (p1 = p8)) :
    Pay l Z My13 ws prog_3_method_5_code 4 (some .boolean) #[(.ref o0), (.ref o7), (.ref o9), (.ref o11)] h0 ({ frames := 2, cells := 0, slots := 0, locals := 28 } : Room) (Q13_6 Z z_COMPACT_STRINGS o0 o1 o2 o3 o4 o5 o6 o7 o8 o9 o10 o11 o12 kk_o2 kk_o4 kk_o6 kk_o8 kk_o10 kk_o12 p4 p0 p1 p2 p3 p5 p6 p7 p8 p9 p10 p11 p12 h0 n0) := by
  refine own_body (plainFor_of_name pn_3) (L0 := #[va o0, va o7, va o9, va o11]) (fun _ => by first | rfl | (simp [entryFrame, mkF, argsToLocals, Value.category]; done)) ?_
  intro p e s m below meth c s₁ hrt hlk hx hby hml hZ hown0 hnm X0 e0
  have hown : s.vm.findClass sC1 = some m.cls := hown0
  have N0 := Fr.nil n0
  have K0 : Keep h0 h0 [] := Keep.refl _ _
  obtain ⟨T1, X1, e1, st1⟩ := getF X0 hx hZ hown (host := "") (Or.inl (ww hw 46 rfl)) Via.refl e0 F_className_o0 (g := (mkF m 1 #[va o0, va o7, va o9, va o11] [(.ref o0)])) rfl rfl (hb hby d13_1)
  obtain ⟨cq2, kq2, q2a, q2b, q2c⟩ := isOf hZ e1 E_o1
  obtain ⟨_, _, ⟨T2, L2, k2, n2⟩, -, X2, ⟨Lc2, hQ2, l2, y2, z2⟩, st2⟩ := X1.virtualBack hx (y := My14) (z := My14) hown (mvT hZ (ww hw 73 rfl)) (mvT hZ (ww hw 74 rfl)) (notFace_of_selects (args := #[]) (mvT hZ (ww hw 76 rfl))) (mvT hZ (ww hw 76 rfl)) (mvT hZ (ww hw 75 rfl)) (by decide) (backOf (W := 0) (rm14_3 l Z a0 hw [] z_COMPACT_STRINGS o1 o2 o7 o8 kk_o2 kk_o8 p0 p1 p7 p8 h0 n0 O0 S F_coder_o1 F_value_o1 V_o2 E_o7 F_coder_o7 F_value_o7 V_o8 ne_o1_o7 hc0 hc1) hZ (ww hw 77 rfl) (ww hw 10 rfl) (by decide) (by decide)) q2a q2c (g := (mkF m 5 #[va o0, va o7, va o9, va o11] [(.ref o7), (.ref o1)])) rfl (by rw [hml]; rfl) (Steps.refl _) (argsL := [(.ref o7)]) (rest := []) (lenOf pd_10 rfl) rfl (by show 2 * 0 + _ ≤ _; exact Nat.le_of_eq rfl) (hb hby d13_5) (fun _ _ => ⟨rfl, e1, (by decide : 0 + 0 ≤ _), (by decide : 0 + 0 ≤ _)⟩)
  dsimp only [Pt.U, Pt.locs, Pt.cells, Pt.slots] at X2 l2 y2 z2 st2 hQ2
  subst l2 y2 z2
  obtain ⟨rfl, Nq2, e2⟩ := hQ2
  have N2 := Fr.app N0 Nq2
  obtain ⟨fs, hr, hrun, hended, hW, hsame⟩ := X2.leave (v := (some (.int 0))) (fun h => by rw [hrt] at h; cases h)
  refine ⟨_, _, ?_, hrun, hended, _, _, rfl, ?_, ⟨_, rfl⟩, hW, hsame.mono (by decide) (by decide)⟩
  · show Steps p.tables e below (s₁.setTop (mkF m 0 #[va o0, va o7, va o9, va o11] [])) _
    refine XS.aloadN X0.here hx rfl (hb hby d13_0) rfl rfl ?_
    refine st1 _ ?_
    refine XS.aloadN X1.here hx rfl (hb hby d13_4) rfl rfl ?_
    refine st2.trans ?_
    refine XS.ifYes X2.here hx rfl (pc0 := 8) (pc' := 37) rfl (hb hby d13_8) rfl ((if0 _ _).trans (teq (by decide : (0 : Int32) = (0 : Int32))).1) (by decide) (by decide) ?_
    refine XS.iconst X2.here hx rfl (hb hby d13_37) ?_
    exact retN X2 hx (t := .boolean) hrt (by simp) (hb hby d13_38) hr
  · show Q13_6 Z z_COMPACT_STRINGS o0 o1 o2 o3 o4 o5 o6 o7 o8 o9 o10 o11 o12 kk_o2 kk_o4 kk_o6 kk_o8 kk_o10 kk_o12 p4 p0 p1 p2 p3 p5 p6 p7 p8 p9 p10 p11 p12 h0 n0 (some (.int 0)) T2.heap _
    exact (⟨rfl, N2, e2⟩)
def Q12_6 (Z : State) (z_COMPACT_STRINGS : Int32) (o0 : Addr) (o1 : Addr) (o2 : Addr) (o3 : Addr) (o4 : Addr) (o5 : Addr) (o6 : Addr) (o7 : Addr) (o8 : Addr) (o9 : Addr) (o10 : Addr) (o11 : Addr) (o12 : Addr) (o13 : Addr) (kk_o2 : ClassId) (kk_o4 : ClassId) (kk_o6 : ClassId) (kk_o9 : ClassId) (kk_o11 : ClassId) (kk_o13 : ClassId) (p4 : Int32) (p0 : Int32) (p1 : Int32) (p2 : Int32) (p3 : Int32) (p5 : Int32) (p6 : Int32) (p11 : Int32) (p7 : Int32) (p8 : Int32) (p9 : Int32) (p10 : Int32) (p12 : Int32) (p13 : Int32) (h0 : Heap) (n0 : Nat) (v : Option Value) (h : Heap) (L : List Loc) : Prop := v = (some (.int 0)) ∧ Fr n0 L ∧ h = h0
theorem rm12_6 (l : Launch) (Z : State) (a0 : Array Value) (hw : HW Z a0) (ws : List Jvm.Cond) (z_COMPACT_STRINGS : Int32) (o0 : Addr) (o1 : Addr) (o2 : Addr) (o3 : Addr) (o4 : Addr) (o5 : Addr) (o6 : Addr) (o7 : Addr) (o8 : Addr) (o9 : Addr) (o10 : Addr) (o11 : Addr) (o12 : Addr) (o13 : Addr) (kk_o2 : ClassId) (kk_o4 : ClassId) (kk_o6 : ClassId) (kk_o9 : ClassId) (kk_o11 : ClassId) (kk_o13 : ClassId) (p4 : Int32) (p0 : Int32) (p1 : Int32) (p2 : Int32) (p3 : Int32) (p5 : Int32) (p6 : Int32) (p11 : Int32) (p7 : Int32) (p8 : Int32) (p9 : Int32) (p10 : Int32) (p12 : Int32) (p13 : Int32) (h0 : Heap) (n0 : Nat) (O0 : Old Z n0 h0) (S : SF Z z_COMPACT_STRINGS) (E_o0 : Exa Z h0 o0 sC1) (F_className_o0 : Fld Z h0 o0 sC1 "className" "Ljava/lang/String;" (.ref o1)) (E_o1 : Exa Z h0 o1 sC0) (F_coder_o1 : Fld Z h0 o1 sC0 "coder" "B" (.int 0)) (F_value_o1 : Fld Z h0 o1 sC0 "value" "[B" (.ref o2)) (V_o2 : Arv Z h0 o2 kk_o2 .byte (2 : Int32) [(.int p0), (.int p1)] (.int 0)) (F_className_o7 : Fld Z h0 o7 sC1 "className" "Ljava/lang/String;" (.ref o8)) (F_descriptor_o7 : Fld Z h0 o7 sC1 "descriptor" "Ljava/lang/String;" (.ref o10)) (F_method_o7 : Fld Z h0 o7 sC1 "method" "Ljava/lang/String;" (.ref o12)) (E_o8 : Exa Z h0 o8 sC0) (F_coder_o8 : Fld Z h0 o8 sC0 "coder" "B" (.int 0)) (F_value_o8 : Fld Z h0 o8 sC0 "value" "[B" (.ref o9)) (V_o9 : Arv Z h0 o9 kk_o9 .byte (2 : Int32) [(.int p7), (.int p8)] (.int 0)) (ne_o1_o8 : o1 ≠ o8) (hc0 : p0 = p7) (hc1 : ¬ (p1 = p8)) :
    Pay l Z My12 ws prog_3_method_4_code 2 (some .boolean) #[(.ref o0), (.ref o7)] h0 ({ frames := 3, cells := 0, slots := 0, locals := 43 } : Room) (Q12_6 Z z_COMPACT_STRINGS o0 o1 o2 o3 o4 o5 o6 o7 o8 o9 o10 o11 o12 o13 kk_o2 kk_o4 kk_o6 kk_o9 kk_o11 kk_o13 p4 p0 p1 p2 p3 p5 p6 p11 p7 p8 p9 p10 p12 p13 h0 n0) := by
  refine own_body (plainFor_of_name pn_3) (L0 := #[va o0, va o7]) (fun _ => by first | rfl | (simp [entryFrame, mkF, argsToLocals, Value.category]; done)) ?_
  intro p e s m below meth c s₁ hrt hlk hx hby hml hZ hown0 hnm X0 e0
  have hown : s.vm.findClass sC1 = some m.cls := hown0
  have N0 := Fr.nil n0
  have K0 : Keep h0 h0 [] := Keep.refl _ _
  obtain ⟨T1, X1, e1, st1⟩ := getF X0 hx hZ hown (host := "") (Or.inl (ww hw 46 rfl)) Via.refl e0 F_className_o7 (g := (mkF m 2 #[va o0, va o7] [(.ref o7), (.ref o0)])) rfl rfl (hb hby d12_2)
  obtain ⟨T2, X2, e2, st2⟩ := getF X1 hx hZ hown (host := "") (Or.inl (ww hw 48 rfl)) Via.refl e1 F_method_o7 (g := (mkF m 6 #[va o0, va o7] [(.ref o7), (.ref o8), (.ref o0)])) rfl rfl (hb hby d12_6)
  obtain ⟨T3, X3, e3, st3⟩ := getF X2 hx hZ hown (host := "") (Or.inl (ww hw 50 rfl)) Via.refl e2 F_descriptor_o7 (g := (mkF m 10 #[va o0, va o7] [(.ref o7), (.ref o12), (.ref o8), (.ref o0)])) rfl rfl (hb hby d12_10)
  obtain ⟨cq4, qa4, qb4⟩ := E_o0.cell
  obtain ⟨_, _, ⟨T4, L4, k4, n4⟩, -, X4, ⟨Lc4, hQ4, l4, y4, z4⟩, st4⟩ := X3.privateBack hx (y := My13) hown (mvT hZ (ww hw 69 rfl)) (mvT hZ (ww hw 70 rfl)) (own_selp (by decide) (mvT hZ (ww hw 1 rfl)) (mvP hZ (ww hw 71 rfl)) (mvT hZ (ww hw 70 rfl))) (Cond.privateMethod_at (mvP hZ (ww hw 71 rfl) (args := #[]))) (mvT hZ (ww hw 72 rfl)) (by decide) (backOf (W := 0) (rm13_6 l Z a0 hw [] z_COMPACT_STRINGS o0 o1 o2 o3 o4 o5 o6 o8 o9 o12 o13 o10 o11 kk_o2 kk_o4 kk_o6 kk_o9 kk_o13 kk_o11 p4 p0 p1 p2 p3 p5 p6 p7 p8 p12 p13 p9 p10 h0 n0 O0 S F_className_o0 E_o1 F_coder_o1 F_value_o1 V_o2 E_o8 F_coder_o8 F_value_o8 V_o9 ne_o1_o8 hc0 hc1) hZ (ww hw 72 rfl) (ww hw 2 rfl) (by decide) (by decide)) (g := (mkF m 13 #[va o0, va o7] [(.ref o10), (.ref o12), (.ref o8), (.ref o0)])) rfl (by rw [hml]; rfl) (Steps.refl _) (a := o0) (by rw [e3]; exact qa4) qb4 (argsL := [(.ref o8), (.ref o12), (.ref o10)]) (rest := []) (lenOf pd_11 rfl) rfl (by show 2 * 0 + _ ≤ _; exact Nat.le_of_eq rfl) (hb hby d12_13) (fun _ _ => ⟨rfl, e3, (by decide : 0 + 0 ≤ _), (by decide : 0 + 0 ≤ _)⟩)
  dsimp only [Pt.U, Pt.locs, Pt.cells, Pt.slots] at X4 l4 y4 z4 st4 hQ4
  subst l4 y4 z4
  obtain ⟨rfl, Nq4, e4⟩ := hQ4
  have N4 := Fr.app N0 Nq4
  obtain ⟨fs, hr, hrun, hended, hW, hsame⟩ := X4.leave (v := (some (.int 0))) (fun h => by rw [hrt] at h; cases h)
  refine ⟨_, _, ?_, hrun, hended, _, _, rfl, ?_, ⟨_, rfl⟩, hW, hsame.mono (by decide) (by decide)⟩
  · show Steps p.tables e below (s₁.setTop (mkF m 0 #[va o0, va o7] [])) _
    refine XS.aloadN X0.here hx rfl (hb hby d12_0) rfl rfl ?_
    refine XS.aloadN X0.here hx rfl (hb hby d12_1) rfl rfl ?_
    refine st1 _ ?_
    refine XS.aloadN X1.here hx rfl (hb hby d12_5) rfl rfl ?_
    refine st2 _ ?_
    refine XS.aloadN X2.here hx rfl (hb hby d12_9) rfl rfl ?_
    refine st3 _ ?_
    refine st4.trans ?_
    show Steps p.tables e below (T4.setTop (mkF m 16 #[va o0, va o7] [(.int 0)])) _
    exact retN X4 hx (t := .boolean) hrt (by simp) (hb hby d12_16) hr
  · show Q12_6 Z z_COMPACT_STRINGS o0 o1 o2 o3 o4 o5 o6 o7 o8 o9 o10 o11 o12 o13 kk_o2 kk_o4 kk_o6 kk_o9 kk_o11 kk_o13 p4 p0 p1 p2 p3 p5 p6 p11 p7 p8 p9 p10 p12 p13 h0 n0 (some (.int 0)) T4.heap _
    exact (⟨rfl, N4, e4⟩)
def Q11_9 (Z : State) (z_COMPACT_STRINGS : Int32) (o0 : Addr) (o1 : Addr) (o2 : Addr) (o3 : Addr) (o4 : Addr) (o5 : Addr) (o6 : Addr) (o7 : Addr) (o8 : Addr) (o9 : Addr) (o10 : Addr) (o11 : Addr) (o12 : Addr) (o13 : Addr) (kk_o2 : ClassId) (kk_o4 : ClassId) (kk_o6 : ClassId) (kk_o9 : ClassId) (kk_o11 : ClassId) (kk_o13 : ClassId) (p4 : Int32) (p0 : Int32) (p1 : Int32) (p2 : Int32) (p3 : Int32) (p5 : Int32) (p6 : Int32) (p11 : Int32) (p7 : Int32) (p8 : Int32) (p9 : Int32) (p10 : Int32) (p12 : Int32) (p13 : Int32) (h0 : Heap) (n0 : Nat) (v : Option Value) (h : Heap) (L : List Loc) : Prop := v = (some (.int 0)) ∧ Fr n0 L ∧ h = h0
theorem rm11_9 (l : Launch) (Z : State) (a0 : Array Value) (hw : HW Z a0) (ws : List Jvm.Cond) (z_COMPACT_STRINGS : Int32) (o0 : Addr) (o1 : Addr) (o2 : Addr) (o3 : Addr) (o4 : Addr) (o5 : Addr) (o6 : Addr) (o7 : Addr) (o8 : Addr) (o9 : Addr) (o10 : Addr) (o11 : Addr) (o12 : Addr) (o13 : Addr) (kk_o2 : ClassId) (kk_o4 : ClassId) (kk_o6 : ClassId) (kk_o9 : ClassId) (kk_o11 : ClassId) (kk_o13 : ClassId) (p4 : Int32) (p0 : Int32) (p1 : Int32) (p2 : Int32) (p3 : Int32) (p5 : Int32) (p6 : Int32) (p11 : Int32) (p7 : Int32) (p8 : Int32) (p9 : Int32) (p10 : Int32) (p12 : Int32) (p13 : Int32) (h0 : Heap) (n0 : Nat) (O0 : Old Z n0 h0) (S : SF Z z_COMPACT_STRINGS) (E_o0 : Exa Z h0 o0 sC1) (F_className_o0 : Fld Z h0 o0 sC1 "className" "Ljava/lang/String;" (.ref o1)) (F_instruction_o0 : Fld Z h0 o0 sC1 "instruction" "I" (.int p4)) (E_o1 : Exa Z h0 o1 sC0) (F_coder_o1 : Fld Z h0 o1 sC0 "coder" "B" (.int 0)) (F_value_o1 : Fld Z h0 o1 sC0 "value" "[B" (.ref o2)) (V_o2 : Arv Z h0 o2 kk_o2 .byte (2 : Int32) [(.int p0), (.int p1)] (.int 0)) (E_o7 : Exa Z h0 o7 sC1) (F_className_o7 : Fld Z h0 o7 sC1 "className" "Ljava/lang/String;" (.ref o8)) (F_descriptor_o7 : Fld Z h0 o7 sC1 "descriptor" "Ljava/lang/String;" (.ref o10)) (F_instruction_o7 : Fld Z h0 o7 sC1 "instruction" "I" (.int p11)) (F_method_o7 : Fld Z h0 o7 sC1 "method" "Ljava/lang/String;" (.ref o12)) (E_o8 : Exa Z h0 o8 sC0) (F_coder_o8 : Fld Z h0 o8 sC0 "coder" "B" (.int 0)) (F_value_o8 : Fld Z h0 o8 sC0 "value" "[B" (.ref o9)) (V_o9 : Arv Z h0 o9 kk_o9 .byte (2 : Int32) [(.int p7), (.int p8)] (.int 0)) (ne_o1_o8 : o1 ≠ o8) (hc0 : p4 = p11) (hc1 : p0 = p7) (hc2 : ¬ (p1 = p8)) :
    Pay l Z My11 ws prog_3_method_6_code 3 (some .boolean) #[(.ref o0), (.ref o7)] h0 ({ frames := 4, cells := 0, slots := 0, locals := 56 } : Room) (Q11_9 Z z_COMPACT_STRINGS o0 o1 o2 o3 o4 o5 o6 o7 o8 o9 o10 o11 o12 o13 kk_o2 kk_o4 kk_o6 kk_o9 kk_o11 kk_o13 p4 p0 p1 p2 p3 p5 p6 p11 p7 p8 p9 p10 p12 p13 h0 n0) := by
  refine own_body (plainFor_of_name pn_3) (L0 := #[va o0, va o7, uu]) (fun _ => by first | rfl | (simp [entryFrame, mkF, argsToLocals, Value.category]; done)) ?_
  intro p e s m below meth c s₁ hrt hlk hx hby hml hZ hown0 hnm X0 e0
  have hown : s.vm.findClass sC1 = some m.cls := hown0
  have N0 := Fr.nil n0
  have K0 : Keep h0 h0 [] := Keep.refl _ _
  obtain ⟨T1, X1, e1, st1⟩ := instY X0 hx hZ hown (ww hw 63 rfl) e0 (Ins.self E_o7) (g := (mkF m 1 #[va o0, va o7, uu] [(.ref o7)])) rfl rfl (hb hby d11_1)
  obtain ⟨T2, X2, e2, st2⟩ := castY X1 hx hZ hown (ww hw 63 rfl) e1 (Ins.self E_o7) (g := (mkF m 8 #[va o0, va o7, uu] [(.ref o7)])) rfl rfl (hb hby d11_8)
  obtain ⟨T3, X3, e3, st3⟩ := getF X2 hx hZ hown (host := "") (Or.inl (ww hw 52 rfl)) Via.refl e2 F_instruction_o0 (g := (mkF m 13 #[va o0, va o7, va o7] [(.ref o0)])) rfl rfl (hb hby d11_13)
  obtain ⟨T4, X4, e4, st4⟩ := getF X3 hx hZ hown (host := "") (Or.inl (ww hw 52 rfl)) Via.refl e3 F_instruction_o7 (g := (mkF m 17 #[va o0, va o7, va o7] [(.ref o7), (.int p4)])) rfl rfl (hb hby d11_17)
  obtain ⟨cq5, qa5, qb5⟩ := E_o0.cell
  obtain ⟨_, _, ⟨T5, L5, k5, n5⟩, -, X5, ⟨Lc5, hQ5, l5, y5, z5⟩, st5⟩ := X4.privateBack hx (y := My12) hown (mvT hZ (ww hw 65 rfl)) (mvT hZ (ww hw 66 rfl)) (own_selp (by decide) (mvT hZ (ww hw 1 rfl)) (mvP hZ (ww hw 67 rfl)) (mvT hZ (ww hw 66 rfl))) (Cond.privateMethod_at (mvP hZ (ww hw 67 rfl) (args := #[]))) (mvT hZ (ww hw 68 rfl)) (by decide) (backOf (W := 0) (rm12_6 l Z a0 hw [] z_COMPACT_STRINGS o0 o1 o2 o3 o4 o5 o6 o7 o8 o9 o10 o11 o12 o13 kk_o2 kk_o4 kk_o6 kk_o9 kk_o11 kk_o13 p4 p0 p1 p2 p3 p5 p6 p11 p7 p8 p9 p10 p12 p13 h0 n0 O0 S E_o0 F_className_o0 E_o1 F_coder_o1 F_value_o1 V_o2 F_className_o7 F_descriptor_o7 F_method_o7 E_o8 F_coder_o8 F_value_o8 V_o9 ne_o1_o8 hc1 hc2) hZ (ww hw 68 rfl) (ww hw 2 rfl) (by decide) (by decide)) (g := (mkF m 25 #[va o0, va o7, va o7] [(.ref o7), (.ref o0)])) rfl (by rw [hml]; rfl) (Steps.refl _) (a := o0) (by rw [e4]; exact qa5) qb5 (argsL := [(.ref o7)]) (rest := []) (lenOf pd_12 rfl) rfl (by show 2 * 0 + _ ≤ _; exact Nat.le_of_eq rfl) (hb hby d11_25) (fun _ _ => ⟨rfl, e4, (by decide : 0 + 0 ≤ _), (by decide : 0 + 0 ≤ _)⟩)
  dsimp only [Pt.U, Pt.locs, Pt.cells, Pt.slots] at X5 l5 y5 z5 st5 hQ5
  subst l5 y5 z5
  obtain ⟨rfl, Nq5, e5⟩ := hQ5
  have N5 := Fr.app N0 Nq5
  obtain ⟨fs, hr, hrun, hended, hW, hsame⟩ := X5.leave (v := (some (.int 0))) (fun h => by rw [hrt] at h; cases h)
  refine ⟨_, _, ?_, hrun, hended, _, _, rfl, ?_, ⟨_, rfl⟩, hW, hsame.mono (by decide) (by decide)⟩
  · show Steps p.tables e below (s₁.setTop (mkF m 0 #[va o0, va o7, uu] [])) _
    refine XS.aloadN X0.here hx rfl (hb hby d11_0) rfl rfl ?_
    refine st1 _ ?_
    refine XS.ifNo X1.here hx rfl (hb hby d11_4) rfl ((if0 _ _).trans (feq (by decide : ¬ ((1 : Int32) = (0 : Int32)))).1) ?_
    refine XS.aloadN X1.here hx rfl (hb hby d11_7) rfl rfl ?_
    refine st2 _ ?_
    refine XS.astoreN X2.here hx rfl (hb hby d11_11) rfl rfl (l' := #[va o0, va o7, va o7]) rfl ?_
    refine XS.aloadN X2.here hx rfl (hb hby d11_12) rfl rfl ?_
    refine st3 _ ?_
    show Steps p.tables e below (T3.setTop (mkF m 16 #[va o0, va o7, va o7] [(.int p4)])) _
    refine XS.aloadN X3.here hx rfl (hb hby d11_16) rfl rfl ?_
    refine st4 _ ?_
    refine XS.icmpNo X4.here hx rfl (hb hby d11_20) rfl (teq hc0).2 ?_
    refine XS.aloadN X4.here hx rfl (hb hby d11_23) rfl rfl ?_
    refine XS.aloadN X4.here hx rfl (hb hby d11_24) rfl rfl ?_
    refine st5.trans ?_
    refine XS.ifYes X5.here hx rfl (pc0 := 28) (pc' := 35) rfl (hb hby d11_28) rfl ((if0 _ _).trans (teq (by decide : (0 : Int32) = (0 : Int32))).1) (by decide) (by decide) ?_
    refine XS.iconst X5.here hx rfl (hb hby d11_35) ?_
    show Steps p.tables e below (T5.setTop (mkF m 36 #[va o0, va o7, va o7] [(.int 0)])) _
    exact retN X5 hx (t := .boolean) hrt (by simp) (hb hby d11_36) hr
  · show Q11_9 Z z_COMPACT_STRINGS o0 o1 o2 o3 o4 o5 o6 o7 o8 o9 o10 o11 o12 o13 kk_o2 kk_o4 kk_o6 kk_o9 kk_o11 kk_o13 p4 p0 p1 p2 p3 p5 p6 p11 p7 p8 p9 p10 p12 p13 h0 n0 (some (.int 0)) T5.heap _
    exact (⟨rfl, N5, e5⟩)
def Q13_7 (Z : State) (z_COMPACT_STRINGS : Int32) (o0 : Addr) (o1 : Addr) (o2 : Addr) (o3 : Addr) (o4 : Addr) (o5 : Addr) (o6 : Addr) (o7 : Addr) (o8 : Addr) (o9 : Addr) (o10 : Addr) (o11 : Addr) (o12 : Addr) (kk_o2 : ClassId) (kk_o4 : ClassId) (kk_o6 : ClassId) (kk_o8 : ClassId) (kk_o10 : ClassId) (kk_o12 : ClassId) (p4 : Int32) (p0 : Int32) (p1 : Int32) (p2 : Int32) (p3 : Int32) (p5 : Int32) (p6 : Int32) (p7 : Int32) (p8 : Int32) (p9 : Int32) (p10 : Int32) (p11 : Int32) (p12 : Int32) (h0 : Heap) (n0 : Nat) (v : Option Value) (h : Heap) (L : List Loc) : Prop := v = (some (.int 0)) ∧ Fr n0 L ∧ h = h0
theorem rm13_7 (l : Launch) (Z : State) (a0 : Array Value) (hw : HW Z a0) (ws : List Jvm.Cond) (z_COMPACT_STRINGS : Int32) (o0 : Addr) (o1 : Addr) (o2 : Addr) (o3 : Addr) (o4 : Addr) (o5 : Addr) (o6 : Addr) (o7 : Addr) (o8 : Addr) (o9 : Addr) (o10 : Addr) (o11 : Addr) (o12 : Addr) (kk_o2 : ClassId) (kk_o4 : ClassId) (kk_o6 : ClassId) (kk_o8 : ClassId) (kk_o10 : ClassId) (kk_o12 : ClassId) (p4 : Int32) (p0 : Int32) (p1 : Int32) (p2 : Int32) (p3 : Int32) (p5 : Int32) (p6 : Int32) (p7 : Int32) (p8 : Int32) (p9 : Int32) (p10 : Int32) (p11 : Int32) (p12 : Int32) (h0 : Heap) (n0 : Nat) (O0 : Old Z n0 h0) (S : SF Z z_COMPACT_STRINGS) (F_className_o0 : Fld Z h0 o0 sC1 "className" "Ljava/lang/String;" (.ref o1)) (E_o1 : Exa Z h0 o1 sC0) (F_coder_o1 : Fld Z h0 o1 sC0 "coder" "B" (.int 0)) (F_value_o1 : Fld Z h0 o1 sC0 "value" "[B" (.ref o2)) (V_o2 : Arv Z h0 o2 kk_o2 .byte (2 : Int32) [(.int p0), (.int p1)] (.int 0)) (E_o7 : Exa Z h0 o7 sC0) (F_coder_o7 : Fld Z h0 o7 sC0 "coder" "B" (.int 0)) (F_value_o7 : Fld Z h0 o7 sC0 "value" "[B" (.ref o8)) (V_o8 : Arv Z h0 o8 kk_o8 .byte (2 : Int32) [(.int p7), (.int p8)] (.int 0)) (ne_o1_o7 : o1 ≠ o7) (hc0 : ¬ (p0 = p7)) :
    Pay l Z My13 ws prog_3_method_5_code 4 (some .boolean) #[(.ref o0), (.ref o7), (.ref o9), (.ref o11)] h0 ({ frames := 2, cells := 0, slots := 0, locals := 28 } : Room) (Q13_7 Z z_COMPACT_STRINGS o0 o1 o2 o3 o4 o5 o6 o7 o8 o9 o10 o11 o12 kk_o2 kk_o4 kk_o6 kk_o8 kk_o10 kk_o12 p4 p0 p1 p2 p3 p5 p6 p7 p8 p9 p10 p11 p12 h0 n0) := by
  refine own_body (plainFor_of_name pn_3) (L0 := #[va o0, va o7, va o9, va o11]) (fun _ => by first | rfl | (simp [entryFrame, mkF, argsToLocals, Value.category]; done)) ?_
  intro p e s m below meth c s₁ hrt hlk hx hby hml hZ hown0 hnm X0 e0
  have hown : s.vm.findClass sC1 = some m.cls := hown0
  have N0 := Fr.nil n0
  have K0 : Keep h0 h0 [] := Keep.refl _ _
  obtain ⟨T1, X1, e1, st1⟩ := getF X0 hx hZ hown (host := "") (Or.inl (ww hw 46 rfl)) Via.refl e0 F_className_o0 (g := (mkF m 1 #[va o0, va o7, va o9, va o11] [(.ref o0)])) rfl rfl (hb hby d13_1)
  obtain ⟨cq2, kq2, q2a, q2b, q2c⟩ := isOf hZ e1 E_o1
  obtain ⟨_, _, ⟨T2, L2, k2, n2⟩, -, X2, ⟨Lc2, hQ2, l2, y2, z2⟩, st2⟩ := X1.virtualBack hx (y := My14) (z := My14) hown (mvT hZ (ww hw 73 rfl)) (mvT hZ (ww hw 74 rfl)) (notFace_of_selects (args := #[]) (mvT hZ (ww hw 76 rfl))) (mvT hZ (ww hw 76 rfl)) (mvT hZ (ww hw 75 rfl)) (by decide) (backOf (W := 0) (rm14_2 l Z a0 hw [] z_COMPACT_STRINGS o1 o2 o7 o8 kk_o2 kk_o8 p0 p1 p7 p8 h0 n0 O0 S F_coder_o1 F_value_o1 V_o2 E_o7 F_coder_o7 F_value_o7 V_o8 ne_o1_o7 hc0) hZ (ww hw 77 rfl) (ww hw 10 rfl) (by decide) (by decide)) q2a q2c (g := (mkF m 5 #[va o0, va o7, va o9, va o11] [(.ref o7), (.ref o1)])) rfl (by rw [hml]; rfl) (Steps.refl _) (argsL := [(.ref o7)]) (rest := []) (lenOf pd_10 rfl) rfl (by show 2 * 0 + _ ≤ _; exact Nat.le_of_eq rfl) (hb hby d13_5) (fun _ _ => ⟨rfl, e1, (by decide : 0 + 0 ≤ _), (by decide : 0 + 0 ≤ _)⟩)
  dsimp only [Pt.U, Pt.locs, Pt.cells, Pt.slots] at X2 l2 y2 z2 st2 hQ2
  subst l2 y2 z2
  obtain ⟨rfl, Nq2, e2⟩ := hQ2
  have N2 := Fr.app N0 Nq2
  obtain ⟨fs, hr, hrun, hended, hW, hsame⟩ := X2.leave (v := (some (.int 0))) (fun h => by rw [hrt] at h; cases h)
  refine ⟨_, _, ?_, hrun, hended, _, _, rfl, ?_, ⟨_, rfl⟩, hW, hsame.mono (by decide) (by decide)⟩
  · show Steps p.tables e below (s₁.setTop (mkF m 0 #[va o0, va o7, va o9, va o11] [])) _
    refine XS.aloadN X0.here hx rfl (hb hby d13_0) rfl rfl ?_
    refine st1 _ ?_
    refine XS.aloadN X1.here hx rfl (hb hby d13_4) rfl rfl ?_
    refine st2.trans ?_
    refine XS.ifYes X2.here hx rfl (pc0 := 8) (pc' := 37) rfl (hb hby d13_8) rfl ((if0 _ _).trans (teq (by decide : (0 : Int32) = (0 : Int32))).1) (by decide) (by decide) ?_
    refine XS.iconst X2.here hx rfl (hb hby d13_37) ?_
    exact retN X2 hx (t := .boolean) hrt (by simp) (hb hby d13_38) hr
  · show Q13_7 Z z_COMPACT_STRINGS o0 o1 o2 o3 o4 o5 o6 o7 o8 o9 o10 o11 o12 kk_o2 kk_o4 kk_o6 kk_o8 kk_o10 kk_o12 p4 p0 p1 p2 p3 p5 p6 p7 p8 p9 p10 p11 p12 h0 n0 (some (.int 0)) T2.heap _
    exact (⟨rfl, N2, e2⟩)
def Q12_7 (Z : State) (z_COMPACT_STRINGS : Int32) (o0 : Addr) (o1 : Addr) (o2 : Addr) (o3 : Addr) (o4 : Addr) (o5 : Addr) (o6 : Addr) (o7 : Addr) (o8 : Addr) (o9 : Addr) (o10 : Addr) (o11 : Addr) (o12 : Addr) (o13 : Addr) (kk_o2 : ClassId) (kk_o4 : ClassId) (kk_o6 : ClassId) (kk_o9 : ClassId) (kk_o11 : ClassId) (kk_o13 : ClassId) (p4 : Int32) (p0 : Int32) (p1 : Int32) (p2 : Int32) (p3 : Int32) (p5 : Int32) (p6 : Int32) (p11 : Int32) (p7 : Int32) (p8 : Int32) (p9 : Int32) (p10 : Int32) (p12 : Int32) (p13 : Int32) (h0 : Heap) (n0 : Nat) (v : Option Value) (h : Heap) (L : List Loc) : Prop := v = (some (.int 0)) ∧ Fr n0 L ∧ h = h0
theorem rm12_7 (l : Launch) (Z : State) (a0 : Array Value) (hw : HW Z a0) (ws : List Jvm.Cond) (z_COMPACT_STRINGS : Int32) (o0 : Addr) (o1 : Addr) (o2 : Addr) (o3 : Addr) (o4 : Addr) (o5 : Addr) (o6 : Addr) (o7 : Addr) (o8 : Addr) (o9 : Addr) (o10 : Addr) (o11 : Addr) (o12 : Addr) (o13 : Addr) (kk_o2 : ClassId) (kk_o4 : ClassId) (kk_o6 : ClassId) (kk_o9 : ClassId) (kk_o11 : ClassId) (kk_o13 : ClassId) (p4 : Int32) (p0 : Int32) (p1 : Int32) (p2 : Int32) (p3 : Int32) (p5 : Int32) (p6 : Int32) (p11 : Int32) (p7 : Int32) (p8 : Int32) (p9 : Int32) (p10 : Int32) (p12 : Int32) (p13 : Int32) (h0 : Heap) (n0 : Nat) (O0 : Old Z n0 h0) (S : SF Z z_COMPACT_STRINGS) (E_o0 : Exa Z h0 o0 sC1) (F_className_o0 : Fld Z h0 o0 sC1 "className" "Ljava/lang/String;" (.ref o1)) (E_o1 : Exa Z h0 o1 sC0) (F_coder_o1 : Fld Z h0 o1 sC0 "coder" "B" (.int 0)) (F_value_o1 : Fld Z h0 o1 sC0 "value" "[B" (.ref o2)) (V_o2 : Arv Z h0 o2 kk_o2 .byte (2 : Int32) [(.int p0), (.int p1)] (.int 0)) (F_className_o7 : Fld Z h0 o7 sC1 "className" "Ljava/lang/String;" (.ref o8)) (F_descriptor_o7 : Fld Z h0 o7 sC1 "descriptor" "Ljava/lang/String;" (.ref o10)) (F_method_o7 : Fld Z h0 o7 sC1 "method" "Ljava/lang/String;" (.ref o12)) (E_o8 : Exa Z h0 o8 sC0) (F_coder_o8 : Fld Z h0 o8 sC0 "coder" "B" (.int 0)) (F_value_o8 : Fld Z h0 o8 sC0 "value" "[B" (.ref o9)) (V_o9 : Arv Z h0 o9 kk_o9 .byte (2 : Int32) [(.int p7), (.int p8)] (.int 0)) (ne_o1_o8 : o1 ≠ o8) (hc0 : ¬ (p0 = p7)) :
    Pay l Z My12 ws prog_3_method_4_code 2 (some .boolean) #[(.ref o0), (.ref o7)] h0 ({ frames := 3, cells := 0, slots := 0, locals := 43 } : Room) (Q12_7 Z z_COMPACT_STRINGS o0 o1 o2 o3 o4 o5 o6 o7 o8 o9 o10 o11 o12 o13 kk_o2 kk_o4 kk_o6 kk_o9 kk_o11 kk_o13 p4 p0 p1 p2 p3 p5 p6 p11 p7 p8 p9 p10 p12 p13 h0 n0) := by
  refine own_body (plainFor_of_name pn_3) (L0 := #[va o0, va o7]) (fun _ => by first | rfl | (simp [entryFrame, mkF, argsToLocals, Value.category]; done)) ?_
  intro p e s m below meth c s₁ hrt hlk hx hby hml hZ hown0 hnm X0 e0
  have hown : s.vm.findClass sC1 = some m.cls := hown0
  have N0 := Fr.nil n0
  have K0 : Keep h0 h0 [] := Keep.refl _ _
  obtain ⟨T1, X1, e1, st1⟩ := getF X0 hx hZ hown (host := "") (Or.inl (ww hw 46 rfl)) Via.refl e0 F_className_o7 (g := (mkF m 2 #[va o0, va o7] [(.ref o7), (.ref o0)])) rfl rfl (hb hby d12_2)
  obtain ⟨T2, X2, e2, st2⟩ := getF X1 hx hZ hown (host := "") (Or.inl (ww hw 48 rfl)) Via.refl e1 F_method_o7 (g := (mkF m 6 #[va o0, va o7] [(.ref o7), (.ref o8), (.ref o0)])) rfl rfl (hb hby d12_6)
  obtain ⟨T3, X3, e3, st3⟩ := getF X2 hx hZ hown (host := "") (Or.inl (ww hw 50 rfl)) Via.refl e2 F_descriptor_o7 (g := (mkF m 10 #[va o0, va o7] [(.ref o7), (.ref o12), (.ref o8), (.ref o0)])) rfl rfl (hb hby d12_10)
  obtain ⟨cq4, qa4, qb4⟩ := E_o0.cell
  obtain ⟨_, _, ⟨T4, L4, k4, n4⟩, -, X4, ⟨Lc4, hQ4, l4, y4, z4⟩, st4⟩ := X3.privateBack hx (y := My13) hown (mvT hZ (ww hw 69 rfl)) (mvT hZ (ww hw 70 rfl)) (own_selp (by decide) (mvT hZ (ww hw 1 rfl)) (mvP hZ (ww hw 71 rfl)) (mvT hZ (ww hw 70 rfl))) (Cond.privateMethod_at (mvP hZ (ww hw 71 rfl) (args := #[]))) (mvT hZ (ww hw 72 rfl)) (by decide) (backOf (W := 0) (rm13_7 l Z a0 hw [] z_COMPACT_STRINGS o0 o1 o2 o3 o4 o5 o6 o8 o9 o12 o13 o10 o11 kk_o2 kk_o4 kk_o6 kk_o9 kk_o13 kk_o11 p4 p0 p1 p2 p3 p5 p6 p7 p8 p12 p13 p9 p10 h0 n0 O0 S F_className_o0 E_o1 F_coder_o1 F_value_o1 V_o2 E_o8 F_coder_o8 F_value_o8 V_o9 ne_o1_o8 hc0) hZ (ww hw 72 rfl) (ww hw 2 rfl) (by decide) (by decide)) (g := (mkF m 13 #[va o0, va o7] [(.ref o10), (.ref o12), (.ref o8), (.ref o0)])) rfl (by rw [hml]; rfl) (Steps.refl _) (a := o0) (by rw [e3]; exact qa4) qb4 (argsL := [(.ref o8), (.ref o12), (.ref o10)]) (rest := []) (lenOf pd_11 rfl) rfl (by show 2 * 0 + _ ≤ _; exact Nat.le_of_eq rfl) (hb hby d12_13) (fun _ _ => ⟨rfl, e3, (by decide : 0 + 0 ≤ _), (by decide : 0 + 0 ≤ _)⟩)
  dsimp only [Pt.U, Pt.locs, Pt.cells, Pt.slots] at X4 l4 y4 z4 st4 hQ4
  subst l4 y4 z4
  obtain ⟨rfl, Nq4, e4⟩ := hQ4
  have N4 := Fr.app N0 Nq4
  obtain ⟨fs, hr, hrun, hended, hW, hsame⟩ := X4.leave (v := (some (.int 0))) (fun h => by rw [hrt] at h; cases h)
  refine ⟨_, _, ?_, hrun, hended, _, _, rfl, ?_, ⟨_, rfl⟩, hW, hsame.mono (by decide) (by decide)⟩
  · show Steps p.tables e below (s₁.setTop (mkF m 0 #[va o0, va o7] [])) _
    refine XS.aloadN X0.here hx rfl (hb hby d12_0) rfl rfl ?_
    refine XS.aloadN X0.here hx rfl (hb hby d12_1) rfl rfl ?_
    refine st1 _ ?_
    refine XS.aloadN X1.here hx rfl (hb hby d12_5) rfl rfl ?_
    refine st2 _ ?_
    refine XS.aloadN X2.here hx rfl (hb hby d12_9) rfl rfl ?_
    refine st3 _ ?_
    refine st4.trans ?_
    show Steps p.tables e below (T4.setTop (mkF m 16 #[va o0, va o7] [(.int 0)])) _
    exact retN X4 hx (t := .boolean) hrt (by simp) (hb hby d12_16) hr
  · show Q12_7 Z z_COMPACT_STRINGS o0 o1 o2 o3 o4 o5 o6 o7 o8 o9 o10 o11 o12 o13 kk_o2 kk_o4 kk_o6 kk_o9 kk_o11 kk_o13 p4 p0 p1 p2 p3 p5 p6 p11 p7 p8 p9 p10 p12 p13 h0 n0 (some (.int 0)) T4.heap _
    exact (⟨rfl, N4, e4⟩)
def Q11_10 (Z : State) (z_COMPACT_STRINGS : Int32) (o0 : Addr) (o1 : Addr) (o2 : Addr) (o3 : Addr) (o4 : Addr) (o5 : Addr) (o6 : Addr) (o7 : Addr) (o8 : Addr) (o9 : Addr) (o10 : Addr) (o11 : Addr) (o12 : Addr) (o13 : Addr) (kk_o2 : ClassId) (kk_o4 : ClassId) (kk_o6 : ClassId) (kk_o9 : ClassId) (kk_o11 : ClassId) (kk_o13 : ClassId) (p4 : Int32) (p0 : Int32) (p1 : Int32) (p2 : Int32) (p3 : Int32) (p5 : Int32) (p6 : Int32) (p11 : Int32) (p7 : Int32) (p8 : Int32) (p9 : Int32) (p10 : Int32) (p12 : Int32) (p13 : Int32) (h0 : Heap) (n0 : Nat) (v : Option Value) (h : Heap) (L : List Loc) : Prop := v = (some (.int 0)) ∧ Fr n0 L ∧ h = h0
theorem rm11_10 (l : Launch) (Z : State) (a0 : Array Value) (hw : HW Z a0) (ws : List Jvm.Cond) (z_COMPACT_STRINGS : Int32) (o0 : Addr) (o1 : Addr) (o2 : Addr) (o3 : Addr) (o4 : Addr) (o5 : Addr) (o6 : Addr) (o7 : Addr) (o8 : Addr) (o9 : Addr) (o10 : Addr) (o11 : Addr) (o12 : Addr) (o13 : Addr) (kk_o2 : ClassId) (kk_o4 : ClassId) (kk_o6 : ClassId) (kk_o9 : ClassId) (kk_o11 : ClassId) (kk_o13 : ClassId) (p4 : Int32) (p0 : Int32) (p1 : Int32) (p2 : Int32) (p3 : Int32) (p5 : Int32) (p6 : Int32) (p11 : Int32) (p7 : Int32) (p8 : Int32) (p9 : Int32) (p10 : Int32) (p12 : Int32) (p13 : Int32) (h0 : Heap) (n0 : Nat) (O0 : Old Z n0 h0) (S : SF Z z_COMPACT_STRINGS) (E_o0 : Exa Z h0 o0 sC1) (F_className_o0 : Fld Z h0 o0 sC1 "className" "Ljava/lang/String;" (.ref o1)) (F_instruction_o0 : Fld Z h0 o0 sC1 "instruction" "I" (.int p4)) (E_o1 : Exa Z h0 o1 sC0) (F_coder_o1 : Fld Z h0 o1 sC0 "coder" "B" (.int 0)) (F_value_o1 : Fld Z h0 o1 sC0 "value" "[B" (.ref o2)) (V_o2 : Arv Z h0 o2 kk_o2 .byte (2 : Int32) [(.int p0), (.int p1)] (.int 0)) (E_o7 : Exa Z h0 o7 sC1) (F_className_o7 : Fld Z h0 o7 sC1 "className" "Ljava/lang/String;" (.ref o8)) (F_descriptor_o7 : Fld Z h0 o7 sC1 "descriptor" "Ljava/lang/String;" (.ref o10)) (F_instruction_o7 : Fld Z h0 o7 sC1 "instruction" "I" (.int p11)) (F_method_o7 : Fld Z h0 o7 sC1 "method" "Ljava/lang/String;" (.ref o12)) (E_o8 : Exa Z h0 o8 sC0) (F_coder_o8 : Fld Z h0 o8 sC0 "coder" "B" (.int 0)) (F_value_o8 : Fld Z h0 o8 sC0 "value" "[B" (.ref o9)) (V_o9 : Arv Z h0 o9 kk_o9 .byte (2 : Int32) [(.int p7), (.int p8)] (.int 0)) (ne_o1_o8 : o1 ≠ o8) (hc0 : p4 = p11) (hc1 : ¬ (p0 = p7)) :
    Pay l Z My11 ws prog_3_method_6_code 3 (some .boolean) #[(.ref o0), (.ref o7)] h0 ({ frames := 4, cells := 0, slots := 0, locals := 56 } : Room) (Q11_10 Z z_COMPACT_STRINGS o0 o1 o2 o3 o4 o5 o6 o7 o8 o9 o10 o11 o12 o13 kk_o2 kk_o4 kk_o6 kk_o9 kk_o11 kk_o13 p4 p0 p1 p2 p3 p5 p6 p11 p7 p8 p9 p10 p12 p13 h0 n0) := by
  refine own_body (plainFor_of_name pn_3) (L0 := #[va o0, va o7, uu]) (fun _ => by first | rfl | (simp [entryFrame, mkF, argsToLocals, Value.category]; done)) ?_
  intro p e s m below meth c s₁ hrt hlk hx hby hml hZ hown0 hnm X0 e0
  have hown : s.vm.findClass sC1 = some m.cls := hown0
  have N0 := Fr.nil n0
  have K0 : Keep h0 h0 [] := Keep.refl _ _
  obtain ⟨T1, X1, e1, st1⟩ := instY X0 hx hZ hown (ww hw 63 rfl) e0 (Ins.self E_o7) (g := (mkF m 1 #[va o0, va o7, uu] [(.ref o7)])) rfl rfl (hb hby d11_1)
  obtain ⟨T2, X2, e2, st2⟩ := castY X1 hx hZ hown (ww hw 63 rfl) e1 (Ins.self E_o7) (g := (mkF m 8 #[va o0, va o7, uu] [(.ref o7)])) rfl rfl (hb hby d11_8)
  obtain ⟨T3, X3, e3, st3⟩ := getF X2 hx hZ hown (host := "") (Or.inl (ww hw 52 rfl)) Via.refl e2 F_instruction_o0 (g := (mkF m 13 #[va o0, va o7, va o7] [(.ref o0)])) rfl rfl (hb hby d11_13)
  obtain ⟨T4, X4, e4, st4⟩ := getF X3 hx hZ hown (host := "") (Or.inl (ww hw 52 rfl)) Via.refl e3 F_instruction_o7 (g := (mkF m 17 #[va o0, va o7, va o7] [(.ref o7), (.int p4)])) rfl rfl (hb hby d11_17)
  obtain ⟨cq5, qa5, qb5⟩ := E_o0.cell
  obtain ⟨_, _, ⟨T5, L5, k5, n5⟩, -, X5, ⟨Lc5, hQ5, l5, y5, z5⟩, st5⟩ := X4.privateBack hx (y := My12) hown (mvT hZ (ww hw 65 rfl)) (mvT hZ (ww hw 66 rfl)) (own_selp (by decide) (mvT hZ (ww hw 1 rfl)) (mvP hZ (ww hw 67 rfl)) (mvT hZ (ww hw 66 rfl))) (Cond.privateMethod_at (mvP hZ (ww hw 67 rfl) (args := #[]))) (mvT hZ (ww hw 68 rfl)) (by decide) (backOf (W := 0) (rm12_7 l Z a0 hw [] z_COMPACT_STRINGS o0 o1 o2 o3 o4 o5 o6 o7 o8 o9 o10 o11 o12 o13 kk_o2 kk_o4 kk_o6 kk_o9 kk_o11 kk_o13 p4 p0 p1 p2 p3 p5 p6 p11 p7 p8 p9 p10 p12 p13 h0 n0 O0 S E_o0 F_className_o0 E_o1 F_coder_o1 F_value_o1 V_o2 F_className_o7 F_descriptor_o7 F_method_o7 E_o8 F_coder_o8 F_value_o8 V_o9 ne_o1_o8 hc1) hZ (ww hw 68 rfl) (ww hw 2 rfl) (by decide) (by decide)) (g := (mkF m 25 #[va o0, va o7, va o7] [(.ref o7), (.ref o0)])) rfl (by rw [hml]; rfl) (Steps.refl _) (a := o0) (by rw [e4]; exact qa5) qb5 (argsL := [(.ref o7)]) (rest := []) (lenOf pd_12 rfl) rfl (by show 2 * 0 + _ ≤ _; exact Nat.le_of_eq rfl) (hb hby d11_25) (fun _ _ => ⟨rfl, e4, (by decide : 0 + 0 ≤ _), (by decide : 0 + 0 ≤ _)⟩)
  dsimp only [Pt.U, Pt.locs, Pt.cells, Pt.slots] at X5 l5 y5 z5 st5 hQ5
  subst l5 y5 z5
  obtain ⟨rfl, Nq5, e5⟩ := hQ5
  have N5 := Fr.app N0 Nq5
  obtain ⟨fs, hr, hrun, hended, hW, hsame⟩ := X5.leave (v := (some (.int 0))) (fun h => by rw [hrt] at h; cases h)
  refine ⟨_, _, ?_, hrun, hended, _, _, rfl, ?_, ⟨_, rfl⟩, hW, hsame.mono (by decide) (by decide)⟩
  · show Steps p.tables e below (s₁.setTop (mkF m 0 #[va o0, va o7, uu] [])) _
    refine XS.aloadN X0.here hx rfl (hb hby d11_0) rfl rfl ?_
    refine st1 _ ?_
    refine XS.ifNo X1.here hx rfl (hb hby d11_4) rfl ((if0 _ _).trans (feq (by decide : ¬ ((1 : Int32) = (0 : Int32)))).1) ?_
    refine XS.aloadN X1.here hx rfl (hb hby d11_7) rfl rfl ?_
    refine st2 _ ?_
    refine XS.astoreN X2.here hx rfl (hb hby d11_11) rfl rfl (l' := #[va o0, va o7, va o7]) rfl ?_
    refine XS.aloadN X2.here hx rfl (hb hby d11_12) rfl rfl ?_
    refine st3 _ ?_
    show Steps p.tables e below (T3.setTop (mkF m 16 #[va o0, va o7, va o7] [(.int p4)])) _
    refine XS.aloadN X3.here hx rfl (hb hby d11_16) rfl rfl ?_
    refine st4 _ ?_
    refine XS.icmpNo X4.here hx rfl (hb hby d11_20) rfl (teq hc0).2 ?_
    refine XS.aloadN X4.here hx rfl (hb hby d11_23) rfl rfl ?_
    refine XS.aloadN X4.here hx rfl (hb hby d11_24) rfl rfl ?_
    refine st5.trans ?_
    refine XS.ifYes X5.here hx rfl (pc0 := 28) (pc' := 35) rfl (hb hby d11_28) rfl ((if0 _ _).trans (teq (by decide : (0 : Int32) = (0 : Int32))).1) (by decide) (by decide) ?_
    refine XS.iconst X5.here hx rfl (hb hby d11_35) ?_
    show Steps p.tables e below (T5.setTop (mkF m 36 #[va o0, va o7, va o7] [(.int 0)])) _
    exact retN X5 hx (t := .boolean) hrt (by simp) (hb hby d11_36) hr
  · show Q11_10 Z z_COMPACT_STRINGS o0 o1 o2 o3 o4 o5 o6 o7 o8 o9 o10 o11 o12 o13 kk_o2 kk_o4 kk_o6 kk_o9 kk_o11 kk_o13 p4 p0 p1 p2 p3 p5 p6 p11 p7 p8 p9 p10 p12 p13 h0 n0 (some (.int 0)) T5.heap _
    exact (⟨rfl, N5, e5⟩)
theorem ow1 (p0 : Int32) : ¬ ((255 : Int32) < (cc (cc (p0 &&& (255 : Int32))))) := by
  rw [Int32.lt_iff_toInt_lt]
  have t1 : ((255 : Int32) : Int32).toInt = 255 := by decide
  have t2a := Int32.toInt_lt p0
  have t2b := Int32.le_toInt p0
  have t3 := Jvm.Kit.i32_mask p0 (255 : Int32) (k := 8) (by decide) (by decide)
  have t4 := own_cc_toInt (p0 &&& (255 : Int32))
  have t5 := own_cc_toInt (cc (p0 &&& (255 : Int32)))
  omega
theorem ow2 (p0 : Int32) (hc2 : ¬ ((255 : Int32) < (cc (cc (p0 &&& (255 : Int32)))))) : ¬ ((255 : Int32) < (cc (cc (((p0.toUInt32 >>> ((8 : Int32) &&& 31).toUInt32).toInt32) &&& (255 : Int32))))) := by
  rw [Int32.lt_iff_toInt_lt] at hc2
  rw [Int32.lt_iff_toInt_lt]
  have t1 : ((255 : Int32) : Int32).toInt = 255 := by decide
  have t2a := Int32.toInt_lt p0
  have t2b := Int32.le_toInt p0
  have t3 := Jvm.Kit.i32_mask p0 (255 : Int32) (k := 8) (by decide) (by decide)
  have t4 := own_cc_toInt (p0 &&& (255 : Int32))
  have t5 := own_cc_toInt (cc (p0 &&& (255 : Int32)))
  have t6 : ((8 : Int32) : Int32).toInt = 8 := by decide
  have t7 := own_ushr8 p0
  have t8 := Jvm.Kit.i32_mask ((p0.toUInt32 >>> ((8 : Int32) &&& 31).toUInt32).toInt32) (255 : Int32) (k := 8) (by decide) (by decide)
  have t9 := own_cc_toInt (((p0.toUInt32 >>> ((8 : Int32) &&& 31).toUInt32).toInt32) &&& (255 : Int32))
  have t10 := own_cc_toInt (cc (((p0.toUInt32 >>> ((8 : Int32) &&& 31).toUInt32).toInt32) &&& (255 : Int32)))
  omega
theorem ow3 (p1 : Int32) : ¬ ((255 : Int32) < (cc (cc (p1 &&& (255 : Int32))))) := by
  rw [Int32.lt_iff_toInt_lt]
  have t1 : ((255 : Int32) : Int32).toInt = 255 := by decide
  have t2a := Int32.toInt_lt p1
  have t2b := Int32.le_toInt p1
  have t3 := Jvm.Kit.i32_mask p1 (255 : Int32) (k := 8) (by decide) (by decide)
  have t4 := own_cc_toInt (p1 &&& (255 : Int32))
  have t5 := own_cc_toInt (cc (p1 &&& (255 : Int32)))
  omega
theorem ow4 (p1 : Int32) (hc5 : ¬ ((255 : Int32) < (cc (cc (p1 &&& (255 : Int32)))))) : ¬ ((255 : Int32) < (cc (cc (((p1.toUInt32 >>> ((8 : Int32) &&& 31).toUInt32).toInt32) &&& (255 : Int32))))) := by
  rw [Int32.lt_iff_toInt_lt] at hc5
  rw [Int32.lt_iff_toInt_lt]
  have t1 : ((255 : Int32) : Int32).toInt = 255 := by decide
  have t2a := Int32.toInt_lt p1
  have t2b := Int32.le_toInt p1
  have t3 := Jvm.Kit.i32_mask p1 (255 : Int32) (k := 8) (by decide) (by decide)
  have t4 := own_cc_toInt (p1 &&& (255 : Int32))
  have t5 := own_cc_toInt (cc (p1 &&& (255 : Int32)))
  have t6 : ((8 : Int32) : Int32).toInt = 8 := by decide
  have t7 := own_ushr8 p1
  have t8 := Jvm.Kit.i32_mask ((p1.toUInt32 >>> ((8 : Int32) &&& 31).toUInt32).toInt32) (255 : Int32) (k := 8) (by decide) (by decide)
  have t9 := own_cc_toInt (((p1.toUInt32 >>> ((8 : Int32) &&& 31).toUInt32).toInt32) &&& (255 : Int32))
  have t10 := own_cc_toInt (cc (((p1.toUInt32 >>> ((8 : Int32) &&& 31).toUInt32).toInt32) &&& (255 : Int32)))
  omega
theorem ow5 (p2 : Int32) : ¬ ((255 : Int32) < (cc (cc (p2 &&& (255 : Int32))))) := by
  rw [Int32.lt_iff_toInt_lt]
  have t1 : ((255 : Int32) : Int32).toInt = 255 := by decide
  have t2a := Int32.toInt_lt p2
  have t2b := Int32.le_toInt p2
  have t3 := Jvm.Kit.i32_mask p2 (255 : Int32) (k := 8) (by decide) (by decide)
  have t4 := own_cc_toInt (p2 &&& (255 : Int32))
  have t5 := own_cc_toInt (cc (p2 &&& (255 : Int32)))
  omega
theorem ow6 (p2 : Int32) (hc9 : ¬ ((255 : Int32) < (cc (cc (p2 &&& (255 : Int32)))))) : ¬ ((255 : Int32) < (cc (cc (((p2.toUInt32 >>> ((8 : Int32) &&& 31).toUInt32).toInt32) &&& (255 : Int32))))) := by
  rw [Int32.lt_iff_toInt_lt] at hc9
  rw [Int32.lt_iff_toInt_lt]
  have t1 : ((255 : Int32) : Int32).toInt = 255 := by decide
  have t2a := Int32.toInt_lt p2
  have t2b := Int32.le_toInt p2
  have t3 := Jvm.Kit.i32_mask p2 (255 : Int32) (k := 8) (by decide) (by decide)
  have t4 := own_cc_toInt (p2 &&& (255 : Int32))
  have t5 := own_cc_toInt (cc (p2 &&& (255 : Int32)))
  have t6 : ((8 : Int32) : Int32).toInt = 8 := by decide
  have t7 := own_ushr8 p2
  have t8 := Jvm.Kit.i32_mask ((p2.toUInt32 >>> ((8 : Int32) &&& 31).toUInt32).toInt32) (255 : Int32) (k := 8) (by decide) (by decide)
  have t9 := own_cc_toInt (((p2.toUInt32 >>> ((8 : Int32) &&& 31).toUInt32).toInt32) &&& (255 : Int32))
  have t10 := own_cc_toInt (cc (((p2.toUInt32 >>> ((8 : Int32) &&& 31).toUInt32).toInt32) &&& (255 : Int32)))
  omega
theorem ow7 (f6 : Int32) : ¬ ((255 : Int32) < (cc (cc (f6 &&& (255 : Int32))))) := by
  rw [Int32.lt_iff_toInt_lt]
  have t1 : ((255 : Int32) : Int32).toInt = 255 := by decide
  have t2a := Int32.toInt_lt f6
  have t2b := Int32.le_toInt f6
  have t3 := Jvm.Kit.i32_mask f6 (255 : Int32) (k := 8) (by decide) (by decide)
  have t4 := own_cc_toInt (f6 &&& (255 : Int32))
  have t5 := own_cc_toInt (cc (f6 &&& (255 : Int32)))
  omega
theorem ow8 (f6 : Int32) (hc32 : ¬ ((255 : Int32) < (cc (cc (f6 &&& (255 : Int32)))))) : ¬ ((255 : Int32) < (cc (cc (((f6.toUInt32 >>> ((8 : Int32) &&& 31).toUInt32).toInt32) &&& (255 : Int32))))) := by
  rw [Int32.lt_iff_toInt_lt] at hc32
  rw [Int32.lt_iff_toInt_lt]
  have t1 : ((255 : Int32) : Int32).toInt = 255 := by decide
  have t2a := Int32.toInt_lt f6
  have t2b := Int32.le_toInt f6
  have t3 := Jvm.Kit.i32_mask f6 (255 : Int32) (k := 8) (by decide) (by decide)
  have t4 := own_cc_toInt (f6 &&& (255 : Int32))
  have t5 := own_cc_toInt (cc (f6 &&& (255 : Int32)))
  have t6 : ((8 : Int32) : Int32).toInt = 8 := by decide
  have t7 := own_ushr8 f6
  have t8 := Jvm.Kit.i32_mask ((f6.toUInt32 >>> ((8 : Int32) &&& 31).toUInt32).toInt32) (255 : Int32) (k := 8) (by decide) (by decide)
  have t9 := own_cc_toInt (((f6.toUInt32 >>> ((8 : Int32) &&& 31).toUInt32).toInt32) &&& (255 : Int32))
  have t10 := own_cc_toInt (cc (((f6.toUInt32 >>> ((8 : Int32) &&& 31).toUInt32).toInt32) &&& (255 : Int32)))
  omega
theorem ow9 (f7 : Int32) : ¬ ((255 : Int32) < (cc (cc (f7 &&& (255 : Int32))))) := by
  rw [Int32.lt_iff_toInt_lt]
  have t1 : ((255 : Int32) : Int32).toInt = 255 := by decide
  have t2a := Int32.toInt_lt f7
  have t2b := Int32.le_toInt f7
  have t3 := Jvm.Kit.i32_mask f7 (255 : Int32) (k := 8) (by decide) (by decide)
  have t4 := own_cc_toInt (f7 &&& (255 : Int32))
  have t5 := own_cc_toInt (cc (f7 &&& (255 : Int32)))
  omega
theorem ow10 (f7 : Int32) (hc42 : ¬ ((255 : Int32) < (cc (cc (f7 &&& (255 : Int32)))))) : ¬ ((255 : Int32) < (cc (cc (((f7.toUInt32 >>> ((8 : Int32) &&& 31).toUInt32).toInt32) &&& (255 : Int32))))) := by
  rw [Int32.lt_iff_toInt_lt] at hc42
  rw [Int32.lt_iff_toInt_lt]
  have t1 : ((255 : Int32) : Int32).toInt = 255 := by decide
  have t2a := Int32.toInt_lt f7
  have t2b := Int32.le_toInt f7
  have t3 := Jvm.Kit.i32_mask f7 (255 : Int32) (k := 8) (by decide) (by decide)
  have t4 := own_cc_toInt (f7 &&& (255 : Int32))
  have t5 := own_cc_toInt (cc (f7 &&& (255 : Int32)))
  have t6 : ((8 : Int32) : Int32).toInt = 8 := by decide
  have t7 := own_ushr8 f7
  have t8 := Jvm.Kit.i32_mask ((f7.toUInt32 >>> ((8 : Int32) &&& 31).toUInt32).toInt32) (255 : Int32) (k := 8) (by decide) (by decide)
  have t9 := own_cc_toInt (((f7.toUInt32 >>> ((8 : Int32) &&& 31).toUInt32).toInt32) &&& (255 : Int32))
  have t10 := own_cc_toInt (cc (((f7.toUInt32 >>> ((8 : Int32) &&& 31).toUInt32).toInt32) &&& (255 : Int32)))
  omega
theorem ow11 (f8 : Int32) : ¬ ((255 : Int32) < (cc (cc (f8 &&& (255 : Int32))))) := by
  rw [Int32.lt_iff_toInt_lt]
  have t1 : ((255 : Int32) : Int32).toInt = 255 := by decide
  have t2a := Int32.toInt_lt f8
  have t2b := Int32.le_toInt f8
  have t3 := Jvm.Kit.i32_mask f8 (255 : Int32) (k := 8) (by decide) (by decide)
  have t4 := own_cc_toInt (f8 &&& (255 : Int32))
  have t5 := own_cc_toInt (cc (f8 &&& (255 : Int32)))
  omega
theorem ow12 (f8 : Int32) (hc53 : ¬ ((255 : Int32) < (cc (cc (f8 &&& (255 : Int32)))))) : ¬ ((255 : Int32) < (cc (cc (((f8.toUInt32 >>> ((8 : Int32) &&& 31).toUInt32).toInt32) &&& (255 : Int32))))) := by
  rw [Int32.lt_iff_toInt_lt] at hc53
  rw [Int32.lt_iff_toInt_lt]
  have t1 : ((255 : Int32) : Int32).toInt = 255 := by decide
  have t2a := Int32.toInt_lt f8
  have t2b := Int32.le_toInt f8
  have t3 := Jvm.Kit.i32_mask f8 (255 : Int32) (k := 8) (by decide) (by decide)
  have t4 := own_cc_toInt (f8 &&& (255 : Int32))
  have t5 := own_cc_toInt (cc (f8 &&& (255 : Int32)))
  have t6 : ((8 : Int32) : Int32).toInt = 8 := by decide
  have t7 := own_ushr8 f8
  have t8 := Jvm.Kit.i32_mask ((f8.toUInt32 >>> ((8 : Int32) &&& 31).toUInt32).toInt32) (255 : Int32) (k := 8) (by decide) (by decide)
  have t9 := own_cc_toInt (((f8.toUInt32 >>> ((8 : Int32) &&& 31).toUInt32).toInt32) &&& (255 : Int32))
  have t10 := own_cc_toInt (cc (((f8.toUInt32 >>> ((8 : Int32) &&& 31).toUInt32).toInt32) &&& (255 : Int32)))
  omega
theorem ow13 (p0 : Int32) (f6 : Int32) (hc2 : ¬ ((255 : Int32) < (cc (cc (p0 &&& (255 : Int32)))))) (hc3 : ¬ ((255 : Int32) < (cc (cc (((p0.toUInt32 >>> ((8 : Int32) &&& 31).toUInt32).toInt32) &&& (255 : Int32)))))) (hc32 : ¬ ((255 : Int32) < (cc (cc (f6 &&& (255 : Int32)))))) (hc33 : ¬ ((255 : Int32) < (cc (cc (((f6.toUInt32 >>> ((8 : Int32) &&& 31).toUInt32).toInt32) &&& (255 : Int32)))))) (hc83 : (p0 &&& (65535 : Int32)) = (f6 &&& (65535 : Int32))) : (bb (bb (cc (cc (p0 &&& (255 : Int32)))))) = (bb (bb (cc (cc (f6 &&& (255 : Int32)))))) := by
  rw [Int32.lt_iff_toInt_lt] at hc2 hc3 hc32 hc33
  rw [← Int32.toInt_inj] at hc83
  rw [← Int32.toInt_inj]
  have t1 : ((255 : Int32) : Int32).toInt = 255 := by decide
  have t2a := Int32.toInt_lt p0
  have t2b := Int32.le_toInt p0
  have t3 := Jvm.Kit.i32_mask p0 (255 : Int32) (k := 8) (by decide) (by decide)
  have t4 := own_cc_toInt (p0 &&& (255 : Int32))
  have t5 := own_cc_toInt (cc (p0 &&& (255 : Int32)))
  have t6 : ((8 : Int32) : Int32).toInt = 8 := by decide
  have t7 := own_ushr8 p0
  have t8 := Jvm.Kit.i32_mask ((p0.toUInt32 >>> ((8 : Int32) &&& 31).toUInt32).toInt32) (255 : Int32) (k := 8) (by decide) (by decide)
  have t9 := own_cc_toInt (((p0.toUInt32 >>> ((8 : Int32) &&& 31).toUInt32).toInt32) &&& (255 : Int32))
  have t10 := own_cc_toInt (cc (((p0.toUInt32 >>> ((8 : Int32) &&& 31).toUInt32).toInt32) &&& (255 : Int32)))
  have t11a := Int32.toInt_lt f6
  have t11b := Int32.le_toInt f6
  have t12 := Jvm.Kit.i32_mask f6 (255 : Int32) (k := 8) (by decide) (by decide)
  have t13 := own_cc_toInt (f6 &&& (255 : Int32))
  have t14 := own_cc_toInt (cc (f6 &&& (255 : Int32)))
  have t15 := own_ushr8 f6
  have t16 := Jvm.Kit.i32_mask ((f6.toUInt32 >>> ((8 : Int32) &&& 31).toUInt32).toInt32) (255 : Int32) (k := 8) (by decide) (by decide)
  have t17 := own_cc_toInt (((f6.toUInt32 >>> ((8 : Int32) &&& 31).toUInt32).toInt32) &&& (255 : Int32))
  have t18 := own_cc_toInt (cc (((f6.toUInt32 >>> ((8 : Int32) &&& 31).toUInt32).toInt32) &&& (255 : Int32)))
  have t19 : ((65535 : Int32) : Int32).toInt = 65535 := by decide
  have t20 := Jvm.Kit.i32_mask p0 (65535 : Int32) (k := 16) (by decide) (by decide)
  have t21 := Jvm.Kit.i32_mask f6 (65535 : Int32) (k := 16) (by decide) (by decide)
  have t22 := own_bb_toInt (cc (cc (p0 &&& (255 : Int32))))
  have t23 := own_bb_toInt (bb (cc (cc (p0 &&& (255 : Int32)))))
  have t24 := own_bb_toInt (cc (cc (f6 &&& (255 : Int32))))
  have t25 := own_bb_toInt (bb (cc (cc (f6 &&& (255 : Int32)))))
  omega
theorem ow14 (p0 : Int32) (f6 : Int32) (hc2 : ¬ ((255 : Int32) < (cc (cc (p0 &&& (255 : Int32)))))) (hc3 : ¬ ((255 : Int32) < (cc (cc (((p0.toUInt32 >>> ((8 : Int32) &&& 31).toUInt32).toInt32) &&& (255 : Int32)))))) (hc32 : ¬ ((255 : Int32) < (cc (cc (f6 &&& (255 : Int32)))))) (hc33 : ¬ ((255 : Int32) < (cc (cc (((f6.toUInt32 >>> ((8 : Int32) &&& 31).toUInt32).toInt32) &&& (255 : Int32)))))) (hc83 : (p0 &&& (65535 : Int32)) = (f6 &&& (65535 : Int32))) (hc108 : (bb (bb (cc (cc (p0 &&& (255 : Int32)))))) = (bb (bb (cc (cc (f6 &&& (255 : Int32))))))) : (bb (bb (cc (cc (((p0.toUInt32 >>> ((8 : Int32) &&& 31).toUInt32).toInt32) &&& (255 : Int32)))))) = (bb (bb (cc (cc (((f6.toUInt32 >>> ((8 : Int32) &&& 31).toUInt32).toInt32) &&& (255 : Int32)))))) := by
  rw [Int32.lt_iff_toInt_lt] at hc2 hc3 hc32 hc33
  rw [← Int32.toInt_inj] at hc83 hc108
  rw [← Int32.toInt_inj]
  have t1 : ((255 : Int32) : Int32).toInt = 255 := by decide
  have t2a := Int32.toInt_lt p0
  have t2b := Int32.le_toInt p0
  have t3 := Jvm.Kit.i32_mask p0 (255 : Int32) (k := 8) (by decide) (by decide)
  have t4 := own_cc_toInt (p0 &&& (255 : Int32))
  have t5 := own_cc_toInt (cc (p0 &&& (255 : Int32)))
  have t6 : ((8 : Int32) : Int32).toInt = 8 := by decide
  have t7 := own_ushr8 p0
  have t8 := Jvm.Kit.i32_mask ((p0.toUInt32 >>> ((8 : Int32) &&& 31).toUInt32).toInt32) (255 : Int32) (k := 8) (by decide) (by decide)
  have t9 := own_cc_toInt (((p0.toUInt32 >>> ((8 : Int32) &&& 31).toUInt32).toInt32) &&& (255 : Int32))
  have t10 := own_cc_toInt (cc (((p0.toUInt32 >>> ((8 : Int32) &&& 31).toUInt32).toInt32) &&& (255 : Int32)))
  have t11a := Int32.toInt_lt f6
  have t11b := Int32.le_toInt f6
  have t12 := Jvm.Kit.i32_mask f6 (255 : Int32) (k := 8) (by decide) (by decide)
  have t13 := own_cc_toInt (f6 &&& (255 : Int32))
  have t14 := own_cc_toInt (cc (f6 &&& (255 : Int32)))
  have t15 := own_ushr8 f6
  have t16 := Jvm.Kit.i32_mask ((f6.toUInt32 >>> ((8 : Int32) &&& 31).toUInt32).toInt32) (255 : Int32) (k := 8) (by decide) (by decide)
  have t17 := own_cc_toInt (((f6.toUInt32 >>> ((8 : Int32) &&& 31).toUInt32).toInt32) &&& (255 : Int32))
  have t18 := own_cc_toInt (cc (((f6.toUInt32 >>> ((8 : Int32) &&& 31).toUInt32).toInt32) &&& (255 : Int32)))
  have t19 : ((65535 : Int32) : Int32).toInt = 65535 := by decide
  have t20 := Jvm.Kit.i32_mask p0 (65535 : Int32) (k := 16) (by decide) (by decide)
  have t21 := Jvm.Kit.i32_mask f6 (65535 : Int32) (k := 16) (by decide) (by decide)
  have t22 := own_bb_toInt (cc (cc (p0 &&& (255 : Int32))))
  have t23 := own_bb_toInt (bb (cc (cc (p0 &&& (255 : Int32)))))
  have t24 := own_bb_toInt (cc (cc (f6 &&& (255 : Int32))))
  have t25 := own_bb_toInt (bb (cc (cc (f6 &&& (255 : Int32)))))
  have t26 := own_bb_toInt (cc (cc (((p0.toUInt32 >>> ((8 : Int32) &&& 31).toUInt32).toInt32) &&& (255 : Int32))))
  have t27 := own_bb_toInt (bb (cc (cc (((p0.toUInt32 >>> ((8 : Int32) &&& 31).toUInt32).toInt32) &&& (255 : Int32)))))
  have t28 := own_bb_toInt (cc (cc (((f6.toUInt32 >>> ((8 : Int32) &&& 31).toUInt32).toInt32) &&& (255 : Int32))))
  have t29 := own_bb_toInt (bb (cc (cc (((f6.toUInt32 >>> ((8 : Int32) &&& 31).toUInt32).toInt32) &&& (255 : Int32)))))
  omega
theorem ow15 (p1 : Int32) (f7 : Int32) (hc5 : ¬ ((255 : Int32) < (cc (cc (p1 &&& (255 : Int32)))))) (hc6 : ¬ ((255 : Int32) < (cc (cc (((p1.toUInt32 >>> ((8 : Int32) &&& 31).toUInt32).toInt32) &&& (255 : Int32)))))) (hc42 : ¬ ((255 : Int32) < (cc (cc (f7 &&& (255 : Int32)))))) (hc43 : ¬ ((255 : Int32) < (cc (cc (((f7.toUInt32 >>> ((8 : Int32) &&& 31).toUInt32).toInt32) &&& (255 : Int32)))))) (hc86 : (p1 &&& (65535 : Int32)) = (f7 &&& (65535 : Int32))) : (bb (bb (cc (cc (p1 &&& (255 : Int32)))))) = (bb (bb (cc (cc (f7 &&& (255 : Int32)))))) := by
  rw [Int32.lt_iff_toInt_lt] at hc5 hc6 hc42 hc43
  rw [← Int32.toInt_inj] at hc86
  rw [← Int32.toInt_inj]
  have t1 : ((255 : Int32) : Int32).toInt = 255 := by decide
  have t2a := Int32.toInt_lt p1
  have t2b := Int32.le_toInt p1
  have t3 := Jvm.Kit.i32_mask p1 (255 : Int32) (k := 8) (by decide) (by decide)
  have t4 := own_cc_toInt (p1 &&& (255 : Int32))
  have t5 := own_cc_toInt (cc (p1 &&& (255 : Int32)))
  have t6 : ((8 : Int32) : Int32).toInt = 8 := by decide
  have t7 := own_ushr8 p1
  have t8 := Jvm.Kit.i32_mask ((p1.toUInt32 >>> ((8 : Int32) &&& 31).toUInt32).toInt32) (255 : Int32) (k := 8) (by decide) (by decide)
  have t9 := own_cc_toInt (((p1.toUInt32 >>> ((8 : Int32) &&& 31).toUInt32).toInt32) &&& (255 : Int32))
  have t10 := own_cc_toInt (cc (((p1.toUInt32 >>> ((8 : Int32) &&& 31).toUInt32).toInt32) &&& (255 : Int32)))
  have t11a := Int32.toInt_lt f7
  have t11b := Int32.le_toInt f7
  have t12 := Jvm.Kit.i32_mask f7 (255 : Int32) (k := 8) (by decide) (by decide)
  have t13 := own_cc_toInt (f7 &&& (255 : Int32))
  have t14 := own_cc_toInt (cc (f7 &&& (255 : Int32)))
  have t15 := own_ushr8 f7
  have t16 := Jvm.Kit.i32_mask ((f7.toUInt32 >>> ((8 : Int32) &&& 31).toUInt32).toInt32) (255 : Int32) (k := 8) (by decide) (by decide)
  have t17 := own_cc_toInt (((f7.toUInt32 >>> ((8 : Int32) &&& 31).toUInt32).toInt32) &&& (255 : Int32))
  have t18 := own_cc_toInt (cc (((f7.toUInt32 >>> ((8 : Int32) &&& 31).toUInt32).toInt32) &&& (255 : Int32)))
  have t19 : ((65535 : Int32) : Int32).toInt = 65535 := by decide
  have t20 := Jvm.Kit.i32_mask p1 (65535 : Int32) (k := 16) (by decide) (by decide)
  have t21 := Jvm.Kit.i32_mask f7 (65535 : Int32) (k := 16) (by decide) (by decide)
  have t22 := own_bb_toInt (cc (cc (p1 &&& (255 : Int32))))
  have t23 := own_bb_toInt (bb (cc (cc (p1 &&& (255 : Int32)))))
  have t24 := own_bb_toInt (cc (cc (f7 &&& (255 : Int32))))
  have t25 := own_bb_toInt (bb (cc (cc (f7 &&& (255 : Int32)))))
  omega
theorem ow16 (p1 : Int32) (f7 : Int32) (hc5 : ¬ ((255 : Int32) < (cc (cc (p1 &&& (255 : Int32)))))) (hc6 : ¬ ((255 : Int32) < (cc (cc (((p1.toUInt32 >>> ((8 : Int32) &&& 31).toUInt32).toInt32) &&& (255 : Int32)))))) (hc42 : ¬ ((255 : Int32) < (cc (cc (f7 &&& (255 : Int32)))))) (hc43 : ¬ ((255 : Int32) < (cc (cc (((f7.toUInt32 >>> ((8 : Int32) &&& 31).toUInt32).toInt32) &&& (255 : Int32)))))) (hc86 : (p1 &&& (65535 : Int32)) = (f7 &&& (65535 : Int32))) (hc110 : (bb (bb (cc (cc (p1 &&& (255 : Int32)))))) = (bb (bb (cc (cc (f7 &&& (255 : Int32))))))) : (bb (bb (cc (cc (((p1.toUInt32 >>> ((8 : Int32) &&& 31).toUInt32).toInt32) &&& (255 : Int32)))))) = (bb (bb (cc (cc (((f7.toUInt32 >>> ((8 : Int32) &&& 31).toUInt32).toInt32) &&& (255 : Int32)))))) := by
  rw [Int32.lt_iff_toInt_lt] at hc5 hc6 hc42 hc43
  rw [← Int32.toInt_inj] at hc86 hc110
  rw [← Int32.toInt_inj]
  have t1 : ((255 : Int32) : Int32).toInt = 255 := by decide
  have t2a := Int32.toInt_lt p1
  have t2b := Int32.le_toInt p1
  have t3 := Jvm.Kit.i32_mask p1 (255 : Int32) (k := 8) (by decide) (by decide)
  have t4 := own_cc_toInt (p1 &&& (255 : Int32))
  have t5 := own_cc_toInt (cc (p1 &&& (255 : Int32)))
  have t6 : ((8 : Int32) : Int32).toInt = 8 := by decide
  have t7 := own_ushr8 p1
  have t8 := Jvm.Kit.i32_mask ((p1.toUInt32 >>> ((8 : Int32) &&& 31).toUInt32).toInt32) (255 : Int32) (k := 8) (by decide) (by decide)
  have t9 := own_cc_toInt (((p1.toUInt32 >>> ((8 : Int32) &&& 31).toUInt32).toInt32) &&& (255 : Int32))
  have t10 := own_cc_toInt (cc (((p1.toUInt32 >>> ((8 : Int32) &&& 31).toUInt32).toInt32) &&& (255 : Int32)))
  have t11a := Int32.toInt_lt f7
  have t11b := Int32.le_toInt f7
  have t12 := Jvm.Kit.i32_mask f7 (255 : Int32) (k := 8) (by decide) (by decide)
  have t13 := own_cc_toInt (f7 &&& (255 : Int32))
  have t14 := own_cc_toInt (cc (f7 &&& (255 : Int32)))
  have t15 := own_ushr8 f7
  have t16 := Jvm.Kit.i32_mask ((f7.toUInt32 >>> ((8 : Int32) &&& 31).toUInt32).toInt32) (255 : Int32) (k := 8) (by decide) (by decide)
  have t17 := own_cc_toInt (((f7.toUInt32 >>> ((8 : Int32) &&& 31).toUInt32).toInt32) &&& (255 : Int32))
  have t18 := own_cc_toInt (cc (((f7.toUInt32 >>> ((8 : Int32) &&& 31).toUInt32).toInt32) &&& (255 : Int32)))
  have t19 : ((65535 : Int32) : Int32).toInt = 65535 := by decide
  have t20 := Jvm.Kit.i32_mask p1 (65535 : Int32) (k := 16) (by decide) (by decide)
  have t21 := Jvm.Kit.i32_mask f7 (65535 : Int32) (k := 16) (by decide) (by decide)
  have t22 := own_bb_toInt (cc (cc (p1 &&& (255 : Int32))))
  have t23 := own_bb_toInt (bb (cc (cc (p1 &&& (255 : Int32)))))
  have t24 := own_bb_toInt (cc (cc (f7 &&& (255 : Int32))))
  have t25 := own_bb_toInt (bb (cc (cc (f7 &&& (255 : Int32)))))
  have t26 := own_bb_toInt (cc (cc (((p1.toUInt32 >>> ((8 : Int32) &&& 31).toUInt32).toInt32) &&& (255 : Int32))))
  have t27 := own_bb_toInt (bb (cc (cc (((p1.toUInt32 >>> ((8 : Int32) &&& 31).toUInt32).toInt32) &&& (255 : Int32)))))
  have t28 := own_bb_toInt (cc (cc (((f7.toUInt32 >>> ((8 : Int32) &&& 31).toUInt32).toInt32) &&& (255 : Int32))))
  have t29 := own_bb_toInt (bb (cc (cc (((f7.toUInt32 >>> ((8 : Int32) &&& 31).toUInt32).toInt32) &&& (255 : Int32)))))
  omega
theorem ow17 (p2 : Int32) (f8 : Int32) (hc9 : ¬ ((255 : Int32) < (cc (cc (p2 &&& (255 : Int32)))))) (hc10 : ¬ ((255 : Int32) < (cc (cc (((p2.toUInt32 >>> ((8 : Int32) &&& 31).toUInt32).toInt32) &&& (255 : Int32)))))) (hc53 : ¬ ((255 : Int32) < (cc (cc (f8 &&& (255 : Int32)))))) (hc54 : ¬ ((255 : Int32) < (cc (cc (((f8.toUInt32 >>> ((8 : Int32) &&& 31).toUInt32).toInt32) &&& (255 : Int32)))))) (hc89 : (p2 &&& (65535 : Int32)) = (f8 &&& (65535 : Int32))) : (bb (bb (cc (cc (p2 &&& (255 : Int32)))))) = (bb (bb (cc (cc (f8 &&& (255 : Int32)))))) := by
  rw [Int32.lt_iff_toInt_lt] at hc9 hc10 hc53 hc54
  rw [← Int32.toInt_inj] at hc89
  rw [← Int32.toInt_inj]
  have t1 : ((255 : Int32) : Int32).toInt = 255 := by decide
  have t2a := Int32.toInt_lt p2
  have t2b := Int32.le_toInt p2
  have t3 := Jvm.Kit.i32_mask p2 (255 : Int32) (k := 8) (by decide) (by decide)
  have t4 := own_cc_toInt (p2 &&& (255 : Int32))
  have t5 := own_cc_toInt (cc (p2 &&& (255 : Int32)))
  have t6 : ((8 : Int32) : Int32).toInt = 8 := by decide
  have t7 := own_ushr8 p2
  have t8 := Jvm.Kit.i32_mask ((p2.toUInt32 >>> ((8 : Int32) &&& 31).toUInt32).toInt32) (255 : Int32) (k := 8) (by decide) (by decide)
  have t9 := own_cc_toInt (((p2.toUInt32 >>> ((8 : Int32) &&& 31).toUInt32).toInt32) &&& (255 : Int32))
  have t10 := own_cc_toInt (cc (((p2.toUInt32 >>> ((8 : Int32) &&& 31).toUInt32).toInt32) &&& (255 : Int32)))
  have t11a := Int32.toInt_lt f8
  have t11b := Int32.le_toInt f8
  have t12 := Jvm.Kit.i32_mask f8 (255 : Int32) (k := 8) (by decide) (by decide)
  have t13 := own_cc_toInt (f8 &&& (255 : Int32))
  have t14 := own_cc_toInt (cc (f8 &&& (255 : Int32)))
  have t15 := own_ushr8 f8
  have t16 := Jvm.Kit.i32_mask ((f8.toUInt32 >>> ((8 : Int32) &&& 31).toUInt32).toInt32) (255 : Int32) (k := 8) (by decide) (by decide)
  have t17 := own_cc_toInt (((f8.toUInt32 >>> ((8 : Int32) &&& 31).toUInt32).toInt32) &&& (255 : Int32))
  have t18 := own_cc_toInt (cc (((f8.toUInt32 >>> ((8 : Int32) &&& 31).toUInt32).toInt32) &&& (255 : Int32)))
  have t19 : ((65535 : Int32) : Int32).toInt = 65535 := by decide
  have t20 := Jvm.Kit.i32_mask p2 (65535 : Int32) (k := 16) (by decide) (by decide)
  have t21 := Jvm.Kit.i32_mask f8 (65535 : Int32) (k := 16) (by decide) (by decide)
  have t22 := own_bb_toInt (cc (cc (p2 &&& (255 : Int32))))
  have t23 := own_bb_toInt (bb (cc (cc (p2 &&& (255 : Int32)))))
  have t24 := own_bb_toInt (cc (cc (f8 &&& (255 : Int32))))
  have t25 := own_bb_toInt (bb (cc (cc (f8 &&& (255 : Int32)))))
  omega
theorem ow18 (p2 : Int32) (f8 : Int32) (hc9 : ¬ ((255 : Int32) < (cc (cc (p2 &&& (255 : Int32)))))) (hc10 : ¬ ((255 : Int32) < (cc (cc (((p2.toUInt32 >>> ((8 : Int32) &&& 31).toUInt32).toInt32) &&& (255 : Int32)))))) (hc53 : ¬ ((255 : Int32) < (cc (cc (f8 &&& (255 : Int32)))))) (hc54 : ¬ ((255 : Int32) < (cc (cc (((f8.toUInt32 >>> ((8 : Int32) &&& 31).toUInt32).toInt32) &&& (255 : Int32)))))) (hc89 : (p2 &&& (65535 : Int32)) = (f8 &&& (65535 : Int32))) (hc112 : (bb (bb (cc (cc (p2 &&& (255 : Int32)))))) = (bb (bb (cc (cc (f8 &&& (255 : Int32))))))) : (bb (bb (cc (cc (((p2.toUInt32 >>> ((8 : Int32) &&& 31).toUInt32).toInt32) &&& (255 : Int32)))))) = (bb (bb (cc (cc (((f8.toUInt32 >>> ((8 : Int32) &&& 31).toUInt32).toInt32) &&& (255 : Int32)))))) := by
  rw [Int32.lt_iff_toInt_lt] at hc9 hc10 hc53 hc54
  rw [← Int32.toInt_inj] at hc89 hc112
  rw [← Int32.toInt_inj]
  have t1 : ((255 : Int32) : Int32).toInt = 255 := by decide
  have t2a := Int32.toInt_lt p2
  have t2b := Int32.le_toInt p2
  have t3 := Jvm.Kit.i32_mask p2 (255 : Int32) (k := 8) (by decide) (by decide)
  have t4 := own_cc_toInt (p2 &&& (255 : Int32))
  have t5 := own_cc_toInt (cc (p2 &&& (255 : Int32)))
  have t6 : ((8 : Int32) : Int32).toInt = 8 := by decide
  have t7 := own_ushr8 p2
  have t8 := Jvm.Kit.i32_mask ((p2.toUInt32 >>> ((8 : Int32) &&& 31).toUInt32).toInt32) (255 : Int32) (k := 8) (by decide) (by decide)
  have t9 := own_cc_toInt (((p2.toUInt32 >>> ((8 : Int32) &&& 31).toUInt32).toInt32) &&& (255 : Int32))
  have t10 := own_cc_toInt (cc (((p2.toUInt32 >>> ((8 : Int32) &&& 31).toUInt32).toInt32) &&& (255 : Int32)))
  have t11a := Int32.toInt_lt f8
  have t11b := Int32.le_toInt f8
  have t12 := Jvm.Kit.i32_mask f8 (255 : Int32) (k := 8) (by decide) (by decide)
  have t13 := own_cc_toInt (f8 &&& (255 : Int32))
  have t14 := own_cc_toInt (cc (f8 &&& (255 : Int32)))
  have t15 := own_ushr8 f8
  have t16 := Jvm.Kit.i32_mask ((f8.toUInt32 >>> ((8 : Int32) &&& 31).toUInt32).toInt32) (255 : Int32) (k := 8) (by decide) (by decide)
  have t17 := own_cc_toInt (((f8.toUInt32 >>> ((8 : Int32) &&& 31).toUInt32).toInt32) &&& (255 : Int32))
  have t18 := own_cc_toInt (cc (((f8.toUInt32 >>> ((8 : Int32) &&& 31).toUInt32).toInt32) &&& (255 : Int32)))
  have t19 : ((65535 : Int32) : Int32).toInt = 65535 := by decide
  have t20 := Jvm.Kit.i32_mask p2 (65535 : Int32) (k := 16) (by decide) (by decide)
  have t21 := Jvm.Kit.i32_mask f8 (65535 : Int32) (k := 16) (by decide) (by decide)
  have t22 := own_bb_toInt (cc (cc (p2 &&& (255 : Int32))))
  have t23 := own_bb_toInt (bb (cc (cc (p2 &&& (255 : Int32)))))
  have t24 := own_bb_toInt (cc (cc (f8 &&& (255 : Int32))))
  have t25 := own_bb_toInt (bb (cc (cc (f8 &&& (255 : Int32)))))
  have t26 := own_bb_toInt (cc (cc (((p2.toUInt32 >>> ((8 : Int32) &&& 31).toUInt32).toInt32) &&& (255 : Int32))))
  have t27 := own_bb_toInt (bb (cc (cc (((p2.toUInt32 >>> ((8 : Int32) &&& 31).toUInt32).toInt32) &&& (255 : Int32)))))
  have t28 := own_bb_toInt (cc (cc (((f8.toUInt32 >>> ((8 : Int32) &&& 31).toUInt32).toInt32) &&& (255 : Int32))))
  have t29 := own_bb_toInt (bb (cc (cc (((f8.toUInt32 >>> ((8 : Int32) &&& 31).toUInt32).toInt32) &&& (255 : Int32)))))
  omega
theorem ow19 (p2 : Int32) (f8 : Int32) (hc9 : ¬ ((255 : Int32) < (cc (cc (p2 &&& (255 : Int32)))))) (hc10 : ¬ ((255 : Int32) < (cc (cc (((p2.toUInt32 >>> ((8 : Int32) &&& 31).toUInt32).toInt32) &&& (255 : Int32)))))) (hc53 : ¬ ((255 : Int32) < (cc (cc (f8 &&& (255 : Int32)))))) (hc54 : ¬ ((255 : Int32) < (cc (cc (((f8.toUInt32 >>> ((8 : Int32) &&& 31).toUInt32).toInt32) &&& (255 : Int32)))))) (hc89 : ¬ ((p2 &&& (65535 : Int32)) = (f8 &&& (65535 : Int32)))) (hc112 : (bb (bb (cc (cc (p2 &&& (255 : Int32)))))) = (bb (bb (cc (cc (f8 &&& (255 : Int32))))))) : ¬ ((bb (bb (cc (cc (((p2.toUInt32 >>> ((8 : Int32) &&& 31).toUInt32).toInt32) &&& (255 : Int32)))))) = (bb (bb (cc (cc (((f8.toUInt32 >>> ((8 : Int32) &&& 31).toUInt32).toInt32) &&& (255 : Int32))))))) := by
  rw [Int32.lt_iff_toInt_lt] at hc9 hc10 hc53 hc54
  rw [← Int32.toInt_inj] at hc89 hc112
  rw [← Int32.toInt_inj]
  have t1 : ((255 : Int32) : Int32).toInt = 255 := by decide
  have t2a := Int32.toInt_lt p2
  have t2b := Int32.le_toInt p2
  have t3 := Jvm.Kit.i32_mask p2 (255 : Int32) (k := 8) (by decide) (by decide)
  have t4 := own_cc_toInt (p2 &&& (255 : Int32))
  have t5 := own_cc_toInt (cc (p2 &&& (255 : Int32)))
  have t6 : ((8 : Int32) : Int32).toInt = 8 := by decide
  have t7 := own_ushr8 p2
  have t8 := Jvm.Kit.i32_mask ((p2.toUInt32 >>> ((8 : Int32) &&& 31).toUInt32).toInt32) (255 : Int32) (k := 8) (by decide) (by decide)
  have t9 := own_cc_toInt (((p2.toUInt32 >>> ((8 : Int32) &&& 31).toUInt32).toInt32) &&& (255 : Int32))
  have t10 := own_cc_toInt (cc (((p2.toUInt32 >>> ((8 : Int32) &&& 31).toUInt32).toInt32) &&& (255 : Int32)))
  have t11a := Int32.toInt_lt f8
  have t11b := Int32.le_toInt f8
  have t12 := Jvm.Kit.i32_mask f8 (255 : Int32) (k := 8) (by decide) (by decide)
  have t13 := own_cc_toInt (f8 &&& (255 : Int32))
  have t14 := own_cc_toInt (cc (f8 &&& (255 : Int32)))
  have t15 := own_ushr8 f8
  have t16 := Jvm.Kit.i32_mask ((f8.toUInt32 >>> ((8 : Int32) &&& 31).toUInt32).toInt32) (255 : Int32) (k := 8) (by decide) (by decide)
  have t17 := own_cc_toInt (((f8.toUInt32 >>> ((8 : Int32) &&& 31).toUInt32).toInt32) &&& (255 : Int32))
  have t18 := own_cc_toInt (cc (((f8.toUInt32 >>> ((8 : Int32) &&& 31).toUInt32).toInt32) &&& (255 : Int32)))
  have t19 : ((65535 : Int32) : Int32).toInt = 65535 := by decide
  have t20 := Jvm.Kit.i32_mask p2 (65535 : Int32) (k := 16) (by decide) (by decide)
  have t21 := Jvm.Kit.i32_mask f8 (65535 : Int32) (k := 16) (by decide) (by decide)
  have t22 := own_bb_toInt (cc (cc (p2 &&& (255 : Int32))))
  have t23 := own_bb_toInt (bb (cc (cc (p2 &&& (255 : Int32)))))
  have t24 := own_bb_toInt (cc (cc (f8 &&& (255 : Int32))))
  have t25 := own_bb_toInt (bb (cc (cc (f8 &&& (255 : Int32)))))
  have t26 := own_bb_toInt (cc (cc (((p2.toUInt32 >>> ((8 : Int32) &&& 31).toUInt32).toInt32) &&& (255 : Int32))))
  have t27 := own_bb_toInt (bb (cc (cc (((p2.toUInt32 >>> ((8 : Int32) &&& 31).toUInt32).toInt32) &&& (255 : Int32)))))
  have t28 := own_bb_toInt (cc (cc (((f8.toUInt32 >>> ((8 : Int32) &&& 31).toUInt32).toInt32) &&& (255 : Int32))))
  have t29 := own_bb_toInt (bb (cc (cc (((f8.toUInt32 >>> ((8 : Int32) &&& 31).toUInt32).toInt32) &&& (255 : Int32)))))
  omega
theorem ow20 (p0 : Int32) (f6 : Int32) (hc2 : ¬ ((255 : Int32) < (cc (cc (p0 &&& (255 : Int32)))))) (hc3 : ¬ ((255 : Int32) < (cc (cc (((p0.toUInt32 >>> ((8 : Int32) &&& 31).toUInt32).toInt32) &&& (255 : Int32)))))) (hc32 : ¬ ((255 : Int32) < (cc (cc (f6 &&& (255 : Int32)))))) (hc33 : ¬ ((255 : Int32) < (cc (cc (((f6.toUInt32 >>> ((8 : Int32) &&& 31).toUInt32).toInt32) &&& (255 : Int32)))))) (hc83 : (p0 &&& (65535 : Int32)) = (f6 &&& (65535 : Int32))) (hc105 : (bb (bb (cc (cc (p0 &&& (255 : Int32)))))) = (bb (bb (cc (cc (f6 &&& (255 : Int32))))))) : (bb (bb (cc (cc (((p0.toUInt32 >>> ((8 : Int32) &&& 31).toUInt32).toInt32) &&& (255 : Int32)))))) = (bb (bb (cc (cc (((f6.toUInt32 >>> ((8 : Int32) &&& 31).toUInt32).toInt32) &&& (255 : Int32)))))) := by
  rw [Int32.lt_iff_toInt_lt] at hc2 hc3 hc32 hc33
  rw [← Int32.toInt_inj] at hc83 hc105
  rw [← Int32.toInt_inj]
  have t1 : ((255 : Int32) : Int32).toInt = 255 := by decide
  have t2a := Int32.toInt_lt p0
  have t2b := Int32.le_toInt p0
  have t3 := Jvm.Kit.i32_mask p0 (255 : Int32) (k := 8) (by decide) (by decide)
  have t4 := own_cc_toInt (p0 &&& (255 : Int32))
  have t5 := own_cc_toInt (cc (p0 &&& (255 : Int32)))
  have t6 : ((8 : Int32) : Int32).toInt = 8 := by decide
  have t7 := own_ushr8 p0
  have t8 := Jvm.Kit.i32_mask ((p0.toUInt32 >>> ((8 : Int32) &&& 31).toUInt32).toInt32) (255 : Int32) (k := 8) (by decide) (by decide)
  have t9 := own_cc_toInt (((p0.toUInt32 >>> ((8 : Int32) &&& 31).toUInt32).toInt32) &&& (255 : Int32))
  have t10 := own_cc_toInt (cc (((p0.toUInt32 >>> ((8 : Int32) &&& 31).toUInt32).toInt32) &&& (255 : Int32)))
  have t11a := Int32.toInt_lt f6
  have t11b := Int32.le_toInt f6
  have t12 := Jvm.Kit.i32_mask f6 (255 : Int32) (k := 8) (by decide) (by decide)
  have t13 := own_cc_toInt (f6 &&& (255 : Int32))
  have t14 := own_cc_toInt (cc (f6 &&& (255 : Int32)))
  have t15 := own_ushr8 f6
  have t16 := Jvm.Kit.i32_mask ((f6.toUInt32 >>> ((8 : Int32) &&& 31).toUInt32).toInt32) (255 : Int32) (k := 8) (by decide) (by decide)
  have t17 := own_cc_toInt (((f6.toUInt32 >>> ((8 : Int32) &&& 31).toUInt32).toInt32) &&& (255 : Int32))
  have t18 := own_cc_toInt (cc (((f6.toUInt32 >>> ((8 : Int32) &&& 31).toUInt32).toInt32) &&& (255 : Int32)))
  have t19 : ((65535 : Int32) : Int32).toInt = 65535 := by decide
  have t20 := Jvm.Kit.i32_mask p0 (65535 : Int32) (k := 16) (by decide) (by decide)
  have t21 := Jvm.Kit.i32_mask f6 (65535 : Int32) (k := 16) (by decide) (by decide)
  have t22 := own_bb_toInt (cc (cc (p0 &&& (255 : Int32))))
  have t23 := own_bb_toInt (bb (cc (cc (p0 &&& (255 : Int32)))))
  have t24 := own_bb_toInt (cc (cc (f6 &&& (255 : Int32))))
  have t25 := own_bb_toInt (bb (cc (cc (f6 &&& (255 : Int32)))))
  have t26 := own_bb_toInt (cc (cc (((p0.toUInt32 >>> ((8 : Int32) &&& 31).toUInt32).toInt32) &&& (255 : Int32))))
  have t27 := own_bb_toInt (bb (cc (cc (((p0.toUInt32 >>> ((8 : Int32) &&& 31).toUInt32).toInt32) &&& (255 : Int32)))))
  have t28 := own_bb_toInt (cc (cc (((f6.toUInt32 >>> ((8 : Int32) &&& 31).toUInt32).toInt32) &&& (255 : Int32))))
  have t29 := own_bb_toInt (bb (cc (cc (((f6.toUInt32 >>> ((8 : Int32) &&& 31).toUInt32).toInt32) &&& (255 : Int32)))))
  omega
theorem ow21 (p1 : Int32) (f7 : Int32) (hc5 : ¬ ((255 : Int32) < (cc (cc (p1 &&& (255 : Int32)))))) (hc6 : ¬ ((255 : Int32) < (cc (cc (((p1.toUInt32 >>> ((8 : Int32) &&& 31).toUInt32).toInt32) &&& (255 : Int32)))))) (hc42 : ¬ ((255 : Int32) < (cc (cc (f7 &&& (255 : Int32)))))) (hc43 : ¬ ((255 : Int32) < (cc (cc (((f7.toUInt32 >>> ((8 : Int32) &&& 31).toUInt32).toInt32) &&& (255 : Int32)))))) (hc86 : ¬ ((p1 &&& (65535 : Int32)) = (f7 &&& (65535 : Int32)))) (hc107 : (bb (bb (cc (cc (p1 &&& (255 : Int32)))))) = (bb (bb (cc (cc (f7 &&& (255 : Int32))))))) : ¬ ((bb (bb (cc (cc (((p1.toUInt32 >>> ((8 : Int32) &&& 31).toUInt32).toInt32) &&& (255 : Int32)))))) = (bb (bb (cc (cc (((f7.toUInt32 >>> ((8 : Int32) &&& 31).toUInt32).toInt32) &&& (255 : Int32))))))) := by
  rw [Int32.lt_iff_toInt_lt] at hc5 hc6 hc42 hc43
  rw [← Int32.toInt_inj] at hc86 hc107
  rw [← Int32.toInt_inj]
  have t1 : ((255 : Int32) : Int32).toInt = 255 := by decide
  have t2a := Int32.toInt_lt p1
  have t2b := Int32.le_toInt p1
  have t3 := Jvm.Kit.i32_mask p1 (255 : Int32) (k := 8) (by decide) (by decide)
  have t4 := own_cc_toInt (p1 &&& (255 : Int32))
  have t5 := own_cc_toInt (cc (p1 &&& (255 : Int32)))
  have t6 : ((8 : Int32) : Int32).toInt = 8 := by decide
  have t7 := own_ushr8 p1
  have t8 := Jvm.Kit.i32_mask ((p1.toUInt32 >>> ((8 : Int32) &&& 31).toUInt32).toInt32) (255 : Int32) (k := 8) (by decide) (by decide)
  have t9 := own_cc_toInt (((p1.toUInt32 >>> ((8 : Int32) &&& 31).toUInt32).toInt32) &&& (255 : Int32))
  have t10 := own_cc_toInt (cc (((p1.toUInt32 >>> ((8 : Int32) &&& 31).toUInt32).toInt32) &&& (255 : Int32)))
  have t11a := Int32.toInt_lt f7
  have t11b := Int32.le_toInt f7
  have t12 := Jvm.Kit.i32_mask f7 (255 : Int32) (k := 8) (by decide) (by decide)
  have t13 := own_cc_toInt (f7 &&& (255 : Int32))
  have t14 := own_cc_toInt (cc (f7 &&& (255 : Int32)))
  have t15 := own_ushr8 f7
  have t16 := Jvm.Kit.i32_mask ((f7.toUInt32 >>> ((8 : Int32) &&& 31).toUInt32).toInt32) (255 : Int32) (k := 8) (by decide) (by decide)
  have t17 := own_cc_toInt (((f7.toUInt32 >>> ((8 : Int32) &&& 31).toUInt32).toInt32) &&& (255 : Int32))
  have t18 := own_cc_toInt (cc (((f7.toUInt32 >>> ((8 : Int32) &&& 31).toUInt32).toInt32) &&& (255 : Int32)))
  have t19 : ((65535 : Int32) : Int32).toInt = 65535 := by decide
  have t20 := Jvm.Kit.i32_mask p1 (65535 : Int32) (k := 16) (by decide) (by decide)
  have t21 := Jvm.Kit.i32_mask f7 (65535 : Int32) (k := 16) (by decide) (by decide)
  have t22 := own_bb_toInt (cc (cc (p1 &&& (255 : Int32))))
  have t23 := own_bb_toInt (bb (cc (cc (p1 &&& (255 : Int32)))))
  have t24 := own_bb_toInt (cc (cc (f7 &&& (255 : Int32))))
  have t25 := own_bb_toInt (bb (cc (cc (f7 &&& (255 : Int32)))))
  have t26 := own_bb_toInt (cc (cc (((p1.toUInt32 >>> ((8 : Int32) &&& 31).toUInt32).toInt32) &&& (255 : Int32))))
  have t27 := own_bb_toInt (bb (cc (cc (((p1.toUInt32 >>> ((8 : Int32) &&& 31).toUInt32).toInt32) &&& (255 : Int32)))))
  have t28 := own_bb_toInt (cc (cc (((f7.toUInt32 >>> ((8 : Int32) &&& 31).toUInt32).toInt32) &&& (255 : Int32))))
  have t29 := own_bb_toInt (bb (cc (cc (((f7.toUInt32 >>> ((8 : Int32) &&& 31).toUInt32).toInt32) &&& (255 : Int32)))))
  omega
theorem ow22 (p0 : Int32) (f6 : Int32) (hc2 : ¬ ((255 : Int32) < (cc (cc (p0 &&& (255 : Int32)))))) (hc3 : ¬ ((255 : Int32) < (cc (cc (((p0.toUInt32 >>> ((8 : Int32) &&& 31).toUInt32).toInt32) &&& (255 : Int32)))))) (hc32 : ¬ ((255 : Int32) < (cc (cc (f6 &&& (255 : Int32)))))) (hc33 : ¬ ((255 : Int32) < (cc (cc (((f6.toUInt32 >>> ((8 : Int32) &&& 31).toUInt32).toInt32) &&& (255 : Int32)))))) (hc83 : ¬ ((p0 &&& (65535 : Int32)) = (f6 &&& (65535 : Int32)))) (hc102 : (bb (bb (cc (cc (p0 &&& (255 : Int32)))))) = (bb (bb (cc (cc (f6 &&& (255 : Int32))))))) : ¬ ((bb (bb (cc (cc (((p0.toUInt32 >>> ((8 : Int32) &&& 31).toUInt32).toInt32) &&& (255 : Int32)))))) = (bb (bb (cc (cc (((f6.toUInt32 >>> ((8 : Int32) &&& 31).toUInt32).toInt32) &&& (255 : Int32))))))) := by
  rw [Int32.lt_iff_toInt_lt] at hc2 hc3 hc32 hc33
  rw [← Int32.toInt_inj] at hc83 hc102
  rw [← Int32.toInt_inj]
  have t1 : ((255 : Int32) : Int32).toInt = 255 := by decide
  have t2a := Int32.toInt_lt p0
  have t2b := Int32.le_toInt p0
  have t3 := Jvm.Kit.i32_mask p0 (255 : Int32) (k := 8) (by decide) (by decide)
  have t4 := own_cc_toInt (p0 &&& (255 : Int32))
  have t5 := own_cc_toInt (cc (p0 &&& (255 : Int32)))
  have t6 : ((8 : Int32) : Int32).toInt = 8 := by decide
  have t7 := own_ushr8 p0
  have t8 := Jvm.Kit.i32_mask ((p0.toUInt32 >>> ((8 : Int32) &&& 31).toUInt32).toInt32) (255 : Int32) (k := 8) (by decide) (by decide)
  have t9 := own_cc_toInt (((p0.toUInt32 >>> ((8 : Int32) &&& 31).toUInt32).toInt32) &&& (255 : Int32))
  have t10 := own_cc_toInt (cc (((p0.toUInt32 >>> ((8 : Int32) &&& 31).toUInt32).toInt32) &&& (255 : Int32)))
  have t11a := Int32.toInt_lt f6
  have t11b := Int32.le_toInt f6
  have t12 := Jvm.Kit.i32_mask f6 (255 : Int32) (k := 8) (by decide) (by decide)
  have t13 := own_cc_toInt (f6 &&& (255 : Int32))
  have t14 := own_cc_toInt (cc (f6 &&& (255 : Int32)))
  have t15 := own_ushr8 f6
  have t16 := Jvm.Kit.i32_mask ((f6.toUInt32 >>> ((8 : Int32) &&& 31).toUInt32).toInt32) (255 : Int32) (k := 8) (by decide) (by decide)
  have t17 := own_cc_toInt (((f6.toUInt32 >>> ((8 : Int32) &&& 31).toUInt32).toInt32) &&& (255 : Int32))
  have t18 := own_cc_toInt (cc (((f6.toUInt32 >>> ((8 : Int32) &&& 31).toUInt32).toInt32) &&& (255 : Int32)))
  have t19 : ((65535 : Int32) : Int32).toInt = 65535 := by decide
  have t20 := Jvm.Kit.i32_mask p0 (65535 : Int32) (k := 16) (by decide) (by decide)
  have t21 := Jvm.Kit.i32_mask f6 (65535 : Int32) (k := 16) (by decide) (by decide)
  have t22 := own_bb_toInt (cc (cc (p0 &&& (255 : Int32))))
  have t23 := own_bb_toInt (bb (cc (cc (p0 &&& (255 : Int32)))))
  have t24 := own_bb_toInt (cc (cc (f6 &&& (255 : Int32))))
  have t25 := own_bb_toInt (bb (cc (cc (f6 &&& (255 : Int32)))))
  have t26 := own_bb_toInt (cc (cc (((p0.toUInt32 >>> ((8 : Int32) &&& 31).toUInt32).toInt32) &&& (255 : Int32))))
  have t27 := own_bb_toInt (bb (cc (cc (((p0.toUInt32 >>> ((8 : Int32) &&& 31).toUInt32).toInt32) &&& (255 : Int32)))))
  have t28 := own_bb_toInt (cc (cc (((f6.toUInt32 >>> ((8 : Int32) &&& 31).toUInt32).toInt32) &&& (255 : Int32))))
  have t29 := own_bb_toInt (bb (cc (cc (((f6.toUInt32 >>> ((8 : Int32) &&& 31).toUInt32).toInt32) &&& (255 : Int32)))))
  omega
def Q0 (n0 : Nat) (v : Option Value) (h : Heap) (L : List Loc) : Prop := v = (some (.int (1 : Int32))) ∧ Fr n0 L
theorem jn1 {p : Program} {l : Launch} {e : Env} {s : State} {m : MethodId} {below : List Frame} {meth : Method} {c : Code} {T0 : State} {locs : List Loc} {Z : State} {a0 : Array Value} {h0 : Heap} {n0 : Nat} (hx : p.tables.exec = Jvm.exec) (hZ : Z.Warmed39 s.vm) (hby : c.code = code) (hml : c.maxLocals = 14) (hown : s.vm.findClass "com/example/darogan/darogan/FrameEqualsPinLaw" = some m.cls) (hrt : meth.sig.returnType = ret) (hlk : meth.locks = false) (hw : HW Z a0) (z_COMPACT_STRINGS : Int32) (p0 : Int32) (p1 : Int32) (p2 : Int32) (p3 : Int32) (p4 : Int32) (p5 : Int32) (f5 : Int32) (f6 : Int32) (f7 : Int32) (f8 : Int32) (f9 : Int32) (X0 : Stand p l e room_1 s m #[(.int p0), (.int p1), (.int p2), (.int p3), (.int p4), (.int p5)] below meth c T0 locs 0 0) (e0 : T0.heap = h0) (N0 : Fr n0 locs) (O0 : Old Z n0 h0) (S : SF Z z_COMPACT_STRINGS) :
    ∃ s₂ o, Steps p.tables e below (T0.setTop (mkF m 67 #[vi p0, vi p1, vi p2, vi p3, vi p4, vi f5, vi f6, vi f7, vi f8, vi f9, uu, uu, uu, uu] [])) s₂ ∧ s₂.status = .running ∧ Ended s₂ below o ∧ ∃ v L, o = .returned v ∧ Q0 n0 v s₂.heap L ∧ FrameEnd s o s₂ L room_1.cells room_1.slots := by
  have K0 : Keep h0 h0 [] := Keep.refl _ _
  obtain ⟨T1, h1, X1, e1, E1, A1, D1, -, st1⟩ := newO X0 hx hZ hown (ww hw 0 rfl) (ww hw 1 rfl) (ww hw 2 rfl) e0 (g := (mkF m 67 #[vi p0, vi p1, vi p2, vi p3, vi p4, vi f5, vi f6, vi f7, vi f8, vi f9, uu, uu, uu, uu] [])) rfl (hb hby at_67) (by decide) (by decide)
  obtain ⟨b1, qs1⟩ : ∃ z, z = h0.size := ⟨_, rfl⟩
  rw [← qs1] at A1 D1 st1
  have g_b1 : n0 ≤ b1 := Nat.le_trans (own_old O0) (Nat.le_of_eq qs1.symm)
  have sz_b1 : h0.size ≤ b1 := Nat.le_trans K0.1 (Nat.le_of_eq qs1.symm)
  have O1 := O0.ext E1
  have K1 : Keep h0 h1 [] := K0.ext E1
  have F_className_b1 : Fld Z h1 b1 sC1 "className" "Ljava/lang/String;" .null := D1 (Or.inr (ww hw 47 rfl)) (ty := (.object sC0)) (by decide)
  have F_method_b1 : Fld Z h1 b1 sC1 "method" "Ljava/lang/String;" .null := D1 (Or.inr (ww hw 49 rfl)) (ty := (.object sC0)) (by decide)
  have F_descriptor_b1 : Fld Z h1 b1 sC1 "descriptor" "Ljava/lang/String;" .null := D1 (Or.inr (ww hw 51 rfl)) (ty := (.object sC0)) (by decide)
  have F_instruction_b1 : Fld Z h1 b1 sC1 "instruction" "I" (.int 0) := D1 (Or.inr (ww hw 53 rfl)) (ty := .int) (by decide)
  have hc2 : ¬ ((255 : Int32) < (cc (cc (p0 &&& (255 : Int32))))) := ow1 p0
  have hc3 : ¬ ((255 : Int32) < (cc (cc (((p0.toUInt32 >>> ((8 : Int32) &&& 31).toUInt32).toInt32) &&& (255 : Int32))))) := ow2 p0 hc2
  obtain ⟨_, _, ⟨T4, L4, k4, n4⟩, -, X4, ⟨Lc4, hQ4, l4, y4, z4⟩, st4⟩ := Jvm.LawKit.callS X1 hx (y := My1) hown (mvT hZ (ww hw 3 rfl)) (mvT hZ (ww hw 4 rfl)) (mvT hZ (ww hw 5 rfl)) (mvT hZ (ww hw 6 rfl)) (by decide) (backOf (W := 2) (rm1_0 l Z a0 hw [] z_COMPACT_STRINGS p0 h1 n0 O1 S hc2 hc3) hZ (ww hw 6 rfl) (ww hw 5 rfl) (by decide) (by decide)) (g := (mkF m 72 #[vi p0, vi p1, vi p2, vi p3, vi p4, vi f5, vi f6, vi f7, vi f8, vi f9, uu, uu, uu, uu] [(.int p0), (.ref b1), (.ref b1)])) rfl (by rw [hml]; rfl) (argsL := [(.int p0)]) (rest := [(.ref b1), (.ref b1)]) (lenOf pd_5 rfl) rfl (by show 2 * 0 + _ ≤ _; exact Nat.le_of_eq rfl) (hb hby at_72) (fun _ _ => ⟨rfl, e1, (by decide : 1 + 3 ≤ _), (by decide : 4 + 8 ≤ _)⟩)
  dsimp only [Pt.U, Pt.locs, Pt.cells, Pt.slots] at X4 l4 y4 z4 st4 hQ4
  subst l4 y4 z4
  obtain ⟨b6_4, b1_3_2_8_4, k1_3_2_8_4, rfl, Nq4, Kc4, P0_4, P1_4, P2_4, P3_4, P4_4, P5_4, P6_4⟩ := hQ4
  have N4 := Fr.app N0 Nq4
  have ne_b1_b6_4 : b1 ≠ b6_4 := Nat.ne_of_lt (Nat.lt_of_lt_of_le A1.lt P4_4)
  have ne_b1_b1_3_2_8_4 : b1 ≠ b1_3_2_8_4 := Nat.ne_of_lt (Nat.lt_of_lt_of_le A1.lt P5_4)
  have g_b6_4 : n0 ≤ b6_4 := Nat.le_trans (own_old O1) P4_4
  have sz_b6_4 : h0.size ≤ b6_4 := Nat.le_trans K1.1 P4_4
  have g_b1_3_2_8_4 : n0 ≤ b1_3_2_8_4 := Nat.le_trans (own_old O1) P5_4
  have sz_b1_3_2_8_4 : h0.size ≤ b1_3_2_8_4 := Nat.le_trans K1.1 P5_4
  have O4 := O1.keep Kc4 all0
  have K4 : Keep h0 T4.heap [] := K1.trans Kc4 all0
  have hc5 : ¬ ((255 : Int32) < (cc (cc (p1 &&& (255 : Int32))))) := ow3 p1
  have hc6 : ¬ ((255 : Int32) < (cc (cc (((p1.toUInt32 >>> ((8 : Int32) &&& 31).toUInt32).toInt32) &&& (255 : Int32))))) := ow4 p1 hc5
  obtain ⟨_, _, ⟨T7, L7, k7, n7⟩, -, X7, ⟨Lc7, hQ7, l7, y7, z7⟩, st7⟩ := Jvm.LawKit.callS X4 hx (y := My1) hown (mvT hZ (ww hw 3 rfl)) (mvT hZ (ww hw 4 rfl)) (mvT hZ (ww hw 5 rfl)) (mvT hZ (ww hw 6 rfl)) (by decide) (backOf (W := 3) (rm1_0 l Z a0 hw [] z_COMPACT_STRINGS p1 T4.heap n0 O4 S hc5 hc6) hZ (ww hw 6 rfl) (ww hw 5 rfl) (by decide) (by decide)) (g := (mkF m 76 #[vi p0, vi p1, vi p2, vi p3, vi p4, vi f5, vi f6, vi f7, vi f8, vi f9, uu, uu, uu, uu] [(.int p1), (.ref b6_4), (.ref b1), (.ref b1)])) rfl (by rw [hml]; rfl) (argsL := [(.int p1)]) (rest := [(.ref b6_4), (.ref b1), (.ref b1)]) (lenOf pd_5 rfl) rfl (by show 2 * 0 + _ ≤ _; exact Nat.le_of_eq rfl) (hb hby at_76) (fun _ _ => ⟨rfl, rfl, (by decide : 4 + 3 ≤ _), (by decide : 12 + 8 ≤ _)⟩)
  dsimp only [Pt.U, Pt.locs, Pt.cells, Pt.slots] at X7 l7 y7 z7 st7 hQ7
  subst l7 y7 z7
  have fc8 := (A1.keep Kc4)
  obtain ⟨b6_7, b1_3_2_8_7, k1_3_2_8_7, rfl, Nq7, Kc7, P0_7, P1_7, P2_7, P3_7, P4_7, P5_7, P6_7⟩ := hQ7
  have N7 := Fr.app N4 Nq7
  have ne_b1_b6_7 : b1 ≠ b6_7 := Nat.ne_of_lt (Nat.lt_of_lt_of_le fc8.lt P4_7)
  have ne_b6_4_b6_7 : b6_4 ≠ b6_7 := Nat.ne_of_lt (Nat.lt_of_lt_of_le P0_4.lt P4_7)
  have ne_b1_3_2_8_4_b6_7 : b1_3_2_8_4 ≠ b6_7 := Nat.ne_of_lt (Nat.lt_of_lt_of_le P3_4.lt P4_7)
  have ne_b1_b1_3_2_8_7 : b1 ≠ b1_3_2_8_7 := Nat.ne_of_lt (Nat.lt_of_lt_of_le fc8.lt P5_7)
  have ne_b6_4_b1_3_2_8_7 : b6_4 ≠ b1_3_2_8_7 := Nat.ne_of_lt (Nat.lt_of_lt_of_le P0_4.lt P5_7)
  have ne_b1_3_2_8_4_b1_3_2_8_7 : b1_3_2_8_4 ≠ b1_3_2_8_7 := Nat.ne_of_lt (Nat.lt_of_lt_of_le P3_4.lt P5_7)
  have g_b6_7 : n0 ≤ b6_7 := Nat.le_trans (own_old O4) P4_7
  have sz_b6_7 : h0.size ≤ b6_7 := Nat.le_trans K4.1 P4_7
  have g_b1_3_2_8_7 : n0 ≤ b1_3_2_8_7 := Nat.le_trans (own_old O4) P5_7
  have sz_b1_3_2_8_7 : h0.size ≤ b1_3_2_8_7 := Nat.le_trans K4.1 P5_7
  have O7 := O4.keep Kc7 all0
  have K7 : Keep h0 T7.heap [] := K4.trans Kc7 all0
  have hc9 : ¬ ((255 : Int32) < (cc (cc (p2 &&& (255 : Int32))))) := ow5 p2
  have hc10 : ¬ ((255 : Int32) < (cc (cc (((p2.toUInt32 >>> ((8 : Int32) &&& 31).toUInt32).toInt32) &&& (255 : Int32))))) := ow6 p2 hc9
  obtain ⟨_, _, ⟨T11, L11, k11, n11⟩, -, X11, ⟨Lc11, hQ11, l11, y11, z11⟩, st11⟩ := Jvm.LawKit.callS X7 hx (y := My1) hown (mvT hZ (ww hw 3 rfl)) (mvT hZ (ww hw 4 rfl)) (mvT hZ (ww hw 5 rfl)) (mvT hZ (ww hw 6 rfl)) (by decide) (backOf (W := 4) (rm1_0 l Z a0 hw [] z_COMPACT_STRINGS p2 T7.heap n0 O7 S hc9 hc10) hZ (ww hw 6 rfl) (ww hw 5 rfl) (by decide) (by decide)) (g := (mkF m 80 #[vi p0, vi p1, vi p2, vi p3, vi p4, vi f5, vi f6, vi f7, vi f8, vi f9, uu, uu, uu, uu] [(.int p2), (.ref b6_7), (.ref b6_4), (.ref b1), (.ref b1)])) rfl (by rw [hml]; rfl) (argsL := [(.int p2)]) (rest := [(.ref b6_7), (.ref b6_4), (.ref b1), (.ref b1)]) (lenOf pd_5 rfl) rfl (by show 2 * 0 + _ ≤ _; exact Nat.le_of_eq rfl) (hb hby at_80) (fun _ _ => ⟨rfl, rfl, (by decide : 7 + 3 ≤ _), (by decide : 20 + 8 ≤ _)⟩)
  dsimp only [Pt.U, Pt.locs, Pt.cells, Pt.slots] at X11 l11 y11 z11 st11 hQ11
  subst l11 y11 z11
  have fc12 := (fc8.keep Kc7)
  have fc13 := (P0_4.keep Kc7)
  have fc14 := (P3_4.keep Kc7 nin0)
  obtain ⟨b6_11, b1_3_2_8_11, k1_3_2_8_11, rfl, Nq11, Kc11, P0_11, P1_11, P2_11, P3_11, P4_11, P5_11, P6_11⟩ := hQ11
  have N11 := Fr.app N7 Nq11
  have ne_b1_b6_11 : b1 ≠ b6_11 := Nat.ne_of_lt (Nat.lt_of_lt_of_le fc12.lt P4_11)
  have ne_b6_4_b6_11 : b6_4 ≠ b6_11 := Nat.ne_of_lt (Nat.lt_of_lt_of_le fc13.lt P4_11)
  have ne_b1_3_2_8_4_b6_11 : b1_3_2_8_4 ≠ b6_11 := Nat.ne_of_lt (Nat.lt_of_lt_of_le fc14.lt P4_11)
  have ne_b6_7_b6_11 : b6_7 ≠ b6_11 := Nat.ne_of_lt (Nat.lt_of_lt_of_le P0_7.lt P4_11)
  have ne_b1_3_2_8_7_b6_11 : b1_3_2_8_7 ≠ b6_11 := Nat.ne_of_lt (Nat.lt_of_lt_of_le P3_7.lt P4_11)
  have ne_b1_b1_3_2_8_11 : b1 ≠ b1_3_2_8_11 := Nat.ne_of_lt (Nat.lt_of_lt_of_le fc12.lt P5_11)
  have ne_b6_4_b1_3_2_8_11 : b6_4 ≠ b1_3_2_8_11 := Nat.ne_of_lt (Nat.lt_of_lt_of_le fc13.lt P5_11)
  have ne_b1_3_2_8_4_b1_3_2_8_11 : b1_3_2_8_4 ≠ b1_3_2_8_11 := Nat.ne_of_lt (Nat.lt_of_lt_of_le fc14.lt P5_11)
  have ne_b6_7_b1_3_2_8_11 : b6_7 ≠ b1_3_2_8_11 := Nat.ne_of_lt (Nat.lt_of_lt_of_le P0_7.lt P5_11)
  have ne_b1_3_2_8_7_b1_3_2_8_11 : b1_3_2_8_7 ≠ b1_3_2_8_11 := Nat.ne_of_lt (Nat.lt_of_lt_of_le P3_7.lt P5_11)
  have g_b6_11 : n0 ≤ b6_11 := Nat.le_trans (own_old O7) P4_11
  have sz_b6_11 : h0.size ≤ b6_11 := Nat.le_trans K7.1 P4_11
  have g_b1_3_2_8_11 : n0 ≤ b1_3_2_8_11 := Nat.le_trans (own_old O7) P5_11
  have sz_b1_3_2_8_11 : h0.size ≤ b1_3_2_8_11 := Nat.le_trans K7.1 P5_11
  have O11 := O7.keep Kc11 all0
  have K11 : Keep h0 T11.heap [] := K7.trans Kc11 all0
  have fc15 := (fc12.keep Kc11)
  have fc16 := (((F_className_b1.keep Kc4 nin0).keep Kc7 nin0).keep Kc11 nin0)
  have fc17 := (((F_descriptor_b1.keep Kc4 nin0).keep Kc7 nin0).keep Kc11 nin0)
  have fc18 := (((F_instruction_b1.keep Kc4 nin0).keep Kc7 nin0).keep Kc11 nin0)
  have fc19 := (((F_method_b1.keep Kc4 nin0).keep Kc7 nin0).keep Kc11 nin0)
  obtain ⟨_, _, ⟨T20, L20, k20, n20⟩, -, X20, ⟨Lc20, hQ20, l20, y20, z20⟩, st20⟩ := X11.specialBack hx (y := (⟨sC1, "<init>", "(Ljava/lang/String;Ljava/lang/String;Ljava/lang/String;I)V"⟩ : MethodName)) rfl hown (mvT hZ (ww hw 37 rfl)) (mvT hZ (ww hw 38 rfl)) (mvT hZ (ww hw 39 rfl)) (by decide) (backOf (W := 1) (rm8_0 l Z a0 hw [] z_COMPACT_STRINGS b1 b6_4 b1_3_2_8_4 b6_7 b1_3_2_8_7 b6_11 b1_3_2_8_11 k1_3_2_8_4 k1_3_2_8_7 k1_3_2_8_11 p3 (bb (bb (cc (cc (p0 &&& (255 : Int32)))))) (bb (bb (cc (cc (((p0.toUInt32 >>> ((8 : Int32) &&& 31).toUInt32).toInt32) &&& (255 : Int32)))))) (bb (bb (cc (cc (p1 &&& (255 : Int32)))))) (bb (bb (cc (cc (((p1.toUInt32 >>> ((8 : Int32) &&& 31).toUInt32).toInt32) &&& (255 : Int32)))))) (bb (bb (cc (cc (p2 &&& (255 : Int32)))))) (bb (bb (cc (cc (((p2.toUInt32 >>> ((8 : Int32) &&& 31).toUInt32).toInt32) &&& (255 : Int32)))))) T11.heap n0 O11 S fc15 fc16 fc17 fc18 fc19 g_b1) hZ (ww hw 39 rfl) (ww hw 2 rfl) (by decide) (by decide)) (g := (mkF m 84 #[vi p0, vi p1, vi p2, vi p3, vi p4, vi f5, vi f6, vi f7, vi f8, vi f9, uu, uu, uu, uu] [(.int p3), (.ref b6_11), (.ref b6_7), (.ref b6_4), (.ref b1), (.ref b1)])) rfl (by rw [hml]; rfl) (Steps.refl _) (a := b1) (argsL := [(.ref b6_4), (.ref b6_7), (.ref b6_11), (.int p3)]) (rest := [(.ref b1)]) (lenOf pd_7 rfl) rfl (by show 2 * 0 + _ ≤ _; exact Nat.le_of_eq rfl) (hb hby at_84) (fun _ _ => ⟨rfl, rfl, (by decide : 10 + 0 ≤ _), (by decide : 28 + 0 ≤ _)⟩)
  dsimp only [Pt.U, Pt.locs, Pt.cells, Pt.slots] at X20 l20 y20 z20 st20 hQ20
  subst l20 y20 z20
  have fc21 := (fc13.keep Kc11)
  have fc22 := (fc14.keep Kc11 nin0)
  have fc23 := (P0_7.keep Kc11)
  have fc24 := (P3_7.keep Kc11 nin0)
  obtain ⟨rfl, Nq20, Kc20, P0_20, P1_20, P2_20, P3_20, P4_20⟩ := hQ20
  have N20 := Fr.app N11 Nq20
  have O20 := O11.keep Kc20 (allS g_b1 all0)
  have K20 : Keep h0 T20.heap [] := K11.trans Kc20 (allS (Or.inr sz_b1) all0)
  have fc25 := (fc21.keep Kc20)
  have fc26 := (fc22.keep Kc20 (ninS (Ne.symm ne_b1_b1_3_2_8_4) nin0))
  have fc27 := (fc23.keep Kc20)
  have fc28 := (fc24.keep Kc20 (ninS (Ne.symm ne_b1_b1_3_2_8_7) nin0))
  have fc29 := (P0_11.keep Kc20)
  have fc30 := (P3_11.keep Kc20 (ninS (Ne.symm ne_b1_b1_3_2_8_11) nin0))
  obtain ⟨T31, h31, X31, e31, E31, A31, D31, -, st31⟩ := newO X20 hx hZ hown (ww hw 0 rfl) (ww hw 1 rfl) (ww hw 2 rfl) rfl (g := (mkF m 89 #[vi p0, vi p1, vi p2, vi p3, vi p4, vi f5, vi f6, vi f7, vi f8, vi f9, va b1, uu, uu, uu] [])) rfl (hb hby at_89) (by decide) (by decide)
  obtain ⟨b31, qs31⟩ : ∃ z, z = T20.heap.size := ⟨_, rfl⟩
  rw [← qs31] at A31 D31 st31
  have ne_b1_b31 : b1 ≠ b31 := Nat.ne_of_lt (Nat.lt_of_lt_of_le P0_20.lt (Nat.le_of_eq qs31.symm))
  have ne_b6_4_b31 : b6_4 ≠ b31 := Nat.ne_of_lt (Nat.lt_of_lt_of_le fc25.lt (Nat.le_of_eq qs31.symm))
  have ne_b1_3_2_8_4_b31 : b1_3_2_8_4 ≠ b31 := Nat.ne_of_lt (Nat.lt_of_lt_of_le fc26.lt (Nat.le_of_eq qs31.symm))
  have ne_b6_7_b31 : b6_7 ≠ b31 := Nat.ne_of_lt (Nat.lt_of_lt_of_le fc27.lt (Nat.le_of_eq qs31.symm))
  have ne_b1_3_2_8_7_b31 : b1_3_2_8_7 ≠ b31 := Nat.ne_of_lt (Nat.lt_of_lt_of_le fc28.lt (Nat.le_of_eq qs31.symm))
  have ne_b6_11_b31 : b6_11 ≠ b31 := Nat.ne_of_lt (Nat.lt_of_lt_of_le fc29.lt (Nat.le_of_eq qs31.symm))
  have ne_b1_3_2_8_11_b31 : b1_3_2_8_11 ≠ b31 := Nat.ne_of_lt (Nat.lt_of_lt_of_le fc30.lt (Nat.le_of_eq qs31.symm))
  have g_b31 : n0 ≤ b31 := Nat.le_trans (own_old O20) (Nat.le_of_eq qs31.symm)
  have sz_b31 : h0.size ≤ b31 := Nat.le_trans K20.1 (Nat.le_of_eq qs31.symm)
  have O31 := O20.ext E31
  have K31 : Keep h0 h31 [] := K20.ext E31
  have F_className_b31 : Fld Z h31 b31 sC1 "className" "Ljava/lang/String;" .null := D31 (Or.inr (ww hw 47 rfl)) (ty := (.object sC0)) (by decide)
  have F_method_b31 : Fld Z h31 b31 sC1 "method" "Ljava/lang/String;" .null := D31 (Or.inr (ww hw 49 rfl)) (ty := (.object sC0)) (by decide)
  have F_descriptor_b31 : Fld Z h31 b31 sC1 "descriptor" "Ljava/lang/String;" .null := D31 (Or.inr (ww hw 51 rfl)) (ty := (.object sC0)) (by decide)
  have F_instruction_b31 : Fld Z h31 b31 sC1 "instruction" "I" (.int 0) := D31 (Or.inr (ww hw 53 rfl)) (ty := .int) (by decide)
  have hc32 : ¬ ((255 : Int32) < (cc (cc (f6 &&& (255 : Int32))))) := ow7 f6
  have hc33 : ¬ ((255 : Int32) < (cc (cc (((f6.toUInt32 >>> ((8 : Int32) &&& 31).toUInt32).toInt32) &&& (255 : Int32))))) := ow8 f6 hc32
  obtain ⟨_, _, ⟨T34, L34, k34, n34⟩, -, X34, ⟨Lc34, hQ34, l34, y34, z34⟩, st34⟩ := Jvm.LawKit.callS X31 hx (y := My1) hown (mvT hZ (ww hw 3 rfl)) (mvT hZ (ww hw 4 rfl)) (mvT hZ (ww hw 5 rfl)) (mvT hZ (ww hw 6 rfl)) (by decide) (backOf (W := 2) (rm1_0 l Z a0 hw [] z_COMPACT_STRINGS f6 h31 n0 O31 S hc32 hc33) hZ (ww hw 6 rfl) (ww hw 5 rfl) (by decide) (by decide)) (g := (mkF m 95 #[vi p0, vi p1, vi p2, vi p3, vi p4, vi f5, vi f6, vi f7, vi f8, vi f9, va b1, uu, uu, uu] [(.int f6), (.ref b31), (.ref b31)])) rfl (by rw [hml]; rfl) (argsL := [(.int f6)]) (rest := [(.ref b31), (.ref b31)]) (lenOf pd_5 rfl) rfl (by show 2 * 0 + _ ≤ _; exact Nat.le_of_eq rfl) (hb hby at_95) (fun _ _ => ⟨rfl, e31, (by decide : 11 + 3 ≤ _), (by decide : 32 + 8 ≤ _)⟩)
  dsimp only [Pt.U, Pt.locs, Pt.cells, Pt.slots] at X34 l34 y34 z34 st34 hQ34
  subst l34 y34 z34
  have fc35 := (P0_20.ext E31)
  have fc36 := (fc25.ext E31)
  have fc37 := (fc26.ext E31)
  have fc38 := (fc27.ext E31)
  have fc39 := (fc28.ext E31)
  have fc40 := (fc29.ext E31)
  have fc41 := (fc30.ext E31)
  obtain ⟨b6_34, b1_3_2_8_34, k1_3_2_8_34, rfl, Nq34, Kc34, P0_34, P1_34, P2_34, P3_34, P4_34, P5_34, P6_34⟩ := hQ34
  have N34 := Fr.app N20 Nq34
  have ne_b1_b6_34 : b1 ≠ b6_34 := Nat.ne_of_lt (Nat.lt_of_lt_of_le fc35.lt P4_34)
  have ne_b6_4_b6_34 : b6_4 ≠ b6_34 := Nat.ne_of_lt (Nat.lt_of_lt_of_le fc36.lt P4_34)
  have ne_b1_3_2_8_4_b6_34 : b1_3_2_8_4 ≠ b6_34 := Nat.ne_of_lt (Nat.lt_of_lt_of_le fc37.lt P4_34)
  have ne_b6_7_b6_34 : b6_7 ≠ b6_34 := Nat.ne_of_lt (Nat.lt_of_lt_of_le fc38.lt P4_34)
  have ne_b1_3_2_8_7_b6_34 : b1_3_2_8_7 ≠ b6_34 := Nat.ne_of_lt (Nat.lt_of_lt_of_le fc39.lt P4_34)
  have ne_b6_11_b6_34 : b6_11 ≠ b6_34 := Nat.ne_of_lt (Nat.lt_of_lt_of_le fc40.lt P4_34)
  have ne_b1_3_2_8_11_b6_34 : b1_3_2_8_11 ≠ b6_34 := Nat.ne_of_lt (Nat.lt_of_lt_of_le fc41.lt P4_34)
  have ne_b31_b6_34 : b31 ≠ b6_34 := Nat.ne_of_lt (Nat.lt_of_lt_of_le A31.lt P4_34)
  have ne_b1_b1_3_2_8_34 : b1 ≠ b1_3_2_8_34 := Nat.ne_of_lt (Nat.lt_of_lt_of_le fc35.lt P5_34)
  have ne_b6_4_b1_3_2_8_34 : b6_4 ≠ b1_3_2_8_34 := Nat.ne_of_lt (Nat.lt_of_lt_of_le fc36.lt P5_34)
  have ne_b1_3_2_8_4_b1_3_2_8_34 : b1_3_2_8_4 ≠ b1_3_2_8_34 := Nat.ne_of_lt (Nat.lt_of_lt_of_le fc37.lt P5_34)
  have ne_b6_7_b1_3_2_8_34 : b6_7 ≠ b1_3_2_8_34 := Nat.ne_of_lt (Nat.lt_of_lt_of_le fc38.lt P5_34)
  have ne_b1_3_2_8_7_b1_3_2_8_34 : b1_3_2_8_7 ≠ b1_3_2_8_34 := Nat.ne_of_lt (Nat.lt_of_lt_of_le fc39.lt P5_34)
  have ne_b6_11_b1_3_2_8_34 : b6_11 ≠ b1_3_2_8_34 := Nat.ne_of_lt (Nat.lt_of_lt_of_le fc40.lt P5_34)
  have ne_b1_3_2_8_11_b1_3_2_8_34 : b1_3_2_8_11 ≠ b1_3_2_8_34 := Nat.ne_of_lt (Nat.lt_of_lt_of_le fc41.lt P5_34)
  have ne_b31_b1_3_2_8_34 : b31 ≠ b1_3_2_8_34 := Nat.ne_of_lt (Nat.lt_of_lt_of_le A31.lt P5_34)
  have g_b6_34 : n0 ≤ b6_34 := Nat.le_trans (own_old O31) P4_34
  have sz_b6_34 : h0.size ≤ b6_34 := Nat.le_trans K31.1 P4_34
  have g_b1_3_2_8_34 : n0 ≤ b1_3_2_8_34 := Nat.le_trans (own_old O31) P5_34
  have sz_b1_3_2_8_34 : h0.size ≤ b1_3_2_8_34 := Nat.le_trans K31.1 P5_34
  have O34 := O31.keep Kc34 all0
  have K34 : Keep h0 T34.heap [] := K31.trans Kc34 all0
  have hc42 : ¬ ((255 : Int32) < (cc (cc (f7 &&& (255 : Int32))))) := ow9 f7
  have hc43 : ¬ ((255 : Int32) < (cc (cc (((f7.toUInt32 >>> ((8 : Int32) &&& 31).toUInt32).toInt32) &&& (255 : Int32))))) := ow10 f7 hc42
  obtain ⟨_, _, ⟨T44, L44, k44, n44⟩, -, X44, ⟨Lc44, hQ44, l44, y44, z44⟩, st44⟩ := Jvm.LawKit.callS X34 hx (y := My1) hown (mvT hZ (ww hw 3 rfl)) (mvT hZ (ww hw 4 rfl)) (mvT hZ (ww hw 5 rfl)) (mvT hZ (ww hw 6 rfl)) (by decide) (backOf (W := 3) (rm1_0 l Z a0 hw [] z_COMPACT_STRINGS f7 T34.heap n0 O34 S hc42 hc43) hZ (ww hw 6 rfl) (ww hw 5 rfl) (by decide) (by decide)) (g := (mkF m 100 #[vi p0, vi p1, vi p2, vi p3, vi p4, vi f5, vi f6, vi f7, vi f8, vi f9, va b1, uu, uu, uu] [(.int f7), (.ref b6_34), (.ref b31), (.ref b31)])) rfl (by rw [hml]; rfl) (argsL := [(.int f7)]) (rest := [(.ref b6_34), (.ref b31), (.ref b31)]) (lenOf pd_5 rfl) rfl (by show 2 * 0 + _ ≤ _; exact Nat.le_of_eq rfl) (hb hby at_100) (fun _ _ => ⟨rfl, rfl, (by decide : 14 + 3 ≤ _), (by decide : 40 + 8 ≤ _)⟩)
  dsimp only [Pt.U, Pt.locs, Pt.cells, Pt.slots] at X44 l44 y44 z44 st44 hQ44
  subst l44 y44 z44
  have fc45 := (fc35.keep Kc34)
  have fc46 := (fc36.keep Kc34)
  have fc47 := (fc37.keep Kc34 nin0)
  have fc48 := (fc38.keep Kc34)
  have fc49 := (fc39.keep Kc34 nin0)
  have fc50 := (fc40.keep Kc34)
  have fc51 := (fc41.keep Kc34 nin0)
  have fc52 := (A31.keep Kc34)
  obtain ⟨b6_44, b1_3_2_8_44, k1_3_2_8_44, rfl, Nq44, Kc44, P0_44, P1_44, P2_44, P3_44, P4_44, P5_44, P6_44⟩ := hQ44
  have N44 := Fr.app N34 Nq44
  have ne_b1_b6_44 : b1 ≠ b6_44 := Nat.ne_of_lt (Nat.lt_of_lt_of_le fc45.lt P4_44)
  have ne_b6_4_b6_44 : b6_4 ≠ b6_44 := Nat.ne_of_lt (Nat.lt_of_lt_of_le fc46.lt P4_44)
  have ne_b1_3_2_8_4_b6_44 : b1_3_2_8_4 ≠ b6_44 := Nat.ne_of_lt (Nat.lt_of_lt_of_le fc47.lt P4_44)
  have ne_b6_7_b6_44 : b6_7 ≠ b6_44 := Nat.ne_of_lt (Nat.lt_of_lt_of_le fc48.lt P4_44)
  have ne_b1_3_2_8_7_b6_44 : b1_3_2_8_7 ≠ b6_44 := Nat.ne_of_lt (Nat.lt_of_lt_of_le fc49.lt P4_44)
  have ne_b6_11_b6_44 : b6_11 ≠ b6_44 := Nat.ne_of_lt (Nat.lt_of_lt_of_le fc50.lt P4_44)
  have ne_b1_3_2_8_11_b6_44 : b1_3_2_8_11 ≠ b6_44 := Nat.ne_of_lt (Nat.lt_of_lt_of_le fc51.lt P4_44)
  have ne_b31_b6_44 : b31 ≠ b6_44 := Nat.ne_of_lt (Nat.lt_of_lt_of_le fc52.lt P4_44)
  have ne_b6_34_b6_44 : b6_34 ≠ b6_44 := Nat.ne_of_lt (Nat.lt_of_lt_of_le P0_34.lt P4_44)
  have ne_b1_3_2_8_34_b6_44 : b1_3_2_8_34 ≠ b6_44 := Nat.ne_of_lt (Nat.lt_of_lt_of_le P3_34.lt P4_44)
  have ne_b1_b1_3_2_8_44 : b1 ≠ b1_3_2_8_44 := Nat.ne_of_lt (Nat.lt_of_lt_of_le fc45.lt P5_44)
  have ne_b6_4_b1_3_2_8_44 : b6_4 ≠ b1_3_2_8_44 := Nat.ne_of_lt (Nat.lt_of_lt_of_le fc46.lt P5_44)
  have ne_b1_3_2_8_4_b1_3_2_8_44 : b1_3_2_8_4 ≠ b1_3_2_8_44 := Nat.ne_of_lt (Nat.lt_of_lt_of_le fc47.lt P5_44)
  have ne_b6_7_b1_3_2_8_44 : b6_7 ≠ b1_3_2_8_44 := Nat.ne_of_lt (Nat.lt_of_lt_of_le fc48.lt P5_44)
  have ne_b1_3_2_8_7_b1_3_2_8_44 : b1_3_2_8_7 ≠ b1_3_2_8_44 := Nat.ne_of_lt (Nat.lt_of_lt_of_le fc49.lt P5_44)
  have ne_b6_11_b1_3_2_8_44 : b6_11 ≠ b1_3_2_8_44 := Nat.ne_of_lt (Nat.lt_of_lt_of_le fc50.lt P5_44)
  have ne_b1_3_2_8_11_b1_3_2_8_44 : b1_3_2_8_11 ≠ b1_3_2_8_44 := Nat.ne_of_lt (Nat.lt_of_lt_of_le fc51.lt P5_44)
  have ne_b31_b1_3_2_8_44 : b31 ≠ b1_3_2_8_44 := Nat.ne_of_lt (Nat.lt_of_lt_of_le fc52.lt P5_44)
  have ne_b6_34_b1_3_2_8_44 : b6_34 ≠ b1_3_2_8_44 := Nat.ne_of_lt (Nat.lt_of_lt_of_le P0_34.lt P5_44)
  have ne_b1_3_2_8_34_b1_3_2_8_44 : b1_3_2_8_34 ≠ b1_3_2_8_44 := Nat.ne_of_lt (Nat.lt_of_lt_of_le P3_34.lt P5_44)
  have g_b6_44 : n0 ≤ b6_44 := Nat.le_trans (own_old O34) P4_44
  have sz_b6_44 : h0.size ≤ b6_44 := Nat.le_trans K34.1 P4_44
  have g_b1_3_2_8_44 : n0 ≤ b1_3_2_8_44 := Nat.le_trans (own_old O34) P5_44
  have sz_b1_3_2_8_44 : h0.size ≤ b1_3_2_8_44 := Nat.le_trans K34.1 P5_44
  have O44 := O34.keep Kc44 all0
  have K44 : Keep h0 T44.heap [] := K34.trans Kc44 all0
  have hc53 : ¬ ((255 : Int32) < (cc (cc (f8 &&& (255 : Int32))))) := ow11 f8
  have hc54 : ¬ ((255 : Int32) < (cc (cc (((f8.toUInt32 >>> ((8 : Int32) &&& 31).toUInt32).toInt32) &&& (255 : Int32))))) := ow12 f8 hc53
  obtain ⟨_, _, ⟨T55, L55, k55, n55⟩, -, X55, ⟨Lc55, hQ55, l55, y55, z55⟩, st55⟩ := Jvm.LawKit.callS X44 hx (y := My1) hown (mvT hZ (ww hw 3 rfl)) (mvT hZ (ww hw 4 rfl)) (mvT hZ (ww hw 5 rfl)) (mvT hZ (ww hw 6 rfl)) (by decide) (backOf (W := 4) (rm1_0 l Z a0 hw [] z_COMPACT_STRINGS f8 T44.heap n0 O44 S hc53 hc54) hZ (ww hw 6 rfl) (ww hw 5 rfl) (by decide) (by decide)) (g := (mkF m 105 #[vi p0, vi p1, vi p2, vi p3, vi p4, vi f5, vi f6, vi f7, vi f8, vi f9, va b1, uu, uu, uu] [(.int f8), (.ref b6_44), (.ref b6_34), (.ref b31), (.ref b31)])) rfl (by rw [hml]; rfl) (argsL := [(.int f8)]) (rest := [(.ref b6_44), (.ref b6_34), (.ref b31), (.ref b31)]) (lenOf pd_5 rfl) rfl (by show 2 * 0 + _ ≤ _; exact Nat.le_of_eq rfl) (hb hby at_105) (fun _ _ => ⟨rfl, rfl, (by decide : 17 + 3 ≤ _), (by decide : 48 + 8 ≤ _)⟩)
  dsimp only [Pt.U, Pt.locs, Pt.cells, Pt.slots] at X55 l55 y55 z55 st55 hQ55
  subst l55 y55 z55
  have fc56 := (fc45.keep Kc44)
  have fc57 := (fc46.keep Kc44)
  have fc58 := (fc47.keep Kc44 nin0)
  have fc59 := (fc48.keep Kc44)
  have fc60 := (fc49.keep Kc44 nin0)
  have fc61 := (fc50.keep Kc44)
  have fc62 := (fc51.keep Kc44 nin0)
  have fc63 := (fc52.keep Kc44)
  have fc64 := (P0_34.keep Kc44)
  have fc65 := (P3_34.keep Kc44 nin0)
  obtain ⟨b6_55, b1_3_2_8_55, k1_3_2_8_55, rfl, Nq55, Kc55, P0_55, P1_55, P2_55, P3_55, P4_55, P5_55, P6_55⟩ := hQ55
  have N55 := Fr.app N44 Nq55
  have ne_b1_b6_55 : b1 ≠ b6_55 := Nat.ne_of_lt (Nat.lt_of_lt_of_le fc56.lt P4_55)
  have ne_b6_4_b6_55 : b6_4 ≠ b6_55 := Nat.ne_of_lt (Nat.lt_of_lt_of_le fc57.lt P4_55)
  have ne_b1_3_2_8_4_b6_55 : b1_3_2_8_4 ≠ b6_55 := Nat.ne_of_lt (Nat.lt_of_lt_of_le fc58.lt P4_55)
  have ne_b6_7_b6_55 : b6_7 ≠ b6_55 := Nat.ne_of_lt (Nat.lt_of_lt_of_le fc59.lt P4_55)
  have ne_b1_3_2_8_7_b6_55 : b1_3_2_8_7 ≠ b6_55 := Nat.ne_of_lt (Nat.lt_of_lt_of_le fc60.lt P4_55)
  have ne_b6_11_b6_55 : b6_11 ≠ b6_55 := Nat.ne_of_lt (Nat.lt_of_lt_of_le fc61.lt P4_55)
  have ne_b1_3_2_8_11_b6_55 : b1_3_2_8_11 ≠ b6_55 := Nat.ne_of_lt (Nat.lt_of_lt_of_le fc62.lt P4_55)
  have ne_b31_b6_55 : b31 ≠ b6_55 := Nat.ne_of_lt (Nat.lt_of_lt_of_le fc63.lt P4_55)
  have ne_b6_34_b6_55 : b6_34 ≠ b6_55 := Nat.ne_of_lt (Nat.lt_of_lt_of_le fc64.lt P4_55)
  have ne_b1_3_2_8_34_b6_55 : b1_3_2_8_34 ≠ b6_55 := Nat.ne_of_lt (Nat.lt_of_lt_of_le fc65.lt P4_55)
  have ne_b6_44_b6_55 : b6_44 ≠ b6_55 := Nat.ne_of_lt (Nat.lt_of_lt_of_le P0_44.lt P4_55)
  have ne_b1_3_2_8_44_b6_55 : b1_3_2_8_44 ≠ b6_55 := Nat.ne_of_lt (Nat.lt_of_lt_of_le P3_44.lt P4_55)
  have ne_b1_b1_3_2_8_55 : b1 ≠ b1_3_2_8_55 := Nat.ne_of_lt (Nat.lt_of_lt_of_le fc56.lt P5_55)
  have ne_b6_4_b1_3_2_8_55 : b6_4 ≠ b1_3_2_8_55 := Nat.ne_of_lt (Nat.lt_of_lt_of_le fc57.lt P5_55)
  have ne_b1_3_2_8_4_b1_3_2_8_55 : b1_3_2_8_4 ≠ b1_3_2_8_55 := Nat.ne_of_lt (Nat.lt_of_lt_of_le fc58.lt P5_55)
  have ne_b6_7_b1_3_2_8_55 : b6_7 ≠ b1_3_2_8_55 := Nat.ne_of_lt (Nat.lt_of_lt_of_le fc59.lt P5_55)
  have ne_b1_3_2_8_7_b1_3_2_8_55 : b1_3_2_8_7 ≠ b1_3_2_8_55 := Nat.ne_of_lt (Nat.lt_of_lt_of_le fc60.lt P5_55)
  have ne_b6_11_b1_3_2_8_55 : b6_11 ≠ b1_3_2_8_55 := Nat.ne_of_lt (Nat.lt_of_lt_of_le fc61.lt P5_55)
  have ne_b1_3_2_8_11_b1_3_2_8_55 : b1_3_2_8_11 ≠ b1_3_2_8_55 := Nat.ne_of_lt (Nat.lt_of_lt_of_le fc62.lt P5_55)
  have ne_b31_b1_3_2_8_55 : b31 ≠ b1_3_2_8_55 := Nat.ne_of_lt (Nat.lt_of_lt_of_le fc63.lt P5_55)
  have ne_b6_34_b1_3_2_8_55 : b6_34 ≠ b1_3_2_8_55 := Nat.ne_of_lt (Nat.lt_of_lt_of_le fc64.lt P5_55)
  have ne_b1_3_2_8_34_b1_3_2_8_55 : b1_3_2_8_34 ≠ b1_3_2_8_55 := Nat.ne_of_lt (Nat.lt_of_lt_of_le fc65.lt P5_55)
  have ne_b6_44_b1_3_2_8_55 : b6_44 ≠ b1_3_2_8_55 := Nat.ne_of_lt (Nat.lt_of_lt_of_le P0_44.lt P5_55)
  have ne_b1_3_2_8_44_b1_3_2_8_55 : b1_3_2_8_44 ≠ b1_3_2_8_55 := Nat.ne_of_lt (Nat.lt_of_lt_of_le P3_44.lt P5_55)
  have g_b6_55 : n0 ≤ b6_55 := Nat.le_trans (own_old O44) P4_55
  have sz_b6_55 : h0.size ≤ b6_55 := Nat.le_trans K44.1 P4_55
  have g_b1_3_2_8_55 : n0 ≤ b1_3_2_8_55 := Nat.le_trans (own_old O44) P5_55
  have sz_b1_3_2_8_55 : h0.size ≤ b1_3_2_8_55 := Nat.le_trans K44.1 P5_55
  have O55 := O44.keep Kc55 all0
  have K55 : Keep h0 T55.heap [] := K44.trans Kc55 all0
  have fc66 := (fc63.keep Kc55)
  have fc67 := (((F_className_b31.keep Kc34 nin0).keep Kc44 nin0).keep Kc55 nin0)
  have fc68 := (((F_descriptor_b31.keep Kc34 nin0).keep Kc44 nin0).keep Kc55 nin0)
  have fc69 := (((F_instruction_b31.keep Kc34 nin0).keep Kc44 nin0).keep Kc55 nin0)
  have fc70 := (((F_method_b31.keep Kc34 nin0).keep Kc44 nin0).keep Kc55 nin0)
  obtain ⟨_, _, ⟨T71, L71, k71, n71⟩, -, X71, ⟨Lc71, hQ71, l71, y71, z71⟩, st71⟩ := X55.specialBack hx (y := (⟨sC1, "<init>", "(Ljava/lang/String;Ljava/lang/String;Ljava/lang/String;I)V"⟩ : MethodName)) rfl hown (mvT hZ (ww hw 37 rfl)) (mvT hZ (ww hw 38 rfl)) (mvT hZ (ww hw 39 rfl)) (by decide) (backOf (W := 1) (rm8_0 l Z a0 hw [] z_COMPACT_STRINGS b31 b6_34 b1_3_2_8_34 b6_44 b1_3_2_8_44 b6_55 b1_3_2_8_55 k1_3_2_8_34 k1_3_2_8_44 k1_3_2_8_55 f9 (bb (bb (cc (cc (f6 &&& (255 : Int32)))))) (bb (bb (cc (cc (((f6.toUInt32 >>> ((8 : Int32) &&& 31).toUInt32).toInt32) &&& (255 : Int32)))))) (bb (bb (cc (cc (f7 &&& (255 : Int32)))))) (bb (bb (cc (cc (((f7.toUInt32 >>> ((8 : Int32) &&& 31).toUInt32).toInt32) &&& (255 : Int32)))))) (bb (bb (cc (cc (f8 &&& (255 : Int32)))))) (bb (bb (cc (cc (((f8.toUInt32 >>> ((8 : Int32) &&& 31).toUInt32).toInt32) &&& (255 : Int32)))))) T55.heap n0 O55 S fc66 fc67 fc68 fc69 fc70 g_b31) hZ (ww hw 39 rfl) (ww hw 2 rfl) (by decide) (by decide)) (g := (mkF m 110 #[vi p0, vi p1, vi p2, vi p3, vi p4, vi f5, vi f6, vi f7, vi f8, vi f9, va b1, uu, uu, uu] [(.int f9), (.ref b6_55), (.ref b6_44), (.ref b6_34), (.ref b31), (.ref b31)])) rfl (by rw [hml]; rfl) (Steps.refl _) (a := b31) (argsL := [(.ref b6_34), (.ref b6_44), (.ref b6_55), (.int f9)]) (rest := [(.ref b31)]) (lenOf pd_7 rfl) rfl (by show 2 * 0 + _ ≤ _; exact Nat.le_of_eq rfl) (hb hby at_110) (fun _ _ => ⟨rfl, rfl, (by decide : 20 + 0 ≤ _), (by decide : 56 + 0 ≤ _)⟩)
  dsimp only [Pt.U, Pt.locs, Pt.cells, Pt.slots] at X71 l71 y71 z71 st71 hQ71
  subst l71 y71 z71
  have fc72 := (fc56.keep Kc55)
  have fc73 := (fc57.keep Kc55)
  have fc74 := (fc58.keep Kc55 nin0)
  have fc75 := (fc59.keep Kc55)
  have fc76 := (fc60.keep Kc55 nin0)
  have fc77 := (fc61.keep Kc55)
  have fc78 := (fc62.keep Kc55 nin0)
  have fc79 := (fc64.keep Kc55)
  have fc80 := (fc65.keep Kc55 nin0)
  have fc81 := (P0_44.keep Kc55)
  have fc82 := (P3_44.keep Kc55 nin0)
  obtain ⟨rfl, Nq71, Kc71, P0_71, P1_71, P2_71, P3_71, P4_71⟩ := hQ71
  have N71 := Fr.app N55 Nq71
  have O71 := O55.keep Kc71 (allS g_b31 all0)
  have K71 : Keep h0 T71.heap [] := K55.trans Kc71 (allS (Or.inr sz_b31) all0)
  have pre_84 : ∀ t, Steps p.tables e below (T71.setTop (mkF m 118 #[vi p0, vi p1, vi p2, vi p3, vi p4, vi f5, vi f6, vi f7, vi f8, vi f9, va b1, va b31, uu, uu] [(.int f6), (.int p0)])) t → Steps p.tables e below (T0.setTop (mkF m 67 #[vi p0, vi p1, vi p2, vi p3, vi p4, vi f5, vi f6, vi f7, vi f8, vi f9, uu, uu, uu, uu] [])) t := fun t k => (by
    show Steps p.tables e below (T0.setTop (mkF m 67 #[vi p0, vi p1, vi p2, vi p3, vi p4, vi f5, vi f6, vi f7, vi f8, vi f9, uu, uu, uu, uu] [])) _
    refine st1 _ ?_
    refine XS.dup X1.here hx rfl (hb hby at_70) rfl rfl ?_
    refine XS.iloadN X1.here hx rfl (hb hby at_71) rfl ?_
    refine st4 _ ?_
    refine XS.iloadN X4.here hx rfl (hb hby at_75) rfl ?_
    refine st7 _ ?_
    refine XS.iloadN X7.here hx rfl (hb hby at_79) rfl ?_
    refine st11 _ ?_
    show Steps p.tables e below (T11.setTop (mkF m 83 #[vi p0, vi p1, vi p2, vi p3, vi p4, vi f5, vi f6, vi f7, vi f8, vi f9, uu, uu, uu, uu] [(.ref b6_11), (.ref b6_7), (.ref b6_4), (.ref b1), (.ref b1)])) _
    refine XS.iloadN X11.here hx rfl (hb hby at_83) rfl ?_
    refine st20.trans ?_
    refine XS.astore X20.here hx rfl (hb hby at_87) rfl rfl (l' := #[vi p0, vi p1, vi p2, vi p3, vi p4, vi f5, vi f6, vi f7, vi f8, vi f9, va b1, uu, uu, uu]) rfl ?_
    refine st31 _ ?_
    refine XS.dup X31.here hx rfl (hb hby at_92) rfl rfl ?_
    refine XS.iload X31.here hx rfl (hb hby at_93) rfl ?_
    refine st34 _ ?_
    refine XS.iload X34.here hx rfl (hb hby at_98) rfl ?_
    show Steps p.tables e below (T34.setTop (mkF m 100 #[vi p0, vi p1, vi p2, vi p3, vi p4, vi f5, vi f6, vi f7, vi f8, vi f9, va b1, uu, uu, uu] [(.int f7), (.ref b6_34), (.ref b31), (.ref b31)])) _
    refine st44 _ ?_
    refine XS.iload X44.here hx rfl (hb hby at_103) rfl ?_
    refine st55 _ ?_
    refine XS.iload X55.here hx rfl (hb hby at_108) rfl ?_
    refine st71.trans ?_
    refine XS.astore X71.here hx rfl (hb hby at_113) rfl rfl (l' := #[vi p0, vi p1, vi p2, vi p3, vi p4, vi f5, vi f6, vi f7, vi f8, vi f9, va b1, va b31, uu, uu]) rfl ?_
    refine XS.iloadN X71.here hx rfl (hb hby at_115) rfl ?_
    refine XS.iload X71.here hx rfl (hb hby at_116) rfl ?_
    exact k)
  by_cases hc83 : (p0 &&& (65535 : Int32)) = (f6 &&& (65535 : Int32))
  · obtain ⟨_, _, ⟨T85, L85, k85, n85⟩, -, X85, ⟨Lc85, hQ85, l85, y85, z85⟩, st85⟩ := Jvm.LawKit.callS X71 hx (y := My10) hown (mvT hZ (ww hw 54 rfl)) (mvT hZ (ww hw 55 rfl)) (mvT hZ (ww hw 5 rfl)) (mvT hZ (ww hw 56 rfl)) (by decide) (backOf (W := 0) (rm10_1 l Z a0 hw [] z_COMPACT_STRINGS p0 f6 T71.heap n0 O71 S hc83) hZ (ww hw 56 rfl) (ww hw 5 rfl) (by decide) (by decide)) (g := (mkF m 118 #[vi p0, vi p1, vi p2, vi p3, vi p4, vi f5, vi f6, vi f7, vi f8, vi f9, va b1, va b31, uu, uu] [(.int f6), (.int p0)])) rfl (by rw [hml]; rfl) (argsL := [(.int p0), (.int f6)]) (rest := []) (lenOf pd_8 rfl) rfl (by show 2 * 0 + _ ≤ _; exact Nat.le_of_eq rfl) (hb hby at_118) (fun _ _ => ⟨rfl, rfl, (by decide : 20 + 0 ≤ _), (by decide : 56 + 0 ≤ _)⟩)
    dsimp only [Pt.U, Pt.locs, Pt.cells, Pt.slots] at X85 l85 y85 z85 st85 hQ85
    subst l85 y85 z85
    obtain ⟨rfl, Nq85, e85⟩ := hQ85
    have N85 := Fr.app N71 Nq85
    have pre_87 : ∀ t, Steps p.tables e below (T85.setTop (mkF m 127 #[vi p0, vi p1, vi p2, vi p3, vi p4, vi f5, vi f6, vi f7, vi f8, vi f9, va b1, va b31, uu, uu] [(.int f7), (.int p1)])) t → Steps p.tables e below (T0.setTop (mkF m 67 #[vi p0, vi p1, vi p2, vi p3, vi p4, vi f5, vi f6, vi f7, vi f8, vi f9, uu, uu, uu, uu] [])) t := fun t k => pre_84 t (by
      show Steps p.tables e below (T71.setTop (mkF m 118 #[vi p0, vi p1, vi p2, vi p3, vi p4, vi f5, vi f6, vi f7, vi f8, vi f9, va b1, va b31, uu, uu] [(.int f6), (.int p0)])) _
      refine st85 _ ?_
      refine XS.ifNo X85.here hx rfl (hb hby at_121) rfl ((if0 _ _).trans (feq (by decide : ¬ ((1 : Int32) = (0 : Int32)))).1) ?_
      refine XS.iloadN X85.here hx rfl (hb hby at_124) rfl ?_
      refine XS.iload X85.here hx rfl (hb hby at_125) rfl ?_
      exact k)
    by_cases hc86 : (p1 &&& (65535 : Int32)) = (f7 &&& (65535 : Int32))
    · obtain ⟨_, _, ⟨T88, L88, k88, n88⟩, -, X88, ⟨Lc88, hQ88, l88, y88, z88⟩, st88⟩ := Jvm.LawKit.callS X85 hx (y := My10) hown (mvT hZ (ww hw 54 rfl)) (mvT hZ (ww hw 55 rfl)) (mvT hZ (ww hw 5 rfl)) (mvT hZ (ww hw 56 rfl)) (by decide) (backOf (W := 0) (rm10_1 l Z a0 hw [] z_COMPACT_STRINGS p1 f7 T71.heap n0 O71 S hc86) hZ (ww hw 56 rfl) (ww hw 5 rfl) (by decide) (by decide)) (g := (mkF m 127 #[vi p0, vi p1, vi p2, vi p3, vi p4, vi f5, vi f6, vi f7, vi f8, vi f9, va b1, va b31, uu, uu] [(.int f7), (.int p1)])) rfl (by rw [hml]; rfl) (argsL := [(.int p1), (.int f7)]) (rest := []) (lenOf pd_8 rfl) rfl (by show 2 * 0 + _ ≤ _; exact Nat.le_of_eq rfl) (hb hby at_127) (fun _ _ => ⟨rfl, e85, (by decide : 20 + 0 ≤ _), (by decide : 56 + 0 ≤ _)⟩)
      dsimp only [Pt.U, Pt.locs, Pt.cells, Pt.slots] at X88 l88 y88 z88 st88 hQ88
      subst l88 y88 z88
      obtain ⟨rfl, Nq88, e88⟩ := hQ88
      have N88 := Fr.app N85 Nq88
      have pre_90 : ∀ t, Steps p.tables e below (T88.setTop (mkF m 136 #[vi p0, vi p1, vi p2, vi p3, vi p4, vi f5, vi f6, vi f7, vi f8, vi f9, va b1, va b31, uu, uu] [(.int f8), (.int p2)])) t → Steps p.tables e below (T0.setTop (mkF m 67 #[vi p0, vi p1, vi p2, vi p3, vi p4, vi f5, vi f6, vi f7, vi f8, vi f9, uu, uu, uu, uu] [])) t := fun t k => pre_87 t (by
        show Steps p.tables e below (T85.setTop (mkF m 127 #[vi p0, vi p1, vi p2, vi p3, vi p4, vi f5, vi f6, vi f7, vi f8, vi f9, va b1, va b31, uu, uu] [(.int f7), (.int p1)])) _
        refine st88 _ ?_
        refine XS.ifNo X88.here hx rfl (hb hby at_130) rfl ((if0 _ _).trans (feq (by decide : ¬ ((1 : Int32) = (0 : Int32)))).1) ?_
        refine XS.iloadN X88.here hx rfl (hb hby at_133) rfl ?_
        refine XS.iload X88.here hx rfl (hb hby at_134) rfl ?_
        exact k)
      by_cases hc89 : (p2 &&& (65535 : Int32)) = (f8 &&& (65535 : Int32))
      · obtain ⟨_, _, ⟨T91, L91, k91, n91⟩, -, X91, ⟨Lc91, hQ91, l91, y91, z91⟩, st91⟩ := Jvm.LawKit.callS X88 hx (y := My10) hown (mvT hZ (ww hw 54 rfl)) (mvT hZ (ww hw 55 rfl)) (mvT hZ (ww hw 5 rfl)) (mvT hZ (ww hw 56 rfl)) (by decide) (backOf (W := 0) (rm10_1 l Z a0 hw [] z_COMPACT_STRINGS p2 f8 T71.heap n0 O71 S hc89) hZ (ww hw 56 rfl) (ww hw 5 rfl) (by decide) (by decide)) (g := (mkF m 136 #[vi p0, vi p1, vi p2, vi p3, vi p4, vi f5, vi f6, vi f7, vi f8, vi f9, va b1, va b31, uu, uu] [(.int f8), (.int p2)])) rfl (by rw [hml]; rfl) (argsL := [(.int p2), (.int f8)]) (rest := []) (lenOf pd_8 rfl) rfl (by show 2 * 0 + _ ≤ _; exact Nat.le_of_eq rfl) (hb hby at_136) (fun _ _ => ⟨rfl, e88, (by decide : 20 + 0 ≤ _), (by decide : 56 + 0 ≤ _)⟩)
        dsimp only [Pt.U, Pt.locs, Pt.cells, Pt.slots] at X91 l91 y91 z91 st91 hQ91
        subst l91 y91 z91
        obtain ⟨rfl, Nq91, e91⟩ := hQ91
        have N91 := Fr.app N88 Nq91
        have pre_93 : ∀ t, Steps p.tables e below (T91.setTop (mkF m 145 #[vi p0, vi p1, vi p2, vi p3, vi p4, vi f5, vi f6, vi f7, vi f8, vi f9, va b1, va b31, uu, uu] [(.int f9), (.int p3)])) t → Steps p.tables e below (T0.setTop (mkF m 67 #[vi p0, vi p1, vi p2, vi p3, vi p4, vi f5, vi f6, vi f7, vi f8, vi f9, uu, uu, uu, uu] [])) t := fun t k => pre_90 t (by
          show Steps p.tables e below (T88.setTop (mkF m 136 #[vi p0, vi p1, vi p2, vi p3, vi p4, vi f5, vi f6, vi f7, vi f8, vi f9, va b1, va b31, uu, uu] [(.int f8), (.int p2)])) _
          refine st91 _ ?_
          refine XS.ifNo X91.here hx rfl (hb hby at_139) rfl ((if0 _ _).trans (feq (by decide : ¬ ((1 : Int32) = (0 : Int32)))).1) ?_
          refine XS.iloadN X91.here hx rfl (hb hby at_142) rfl ?_
          refine XS.iload X91.here hx rfl (hb hby at_143) rfl ?_
          exact k)
        by_cases hc92 : p3 = f9
        · obtain ⟨_, _, ⟨T94, L94, k94, n94⟩, -, X94, ⟨Lc94, hQ94, l94, y94, z94⟩, st94⟩ := Jvm.LawKit.callS X91 hx (y := My1) hown (mvT hZ (ww hw 3 rfl)) (mvT hZ (ww hw 4 rfl)) (mvT hZ (ww hw 5 rfl)) (mvT hZ (ww hw 6 rfl)) (by decide) (backOf (W := 0) (rm1_0 l Z a0 hw [] z_COMPACT_STRINGS p0 T71.heap n0 O71 S hc2 hc3) hZ (ww hw 6 rfl) (ww hw 5 rfl) (by decide) (by decide)) (g := (mkF m 156 #[vi p0, vi p1, vi p2, vi p3, vi p4, vi f5, vi f6, vi f7, vi f8, vi f9, va b1, va b31, vi 1, uu] [(.int p0)])) rfl (by rw [hml]; rfl) (argsL := [(.int p0)]) (rest := []) (lenOf pd_5 rfl) rfl (by show 2 * 0 + _ ≤ _; exact Nat.le_of_eq rfl) (hb hby at_156) (fun _ _ => ⟨rfl, e91, (by decide : 20 + 3 ≤ _), (by decide : 56 + 8 ≤ _)⟩)
          dsimp only [Pt.U, Pt.locs, Pt.cells, Pt.slots] at X94 l94 y94 z94 st94 hQ94
          subst l94 y94 z94
          have fc95 := (fc72.keep Kc71)
          have fc96 := (fc73.keep Kc71)
          have fc97 := (fc74.keep Kc71 (ninS ne_b1_3_2_8_4_b31 nin0))
          have fc98 := (fc75.keep Kc71)
          have fc99 := (fc76.keep Kc71 (ninS ne_b1_3_2_8_7_b31 nin0))
          have fc100 := (fc77.keep Kc71)
          have fc101 := (fc78.keep Kc71 (ninS ne_b1_3_2_8_11_b31 nin0))
          have fc102 := (fc79.keep Kc71)
          have fc103 := (fc80.keep Kc71 (ninS (Ne.symm ne_b31_b1_3_2_8_34) nin0))
          have fc104 := (fc81.keep Kc71)
          have fc105 := (fc82.keep Kc71 (ninS (Ne.symm ne_b31_b1_3_2_8_44) nin0))
          have fc106 := (P0_55.keep Kc71)
          have fc107 := (P3_55.keep Kc71 (ninS (Ne.symm ne_b31_b1_3_2_8_55) nin0))
          obtain ⟨b6_94, b1_3_2_8_94, k1_3_2_8_94, rfl, Nq94, Kc94, P0_94, P1_94, P2_94, P3_94, P4_94, P5_94, P6_94⟩ := hQ94
          have N94 := Fr.app N91 Nq94
          have ne_b1_b6_94 : b1 ≠ b6_94 := Nat.ne_of_lt (Nat.lt_of_lt_of_le fc95.lt P4_94)
          have ne_b6_4_b6_94 : b6_4 ≠ b6_94 := Nat.ne_of_lt (Nat.lt_of_lt_of_le fc96.lt P4_94)
          have ne_b1_3_2_8_4_b6_94 : b1_3_2_8_4 ≠ b6_94 := Nat.ne_of_lt (Nat.lt_of_lt_of_le fc97.lt P4_94)
          have ne_b6_7_b6_94 : b6_7 ≠ b6_94 := Nat.ne_of_lt (Nat.lt_of_lt_of_le fc98.lt P4_94)
          have ne_b1_3_2_8_7_b6_94 : b1_3_2_8_7 ≠ b6_94 := Nat.ne_of_lt (Nat.lt_of_lt_of_le fc99.lt P4_94)
          have ne_b6_11_b6_94 : b6_11 ≠ b6_94 := Nat.ne_of_lt (Nat.lt_of_lt_of_le fc100.lt P4_94)
          have ne_b1_3_2_8_11_b6_94 : b1_3_2_8_11 ≠ b6_94 := Nat.ne_of_lt (Nat.lt_of_lt_of_le fc101.lt P4_94)
          have ne_b31_b6_94 : b31 ≠ b6_94 := Nat.ne_of_lt (Nat.lt_of_lt_of_le P0_71.lt P4_94)
          have ne_b6_34_b6_94 : b6_34 ≠ b6_94 := Nat.ne_of_lt (Nat.lt_of_lt_of_le fc102.lt P4_94)
          have ne_b1_3_2_8_34_b6_94 : b1_3_2_8_34 ≠ b6_94 := Nat.ne_of_lt (Nat.lt_of_lt_of_le fc103.lt P4_94)
          have ne_b6_44_b6_94 : b6_44 ≠ b6_94 := Nat.ne_of_lt (Nat.lt_of_lt_of_le fc104.lt P4_94)
          have ne_b1_3_2_8_44_b6_94 : b1_3_2_8_44 ≠ b6_94 := Nat.ne_of_lt (Nat.lt_of_lt_of_le fc105.lt P4_94)
          have ne_b6_55_b6_94 : b6_55 ≠ b6_94 := Nat.ne_of_lt (Nat.lt_of_lt_of_le fc106.lt P4_94)
          have ne_b1_3_2_8_55_b6_94 : b1_3_2_8_55 ≠ b6_94 := Nat.ne_of_lt (Nat.lt_of_lt_of_le fc107.lt P4_94)
          have ne_b1_b1_3_2_8_94 : b1 ≠ b1_3_2_8_94 := Nat.ne_of_lt (Nat.lt_of_lt_of_le fc95.lt P5_94)
          have ne_b6_4_b1_3_2_8_94 : b6_4 ≠ b1_3_2_8_94 := Nat.ne_of_lt (Nat.lt_of_lt_of_le fc96.lt P5_94)
          have ne_b1_3_2_8_4_b1_3_2_8_94 : b1_3_2_8_4 ≠ b1_3_2_8_94 := Nat.ne_of_lt (Nat.lt_of_lt_of_le fc97.lt P5_94)
          have ne_b6_7_b1_3_2_8_94 : b6_7 ≠ b1_3_2_8_94 := Nat.ne_of_lt (Nat.lt_of_lt_of_le fc98.lt P5_94)
          have ne_b1_3_2_8_7_b1_3_2_8_94 : b1_3_2_8_7 ≠ b1_3_2_8_94 := Nat.ne_of_lt (Nat.lt_of_lt_of_le fc99.lt P5_94)
          have ne_b6_11_b1_3_2_8_94 : b6_11 ≠ b1_3_2_8_94 := Nat.ne_of_lt (Nat.lt_of_lt_of_le fc100.lt P5_94)
          have ne_b1_3_2_8_11_b1_3_2_8_94 : b1_3_2_8_11 ≠ b1_3_2_8_94 := Nat.ne_of_lt (Nat.lt_of_lt_of_le fc101.lt P5_94)
          have ne_b31_b1_3_2_8_94 : b31 ≠ b1_3_2_8_94 := Nat.ne_of_lt (Nat.lt_of_lt_of_le P0_71.lt P5_94)
          have ne_b6_34_b1_3_2_8_94 : b6_34 ≠ b1_3_2_8_94 := Nat.ne_of_lt (Nat.lt_of_lt_of_le fc102.lt P5_94)
          have ne_b1_3_2_8_34_b1_3_2_8_94 : b1_3_2_8_34 ≠ b1_3_2_8_94 := Nat.ne_of_lt (Nat.lt_of_lt_of_le fc103.lt P5_94)
          have ne_b6_44_b1_3_2_8_94 : b6_44 ≠ b1_3_2_8_94 := Nat.ne_of_lt (Nat.lt_of_lt_of_le fc104.lt P5_94)
          have ne_b1_3_2_8_44_b1_3_2_8_94 : b1_3_2_8_44 ≠ b1_3_2_8_94 := Nat.ne_of_lt (Nat.lt_of_lt_of_le fc105.lt P5_94)
          have ne_b6_55_b1_3_2_8_94 : b6_55 ≠ b1_3_2_8_94 := Nat.ne_of_lt (Nat.lt_of_lt_of_le fc106.lt P5_94)
          have ne_b1_3_2_8_55_b1_3_2_8_94 : b1_3_2_8_55 ≠ b1_3_2_8_94 := Nat.ne_of_lt (Nat.lt_of_lt_of_le fc107.lt P5_94)
          have g_b6_94 : n0 ≤ b6_94 := Nat.le_trans (own_old O71) P4_94
          have sz_b6_94 : h0.size ≤ b6_94 := Nat.le_trans K71.1 P4_94
          have g_b1_3_2_8_94 : n0 ≤ b1_3_2_8_94 := Nat.le_trans (own_old O71) P5_94
          have sz_b1_3_2_8_94 : h0.size ≤ b1_3_2_8_94 := Nat.le_trans K71.1 P5_94
          have O94 := O71.keep Kc94 all0
          have K94 : Keep h0 T94.heap [] := K71.trans Kc94 all0
          have hc108 : (bb (bb (cc (cc (p0 &&& (255 : Int32)))))) = (bb (bb (cc (cc (f6 &&& (255 : Int32)))))) := ow13 p0 f6 hc2 hc3 hc32 hc33 hc83
          have hc109 : (bb (bb (cc (cc (((p0.toUInt32 >>> ((8 : Int32) &&& 31).toUInt32).toInt32) &&& (255 : Int32)))))) = (bb (bb (cc (cc (((f6.toUInt32 >>> ((8 : Int32) &&& 31).toUInt32).toInt32) &&& (255 : Int32)))))) := ow14 p0 f6 hc2 hc3 hc32 hc33 hc83 hc108
          have hc110 : (bb (bb (cc (cc (p1 &&& (255 : Int32)))))) = (bb (bb (cc (cc (f7 &&& (255 : Int32)))))) := ow15 p1 f7 hc5 hc6 hc42 hc43 hc86
          have hc111 : (bb (bb (cc (cc (((p1.toUInt32 >>> ((8 : Int32) &&& 31).toUInt32).toInt32) &&& (255 : Int32)))))) = (bb (bb (cc (cc (((f7.toUInt32 >>> ((8 : Int32) &&& 31).toUInt32).toInt32) &&& (255 : Int32)))))) := ow16 p1 f7 hc5 hc6 hc42 hc43 hc86 hc110
          have hc112 : (bb (bb (cc (cc (p2 &&& (255 : Int32)))))) = (bb (bb (cc (cc (f8 &&& (255 : Int32)))))) := ow17 p2 f8 hc9 hc10 hc53 hc54 hc89
          have hc113 : (bb (bb (cc (cc (((p2.toUInt32 >>> ((8 : Int32) &&& 31).toUInt32).toInt32) &&& (255 : Int32)))))) = (bb (bb (cc (cc (((f8.toUInt32 >>> ((8 : Int32) &&& 31).toUInt32).toInt32) &&& (255 : Int32)))))) := ow18 p2 f8 hc9 hc10 hc53 hc54 hc89 hc112
          have fc114 := (fc95.keep Kc94)
          have fc115 := ((((((P1_20.ext E31).keep Kc34 nin0).keep Kc44 nin0).keep Kc55 nin0).keep Kc71 (ninS ne_b1_b31 nin0)).keep Kc94 nin0)
          have fc116 := ((((((P2_20.ext E31).keep Kc34 nin0).keep Kc44 nin0).keep Kc55 nin0).keep Kc71 (ninS ne_b1_b31 nin0)).keep Kc94 nin0)
          have fc117 := ((((((P3_20.ext E31).keep Kc34 nin0).keep Kc44 nin0).keep Kc55 nin0).keep Kc71 (ninS ne_b1_b31 nin0)).keep Kc94 nin0)
          have fc118 := ((((((P4_20.ext E31).keep Kc34 nin0).keep Kc44 nin0).keep Kc55 nin0).keep Kc71 (ninS ne_b1_b31 nin0)).keep Kc94 nin0)
          have fc119 := (fc96.keep Kc94)
          have fc120 := (((((((((P1_4.keep Kc7 nin0).keep Kc11 nin0).keep Kc20 (ninS (Ne.symm ne_b1_b6_4) nin0)).ext E31).keep Kc34 nin0).keep Kc44 nin0).keep Kc55 nin0).keep Kc71 (ninS ne_b6_4_b31 nin0)).keep Kc94 nin0)
          have fc121 := (((((((((P2_4.keep Kc7 nin0).keep Kc11 nin0).keep Kc20 (ninS (Ne.symm ne_b1_b6_4) nin0)).ext E31).keep Kc34 nin0).keep Kc44 nin0).keep Kc55 nin0).keep Kc71 (ninS ne_b6_4_b31 nin0)).keep Kc94 nin0)
          have fc122 := (fc97.keep Kc94 nin0)
          have fc123 := (fc100.keep Kc94)
          have fc124 := (((((((P1_11.keep Kc20 (ninS (Ne.symm ne_b1_b6_11) nin0)).ext E31).keep Kc34 nin0).keep Kc44 nin0).keep Kc55 nin0).keep Kc71 (ninS ne_b6_11_b31 nin0)).keep Kc94 nin0)
          have fc125 := (((((((P2_11.keep Kc20 (ninS (Ne.symm ne_b1_b6_11) nin0)).ext E31).keep Kc34 nin0).keep Kc44 nin0).keep Kc55 nin0).keep Kc71 (ninS ne_b6_11_b31 nin0)).keep Kc94 nin0)
          have fc126 := (fc101.keep Kc94 nin0)
          have fc127 := (fc98.keep Kc94)
          have fc128 := ((((((((P1_7.keep Kc11 nin0).keep Kc20 (ninS (Ne.symm ne_b1_b6_7) nin0)).ext E31).keep Kc34 nin0).keep Kc44 nin0).keep Kc55 nin0).keep Kc71 (ninS ne_b6_7_b31 nin0)).keep Kc94 nin0)
          have fc129 := ((((((((P2_7.keep Kc11 nin0).keep Kc20 (ninS (Ne.symm ne_b1_b6_7) nin0)).ext E31).keep Kc34 nin0).keep Kc44 nin0).keep Kc55 nin0).keep Kc71 (ninS ne_b6_7_b31 nin0)).keep Kc94 nin0)
          have fc130 := (fc99.keep Kc94 nin0)
          have fc131 := (P0_71.keep Kc94)
          have fc132 := (P1_71.keep Kc94 nin0)
          have fc133 := (P2_71.keep Kc94 nin0)
          have fc134 := (P3_71.keep Kc94 nin0)
          have fc135 := (P4_71.keep Kc94 nin0)
          have fc136 := (fc102.keep Kc94)
          have fc137 := ((((P1_34.keep Kc44 nin0).keep Kc55 nin0).keep Kc71 (ninS (Ne.symm ne_b31_b6_34) nin0)).keep Kc94 nin0)
          have fc138 := ((((P2_34.keep Kc44 nin0).keep Kc55 nin0).keep Kc71 (ninS (Ne.symm ne_b31_b6_34) nin0)).keep Kc94 nin0)
          have fc139 := (fc103.keep Kc94 nin0)
          have fc140 := (fc106.keep Kc94)
          have fc141 := ((P1_55.keep Kc71 (ninS (Ne.symm ne_b31_b6_55) nin0)).keep Kc94 nin0)
          have fc142 := ((P2_55.keep Kc71 (ninS (Ne.symm ne_b31_b6_55) nin0)).keep Kc94 nin0)
          have fc143 := (fc107.keep Kc94 nin0)
          have fc144 := (fc104.keep Kc94)
          have fc145 := (((P1_44.keep Kc55 nin0).keep Kc71 (ninS (Ne.symm ne_b31_b6_44) nin0)).keep Kc94 nin0)
          have fc146 := (((P2_44.keep Kc55 nin0).keep Kc71 (ninS (Ne.symm ne_b31_b6_44) nin0)).keep Kc94 nin0)
          have fc147 := (fc105.keep Kc94 nin0)
          obtain ⟨cq148, kq148, q148a, q148b, q148c⟩ := isOf hZ rfl fc114
          obtain ⟨_, _, ⟨T148, L148, k148, n148⟩, -, X148, ⟨Lc148, hQ148, l148, y148, z148⟩, st148⟩ := X94.virtualBack hx (y := My11) (z := My11) hown (mvT hZ (ww hw 58 rfl)) (mvT hZ (ww hw 59 rfl)) (notFace_of_selects (args := #[]) (mvT hZ (ww hw 61 rfl))) (mvT hZ (ww hw 61 rfl)) (mvT hZ (ww hw 60 rfl)) (by decide) (backOf (W := 0) (rm11_0 l Z a0 hw [] z_COMPACT_STRINGS b1 b6_4 b1_3_2_8_4 b6_11 b1_3_2_8_11 b6_7 b1_3_2_8_7 b31 b6_34 b1_3_2_8_34 b6_55 b1_3_2_8_55 b6_44 b1_3_2_8_44 k1_3_2_8_4 k1_3_2_8_11 k1_3_2_8_7 k1_3_2_8_34 k1_3_2_8_55 k1_3_2_8_44 p3 (bb (bb (cc (cc (p0 &&& (255 : Int32)))))) (bb (bb (cc (cc (((p0.toUInt32 >>> ((8 : Int32) &&& 31).toUInt32).toInt32) &&& (255 : Int32)))))) (bb (bb (cc (cc (p2 &&& (255 : Int32)))))) (bb (bb (cc (cc (((p2.toUInt32 >>> ((8 : Int32) &&& 31).toUInt32).toInt32) &&& (255 : Int32)))))) (bb (bb (cc (cc (p1 &&& (255 : Int32)))))) (bb (bb (cc (cc (((p1.toUInt32 >>> ((8 : Int32) &&& 31).toUInt32).toInt32) &&& (255 : Int32)))))) f9 (bb (bb (cc (cc (f6 &&& (255 : Int32)))))) (bb (bb (cc (cc (((f6.toUInt32 >>> ((8 : Int32) &&& 31).toUInt32).toInt32) &&& (255 : Int32)))))) (bb (bb (cc (cc (f8 &&& (255 : Int32)))))) (bb (bb (cc (cc (((f8.toUInt32 >>> ((8 : Int32) &&& 31).toUInt32).toInt32) &&& (255 : Int32)))))) (bb (bb (cc (cc (f7 &&& (255 : Int32)))))) (bb (bb (cc (cc (((f7.toUInt32 >>> ((8 : Int32) &&& 31).toUInt32).toInt32) &&& (255 : Int32)))))) T94.heap n0 O94 S fc114 fc115 fc116 fc117 fc118 fc119 fc120 fc121 fc122 fc123 fc124 fc125 fc126 fc127 fc128 fc129 fc130 fc131 fc132 fc133 fc134 fc135 fc136 fc137 fc138 fc139 fc140 fc141 fc142 fc143 fc144 fc145 fc146 fc147 ne_b6_4_b6_34 ne_b6_11_b6_55 ne_b6_7_b6_44 hc92 hc108 hc109 hc110 hc111 hc112 hc113) hZ (ww hw 62 rfl) (ww hw 2 rfl) (by decide) (by decide)) q148a q148c (g := (mkF m 165 #[vi p0, vi p1, vi p2, vi p3, vi p4, vi f5, vi f6, vi f7, vi f8, vi f9, va b1, va b31, vi 1, va b6_94] [(.ref b31), (.ref b1)])) rfl (by rw [hml]; rfl) (Steps.refl _) (argsL := [(.ref b31)]) (rest := []) (lenOf pd_10 rfl) rfl (by show 2 * 0 + _ ≤ _; exact Nat.le_of_eq rfl) (hb hby at_165) (fun _ _ => ⟨rfl, rfl, (by decide : 23 + 0 ≤ _), (by decide : 64 + 0 ≤ _)⟩)
          dsimp only [Pt.U, Pt.locs, Pt.cells, Pt.slots] at X148 l148 y148 z148 st148 hQ148
          subst l148 y148 z148
          obtain ⟨rfl, Nq148, e148⟩ := hQ148
          have N148 := Fr.app N94 Nq148
          obtain ⟨cq149, kq149, q149a, q149b, q149c⟩ := isOf hZ e148 fc131
          obtain ⟨_, _, ⟨T149, L149, k149, n149⟩, -, X149, ⟨Lc149, hQ149, l149, y149, z149⟩, st149⟩ := X148.virtualBack hx (y := My11) (z := My11) hown (mvT hZ (ww hw 58 rfl)) (mvT hZ (ww hw 59 rfl)) (notFace_of_selects (args := #[]) (mvT hZ (ww hw 61 rfl))) (mvT hZ (ww hw 61 rfl)) (mvT hZ (ww hw 60 rfl)) (by decide) (backOf (W := 0) (rm11_0 l Z a0 hw [] z_COMPACT_STRINGS b31 b6_34 b1_3_2_8_34 b6_55 b1_3_2_8_55 b6_44 b1_3_2_8_44 b1 b6_4 b1_3_2_8_4 b6_11 b1_3_2_8_11 b6_7 b1_3_2_8_7 k1_3_2_8_34 k1_3_2_8_55 k1_3_2_8_44 k1_3_2_8_4 k1_3_2_8_11 k1_3_2_8_7 f9 (bb (bb (cc (cc (f6 &&& (255 : Int32)))))) (bb (bb (cc (cc (((f6.toUInt32 >>> ((8 : Int32) &&& 31).toUInt32).toInt32) &&& (255 : Int32)))))) (bb (bb (cc (cc (f8 &&& (255 : Int32)))))) (bb (bb (cc (cc (((f8.toUInt32 >>> ((8 : Int32) &&& 31).toUInt32).toInt32) &&& (255 : Int32)))))) (bb (bb (cc (cc (f7 &&& (255 : Int32)))))) (bb (bb (cc (cc (((f7.toUInt32 >>> ((8 : Int32) &&& 31).toUInt32).toInt32) &&& (255 : Int32)))))) p3 (bb (bb (cc (cc (p0 &&& (255 : Int32)))))) (bb (bb (cc (cc (((p0.toUInt32 >>> ((8 : Int32) &&& 31).toUInt32).toInt32) &&& (255 : Int32)))))) (bb (bb (cc (cc (p2 &&& (255 : Int32)))))) (bb (bb (cc (cc (((p2.toUInt32 >>> ((8 : Int32) &&& 31).toUInt32).toInt32) &&& (255 : Int32)))))) (bb (bb (cc (cc (p1 &&& (255 : Int32)))))) (bb (bb (cc (cc (((p1.toUInt32 >>> ((8 : Int32) &&& 31).toUInt32).toInt32) &&& (255 : Int32)))))) T94.heap n0 O94 S fc131 fc132 fc133 fc134 fc135 fc136 fc137 fc138 fc139 fc140 fc141 fc142 fc143 fc144 fc145 fc146 fc147 fc114 fc115 fc116 fc117 fc118 fc119 fc120 fc121 fc122 fc123 fc124 fc125 fc126 fc127 fc128 fc129 fc130 (Ne.symm ne_b6_4_b6_34) (Ne.symm ne_b6_11_b6_55) (Ne.symm ne_b6_7_b6_44) (hc92).symm (hc108).symm (hc109).symm (hc110).symm (hc111).symm (hc112).symm (hc113).symm) hZ (ww hw 62 rfl) (ww hw 2 rfl) (by decide) (by decide)) q149a q149c (g := (mkF m 177 #[vi p0, vi p1, vi p2, vi p3, vi p4, vi f5, vi f6, vi f7, vi f8, vi f9, va b1, va b31, vi 1, va b6_94] [(.ref b1), (.ref b31)])) rfl (by rw [hml]; rfl) (Steps.refl _) (argsL := [(.ref b1)]) (rest := []) (lenOf pd_10 rfl) rfl (by show 2 * 0 + _ ≤ _; exact Nat.le_of_eq rfl) (hb hby at_177) (fun _ _ => ⟨rfl, e148, (by decide : 23 + 0 ≤ _), (by decide : 64 + 0 ≤ _)⟩)
          dsimp only [Pt.U, Pt.locs, Pt.cells, Pt.slots] at X149 l149 y149 z149 st149 hQ149
          subst l149 y149 z149
          obtain ⟨rfl, Nq149, e149⟩ := hQ149
          have N149 := Fr.app N148 Nq149
          obtain ⟨cq150, kq150, q150a, q150b, q150c⟩ := isOf hZ e149 fc114
          obtain ⟨_, _, ⟨T150, L150, k150, n150⟩, -, X150, ⟨Lc150, hQ150, l150, y150, z150⟩, st150⟩ := X149.virtualBack hx (y := My11) (z := My11) hown (mvT hZ (ww hw 58 rfl)) (mvT hZ (ww hw 59 rfl)) (notFace_of_selects (args := #[]) (mvT hZ (ww hw 61 rfl))) (mvT hZ (ww hw 61 rfl)) (mvT hZ (ww hw 60 rfl)) (by decide) (backOf (W := 0) (rm11_1 l Z a0 hw [] z_COMPACT_STRINGS b1 b6_4 b1_3_2_8_4 b6_11 b1_3_2_8_11 b6_7 b1_3_2_8_7 k1_3_2_8_4 k1_3_2_8_11 k1_3_2_8_7 p3 (bb (bb (cc (cc (p0 &&& (255 : Int32)))))) (bb (bb (cc (cc (((p0.toUInt32 >>> ((8 : Int32) &&& 31).toUInt32).toInt32) &&& (255 : Int32)))))) (bb (bb (cc (cc (p2 &&& (255 : Int32)))))) (bb (bb (cc (cc (((p2.toUInt32 >>> ((8 : Int32) &&& 31).toUInt32).toInt32) &&& (255 : Int32)))))) (bb (bb (cc (cc (p1 &&& (255 : Int32)))))) (bb (bb (cc (cc (((p1.toUInt32 >>> ((8 : Int32) &&& 31).toUInt32).toInt32) &&& (255 : Int32)))))) T94.heap n0 O94 S fc114 fc115 fc116 fc117 fc118 fc119 fc123 fc127) hZ (ww hw 62 rfl) (ww hw 2 rfl) (by decide) (by decide)) q150a q150c (g := (mkF m 189 #[vi p0, vi p1, vi p2, vi p3, vi p4, vi f5, vi f6, vi f7, vi f8, vi f9, va b1, va b31, vi 1, va b6_94] [(.ref b1), (.ref b1)])) rfl (by rw [hml]; rfl) (Steps.refl _) (argsL := [(.ref b1)]) (rest := []) (lenOf pd_10 rfl) rfl (by show 2 * 0 + _ ≤ _; exact Nat.le_of_eq rfl) (hb hby at_189) (fun _ _ => ⟨rfl, e149, (by decide : 23 + 0 ≤ _), (by decide : 64 + 0 ≤ _)⟩)
          dsimp only [Pt.U, Pt.locs, Pt.cells, Pt.slots] at X150 l150 y150 z150 st150 hQ150
          subst l150 y150 z150
          obtain ⟨rfl, Nq150, e150⟩ := hQ150
          have N150 := Fr.app N149 Nq150
          obtain ⟨cq151, kq151, q151a, q151b, q151c⟩ := isOf hZ e150 fc114
          obtain ⟨_, _, ⟨T151, L151, k151, n151⟩, -, X151, ⟨Lc151, hQ151, l151, y151, z151⟩, st151⟩ := X150.virtualBack hx (y := My11) (z := My11) hown (mvT hZ (ww hw 58 rfl)) (mvT hZ (ww hw 59 rfl)) (notFace_of_selects (args := #[]) (mvT hZ (ww hw 61 rfl))) (mvT hZ (ww hw 61 rfl)) (mvT hZ (ww hw 60 rfl)) (by decide) (backOf (W := 0) (rm11_2 l Z a0 hw [] z_COMPACT_STRINGS b1 b6_4 b1_3_2_8_4 b6_11 b1_3_2_8_11 b6_7 b1_3_2_8_7 k1_3_2_8_4 k1_3_2_8_11 k1_3_2_8_7 p3 (bb (bb (cc (cc (p0 &&& (255 : Int32)))))) (bb (bb (cc (cc (((p0.toUInt32 >>> ((8 : Int32) &&& 31).toUInt32).toInt32) &&& (255 : Int32)))))) (bb (bb (cc (cc (p2 &&& (255 : Int32)))))) (bb (bb (cc (cc (((p2.toUInt32 >>> ((8 : Int32) &&& 31).toUInt32).toInt32) &&& (255 : Int32)))))) (bb (bb (cc (cc (p1 &&& (255 : Int32)))))) (bb (bb (cc (cc (((p1.toUInt32 >>> ((8 : Int32) &&& 31).toUInt32).toInt32) &&& (255 : Int32)))))) T94.heap n0 O94 S) hZ (ww hw 62 rfl) (ww hw 2 rfl) (by decide) (by decide)) q151a q151c (g := (mkF m 198 #[vi p0, vi p1, vi p2, vi p3, vi p4, vi f5, vi f6, vi f7, vi f8, vi f9, va b1, va b31, vi 1, va b6_94] [.null, (.ref b1)])) rfl (by rw [hml]; rfl) (Steps.refl _) (argsL := [.null]) (rest := []) (lenOf pd_10 rfl) rfl (by show 2 * 0 + _ ≤ _; exact Nat.le_of_eq rfl) (hb hby at_198) (fun _ _ => ⟨rfl, e150, (by decide : 23 + 0 ≤ _), (by decide : 64 + 0 ≤ _)⟩)
          dsimp only [Pt.U, Pt.locs, Pt.cells, Pt.slots] at X151 l151 y151 z151 st151 hQ151
          subst l151 y151 z151
          obtain ⟨rfl, Nq151, e151⟩ := hQ151
          have N151 := Fr.app N150 Nq151
          obtain ⟨cq152, kq152, q152a, q152b, q152c⟩ := isOf hZ e151 fc114
          obtain ⟨_, _, ⟨T152, L152, k152, n152⟩, -, X152, ⟨Lc152, hQ152, l152, y152, z152⟩, st152⟩ := X151.virtualBack hx (y := My11) (z := My11) hown (mvT hZ (ww hw 58 rfl)) (mvT hZ (ww hw 59 rfl)) (notFace_of_selects (args := #[]) (mvT hZ (ww hw 61 rfl))) (mvT hZ (ww hw 61 rfl)) (mvT hZ (ww hw 60 rfl)) (by decide) (backOf (W := 0) (rm11_3 l Z a0 hw [] z_COMPACT_STRINGS b1 b6_4 b1_3_2_8_4 b6_11 b1_3_2_8_11 b6_7 b1_3_2_8_7 b6_94 b1_3_2_8_94 k1_3_2_8_4 k1_3_2_8_11 k1_3_2_8_7 k1_3_2_8_94 p3 (bb (bb (cc (cc (p0 &&& (255 : Int32)))))) (bb (bb (cc (cc (((p0.toUInt32 >>> ((8 : Int32) &&& 31).toUInt32).toInt32) &&& (255 : Int32)))))) (bb (bb (cc (cc (p2 &&& (255 : Int32)))))) (bb (bb (cc (cc (((p2.toUInt32 >>> ((8 : Int32) &&& 31).toUInt32).toInt32) &&& (255 : Int32)))))) (bb (bb (cc (cc (p1 &&& (255 : Int32)))))) (bb (bb (cc (cc (((p1.toUInt32 >>> ((8 : Int32) &&& 31).toUInt32).toInt32) &&& (255 : Int32)))))) (bb (bb (cc (cc (p0 &&& (255 : Int32)))))) (bb (bb (cc (cc (((p0.toUInt32 >>> ((8 : Int32) &&& 31).toUInt32).toInt32) &&& (255 : Int32)))))) T94.heap n0 O94 S P0_94) hZ (ww hw 62 rfl) (ww hw 2 rfl) (by decide) (by decide)) q152a q152c (g := (mkF m 208 #[vi p0, vi p1, vi p2, vi p3, vi p4, vi f5, vi f6, vi f7, vi f8, vi f9, va b1, va b31, vi 1, va b6_94] [(.ref b6_94), (.ref b1)])) rfl (by rw [hml]; rfl) (Steps.refl _) (argsL := [(.ref b6_94)]) (rest := []) (lenOf pd_10 rfl) rfl (by show 2 * 0 + _ ≤ _; exact Nat.le_of_eq rfl) (hb hby at_208) (fun _ _ => ⟨rfl, e151, (by decide : 23 + 0 ≤ _), (by decide : 64 + 0 ≤ _)⟩)
          dsimp only [Pt.U, Pt.locs, Pt.cells, Pt.slots] at X152 l152 y152 z152 st152 hQ152
          subst l152 y152 z152
          obtain ⟨rfl, Nq152, e152⟩ := hQ152
          have N152 := Fr.app N151 Nq152
          obtain ⟨fs, hr, hrun, hended, hW, hsame⟩ := X152.leave (v := (some (.int 1))) (fun h => by rw [hrt] at h; cases h)
          refine ⟨_, _, pre_93 _ ?_, hrun, hended, _, _, rfl, ?_, ⟨_, rfl⟩, hW, hsame.mono (by decide) (by decide)⟩
          · show Steps p.tables e below (T91.setTop (mkF m 145 #[vi p0, vi p1, vi p2, vi p3, vi p4, vi f5, vi f6, vi f7, vi f8, vi f9, va b1, va b31, uu, uu] [(.int f9), (.int p3)])) _
            refine XS.icmpNo X91.here hx rfl (hb hby at_145) rfl (teq hc92).2 ?_
            refine XS.iconst X91.here hx rfl (hb hby at_148) ?_
            refine XS.goto X91.here hx rfl (pc0 := 149) (pc' := 153) rfl (hb hby at_149) (by decide) (by decide) ?_
            refine XS.istore X91.here hx rfl (hb hby at_153) rfl (l' := #[vi p0, vi p1, vi p2, vi p3, vi p4, vi f5, vi f6, vi f7, vi f8, vi f9, va b1, va b31, vi 1, uu]) rfl ?_
            refine XS.iloadN X91.here hx rfl (hb hby at_155) rfl ?_
            refine st94 _ ?_
            refine XS.astore X94.here hx rfl (hb hby at_159) rfl rfl (l' := #[vi p0, vi p1, vi p2, vi p3, vi p4, vi f5, vi f6, vi f7, vi f8, vi f9, va b1, va b31, vi 1, va b6_94]) rfl ?_
            refine XS.aload X94.here hx rfl (hb hby at_161) rfl rfl ?_
            show Steps p.tables e below (T94.setTop (mkF m 163 #[vi p0, vi p1, vi p2, vi p3, vi p4, vi f5, vi f6, vi f7, vi f8, vi f9, va b1, va b31, vi 1, va b6_94] [(.ref b1)])) _
            refine XS.aload X94.here hx rfl (hb hby at_163) rfl rfl ?_
            refine st148.trans ?_
            refine XS.iload X148.here hx rfl (hb hby at_168) rfl ?_
            refine XS.icmpNo X148.here hx rfl (hb hby at_170) rfl (teq (by decide : (1 : Int32) = (1 : Int32))).2 ?_
            refine XS.aload X148.here hx rfl (hb hby at_173) rfl rfl ?_
            refine XS.aload X148.here hx rfl (hb hby at_175) rfl rfl ?_
            refine st149.trans ?_
            refine XS.iload X149.here hx rfl (hb hby at_180) rfl ?_
            show Steps p.tables e below (T149.setTop (mkF m 182 #[vi p0, vi p1, vi p2, vi p3, vi p4, vi f5, vi f6, vi f7, vi f8, vi f9, va b1, va b31, vi 1, va b6_94] [(.int 1), (.int 1)])) _
            refine XS.icmpNo X149.here hx rfl (hb hby at_182) rfl (teq (by decide : (1 : Int32) = (1 : Int32))).2 ?_
            refine XS.aload X149.here hx rfl (hb hby at_185) rfl rfl ?_
            refine XS.aload X149.here hx rfl (hb hby at_187) rfl rfl ?_
            refine st150.trans ?_
            refine XS.ifNo X150.here hx rfl (hb hby at_192) rfl ((if0 _ _).trans (feq (by decide : ¬ ((1 : Int32) = (0 : Int32)))).1) ?_
            refine XS.aload X150.here hx rfl (hb hby at_195) rfl rfl ?_
            refine XS.aconstNull X150.here hx rfl (hb hby at_197) ?_
            refine st151.trans ?_
            show Steps p.tables e below (T151.setTop (mkF m 201 #[vi p0, vi p1, vi p2, vi p3, vi p4, vi f5, vi f6, vi f7, vi f8, vi f9, va b1, va b31, vi 1, va b6_94] [(.int 0)])) _
            refine XS.ifNo X151.here hx rfl (hb hby at_201) rfl ((if0 _ _).trans (teq (by decide : (0 : Int32) = (0 : Int32))).2) ?_
            refine XS.aload X151.here hx rfl (hb hby at_204) rfl rfl ?_
            refine XS.aload X151.here hx rfl (hb hby at_206) rfl rfl ?_
            refine st152.trans ?_
            refine XS.ifNo X152.here hx rfl (hb hby at_211) rfl ((if0 _ _).trans (teq (by decide : (0 : Int32) = (0 : Int32))).2) ?_
            refine XS.iconst X152.here hx rfl (hb hby at_214) ?_
            refine XS.goto X152.here hx rfl (pc0 := 215) (pc' := 219) rfl (hb hby at_215) (by decide) (by decide) ?_
            exact retN X152 hx (t := .boolean) hrt (by simp) (hb hby at_219) hr
          · show Q0 n0 (some (.int 1)) T152.heap _
            exact (⟨rfl, N152⟩)
        · obtain ⟨_, _, ⟨T94, L94, k94, n94⟩, -, X94, ⟨Lc94, hQ94, l94, y94, z94⟩, st94⟩ := Jvm.LawKit.callS X91 hx (y := My1) hown (mvT hZ (ww hw 3 rfl)) (mvT hZ (ww hw 4 rfl)) (mvT hZ (ww hw 5 rfl)) (mvT hZ (ww hw 6 rfl)) (by decide) (backOf (W := 0) (rm1_0 l Z a0 hw [] z_COMPACT_STRINGS p0 T71.heap n0 O71 S hc2 hc3) hZ (ww hw 6 rfl) (ww hw 5 rfl) (by decide) (by decide)) (g := (mkF m 156 #[vi p0, vi p1, vi p2, vi p3, vi p4, vi f5, vi f6, vi f7, vi f8, vi f9, va b1, va b31, vi 0, uu] [(.int p0)])) rfl (by rw [hml]; rfl) (argsL := [(.int p0)]) (rest := []) (lenOf pd_5 rfl) rfl (by show 2 * 0 + _ ≤ _; exact Nat.le_of_eq rfl) (hb hby at_156) (fun _ _ => ⟨rfl, e91, (by decide : 20 + 3 ≤ _), (by decide : 56 + 8 ≤ _)⟩)
          dsimp only [Pt.U, Pt.locs, Pt.cells, Pt.slots] at X94 l94 y94 z94 st94 hQ94
          subst l94 y94 z94
          have fc95 := (fc72.keep Kc71)
          have fc96 := (fc73.keep Kc71)
          have fc97 := (fc74.keep Kc71 (ninS ne_b1_3_2_8_4_b31 nin0))
          have fc98 := (fc75.keep Kc71)
          have fc99 := (fc76.keep Kc71 (ninS ne_b1_3_2_8_7_b31 nin0))
          have fc100 := (fc77.keep Kc71)
          have fc101 := (fc78.keep Kc71 (ninS ne_b1_3_2_8_11_b31 nin0))
          have fc102 := (fc79.keep Kc71)
          have fc103 := (fc80.keep Kc71 (ninS (Ne.symm ne_b31_b1_3_2_8_34) nin0))
          have fc104 := (fc81.keep Kc71)
          have fc105 := (fc82.keep Kc71 (ninS (Ne.symm ne_b31_b1_3_2_8_44) nin0))
          have fc106 := (P0_55.keep Kc71)
          have fc107 := (P3_55.keep Kc71 (ninS (Ne.symm ne_b31_b1_3_2_8_55) nin0))
          obtain ⟨b6_94, b1_3_2_8_94, k1_3_2_8_94, rfl, Nq94, Kc94, P0_94, P1_94, P2_94, P3_94, P4_94, P5_94, P6_94⟩ := hQ94
          have N94 := Fr.app N91 Nq94
          have ne_b1_b6_94 : b1 ≠ b6_94 := Nat.ne_of_lt (Nat.lt_of_lt_of_le fc95.lt P4_94)
          have ne_b6_4_b6_94 : b6_4 ≠ b6_94 := Nat.ne_of_lt (Nat.lt_of_lt_of_le fc96.lt P4_94)
          have ne_b1_3_2_8_4_b6_94 : b1_3_2_8_4 ≠ b6_94 := Nat.ne_of_lt (Nat.lt_of_lt_of_le fc97.lt P4_94)
          have ne_b6_7_b6_94 : b6_7 ≠ b6_94 := Nat.ne_of_lt (Nat.lt_of_lt_of_le fc98.lt P4_94)
          have ne_b1_3_2_8_7_b6_94 : b1_3_2_8_7 ≠ b6_94 := Nat.ne_of_lt (Nat.lt_of_lt_of_le fc99.lt P4_94)
          have ne_b6_11_b6_94 : b6_11 ≠ b6_94 := Nat.ne_of_lt (Nat.lt_of_lt_of_le fc100.lt P4_94)
          have ne_b1_3_2_8_11_b6_94 : b1_3_2_8_11 ≠ b6_94 := Nat.ne_of_lt (Nat.lt_of_lt_of_le fc101.lt P4_94)
          have ne_b31_b6_94 : b31 ≠ b6_94 := Nat.ne_of_lt (Nat.lt_of_lt_of_le P0_71.lt P4_94)
          have ne_b6_34_b6_94 : b6_34 ≠ b6_94 := Nat.ne_of_lt (Nat.lt_of_lt_of_le fc102.lt P4_94)
          have ne_b1_3_2_8_34_b6_94 : b1_3_2_8_34 ≠ b6_94 := Nat.ne_of_lt (Nat.lt_of_lt_of_le fc103.lt P4_94)
          have ne_b6_44_b6_94 : b6_44 ≠ b6_94 := Nat.ne_of_lt (Nat.lt_of_lt_of_le fc104.lt P4_94)
          have ne_b1_3_2_8_44_b6_94 : b1_3_2_8_44 ≠ b6_94 := Nat.ne_of_lt (Nat.lt_of_lt_of_le fc105.lt P4_94)
          have ne_b6_55_b6_94 : b6_55 ≠ b6_94 := Nat.ne_of_lt (Nat.lt_of_lt_of_le fc106.lt P4_94)
          have ne_b1_3_2_8_55_b6_94 : b1_3_2_8_55 ≠ b6_94 := Nat.ne_of_lt (Nat.lt_of_lt_of_le fc107.lt P4_94)
          have ne_b1_b1_3_2_8_94 : b1 ≠ b1_3_2_8_94 := Nat.ne_of_lt (Nat.lt_of_lt_of_le fc95.lt P5_94)
          have ne_b6_4_b1_3_2_8_94 : b6_4 ≠ b1_3_2_8_94 := Nat.ne_of_lt (Nat.lt_of_lt_of_le fc96.lt P5_94)
          have ne_b1_3_2_8_4_b1_3_2_8_94 : b1_3_2_8_4 ≠ b1_3_2_8_94 := Nat.ne_of_lt (Nat.lt_of_lt_of_le fc97.lt P5_94)
          have ne_b6_7_b1_3_2_8_94 : b6_7 ≠ b1_3_2_8_94 := Nat.ne_of_lt (Nat.lt_of_lt_of_le fc98.lt P5_94)
          have ne_b1_3_2_8_7_b1_3_2_8_94 : b1_3_2_8_7 ≠ b1_3_2_8_94 := Nat.ne_of_lt (Nat.lt_of_lt_of_le fc99.lt P5_94)
          have ne_b6_11_b1_3_2_8_94 : b6_11 ≠ b1_3_2_8_94 := Nat.ne_of_lt (Nat.lt_of_lt_of_le fc100.lt P5_94)
          have ne_b1_3_2_8_11_b1_3_2_8_94 : b1_3_2_8_11 ≠ b1_3_2_8_94 := Nat.ne_of_lt (Nat.lt_of_lt_of_le fc101.lt P5_94)
          have ne_b31_b1_3_2_8_94 : b31 ≠ b1_3_2_8_94 := Nat.ne_of_lt (Nat.lt_of_lt_of_le P0_71.lt P5_94)
          have ne_b6_34_b1_3_2_8_94 : b6_34 ≠ b1_3_2_8_94 := Nat.ne_of_lt (Nat.lt_of_lt_of_le fc102.lt P5_94)
          have ne_b1_3_2_8_34_b1_3_2_8_94 : b1_3_2_8_34 ≠ b1_3_2_8_94 := Nat.ne_of_lt (Nat.lt_of_lt_of_le fc103.lt P5_94)
          have ne_b6_44_b1_3_2_8_94 : b6_44 ≠ b1_3_2_8_94 := Nat.ne_of_lt (Nat.lt_of_lt_of_le fc104.lt P5_94)
          have ne_b1_3_2_8_44_b1_3_2_8_94 : b1_3_2_8_44 ≠ b1_3_2_8_94 := Nat.ne_of_lt (Nat.lt_of_lt_of_le fc105.lt P5_94)
          have ne_b6_55_b1_3_2_8_94 : b6_55 ≠ b1_3_2_8_94 := Nat.ne_of_lt (Nat.lt_of_lt_of_le fc106.lt P5_94)
          have ne_b1_3_2_8_55_b1_3_2_8_94 : b1_3_2_8_55 ≠ b1_3_2_8_94 := Nat.ne_of_lt (Nat.lt_of_lt_of_le fc107.lt P5_94)
          have g_b6_94 : n0 ≤ b6_94 := Nat.le_trans (own_old O71) P4_94
          have sz_b6_94 : h0.size ≤ b6_94 := Nat.le_trans K71.1 P4_94
          have g_b1_3_2_8_94 : n0 ≤ b1_3_2_8_94 := Nat.le_trans (own_old O71) P5_94
          have sz_b1_3_2_8_94 : h0.size ≤ b1_3_2_8_94 := Nat.le_trans K71.1 P5_94
          have O94 := O71.keep Kc94 all0
          have K94 : Keep h0 T94.heap [] := K71.trans Kc94 all0
          have fc108 := ((((((P3_20.ext E31).keep Kc34 nin0).keep Kc44 nin0).keep Kc55 nin0).keep Kc71 (ninS ne_b1_b31 nin0)).keep Kc94 nin0)
          have fc109 := (P0_71.keep Kc94)
          have fc110 := (P3_71.keep Kc94 nin0)
          have fc112 := (fc95.keep Kc94)
          obtain ⟨cq111, kq111, q111a, q111b, q111c⟩ := isOf hZ rfl fc112
          obtain ⟨_, _, ⟨T111, L111, k111, n111⟩, -, X111, ⟨Lc111, hQ111, l111, y111, z111⟩, st111⟩ := X94.virtualBack hx (y := My11) (z := My11) hown (mvT hZ (ww hw 58 rfl)) (mvT hZ (ww hw 59 rfl)) (notFace_of_selects (args := #[]) (mvT hZ (ww hw 61 rfl))) (mvT hZ (ww hw 61 rfl)) (mvT hZ (ww hw 60 rfl)) (by decide) (backOf (W := 0) (rm11_4 l Z a0 hw [] z_COMPACT_STRINGS b1 b6_4 b1_3_2_8_4 b6_11 b1_3_2_8_11 b6_7 b1_3_2_8_7 b31 b6_34 b1_3_2_8_34 b6_55 b1_3_2_8_55 b6_44 b1_3_2_8_44 k1_3_2_8_4 k1_3_2_8_11 k1_3_2_8_7 k1_3_2_8_34 k1_3_2_8_55 k1_3_2_8_44 p3 (bb (bb (cc (cc (p0 &&& (255 : Int32)))))) (bb (bb (cc (cc (((p0.toUInt32 >>> ((8 : Int32) &&& 31).toUInt32).toInt32) &&& (255 : Int32)))))) (bb (bb (cc (cc (p2 &&& (255 : Int32)))))) (bb (bb (cc (cc (((p2.toUInt32 >>> ((8 : Int32) &&& 31).toUInt32).toInt32) &&& (255 : Int32)))))) (bb (bb (cc (cc (p1 &&& (255 : Int32)))))) (bb (bb (cc (cc (((p1.toUInt32 >>> ((8 : Int32) &&& 31).toUInt32).toInt32) &&& (255 : Int32)))))) f9 (bb (bb (cc (cc (f6 &&& (255 : Int32)))))) (bb (bb (cc (cc (((f6.toUInt32 >>> ((8 : Int32) &&& 31).toUInt32).toInt32) &&& (255 : Int32)))))) (bb (bb (cc (cc (f8 &&& (255 : Int32)))))) (bb (bb (cc (cc (((f8.toUInt32 >>> ((8 : Int32) &&& 31).toUInt32).toInt32) &&& (255 : Int32)))))) (bb (bb (cc (cc (f7 &&& (255 : Int32)))))) (bb (bb (cc (cc (((f7.toUInt32 >>> ((8 : Int32) &&& 31).toUInt32).toInt32) &&& (255 : Int32)))))) T94.heap n0 O94 S fc108 fc109 fc110 hc92) hZ (ww hw 62 rfl) (ww hw 2 rfl) (by decide) (by decide)) q111a q111c (g := (mkF m 165 #[vi p0, vi p1, vi p2, vi p3, vi p4, vi f5, vi f6, vi f7, vi f8, vi f9, va b1, va b31, vi 0, va b6_94] [(.ref b31), (.ref b1)])) rfl (by rw [hml]; rfl) (Steps.refl _) (argsL := [(.ref b31)]) (rest := []) (lenOf pd_10 rfl) rfl (by show 2 * 0 + _ ≤ _; exact Nat.le_of_eq rfl) (hb hby at_165) (fun _ _ => ⟨rfl, rfl, (by decide : 23 + 0 ≤ _), (by decide : 64 + 0 ≤ _)⟩)
          dsimp only [Pt.U, Pt.locs, Pt.cells, Pt.slots] at X111 l111 y111 z111 st111 hQ111
          subst l111 y111 z111
          obtain ⟨rfl, Nq111, e111⟩ := hQ111
          have N111 := Fr.app N94 Nq111
          obtain ⟨cq113, kq113, q113a, q113b, q113c⟩ := isOf hZ e111 fc109
          obtain ⟨_, _, ⟨T113, L113, k113, n113⟩, -, X113, ⟨Lc113, hQ113, l113, y113, z113⟩, st113⟩ := X111.virtualBack hx (y := My11) (z := My11) hown (mvT hZ (ww hw 58 rfl)) (mvT hZ (ww hw 59 rfl)) (notFace_of_selects (args := #[]) (mvT hZ (ww hw 61 rfl))) (mvT hZ (ww hw 61 rfl)) (mvT hZ (ww hw 60 rfl)) (by decide) (backOf (W := 0) (rm11_4 l Z a0 hw [] z_COMPACT_STRINGS b31 b6_34 b1_3_2_8_34 b6_55 b1_3_2_8_55 b6_44 b1_3_2_8_44 b1 b6_4 b1_3_2_8_4 b6_11 b1_3_2_8_11 b6_7 b1_3_2_8_7 k1_3_2_8_34 k1_3_2_8_55 k1_3_2_8_44 k1_3_2_8_4 k1_3_2_8_11 k1_3_2_8_7 f9 (bb (bb (cc (cc (f6 &&& (255 : Int32)))))) (bb (bb (cc (cc (((f6.toUInt32 >>> ((8 : Int32) &&& 31).toUInt32).toInt32) &&& (255 : Int32)))))) (bb (bb (cc (cc (f8 &&& (255 : Int32)))))) (bb (bb (cc (cc (((f8.toUInt32 >>> ((8 : Int32) &&& 31).toUInt32).toInt32) &&& (255 : Int32)))))) (bb (bb (cc (cc (f7 &&& (255 : Int32)))))) (bb (bb (cc (cc (((f7.toUInt32 >>> ((8 : Int32) &&& 31).toUInt32).toInt32) &&& (255 : Int32)))))) p3 (bb (bb (cc (cc (p0 &&& (255 : Int32)))))) (bb (bb (cc (cc (((p0.toUInt32 >>> ((8 : Int32) &&& 31).toUInt32).toInt32) &&& (255 : Int32)))))) (bb (bb (cc (cc (p2 &&& (255 : Int32)))))) (bb (bb (cc (cc (((p2.toUInt32 >>> ((8 : Int32) &&& 31).toUInt32).toInt32) &&& (255 : Int32)))))) (bb (bb (cc (cc (p1 &&& (255 : Int32)))))) (bb (bb (cc (cc (((p1.toUInt32 >>> ((8 : Int32) &&& 31).toUInt32).toInt32) &&& (255 : Int32)))))) T94.heap n0 O94 S fc110 fc112 fc108 (fun q => hc92 q.symm)) hZ (ww hw 62 rfl) (ww hw 2 rfl) (by decide) (by decide)) q113a q113c (g := (mkF m 177 #[vi p0, vi p1, vi p2, vi p3, vi p4, vi f5, vi f6, vi f7, vi f8, vi f9, va b1, va b31, vi 0, va b6_94] [(.ref b1), (.ref b31)])) rfl (by rw [hml]; rfl) (Steps.refl _) (argsL := [(.ref b1)]) (rest := []) (lenOf pd_10 rfl) rfl (by show 2 * 0 + _ ≤ _; exact Nat.le_of_eq rfl) (hb hby at_177) (fun _ _ => ⟨rfl, e111, (by decide : 23 + 0 ≤ _), (by decide : 64 + 0 ≤ _)⟩)
          dsimp only [Pt.U, Pt.locs, Pt.cells, Pt.slots] at X113 l113 y113 z113 st113 hQ113
          subst l113 y113 z113
          obtain ⟨rfl, Nq113, e113⟩ := hQ113
          have N113 := Fr.app N111 Nq113
          have fc114 := ((((((P1_20.ext E31).keep Kc34 nin0).keep Kc44 nin0).keep Kc55 nin0).keep Kc71 (ninS ne_b1_b31 nin0)).keep Kc94 nin0)
          have fc115 := ((((((P2_20.ext E31).keep Kc34 nin0).keep Kc44 nin0).keep Kc55 nin0).keep Kc71 (ninS ne_b1_b31 nin0)).keep Kc94 nin0)
          have fc116 := ((((((P4_20.ext E31).keep Kc34 nin0).keep Kc44 nin0).keep Kc55 nin0).keep Kc71 (ninS ne_b1_b31 nin0)).keep Kc94 nin0)
          have fc117 := (fc96.keep Kc94)
          have fc118 := (fc100.keep Kc94)
          have fc119 := (fc98.keep Kc94)
          obtain ⟨cq120, kq120, q120a, q120b, q120c⟩ := isOf hZ e113 fc112
          obtain ⟨_, _, ⟨T120, L120, k120, n120⟩, -, X120, ⟨Lc120, hQ120, l120, y120, z120⟩, st120⟩ := X113.virtualBack hx (y := My11) (z := My11) hown (mvT hZ (ww hw 58 rfl)) (mvT hZ (ww hw 59 rfl)) (notFace_of_selects (args := #[]) (mvT hZ (ww hw 61 rfl))) (mvT hZ (ww hw 61 rfl)) (mvT hZ (ww hw 60 rfl)) (by decide) (backOf (W := 0) (rm11_1 l Z a0 hw [] z_COMPACT_STRINGS b1 b6_4 b1_3_2_8_4 b6_11 b1_3_2_8_11 b6_7 b1_3_2_8_7 k1_3_2_8_4 k1_3_2_8_11 k1_3_2_8_7 p3 (bb (bb (cc (cc (p0 &&& (255 : Int32)))))) (bb (bb (cc (cc (((p0.toUInt32 >>> ((8 : Int32) &&& 31).toUInt32).toInt32) &&& (255 : Int32)))))) (bb (bb (cc (cc (p2 &&& (255 : Int32)))))) (bb (bb (cc (cc (((p2.toUInt32 >>> ((8 : Int32) &&& 31).toUInt32).toInt32) &&& (255 : Int32)))))) (bb (bb (cc (cc (p1 &&& (255 : Int32)))))) (bb (bb (cc (cc (((p1.toUInt32 >>> ((8 : Int32) &&& 31).toUInt32).toInt32) &&& (255 : Int32)))))) T94.heap n0 O94 S fc112 fc114 fc115 fc108 fc116 fc117 fc118 fc119) hZ (ww hw 62 rfl) (ww hw 2 rfl) (by decide) (by decide)) q120a q120c (g := (mkF m 189 #[vi p0, vi p1, vi p2, vi p3, vi p4, vi f5, vi f6, vi f7, vi f8, vi f9, va b1, va b31, vi 0, va b6_94] [(.ref b1), (.ref b1)])) rfl (by rw [hml]; rfl) (Steps.refl _) (argsL := [(.ref b1)]) (rest := []) (lenOf pd_10 rfl) rfl (by show 2 * 0 + _ ≤ _; exact Nat.le_of_eq rfl) (hb hby at_189) (fun _ _ => ⟨rfl, e113, (by decide : 23 + 0 ≤ _), (by decide : 64 + 0 ≤ _)⟩)
          dsimp only [Pt.U, Pt.locs, Pt.cells, Pt.slots] at X120 l120 y120 z120 st120 hQ120
          subst l120 y120 z120
          obtain ⟨rfl, Nq120, e120⟩ := hQ120
          have N120 := Fr.app N113 Nq120
          obtain ⟨cq121, kq121, q121a, q121b, q121c⟩ := isOf hZ e120 fc112
          obtain ⟨_, _, ⟨T121, L121, k121, n121⟩, -, X121, ⟨Lc121, hQ121, l121, y121, z121⟩, st121⟩ := X120.virtualBack hx (y := My11) (z := My11) hown (mvT hZ (ww hw 58 rfl)) (mvT hZ (ww hw 59 rfl)) (notFace_of_selects (args := #[]) (mvT hZ (ww hw 61 rfl))) (mvT hZ (ww hw 61 rfl)) (mvT hZ (ww hw 60 rfl)) (by decide) (backOf (W := 0) (rm11_2 l Z a0 hw [] z_COMPACT_STRINGS b1 b6_4 b1_3_2_8_4 b6_11 b1_3_2_8_11 b6_7 b1_3_2_8_7 k1_3_2_8_4 k1_3_2_8_11 k1_3_2_8_7 p3 (bb (bb (cc (cc (p0 &&& (255 : Int32)))))) (bb (bb (cc (cc (((p0.toUInt32 >>> ((8 : Int32) &&& 31).toUInt32).toInt32) &&& (255 : Int32)))))) (bb (bb (cc (cc (p2 &&& (255 : Int32)))))) (bb (bb (cc (cc (((p2.toUInt32 >>> ((8 : Int32) &&& 31).toUInt32).toInt32) &&& (255 : Int32)))))) (bb (bb (cc (cc (p1 &&& (255 : Int32)))))) (bb (bb (cc (cc (((p1.toUInt32 >>> ((8 : Int32) &&& 31).toUInt32).toInt32) &&& (255 : Int32)))))) T94.heap n0 O94 S) hZ (ww hw 62 rfl) (ww hw 2 rfl) (by decide) (by decide)) q121a q121c (g := (mkF m 198 #[vi p0, vi p1, vi p2, vi p3, vi p4, vi f5, vi f6, vi f7, vi f8, vi f9, va b1, va b31, vi 0, va b6_94] [.null, (.ref b1)])) rfl (by rw [hml]; rfl) (Steps.refl _) (argsL := [.null]) (rest := []) (lenOf pd_10 rfl) rfl (by show 2 * 0 + _ ≤ _; exact Nat.le_of_eq rfl) (hb hby at_198) (fun _ _ => ⟨rfl, e120, (by decide : 23 + 0 ≤ _), (by decide : 64 + 0 ≤ _)⟩)
          dsimp only [Pt.U, Pt.locs, Pt.cells, Pt.slots] at X121 l121 y121 z121 st121 hQ121
          subst l121 y121 z121
          obtain ⟨rfl, Nq121, e121⟩ := hQ121
          have N121 := Fr.app N120 Nq121
          obtain ⟨cq122, kq122, q122a, q122b, q122c⟩ := isOf hZ e121 fc112
          obtain ⟨_, _, ⟨T122, L122, k122, n122⟩, -, X122, ⟨Lc122, hQ122, l122, y122, z122⟩, st122⟩ := X121.virtualBack hx (y := My11) (z := My11) hown (mvT hZ (ww hw 58 rfl)) (mvT hZ (ww hw 59 rfl)) (notFace_of_selects (args := #[]) (mvT hZ (ww hw 61 rfl))) (mvT hZ (ww hw 61 rfl)) (mvT hZ (ww hw 60 rfl)) (by decide) (backOf (W := 0) (rm11_3 l Z a0 hw [] z_COMPACT_STRINGS b1 b6_4 b1_3_2_8_4 b6_11 b1_3_2_8_11 b6_7 b1_3_2_8_7 b6_94 b1_3_2_8_94 k1_3_2_8_4 k1_3_2_8_11 k1_3_2_8_7 k1_3_2_8_94 p3 (bb (bb (cc (cc (p0 &&& (255 : Int32)))))) (bb (bb (cc (cc (((p0.toUInt32 >>> ((8 : Int32) &&& 31).toUInt32).toInt32) &&& (255 : Int32)))))) (bb (bb (cc (cc (p2 &&& (255 : Int32)))))) (bb (bb (cc (cc (((p2.toUInt32 >>> ((8 : Int32) &&& 31).toUInt32).toInt32) &&& (255 : Int32)))))) (bb (bb (cc (cc (p1 &&& (255 : Int32)))))) (bb (bb (cc (cc (((p1.toUInt32 >>> ((8 : Int32) &&& 31).toUInt32).toInt32) &&& (255 : Int32)))))) (bb (bb (cc (cc (p0 &&& (255 : Int32)))))) (bb (bb (cc (cc (((p0.toUInt32 >>> ((8 : Int32) &&& 31).toUInt32).toInt32) &&& (255 : Int32)))))) T94.heap n0 O94 S P0_94) hZ (ww hw 62 rfl) (ww hw 2 rfl) (by decide) (by decide)) q122a q122c (g := (mkF m 208 #[vi p0, vi p1, vi p2, vi p3, vi p4, vi f5, vi f6, vi f7, vi f8, vi f9, va b1, va b31, vi 0, va b6_94] [(.ref b6_94), (.ref b1)])) rfl (by rw [hml]; rfl) (Steps.refl _) (argsL := [(.ref b6_94)]) (rest := []) (lenOf pd_10 rfl) rfl (by show 2 * 0 + _ ≤ _; exact Nat.le_of_eq rfl) (hb hby at_208) (fun _ _ => ⟨rfl, e121, (by decide : 23 + 0 ≤ _), (by decide : 64 + 0 ≤ _)⟩)
          dsimp only [Pt.U, Pt.locs, Pt.cells, Pt.slots] at X122 l122 y122 z122 st122 hQ122
          subst l122 y122 z122
          obtain ⟨rfl, Nq122, e122⟩ := hQ122
          have N122 := Fr.app N121 Nq122
          obtain ⟨fs, hr, hrun, hended, hW, hsame⟩ := X122.leave (v := (some (.int 1))) (fun h => by rw [hrt] at h; cases h)
          refine ⟨_, _, pre_93 _ ?_, hrun, hended, _, _, rfl, ?_, ⟨_, rfl⟩, hW, hsame.mono (by decide) (by decide)⟩
          · show Steps p.tables e below (T91.setTop (mkF m 145 #[vi p0, vi p1, vi p2, vi p3, vi p4, vi f5, vi f6, vi f7, vi f8, vi f9, va b1, va b31, uu, uu] [(.int f9), (.int p3)])) _
            refine XS.icmpYes X91.here hx rfl (pc0 := 145) (pc' := 152) rfl (hb hby at_145) rfl (feq hc92).2 (by decide) (by decide) ?_
            refine XS.iconst X91.here hx rfl (hb hby at_152) ?_
            refine XS.istore X91.here hx rfl (hb hby at_153) rfl (l' := #[vi p0, vi p1, vi p2, vi p3, vi p4, vi f5, vi f6, vi f7, vi f8, vi f9, va b1, va b31, vi 0, uu]) rfl ?_
            refine XS.iloadN X91.here hx rfl (hb hby at_155) rfl ?_
            refine st94 _ ?_
            refine XS.astore X94.here hx rfl (hb hby at_159) rfl rfl (l' := #[vi p0, vi p1, vi p2, vi p3, vi p4, vi f5, vi f6, vi f7, vi f8, vi f9, va b1, va b31, vi 0, va b6_94]) rfl ?_
            refine XS.aload X94.here hx rfl (hb hby at_161) rfl rfl ?_
            refine XS.aload X94.here hx rfl (hb hby at_163) rfl rfl ?_
            show Steps p.tables e below (T94.setTop (mkF m 165 #[vi p0, vi p1, vi p2, vi p3, vi p4, vi f5, vi f6, vi f7, vi f8, vi f9, va b1, va b31, vi 0, va b6_94] [(.ref b31), (.ref b1)])) _
            refine st111.trans ?_
            refine XS.iload X111.here hx rfl (hb hby at_168) rfl ?_
            refine XS.icmpNo X111.here hx rfl (hb hby at_170) rfl (teq (by decide : (0 : Int32) = (0 : Int32))).2 ?_
            refine XS.aload X111.here hx rfl (hb hby at_173) rfl rfl ?_
            refine XS.aload X111.here hx rfl (hb hby at_175) rfl rfl ?_
            refine st113.trans ?_
            refine XS.iload X113.here hx rfl (hb hby at_180) rfl ?_
            refine XS.icmpNo X113.here hx rfl (hb hby at_182) rfl (teq (by decide : (0 : Int32) = (0 : Int32))).2 ?_
            show Steps p.tables e below (T113.setTop (mkF m 185 #[vi p0, vi p1, vi p2, vi p3, vi p4, vi f5, vi f6, vi f7, vi f8, vi f9, va b1, va b31, vi 0, va b6_94] [])) _
            refine XS.aload X113.here hx rfl (hb hby at_185) rfl rfl ?_
            refine XS.aload X113.here hx rfl (hb hby at_187) rfl rfl ?_
            refine st120.trans ?_
            refine XS.ifNo X120.here hx rfl (hb hby at_192) rfl ((if0 _ _).trans (feq (by decide : ¬ ((1 : Int32) = (0 : Int32)))).1) ?_
            refine XS.aload X120.here hx rfl (hb hby at_195) rfl rfl ?_
            refine XS.aconstNull X120.here hx rfl (hb hby at_197) ?_
            refine st121.trans ?_
            refine XS.ifNo X121.here hx rfl (hb hby at_201) rfl ((if0 _ _).trans (teq (by decide : (0 : Int32) = (0 : Int32))).2) ?_
            show Steps p.tables e below (T121.setTop (mkF m 204 #[vi p0, vi p1, vi p2, vi p3, vi p4, vi f5, vi f6, vi f7, vi f8, vi f9, va b1, va b31, vi 0, va b6_94] [])) _
            refine XS.aload X121.here hx rfl (hb hby at_204) rfl rfl ?_
            refine XS.aload X121.here hx rfl (hb hby at_206) rfl rfl ?_
            refine st122.trans ?_
            refine XS.ifNo X122.here hx rfl (hb hby at_211) rfl ((if0 _ _).trans (teq (by decide : (0 : Int32) = (0 : Int32))).2) ?_
            refine XS.iconst X122.here hx rfl (hb hby at_214) ?_
            refine XS.goto X122.here hx rfl (pc0 := 215) (pc' := 219) rfl (hb hby at_215) (by decide) (by decide) ?_
            exact retN X122 hx (t := .boolean) hrt (by simp) (hb hby at_219) hr
          · show Q0 n0 (some (.int 1)) T122.heap _
            exact (⟨rfl, N122⟩)
      · obtain ⟨_, _, ⟨T91, L91, k91, n91⟩, -, X91, ⟨Lc91, hQ91, l91, y91, z91⟩, st91⟩ := Jvm.LawKit.callS X88 hx (y := My10) hown (mvT hZ (ww hw 54 rfl)) (mvT hZ (ww hw 55 rfl)) (mvT hZ (ww hw 5 rfl)) (mvT hZ (ww hw 56 rfl)) (by decide) (backOf (W := 0) (rm10_0 l Z a0 hw [] z_COMPACT_STRINGS p2 f8 T71.heap n0 O71 S hc89) hZ (ww hw 56 rfl) (ww hw 5 rfl) (by decide) (by decide)) (g := (mkF m 136 #[vi p0, vi p1, vi p2, vi p3, vi p4, vi f5, vi f6, vi f7, vi f8, vi f9, va b1, va b31, uu, uu] [(.int f8), (.int p2)])) rfl (by rw [hml]; rfl) (argsL := [(.int p2), (.int f8)]) (rest := []) (lenOf pd_8 rfl) rfl (by show 2 * 0 + _ ≤ _; exact Nat.le_of_eq rfl) (hb hby at_136) (fun _ _ => ⟨rfl, e88, (by decide : 20 + 0 ≤ _), (by decide : 56 + 0 ≤ _)⟩)
        dsimp only [Pt.U, Pt.locs, Pt.cells, Pt.slots] at X91 l91 y91 z91 st91 hQ91
        subst l91 y91 z91
        obtain ⟨rfl, Nq91, e91⟩ := hQ91
        have N91 := Fr.app N88 Nq91
        obtain ⟨_, _, ⟨T92, L92, k92, n92⟩, -, X92, ⟨Lc92, hQ92, l92, y92, z92⟩, st92⟩ := Jvm.LawKit.callS X91 hx (y := My1) hown (mvT hZ (ww hw 3 rfl)) (mvT hZ (ww hw 4 rfl)) (mvT hZ (ww hw 5 rfl)) (mvT hZ (ww hw 6 rfl)) (by decide) (backOf (W := 0) (rm1_0 l Z a0 hw [] z_COMPACT_STRINGS p0 T71.heap n0 O71 S hc2 hc3) hZ (ww hw 6 rfl) (ww hw 5 rfl) (by decide) (by decide)) (g := (mkF m 156 #[vi p0, vi p1, vi p2, vi p3, vi p4, vi f5, vi f6, vi f7, vi f8, vi f9, va b1, va b31, vi 0, uu] [(.int p0)])) rfl (by rw [hml]; rfl) (argsL := [(.int p0)]) (rest := []) (lenOf pd_5 rfl) rfl (by show 2 * 0 + _ ≤ _; exact Nat.le_of_eq rfl) (hb hby at_156) (fun _ _ => ⟨rfl, e91, (by decide : 20 + 3 ≤ _), (by decide : 56 + 8 ≤ _)⟩)
        dsimp only [Pt.U, Pt.locs, Pt.cells, Pt.slots] at X92 l92 y92 z92 st92 hQ92
        subst l92 y92 z92
        have fc93 := (fc72.keep Kc71)
        have fc94 := (fc73.keep Kc71)
        have fc95 := (fc74.keep Kc71 (ninS ne_b1_3_2_8_4_b31 nin0))
        have fc96 := (fc75.keep Kc71)
        have fc97 := (fc76.keep Kc71 (ninS ne_b1_3_2_8_7_b31 nin0))
        have fc98 := (fc77.keep Kc71)
        have fc99 := (fc78.keep Kc71 (ninS ne_b1_3_2_8_11_b31 nin0))
        have fc100 := (fc79.keep Kc71)
        have fc101 := (fc80.keep Kc71 (ninS (Ne.symm ne_b31_b1_3_2_8_34) nin0))
        have fc102 := (fc81.keep Kc71)
        have fc103 := (fc82.keep Kc71 (ninS (Ne.symm ne_b31_b1_3_2_8_44) nin0))
        have fc104 := (P0_55.keep Kc71)
        have fc105 := (P3_55.keep Kc71 (ninS (Ne.symm ne_b31_b1_3_2_8_55) nin0))
        obtain ⟨b6_92, b1_3_2_8_92, k1_3_2_8_92, rfl, Nq92, Kc92, P0_92, P1_92, P2_92, P3_92, P4_92, P5_92, P6_92⟩ := hQ92
        have N92 := Fr.app N91 Nq92
        have ne_b1_b6_92 : b1 ≠ b6_92 := Nat.ne_of_lt (Nat.lt_of_lt_of_le fc93.lt P4_92)
        have ne_b6_4_b6_92 : b6_4 ≠ b6_92 := Nat.ne_of_lt (Nat.lt_of_lt_of_le fc94.lt P4_92)
        have ne_b1_3_2_8_4_b6_92 : b1_3_2_8_4 ≠ b6_92 := Nat.ne_of_lt (Nat.lt_of_lt_of_le fc95.lt P4_92)
        have ne_b6_7_b6_92 : b6_7 ≠ b6_92 := Nat.ne_of_lt (Nat.lt_of_lt_of_le fc96.lt P4_92)
        have ne_b1_3_2_8_7_b6_92 : b1_3_2_8_7 ≠ b6_92 := Nat.ne_of_lt (Nat.lt_of_lt_of_le fc97.lt P4_92)
        have ne_b6_11_b6_92 : b6_11 ≠ b6_92 := Nat.ne_of_lt (Nat.lt_of_lt_of_le fc98.lt P4_92)
        have ne_b1_3_2_8_11_b6_92 : b1_3_2_8_11 ≠ b6_92 := Nat.ne_of_lt (Nat.lt_of_lt_of_le fc99.lt P4_92)
        have ne_b31_b6_92 : b31 ≠ b6_92 := Nat.ne_of_lt (Nat.lt_of_lt_of_le P0_71.lt P4_92)
        have ne_b6_34_b6_92 : b6_34 ≠ b6_92 := Nat.ne_of_lt (Nat.lt_of_lt_of_le fc100.lt P4_92)
        have ne_b1_3_2_8_34_b6_92 : b1_3_2_8_34 ≠ b6_92 := Nat.ne_of_lt (Nat.lt_of_lt_of_le fc101.lt P4_92)
        have ne_b6_44_b6_92 : b6_44 ≠ b6_92 := Nat.ne_of_lt (Nat.lt_of_lt_of_le fc102.lt P4_92)
        have ne_b1_3_2_8_44_b6_92 : b1_3_2_8_44 ≠ b6_92 := Nat.ne_of_lt (Nat.lt_of_lt_of_le fc103.lt P4_92)
        have ne_b6_55_b6_92 : b6_55 ≠ b6_92 := Nat.ne_of_lt (Nat.lt_of_lt_of_le fc104.lt P4_92)
        have ne_b1_3_2_8_55_b6_92 : b1_3_2_8_55 ≠ b6_92 := Nat.ne_of_lt (Nat.lt_of_lt_of_le fc105.lt P4_92)
        have ne_b1_b1_3_2_8_92 : b1 ≠ b1_3_2_8_92 := Nat.ne_of_lt (Nat.lt_of_lt_of_le fc93.lt P5_92)
        have ne_b6_4_b1_3_2_8_92 : b6_4 ≠ b1_3_2_8_92 := Nat.ne_of_lt (Nat.lt_of_lt_of_le fc94.lt P5_92)
        have ne_b1_3_2_8_4_b1_3_2_8_92 : b1_3_2_8_4 ≠ b1_3_2_8_92 := Nat.ne_of_lt (Nat.lt_of_lt_of_le fc95.lt P5_92)
        have ne_b6_7_b1_3_2_8_92 : b6_7 ≠ b1_3_2_8_92 := Nat.ne_of_lt (Nat.lt_of_lt_of_le fc96.lt P5_92)
        have ne_b1_3_2_8_7_b1_3_2_8_92 : b1_3_2_8_7 ≠ b1_3_2_8_92 := Nat.ne_of_lt (Nat.lt_of_lt_of_le fc97.lt P5_92)
        have ne_b6_11_b1_3_2_8_92 : b6_11 ≠ b1_3_2_8_92 := Nat.ne_of_lt (Nat.lt_of_lt_of_le fc98.lt P5_92)
        have ne_b1_3_2_8_11_b1_3_2_8_92 : b1_3_2_8_11 ≠ b1_3_2_8_92 := Nat.ne_of_lt (Nat.lt_of_lt_of_le fc99.lt P5_92)
        have ne_b31_b1_3_2_8_92 : b31 ≠ b1_3_2_8_92 := Nat.ne_of_lt (Nat.lt_of_lt_of_le P0_71.lt P5_92)
        have ne_b6_34_b1_3_2_8_92 : b6_34 ≠ b1_3_2_8_92 := Nat.ne_of_lt (Nat.lt_of_lt_of_le fc100.lt P5_92)
        have ne_b1_3_2_8_34_b1_3_2_8_92 : b1_3_2_8_34 ≠ b1_3_2_8_92 := Nat.ne_of_lt (Nat.lt_of_lt_of_le fc101.lt P5_92)
        have ne_b6_44_b1_3_2_8_92 : b6_44 ≠ b1_3_2_8_92 := Nat.ne_of_lt (Nat.lt_of_lt_of_le fc102.lt P5_92)
        have ne_b1_3_2_8_44_b1_3_2_8_92 : b1_3_2_8_44 ≠ b1_3_2_8_92 := Nat.ne_of_lt (Nat.lt_of_lt_of_le fc103.lt P5_92)
        have ne_b6_55_b1_3_2_8_92 : b6_55 ≠ b1_3_2_8_92 := Nat.ne_of_lt (Nat.lt_of_lt_of_le fc104.lt P5_92)
        have ne_b1_3_2_8_55_b1_3_2_8_92 : b1_3_2_8_55 ≠ b1_3_2_8_92 := Nat.ne_of_lt (Nat.lt_of_lt_of_le fc105.lt P5_92)
        have g_b6_92 : n0 ≤ b6_92 := Nat.le_trans (own_old O71) P4_92
        have sz_b6_92 : h0.size ≤ b6_92 := Nat.le_trans K71.1 P4_92
        have g_b1_3_2_8_92 : n0 ≤ b1_3_2_8_92 := Nat.le_trans (own_old O71) P5_92
        have sz_b1_3_2_8_92 : h0.size ≤ b1_3_2_8_92 := Nat.le_trans K71.1 P5_92
        have O92 := O71.keep Kc92 all0
        have K92 : Keep h0 T92.heap [] := K71.trans Kc92 all0
        have pre_107 : ∀ t, Steps p.tables e below (T92.setTop (mkF m 165 #[vi p0, vi p1, vi p2, vi p3, vi p4, vi f5, vi f6, vi f7, vi f8, vi f9, va b1, va b31, vi 0, va b6_92] [(.ref b31), (.ref b1)])) t → Steps p.tables e below (T0.setTop (mkF m 67 #[vi p0, vi p1, vi p2, vi p3, vi p4, vi f5, vi f6, vi f7, vi f8, vi f9, uu, uu, uu, uu] [])) t := fun t k => pre_90 t (by
          show Steps p.tables e below (T88.setTop (mkF m 136 #[vi p0, vi p1, vi p2, vi p3, vi p4, vi f5, vi f6, vi f7, vi f8, vi f9, va b1, va b31, uu, uu] [(.int f8), (.int p2)])) _
          refine st91 _ ?_
          refine XS.ifYes X91.here hx rfl (pc0 := 139) (pc' := 152) rfl (hb hby at_139) rfl ((if0 _ _).trans (teq (by decide : (0 : Int32) = (0 : Int32))).1) (by decide) (by decide) ?_
          refine XS.iconst X91.here hx rfl (hb hby at_152) ?_
          refine XS.istore X91.here hx rfl (hb hby at_153) rfl (l' := #[vi p0, vi p1, vi p2, vi p3, vi p4, vi f5, vi f6, vi f7, vi f8, vi f9, va b1, va b31, vi 0, uu]) rfl ?_
          refine XS.iloadN X91.here hx rfl (hb hby at_155) rfl ?_
          refine st92 _ ?_
          refine XS.astore X92.here hx rfl (hb hby at_159) rfl rfl (l' := #[vi p0, vi p1, vi p2, vi p3, vi p4, vi f5, vi f6, vi f7, vi f8, vi f9, va b1, va b31, vi 0, va b6_92]) rfl ?_
          refine XS.aload X92.here hx rfl (hb hby at_161) rfl rfl ?_
          show Steps p.tables e below (T92.setTop (mkF m 163 #[vi p0, vi p1, vi p2, vi p3, vi p4, vi f5, vi f6, vi f7, vi f8, vi f9, va b1, va b31, vi 0, va b6_92] [(.ref b1)])) _
          refine XS.aload X92.here hx rfl (hb hby at_163) rfl rfl ?_
          exact k)
        by_cases hc106 : p3 = f9
        · have hc108 : (bb (bb (cc (cc (p0 &&& (255 : Int32)))))) = (bb (bb (cc (cc (f6 &&& (255 : Int32)))))) := ow13 p0 f6 hc2 hc3 hc32 hc33 hc83
          have hc109 : (bb (bb (cc (cc (((p0.toUInt32 >>> ((8 : Int32) &&& 31).toUInt32).toInt32) &&& (255 : Int32)))))) = (bb (bb (cc (cc (((f6.toUInt32 >>> ((8 : Int32) &&& 31).toUInt32).toInt32) &&& (255 : Int32)))))) := ow14 p0 f6 hc2 hc3 hc32 hc33 hc83 hc108
          have hc110 : (bb (bb (cc (cc (p1 &&& (255 : Int32)))))) = (bb (bb (cc (cc (f7 &&& (255 : Int32)))))) := ow15 p1 f7 hc5 hc6 hc42 hc43 hc86
          have hc111 : (bb (bb (cc (cc (((p1.toUInt32 >>> ((8 : Int32) &&& 31).toUInt32).toInt32) &&& (255 : Int32)))))) = (bb (bb (cc (cc (((f7.toUInt32 >>> ((8 : Int32) &&& 31).toUInt32).toInt32) &&& (255 : Int32)))))) := ow16 p1 f7 hc5 hc6 hc42 hc43 hc86 hc110
          by_cases hc112 : (bb (bb (cc (cc (p2 &&& (255 : Int32)))))) = (bb (bb (cc (cc (f8 &&& (255 : Int32))))))
          · have hc113 : ¬ ((bb (bb (cc (cc (((p2.toUInt32 >>> ((8 : Int32) &&& 31).toUInt32).toInt32) &&& (255 : Int32)))))) = (bb (bb (cc (cc (((f8.toUInt32 >>> ((8 : Int32) &&& 31).toUInt32).toInt32) &&& (255 : Int32))))))) := ow19 p2 f8 hc9 hc10 hc53 hc54 hc89 hc112
            have fc114 := (fc93.keep Kc92)
            have fc115 := ((((((P1_20.ext E31).keep Kc34 nin0).keep Kc44 nin0).keep Kc55 nin0).keep Kc71 (ninS ne_b1_b31 nin0)).keep Kc92 nin0)
            have fc116 := ((((((P2_20.ext E31).keep Kc34 nin0).keep Kc44 nin0).keep Kc55 nin0).keep Kc71 (ninS ne_b1_b31 nin0)).keep Kc92 nin0)
            have fc117 := ((((((P3_20.ext E31).keep Kc34 nin0).keep Kc44 nin0).keep Kc55 nin0).keep Kc71 (ninS ne_b1_b31 nin0)).keep Kc92 nin0)
            have fc118 := ((((((P4_20.ext E31).keep Kc34 nin0).keep Kc44 nin0).keep Kc55 nin0).keep Kc71 (ninS ne_b1_b31 nin0)).keep Kc92 nin0)
            have fc119 := (fc94.keep Kc92)
            have fc120 := (((((((((P1_4.keep Kc7 nin0).keep Kc11 nin0).keep Kc20 (ninS (Ne.symm ne_b1_b6_4) nin0)).ext E31).keep Kc34 nin0).keep Kc44 nin0).keep Kc55 nin0).keep Kc71 (ninS ne_b6_4_b31 nin0)).keep Kc92 nin0)
            have fc121 := (((((((((P2_4.keep Kc7 nin0).keep Kc11 nin0).keep Kc20 (ninS (Ne.symm ne_b1_b6_4) nin0)).ext E31).keep Kc34 nin0).keep Kc44 nin0).keep Kc55 nin0).keep Kc71 (ninS ne_b6_4_b31 nin0)).keep Kc92 nin0)
            have fc122 := (fc95.keep Kc92 nin0)
            have fc123 := (fc98.keep Kc92)
            have fc124 := (((((((P1_11.keep Kc20 (ninS (Ne.symm ne_b1_b6_11) nin0)).ext E31).keep Kc34 nin0).keep Kc44 nin0).keep Kc55 nin0).keep Kc71 (ninS ne_b6_11_b31 nin0)).keep Kc92 nin0)
            have fc125 := (((((((P2_11.keep Kc20 (ninS (Ne.symm ne_b1_b6_11) nin0)).ext E31).keep Kc34 nin0).keep Kc44 nin0).keep Kc55 nin0).keep Kc71 (ninS ne_b6_11_b31 nin0)).keep Kc92 nin0)
            have fc126 := (fc99.keep Kc92 nin0)
            have fc127 := (fc96.keep Kc92)
            have fc128 := ((((((((P1_7.keep Kc11 nin0).keep Kc20 (ninS (Ne.symm ne_b1_b6_7) nin0)).ext E31).keep Kc34 nin0).keep Kc44 nin0).keep Kc55 nin0).keep Kc71 (ninS ne_b6_7_b31 nin0)).keep Kc92 nin0)
            have fc129 := ((((((((P2_7.keep Kc11 nin0).keep Kc20 (ninS (Ne.symm ne_b1_b6_7) nin0)).ext E31).keep Kc34 nin0).keep Kc44 nin0).keep Kc55 nin0).keep Kc71 (ninS ne_b6_7_b31 nin0)).keep Kc92 nin0)
            have fc130 := (fc97.keep Kc92 nin0)
            have fc131 := (P0_71.keep Kc92)
            have fc132 := (P1_71.keep Kc92 nin0)
            have fc133 := (P2_71.keep Kc92 nin0)
            have fc134 := (P3_71.keep Kc92 nin0)
            have fc135 := (P4_71.keep Kc92 nin0)
            have fc136 := (fc100.keep Kc92)
            have fc137 := ((((P1_34.keep Kc44 nin0).keep Kc55 nin0).keep Kc71 (ninS (Ne.symm ne_b31_b6_34) nin0)).keep Kc92 nin0)
            have fc138 := ((((P2_34.keep Kc44 nin0).keep Kc55 nin0).keep Kc71 (ninS (Ne.symm ne_b31_b6_34) nin0)).keep Kc92 nin0)
            have fc139 := (fc101.keep Kc92 nin0)
            have fc140 := (fc104.keep Kc92)
            have fc141 := ((P1_55.keep Kc71 (ninS (Ne.symm ne_b31_b6_55) nin0)).keep Kc92 nin0)
            have fc142 := ((P2_55.keep Kc71 (ninS (Ne.symm ne_b31_b6_55) nin0)).keep Kc92 nin0)
            have fc143 := (fc105.keep Kc92 nin0)
            have fc144 := (fc102.keep Kc92)
            have fc145 := (((P1_44.keep Kc55 nin0).keep Kc71 (ninS (Ne.symm ne_b31_b6_44) nin0)).keep Kc92 nin0)
            have fc146 := (((P2_44.keep Kc55 nin0).keep Kc71 (ninS (Ne.symm ne_b31_b6_44) nin0)).keep Kc92 nin0)
            have fc147 := (fc103.keep Kc92 nin0)
            obtain ⟨cq148, kq148, q148a, q148b, q148c⟩ := isOf hZ rfl fc114
            obtain ⟨_, _, ⟨T148, L148, k148, n148⟩, -, X148, ⟨Lc148, hQ148, l148, y148, z148⟩, st148⟩ := X92.virtualBack hx (y := My11) (z := My11) hown (mvT hZ (ww hw 58 rfl)) (mvT hZ (ww hw 59 rfl)) (notFace_of_selects (args := #[]) (mvT hZ (ww hw 61 rfl))) (mvT hZ (ww hw 61 rfl)) (mvT hZ (ww hw 60 rfl)) (by decide) (backOf (W := 0) (rm11_6 l Z a0 hw [] z_COMPACT_STRINGS b1 b6_4 b1_3_2_8_4 b6_11 b1_3_2_8_11 b6_7 b1_3_2_8_7 b31 b6_34 b1_3_2_8_34 b6_55 b1_3_2_8_55 b6_44 b1_3_2_8_44 k1_3_2_8_4 k1_3_2_8_11 k1_3_2_8_7 k1_3_2_8_34 k1_3_2_8_55 k1_3_2_8_44 p3 (bb (bb (cc (cc (p0 &&& (255 : Int32)))))) (bb (bb (cc (cc (((p0.toUInt32 >>> ((8 : Int32) &&& 31).toUInt32).toInt32) &&& (255 : Int32)))))) (bb (bb (cc (cc (p2 &&& (255 : Int32)))))) (bb (bb (cc (cc (((p2.toUInt32 >>> ((8 : Int32) &&& 31).toUInt32).toInt32) &&& (255 : Int32)))))) (bb (bb (cc (cc (p1 &&& (255 : Int32)))))) (bb (bb (cc (cc (((p1.toUInt32 >>> ((8 : Int32) &&& 31).toUInt32).toInt32) &&& (255 : Int32)))))) f9 (bb (bb (cc (cc (f6 &&& (255 : Int32)))))) (bb (bb (cc (cc (((f6.toUInt32 >>> ((8 : Int32) &&& 31).toUInt32).toInt32) &&& (255 : Int32)))))) (bb (bb (cc (cc (f8 &&& (255 : Int32)))))) (bb (bb (cc (cc (((f8.toUInt32 >>> ((8 : Int32) &&& 31).toUInt32).toInt32) &&& (255 : Int32)))))) (bb (bb (cc (cc (f7 &&& (255 : Int32)))))) (bb (bb (cc (cc (((f7.toUInt32 >>> ((8 : Int32) &&& 31).toUInt32).toInt32) &&& (255 : Int32)))))) T92.heap n0 O92 S fc114 fc115 fc116 fc117 fc118 fc119 fc120 fc121 fc122 fc123 fc124 fc125 fc126 fc127 fc128 fc129 fc130 fc131 fc132 fc133 fc134 fc135 fc136 fc137 fc138 fc139 fc140 fc141 fc142 fc143 fc144 fc145 fc146 fc147 ne_b6_4_b6_34 ne_b6_11_b6_55 ne_b6_7_b6_44 hc106 hc108 hc109 hc110 hc111 hc112 hc113) hZ (ww hw 62 rfl) (ww hw 2 rfl) (by decide) (by decide)) q148a q148c (g := (mkF m 165 #[vi p0, vi p1, vi p2, vi p3, vi p4, vi f5, vi f6, vi f7, vi f8, vi f9, va b1, va b31, vi 0, va b6_92] [(.ref b31), (.ref b1)])) rfl (by rw [hml]; rfl) (Steps.refl _) (argsL := [(.ref b31)]) (rest := []) (lenOf pd_10 rfl) rfl (by show 2 * 0 + _ ≤ _; exact Nat.le_of_eq rfl) (hb hby at_165) (fun _ _ => ⟨rfl, rfl, (by decide : 23 + 0 ≤ _), (by decide : 64 + 0 ≤ _)⟩)
            dsimp only [Pt.U, Pt.locs, Pt.cells, Pt.slots] at X148 l148 y148 z148 st148 hQ148
            subst l148 y148 z148
            obtain ⟨rfl, Nq148, e148⟩ := hQ148
            have N148 := Fr.app N92 Nq148
            obtain ⟨cq149, kq149, q149a, q149b, q149c⟩ := isOf hZ e148 fc131
            obtain ⟨_, _, ⟨T149, L149, k149, n149⟩, -, X149, ⟨Lc149, hQ149, l149, y149, z149⟩, st149⟩ := X148.virtualBack hx (y := My11) (z := My11) hown (mvT hZ (ww hw 58 rfl)) (mvT hZ (ww hw 59 rfl)) (notFace_of_selects (args := #[]) (mvT hZ (ww hw 61 rfl))) (mvT hZ (ww hw 61 rfl)) (mvT hZ (ww hw 60 rfl)) (by decide) (backOf (W := 0) (rm11_6 l Z a0 hw [] z_COMPACT_STRINGS b31 b6_34 b1_3_2_8_34 b6_55 b1_3_2_8_55 b6_44 b1_3_2_8_44 b1 b6_4 b1_3_2_8_4 b6_11 b1_3_2_8_11 b6_7 b1_3_2_8_7 k1_3_2_8_34 k1_3_2_8_55 k1_3_2_8_44 k1_3_2_8_4 k1_3_2_8_11 k1_3_2_8_7 f9 (bb (bb (cc (cc (f6 &&& (255 : Int32)))))) (bb (bb (cc (cc (((f6.toUInt32 >>> ((8 : Int32) &&& 31).toUInt32).toInt32) &&& (255 : Int32)))))) (bb (bb (cc (cc (f8 &&& (255 : Int32)))))) (bb (bb (cc (cc (((f8.toUInt32 >>> ((8 : Int32) &&& 31).toUInt32).toInt32) &&& (255 : Int32)))))) (bb (bb (cc (cc (f7 &&& (255 : Int32)))))) (bb (bb (cc (cc (((f7.toUInt32 >>> ((8 : Int32) &&& 31).toUInt32).toInt32) &&& (255 : Int32)))))) p3 (bb (bb (cc (cc (p0 &&& (255 : Int32)))))) (bb (bb (cc (cc (((p0.toUInt32 >>> ((8 : Int32) &&& 31).toUInt32).toInt32) &&& (255 : Int32)))))) (bb (bb (cc (cc (p2 &&& (255 : Int32)))))) (bb (bb (cc (cc (((p2.toUInt32 >>> ((8 : Int32) &&& 31).toUInt32).toInt32) &&& (255 : Int32)))))) (bb (bb (cc (cc (p1 &&& (255 : Int32)))))) (bb (bb (cc (cc (((p1.toUInt32 >>> ((8 : Int32) &&& 31).toUInt32).toInt32) &&& (255 : Int32)))))) T92.heap n0 O92 S fc131 fc132 fc133 fc134 fc135 fc136 fc137 fc138 fc139 fc140 fc141 fc142 fc143 fc144 fc145 fc146 fc147 fc114 fc115 fc116 fc117 fc118 fc119 fc120 fc121 fc122 fc123 fc124 fc125 fc126 fc127 fc128 fc129 fc130 (Ne.symm ne_b6_4_b6_34) (Ne.symm ne_b6_11_b6_55) (Ne.symm ne_b6_7_b6_44) (hc106).symm (hc108).symm (hc109).symm (hc110).symm (hc111).symm (hc112).symm (fun q => hc113 q.symm)) hZ (ww hw 62 rfl) (ww hw 2 rfl) (by decide) (by decide)) q149a q149c (g := (mkF m 177 #[vi p0, vi p1, vi p2, vi p3, vi p4, vi f5, vi f6, vi f7, vi f8, vi f9, va b1, va b31, vi 0, va b6_92] [(.ref b1), (.ref b31)])) rfl (by rw [hml]; rfl) (Steps.refl _) (argsL := [(.ref b1)]) (rest := []) (lenOf pd_10 rfl) rfl (by show 2 * 0 + _ ≤ _; exact Nat.le_of_eq rfl) (hb hby at_177) (fun _ _ => ⟨rfl, e148, (by decide : 23 + 0 ≤ _), (by decide : 64 + 0 ≤ _)⟩)
            dsimp only [Pt.U, Pt.locs, Pt.cells, Pt.slots] at X149 l149 y149 z149 st149 hQ149
            subst l149 y149 z149
            obtain ⟨rfl, Nq149, e149⟩ := hQ149
            have N149 := Fr.app N148 Nq149
            obtain ⟨cq150, kq150, q150a, q150b, q150c⟩ := isOf hZ e149 fc114
            obtain ⟨_, _, ⟨T150, L150, k150, n150⟩, -, X150, ⟨Lc150, hQ150, l150, y150, z150⟩, st150⟩ := X149.virtualBack hx (y := My11) (z := My11) hown (mvT hZ (ww hw 58 rfl)) (mvT hZ (ww hw 59 rfl)) (notFace_of_selects (args := #[]) (mvT hZ (ww hw 61 rfl))) (mvT hZ (ww hw 61 rfl)) (mvT hZ (ww hw 60 rfl)) (by decide) (backOf (W := 0) (rm11_1 l Z a0 hw [] z_COMPACT_STRINGS b1 b6_4 b1_3_2_8_4 b6_11 b1_3_2_8_11 b6_7 b1_3_2_8_7 k1_3_2_8_4 k1_3_2_8_11 k1_3_2_8_7 p3 (bb (bb (cc (cc (p0 &&& (255 : Int32)))))) (bb (bb (cc (cc (((p0.toUInt32 >>> ((8 : Int32) &&& 31).toUInt32).toInt32) &&& (255 : Int32)))))) (bb (bb (cc (cc (p2 &&& (255 : Int32)))))) (bb (bb (cc (cc (((p2.toUInt32 >>> ((8 : Int32) &&& 31).toUInt32).toInt32) &&& (255 : Int32)))))) (bb (bb (cc (cc (p1 &&& (255 : Int32)))))) (bb (bb (cc (cc (((p1.toUInt32 >>> ((8 : Int32) &&& 31).toUInt32).toInt32) &&& (255 : Int32)))))) T92.heap n0 O92 S fc114 fc115 fc116 fc117 fc118 fc119 fc123 fc127) hZ (ww hw 62 rfl) (ww hw 2 rfl) (by decide) (by decide)) q150a q150c (g := (mkF m 189 #[vi p0, vi p1, vi p2, vi p3, vi p4, vi f5, vi f6, vi f7, vi f8, vi f9, va b1, va b31, vi 0, va b6_92] [(.ref b1), (.ref b1)])) rfl (by rw [hml]; rfl) (Steps.refl _) (argsL := [(.ref b1)]) (rest := []) (lenOf pd_10 rfl) rfl (by show 2 * 0 + _ ≤ _; exact Nat.le_of_eq rfl) (hb hby at_189) (fun _ _ => ⟨rfl, e149, (by decide : 23 + 0 ≤ _), (by decide : 64 + 0 ≤ _)⟩)
            dsimp only [Pt.U, Pt.locs, Pt.cells, Pt.slots] at X150 l150 y150 z150 st150 hQ150
            subst l150 y150 z150
            obtain ⟨rfl, Nq150, e150⟩ := hQ150
            have N150 := Fr.app N149 Nq150
            obtain ⟨cq151, kq151, q151a, q151b, q151c⟩ := isOf hZ e150 fc114
            obtain ⟨_, _, ⟨T151, L151, k151, n151⟩, -, X151, ⟨Lc151, hQ151, l151, y151, z151⟩, st151⟩ := X150.virtualBack hx (y := My11) (z := My11) hown (mvT hZ (ww hw 58 rfl)) (mvT hZ (ww hw 59 rfl)) (notFace_of_selects (args := #[]) (mvT hZ (ww hw 61 rfl))) (mvT hZ (ww hw 61 rfl)) (mvT hZ (ww hw 60 rfl)) (by decide) (backOf (W := 0) (rm11_2 l Z a0 hw [] z_COMPACT_STRINGS b1 b6_4 b1_3_2_8_4 b6_11 b1_3_2_8_11 b6_7 b1_3_2_8_7 k1_3_2_8_4 k1_3_2_8_11 k1_3_2_8_7 p3 (bb (bb (cc (cc (p0 &&& (255 : Int32)))))) (bb (bb (cc (cc (((p0.toUInt32 >>> ((8 : Int32) &&& 31).toUInt32).toInt32) &&& (255 : Int32)))))) (bb (bb (cc (cc (p2 &&& (255 : Int32)))))) (bb (bb (cc (cc (((p2.toUInt32 >>> ((8 : Int32) &&& 31).toUInt32).toInt32) &&& (255 : Int32)))))) (bb (bb (cc (cc (p1 &&& (255 : Int32)))))) (bb (bb (cc (cc (((p1.toUInt32 >>> ((8 : Int32) &&& 31).toUInt32).toInt32) &&& (255 : Int32)))))) T92.heap n0 O92 S) hZ (ww hw 62 rfl) (ww hw 2 rfl) (by decide) (by decide)) q151a q151c (g := (mkF m 198 #[vi p0, vi p1, vi p2, vi p3, vi p4, vi f5, vi f6, vi f7, vi f8, vi f9, va b1, va b31, vi 0, va b6_92] [.null, (.ref b1)])) rfl (by rw [hml]; rfl) (Steps.refl _) (argsL := [.null]) (rest := []) (lenOf pd_10 rfl) rfl (by show 2 * 0 + _ ≤ _; exact Nat.le_of_eq rfl) (hb hby at_198) (fun _ _ => ⟨rfl, e150, (by decide : 23 + 0 ≤ _), (by decide : 64 + 0 ≤ _)⟩)
            dsimp only [Pt.U, Pt.locs, Pt.cells, Pt.slots] at X151 l151 y151 z151 st151 hQ151
            subst l151 y151 z151
            obtain ⟨rfl, Nq151, e151⟩ := hQ151
            have N151 := Fr.app N150 Nq151
            obtain ⟨cq152, kq152, q152a, q152b, q152c⟩ := isOf hZ e151 fc114
            obtain ⟨_, _, ⟨T152, L152, k152, n152⟩, -, X152, ⟨Lc152, hQ152, l152, y152, z152⟩, st152⟩ := X151.virtualBack hx (y := My11) (z := My11) hown (mvT hZ (ww hw 58 rfl)) (mvT hZ (ww hw 59 rfl)) (notFace_of_selects (args := #[]) (mvT hZ (ww hw 61 rfl))) (mvT hZ (ww hw 61 rfl)) (mvT hZ (ww hw 60 rfl)) (by decide) (backOf (W := 0) (rm11_3 l Z a0 hw [] z_COMPACT_STRINGS b1 b6_4 b1_3_2_8_4 b6_11 b1_3_2_8_11 b6_7 b1_3_2_8_7 b6_92 b1_3_2_8_92 k1_3_2_8_4 k1_3_2_8_11 k1_3_2_8_7 k1_3_2_8_92 p3 (bb (bb (cc (cc (p0 &&& (255 : Int32)))))) (bb (bb (cc (cc (((p0.toUInt32 >>> ((8 : Int32) &&& 31).toUInt32).toInt32) &&& (255 : Int32)))))) (bb (bb (cc (cc (p2 &&& (255 : Int32)))))) (bb (bb (cc (cc (((p2.toUInt32 >>> ((8 : Int32) &&& 31).toUInt32).toInt32) &&& (255 : Int32)))))) (bb (bb (cc (cc (p1 &&& (255 : Int32)))))) (bb (bb (cc (cc (((p1.toUInt32 >>> ((8 : Int32) &&& 31).toUInt32).toInt32) &&& (255 : Int32)))))) (bb (bb (cc (cc (p0 &&& (255 : Int32)))))) (bb (bb (cc (cc (((p0.toUInt32 >>> ((8 : Int32) &&& 31).toUInt32).toInt32) &&& (255 : Int32)))))) T92.heap n0 O92 S P0_92) hZ (ww hw 62 rfl) (ww hw 2 rfl) (by decide) (by decide)) q152a q152c (g := (mkF m 208 #[vi p0, vi p1, vi p2, vi p3, vi p4, vi f5, vi f6, vi f7, vi f8, vi f9, va b1, va b31, vi 0, va b6_92] [(.ref b6_92), (.ref b1)])) rfl (by rw [hml]; rfl) (Steps.refl _) (argsL := [(.ref b6_92)]) (rest := []) (lenOf pd_10 rfl) rfl (by show 2 * 0 + _ ≤ _; exact Nat.le_of_eq rfl) (hb hby at_208) (fun _ _ => ⟨rfl, e151, (by decide : 23 + 0 ≤ _), (by decide : 64 + 0 ≤ _)⟩)
            dsimp only [Pt.U, Pt.locs, Pt.cells, Pt.slots] at X152 l152 y152 z152 st152 hQ152
            subst l152 y152 z152
            obtain ⟨rfl, Nq152, e152⟩ := hQ152
            have N152 := Fr.app N151 Nq152
            obtain ⟨fs, hr, hrun, hended, hW, hsame⟩ := X152.leave (v := (some (.int 1))) (fun h => by rw [hrt] at h; cases h)
            refine ⟨_, _, pre_107 _ ?_, hrun, hended, _, _, rfl, ?_, ⟨_, rfl⟩, hW, hsame.mono (by decide) (by decide)⟩
            · show Steps p.tables e below (T92.setTop (mkF m 165 #[vi p0, vi p1, vi p2, vi p3, vi p4, vi f5, vi f6, vi f7, vi f8, vi f9, va b1, va b31, vi 0, va b6_92] [(.ref b31), (.ref b1)])) _
              refine st148.trans ?_
              refine XS.iload X148.here hx rfl (hb hby at_168) rfl ?_
              refine XS.icmpNo X148.here hx rfl (hb hby at_170) rfl (teq (by decide : (0 : Int32) = (0 : Int32))).2 ?_
              refine XS.aload X148.here hx rfl (hb hby at_173) rfl rfl ?_
              refine XS.aload X148.here hx rfl (hb hby at_175) rfl rfl ?_
              refine st149.trans ?_
              refine XS.iload X149.here hx rfl (hb hby at_180) rfl ?_
              refine XS.icmpNo X149.here hx rfl (hb hby at_182) rfl (teq (by decide : (0 : Int32) = (0 : Int32))).2 ?_
              show Steps p.tables e below (T149.setTop (mkF m 185 #[vi p0, vi p1, vi p2, vi p3, vi p4, vi f5, vi f6, vi f7, vi f8, vi f9, va b1, va b31, vi 0, va b6_92] [])) _
              refine XS.aload X149.here hx rfl (hb hby at_185) rfl rfl ?_
              refine XS.aload X149.here hx rfl (hb hby at_187) rfl rfl ?_
              refine st150.trans ?_
              refine XS.ifNo X150.here hx rfl (hb hby at_192) rfl ((if0 _ _).trans (feq (by decide : ¬ ((1 : Int32) = (0 : Int32)))).1) ?_
              refine XS.aload X150.here hx rfl (hb hby at_195) rfl rfl ?_
              refine XS.aconstNull X150.here hx rfl (hb hby at_197) ?_
              refine st151.trans ?_
              refine XS.ifNo X151.here hx rfl (hb hby at_201) rfl ((if0 _ _).trans (teq (by decide : (0 : Int32) = (0 : Int32))).2) ?_
              show Steps p.tables e below (T151.setTop (mkF m 204 #[vi p0, vi p1, vi p2, vi p3, vi p4, vi f5, vi f6, vi f7, vi f8, vi f9, va b1, va b31, vi 0, va b6_92] [])) _
              refine XS.aload X151.here hx rfl (hb hby at_204) rfl rfl ?_
              refine XS.aload X151.here hx rfl (hb hby at_206) rfl rfl ?_
              refine st152.trans ?_
              refine XS.ifNo X152.here hx rfl (hb hby at_211) rfl ((if0 _ _).trans (teq (by decide : (0 : Int32) = (0 : Int32))).2) ?_
              refine XS.iconst X152.here hx rfl (hb hby at_214) ?_
              refine XS.goto X152.here hx rfl (pc0 := 215) (pc' := 219) rfl (hb hby at_215) (by decide) (by decide) ?_
              exact retN X152 hx (t := .boolean) hrt (by simp) (hb hby at_219) hr
            · show Q0 n0 (some (.int 1)) T152.heap _
              exact (⟨rfl, N152⟩)
          · have fc113 := (fc93.keep Kc92)
            have fc114 := ((((((P1_20.ext E31).keep Kc34 nin0).keep Kc44 nin0).keep Kc55 nin0).keep Kc71 (ninS ne_b1_b31 nin0)).keep Kc92 nin0)
            have fc115 := ((((((P2_20.ext E31).keep Kc34 nin0).keep Kc44 nin0).keep Kc55 nin0).keep Kc71 (ninS ne_b1_b31 nin0)).keep Kc92 nin0)
            have fc116 := ((((((P3_20.ext E31).keep Kc34 nin0).keep Kc44 nin0).keep Kc55 nin0).keep Kc71 (ninS ne_b1_b31 nin0)).keep Kc92 nin0)
            have fc117 := ((((((P4_20.ext E31).keep Kc34 nin0).keep Kc44 nin0).keep Kc55 nin0).keep Kc71 (ninS ne_b1_b31 nin0)).keep Kc92 nin0)
            have fc118 := (fc94.keep Kc92)
            have fc119 := (((((((((P1_4.keep Kc7 nin0).keep Kc11 nin0).keep Kc20 (ninS (Ne.symm ne_b1_b6_4) nin0)).ext E31).keep Kc34 nin0).keep Kc44 nin0).keep Kc55 nin0).keep Kc71 (ninS ne_b6_4_b31 nin0)).keep Kc92 nin0)
            have fc120 := (((((((((P2_4.keep Kc7 nin0).keep Kc11 nin0).keep Kc20 (ninS (Ne.symm ne_b1_b6_4) nin0)).ext E31).keep Kc34 nin0).keep Kc44 nin0).keep Kc55 nin0).keep Kc71 (ninS ne_b6_4_b31 nin0)).keep Kc92 nin0)
            have fc121 := (fc95.keep Kc92 nin0)
            have fc122 := (fc98.keep Kc92)
            have fc123 := (((((((P1_11.keep Kc20 (ninS (Ne.symm ne_b1_b6_11) nin0)).ext E31).keep Kc34 nin0).keep Kc44 nin0).keep Kc55 nin0).keep Kc71 (ninS ne_b6_11_b31 nin0)).keep Kc92 nin0)
            have fc124 := (((((((P2_11.keep Kc20 (ninS (Ne.symm ne_b1_b6_11) nin0)).ext E31).keep Kc34 nin0).keep Kc44 nin0).keep Kc55 nin0).keep Kc71 (ninS ne_b6_11_b31 nin0)).keep Kc92 nin0)
            have fc125 := (fc99.keep Kc92 nin0)
            have fc126 := (fc96.keep Kc92)
            have fc127 := ((((((((P1_7.keep Kc11 nin0).keep Kc20 (ninS (Ne.symm ne_b1_b6_7) nin0)).ext E31).keep Kc34 nin0).keep Kc44 nin0).keep Kc55 nin0).keep Kc71 (ninS ne_b6_7_b31 nin0)).keep Kc92 nin0)
            have fc128 := ((((((((P2_7.keep Kc11 nin0).keep Kc20 (ninS (Ne.symm ne_b1_b6_7) nin0)).ext E31).keep Kc34 nin0).keep Kc44 nin0).keep Kc55 nin0).keep Kc71 (ninS ne_b6_7_b31 nin0)).keep Kc92 nin0)
            have fc129 := (fc97.keep Kc92 nin0)
            have fc130 := (P0_71.keep Kc92)
            have fc131 := (P1_71.keep Kc92 nin0)
            have fc132 := (P2_71.keep Kc92 nin0)
            have fc133 := (P3_71.keep Kc92 nin0)
            have fc134 := (P4_71.keep Kc92 nin0)
            have fc135 := (fc100.keep Kc92)
            have fc136 := ((((P1_34.keep Kc44 nin0).keep Kc55 nin0).keep Kc71 (ninS (Ne.symm ne_b31_b6_34) nin0)).keep Kc92 nin0)
            have fc137 := ((((P2_34.keep Kc44 nin0).keep Kc55 nin0).keep Kc71 (ninS (Ne.symm ne_b31_b6_34) nin0)).keep Kc92 nin0)
            have fc138 := (fc101.keep Kc92 nin0)
            have fc139 := (fc104.keep Kc92)
            have fc140 := ((P1_55.keep Kc71 (ninS (Ne.symm ne_b31_b6_55) nin0)).keep Kc92 nin0)
            have fc141 := ((P2_55.keep Kc71 (ninS (Ne.symm ne_b31_b6_55) nin0)).keep Kc92 nin0)
            have fc142 := (fc105.keep Kc92 nin0)
            have fc143 := (fc102.keep Kc92)
            have fc144 := (((P1_44.keep Kc55 nin0).keep Kc71 (ninS (Ne.symm ne_b31_b6_44) nin0)).keep Kc92 nin0)
            have fc145 := (((P2_44.keep Kc55 nin0).keep Kc71 (ninS (Ne.symm ne_b31_b6_44) nin0)).keep Kc92 nin0)
            have fc146 := (fc103.keep Kc92 nin0)
            obtain ⟨cq147, kq147, q147a, q147b, q147c⟩ := isOf hZ rfl fc113
            obtain ⟨_, _, ⟨T147, L147, k147, n147⟩, -, X147, ⟨Lc147, hQ147, l147, y147, z147⟩, st147⟩ := X92.virtualBack hx (y := My11) (z := My11) hown (mvT hZ (ww hw 58 rfl)) (mvT hZ (ww hw 59 rfl)) (notFace_of_selects (args := #[]) (mvT hZ (ww hw 61 rfl))) (mvT hZ (ww hw 61 rfl)) (mvT hZ (ww hw 60 rfl)) (by decide) (backOf (W := 0) (rm11_5 l Z a0 hw [] z_COMPACT_STRINGS b1 b6_4 b1_3_2_8_4 b6_11 b1_3_2_8_11 b6_7 b1_3_2_8_7 b31 b6_34 b1_3_2_8_34 b6_55 b1_3_2_8_55 b6_44 b1_3_2_8_44 k1_3_2_8_4 k1_3_2_8_11 k1_3_2_8_7 k1_3_2_8_34 k1_3_2_8_55 k1_3_2_8_44 p3 (bb (bb (cc (cc (p0 &&& (255 : Int32)))))) (bb (bb (cc (cc (((p0.toUInt32 >>> ((8 : Int32) &&& 31).toUInt32).toInt32) &&& (255 : Int32)))))) (bb (bb (cc (cc (p2 &&& (255 : Int32)))))) (bb (bb (cc (cc (((p2.toUInt32 >>> ((8 : Int32) &&& 31).toUInt32).toInt32) &&& (255 : Int32)))))) (bb (bb (cc (cc (p1 &&& (255 : Int32)))))) (bb (bb (cc (cc (((p1.toUInt32 >>> ((8 : Int32) &&& 31).toUInt32).toInt32) &&& (255 : Int32)))))) f9 (bb (bb (cc (cc (f6 &&& (255 : Int32)))))) (bb (bb (cc (cc (((f6.toUInt32 >>> ((8 : Int32) &&& 31).toUInt32).toInt32) &&& (255 : Int32)))))) (bb (bb (cc (cc (f8 &&& (255 : Int32)))))) (bb (bb (cc (cc (((f8.toUInt32 >>> ((8 : Int32) &&& 31).toUInt32).toInt32) &&& (255 : Int32)))))) (bb (bb (cc (cc (f7 &&& (255 : Int32)))))) (bb (bb (cc (cc (((f7.toUInt32 >>> ((8 : Int32) &&& 31).toUInt32).toInt32) &&& (255 : Int32)))))) T92.heap n0 O92 S fc113 fc114 fc115 fc116 fc117 fc118 fc119 fc120 fc121 fc122 fc123 fc124 fc125 fc126 fc127 fc128 fc129 fc130 fc131 fc132 fc133 fc134 fc135 fc136 fc137 fc138 fc139 fc140 fc141 fc142 fc143 fc144 fc145 fc146 ne_b6_4_b6_34 ne_b6_11_b6_55 ne_b6_7_b6_44 hc106 hc108 hc109 hc110 hc111 hc112) hZ (ww hw 62 rfl) (ww hw 2 rfl) (by decide) (by decide)) q147a q147c (g := (mkF m 165 #[vi p0, vi p1, vi p2, vi p3, vi p4, vi f5, vi f6, vi f7, vi f8, vi f9, va b1, va b31, vi 0, va b6_92] [(.ref b31), (.ref b1)])) rfl (by rw [hml]; rfl) (Steps.refl _) (argsL := [(.ref b31)]) (rest := []) (lenOf pd_10 rfl) rfl (by show 2 * 0 + _ ≤ _; exact Nat.le_of_eq rfl) (hb hby at_165) (fun _ _ => ⟨rfl, rfl, (by decide : 23 + 0 ≤ _), (by decide : 64 + 0 ≤ _)⟩)
            dsimp only [Pt.U, Pt.locs, Pt.cells, Pt.slots] at X147 l147 y147 z147 st147 hQ147
            subst l147 y147 z147
            obtain ⟨rfl, Nq147, e147⟩ := hQ147
            have N147 := Fr.app N92 Nq147
            obtain ⟨cq148, kq148, q148a, q148b, q148c⟩ := isOf hZ e147 fc130
            obtain ⟨_, _, ⟨T148, L148, k148, n148⟩, -, X148, ⟨Lc148, hQ148, l148, y148, z148⟩, st148⟩ := X147.virtualBack hx (y := My11) (z := My11) hown (mvT hZ (ww hw 58 rfl)) (mvT hZ (ww hw 59 rfl)) (notFace_of_selects (args := #[]) (mvT hZ (ww hw 61 rfl))) (mvT hZ (ww hw 61 rfl)) (mvT hZ (ww hw 60 rfl)) (by decide) (backOf (W := 0) (rm11_5 l Z a0 hw [] z_COMPACT_STRINGS b31 b6_34 b1_3_2_8_34 b6_55 b1_3_2_8_55 b6_44 b1_3_2_8_44 b1 b6_4 b1_3_2_8_4 b6_11 b1_3_2_8_11 b6_7 b1_3_2_8_7 k1_3_2_8_34 k1_3_2_8_55 k1_3_2_8_44 k1_3_2_8_4 k1_3_2_8_11 k1_3_2_8_7 f9 (bb (bb (cc (cc (f6 &&& (255 : Int32)))))) (bb (bb (cc (cc (((f6.toUInt32 >>> ((8 : Int32) &&& 31).toUInt32).toInt32) &&& (255 : Int32)))))) (bb (bb (cc (cc (f8 &&& (255 : Int32)))))) (bb (bb (cc (cc (((f8.toUInt32 >>> ((8 : Int32) &&& 31).toUInt32).toInt32) &&& (255 : Int32)))))) (bb (bb (cc (cc (f7 &&& (255 : Int32)))))) (bb (bb (cc (cc (((f7.toUInt32 >>> ((8 : Int32) &&& 31).toUInt32).toInt32) &&& (255 : Int32)))))) p3 (bb (bb (cc (cc (p0 &&& (255 : Int32)))))) (bb (bb (cc (cc (((p0.toUInt32 >>> ((8 : Int32) &&& 31).toUInt32).toInt32) &&& (255 : Int32)))))) (bb (bb (cc (cc (p2 &&& (255 : Int32)))))) (bb (bb (cc (cc (((p2.toUInt32 >>> ((8 : Int32) &&& 31).toUInt32).toInt32) &&& (255 : Int32)))))) (bb (bb (cc (cc (p1 &&& (255 : Int32)))))) (bb (bb (cc (cc (((p1.toUInt32 >>> ((8 : Int32) &&& 31).toUInt32).toInt32) &&& (255 : Int32)))))) T92.heap n0 O92 S fc130 fc131 fc132 fc133 fc134 fc135 fc136 fc137 fc138 fc139 fc140 fc141 fc142 fc143 fc144 fc145 fc146 fc113 fc114 fc115 fc116 fc117 fc118 fc119 fc120 fc121 fc122 fc123 fc124 fc125 fc126 fc127 fc128 fc129 (Ne.symm ne_b6_4_b6_34) (Ne.symm ne_b6_11_b6_55) (Ne.symm ne_b6_7_b6_44) (hc106).symm (hc108).symm (hc109).symm (hc110).symm (hc111).symm (fun q => hc112 q.symm)) hZ (ww hw 62 rfl) (ww hw 2 rfl) (by decide) (by decide)) q148a q148c (g := (mkF m 177 #[vi p0, vi p1, vi p2, vi p3, vi p4, vi f5, vi f6, vi f7, vi f8, vi f9, va b1, va b31, vi 0, va b6_92] [(.ref b1), (.ref b31)])) rfl (by rw [hml]; rfl) (Steps.refl _) (argsL := [(.ref b1)]) (rest := []) (lenOf pd_10 rfl) rfl (by show 2 * 0 + _ ≤ _; exact Nat.le_of_eq rfl) (hb hby at_177) (fun _ _ => ⟨rfl, e147, (by decide : 23 + 0 ≤ _), (by decide : 64 + 0 ≤ _)⟩)
            dsimp only [Pt.U, Pt.locs, Pt.cells, Pt.slots] at X148 l148 y148 z148 st148 hQ148
            subst l148 y148 z148
            obtain ⟨rfl, Nq148, e148⟩ := hQ148
            have N148 := Fr.app N147 Nq148
            obtain ⟨cq149, kq149, q149a, q149b, q149c⟩ := isOf hZ e148 fc113
            obtain ⟨_, _, ⟨T149, L149, k149, n149⟩, -, X149, ⟨Lc149, hQ149, l149, y149, z149⟩, st149⟩ := X148.virtualBack hx (y := My11) (z := My11) hown (mvT hZ (ww hw 58 rfl)) (mvT hZ (ww hw 59 rfl)) (notFace_of_selects (args := #[]) (mvT hZ (ww hw 61 rfl))) (mvT hZ (ww hw 61 rfl)) (mvT hZ (ww hw 60 rfl)) (by decide) (backOf (W := 0) (rm11_1 l Z a0 hw [] z_COMPACT_STRINGS b1 b6_4 b1_3_2_8_4 b6_11 b1_3_2_8_11 b6_7 b1_3_2_8_7 k1_3_2_8_4 k1_3_2_8_11 k1_3_2_8_7 p3 (bb (bb (cc (cc (p0 &&& (255 : Int32)))))) (bb (bb (cc (cc (((p0.toUInt32 >>> ((8 : Int32) &&& 31).toUInt32).toInt32) &&& (255 : Int32)))))) (bb (bb (cc (cc (p2 &&& (255 : Int32)))))) (bb (bb (cc (cc (((p2.toUInt32 >>> ((8 : Int32) &&& 31).toUInt32).toInt32) &&& (255 : Int32)))))) (bb (bb (cc (cc (p1 &&& (255 : Int32)))))) (bb (bb (cc (cc (((p1.toUInt32 >>> ((8 : Int32) &&& 31).toUInt32).toInt32) &&& (255 : Int32)))))) T92.heap n0 O92 S fc113 fc114 fc115 fc116 fc117 fc118 fc122 fc126) hZ (ww hw 62 rfl) (ww hw 2 rfl) (by decide) (by decide)) q149a q149c (g := (mkF m 189 #[vi p0, vi p1, vi p2, vi p3, vi p4, vi f5, vi f6, vi f7, vi f8, vi f9, va b1, va b31, vi 0, va b6_92] [(.ref b1), (.ref b1)])) rfl (by rw [hml]; rfl) (Steps.refl _) (argsL := [(.ref b1)]) (rest := []) (lenOf pd_10 rfl) rfl (by show 2 * 0 + _ ≤ _; exact Nat.le_of_eq rfl) (hb hby at_189) (fun _ _ => ⟨rfl, e148, (by decide : 23 + 0 ≤ _), (by decide : 64 + 0 ≤ _)⟩)
            dsimp only [Pt.U, Pt.locs, Pt.cells, Pt.slots] at X149 l149 y149 z149 st149 hQ149
            subst l149 y149 z149
            obtain ⟨rfl, Nq149, e149⟩ := hQ149
            have N149 := Fr.app N148 Nq149
            obtain ⟨cq150, kq150, q150a, q150b, q150c⟩ := isOf hZ e149 fc113
            obtain ⟨_, _, ⟨T150, L150, k150, n150⟩, -, X150, ⟨Lc150, hQ150, l150, y150, z150⟩, st150⟩ := X149.virtualBack hx (y := My11) (z := My11) hown (mvT hZ (ww hw 58 rfl)) (mvT hZ (ww hw 59 rfl)) (notFace_of_selects (args := #[]) (mvT hZ (ww hw 61 rfl))) (mvT hZ (ww hw 61 rfl)) (mvT hZ (ww hw 60 rfl)) (by decide) (backOf (W := 0) (rm11_2 l Z a0 hw [] z_COMPACT_STRINGS b1 b6_4 b1_3_2_8_4 b6_11 b1_3_2_8_11 b6_7 b1_3_2_8_7 k1_3_2_8_4 k1_3_2_8_11 k1_3_2_8_7 p3 (bb (bb (cc (cc (p0 &&& (255 : Int32)))))) (bb (bb (cc (cc (((p0.toUInt32 >>> ((8 : Int32) &&& 31).toUInt32).toInt32) &&& (255 : Int32)))))) (bb (bb (cc (cc (p2 &&& (255 : Int32)))))) (bb (bb (cc (cc (((p2.toUInt32 >>> ((8 : Int32) &&& 31).toUInt32).toInt32) &&& (255 : Int32)))))) (bb (bb (cc (cc (p1 &&& (255 : Int32)))))) (bb (bb (cc (cc (((p1.toUInt32 >>> ((8 : Int32) &&& 31).toUInt32).toInt32) &&& (255 : Int32)))))) T92.heap n0 O92 S) hZ (ww hw 62 rfl) (ww hw 2 rfl) (by decide) (by decide)) q150a q150c (g := (mkF m 198 #[vi p0, vi p1, vi p2, vi p3, vi p4, vi f5, vi f6, vi f7, vi f8, vi f9, va b1, va b31, vi 0, va b6_92] [.null, (.ref b1)])) rfl (by rw [hml]; rfl) (Steps.refl _) (argsL := [.null]) (rest := []) (lenOf pd_10 rfl) rfl (by show 2 * 0 + _ ≤ _; exact Nat.le_of_eq rfl) (hb hby at_198) (fun _ _ => ⟨rfl, e149, (by decide : 23 + 0 ≤ _), (by decide : 64 + 0 ≤ _)⟩)
            dsimp only [Pt.U, Pt.locs, Pt.cells, Pt.slots] at X150 l150 y150 z150 st150 hQ150
            subst l150 y150 z150
            obtain ⟨rfl, Nq150, e150⟩ := hQ150
            have N150 := Fr.app N149 Nq150
            obtain ⟨cq151, kq151, q151a, q151b, q151c⟩ := isOf hZ e150 fc113
            obtain ⟨_, _, ⟨T151, L151, k151, n151⟩, -, X151, ⟨Lc151, hQ151, l151, y151, z151⟩, st151⟩ := X150.virtualBack hx (y := My11) (z := My11) hown (mvT hZ (ww hw 58 rfl)) (mvT hZ (ww hw 59 rfl)) (notFace_of_selects (args := #[]) (mvT hZ (ww hw 61 rfl))) (mvT hZ (ww hw 61 rfl)) (mvT hZ (ww hw 60 rfl)) (by decide) (backOf (W := 0) (rm11_3 l Z a0 hw [] z_COMPACT_STRINGS b1 b6_4 b1_3_2_8_4 b6_11 b1_3_2_8_11 b6_7 b1_3_2_8_7 b6_92 b1_3_2_8_92 k1_3_2_8_4 k1_3_2_8_11 k1_3_2_8_7 k1_3_2_8_92 p3 (bb (bb (cc (cc (p0 &&& (255 : Int32)))))) (bb (bb (cc (cc (((p0.toUInt32 >>> ((8 : Int32) &&& 31).toUInt32).toInt32) &&& (255 : Int32)))))) (bb (bb (cc (cc (p2 &&& (255 : Int32)))))) (bb (bb (cc (cc (((p2.toUInt32 >>> ((8 : Int32) &&& 31).toUInt32).toInt32) &&& (255 : Int32)))))) (bb (bb (cc (cc (p1 &&& (255 : Int32)))))) (bb (bb (cc (cc (((p1.toUInt32 >>> ((8 : Int32) &&& 31).toUInt32).toInt32) &&& (255 : Int32)))))) (bb (bb (cc (cc (p0 &&& (255 : Int32)))))) (bb (bb (cc (cc (((p0.toUInt32 >>> ((8 : Int32) &&& 31).toUInt32).toInt32) &&& (255 : Int32)))))) T92.heap n0 O92 S P0_92) hZ (ww hw 62 rfl) (ww hw 2 rfl) (by decide) (by decide)) q151a q151c (g := (mkF m 208 #[vi p0, vi p1, vi p2, vi p3, vi p4, vi f5, vi f6, vi f7, vi f8, vi f9, va b1, va b31, vi 0, va b6_92] [(.ref b6_92), (.ref b1)])) rfl (by rw [hml]; rfl) (Steps.refl _) (argsL := [(.ref b6_92)]) (rest := []) (lenOf pd_10 rfl) rfl (by show 2 * 0 + _ ≤ _; exact Nat.le_of_eq rfl) (hb hby at_208) (fun _ _ => ⟨rfl, e150, (by decide : 23 + 0 ≤ _), (by decide : 64 + 0 ≤ _)⟩)
            dsimp only [Pt.U, Pt.locs, Pt.cells, Pt.slots] at X151 l151 y151 z151 st151 hQ151
            subst l151 y151 z151
            obtain ⟨rfl, Nq151, e151⟩ := hQ151
            have N151 := Fr.app N150 Nq151
            obtain ⟨fs, hr, hrun, hended, hW, hsame⟩ := X151.leave (v := (some (.int 1))) (fun h => by rw [hrt] at h; cases h)
            refine ⟨_, _, pre_107 _ ?_, hrun, hended, _, _, rfl, ?_, ⟨_, rfl⟩, hW, hsame.mono (by decide) (by decide)⟩
            · show Steps p.tables e below (T92.setTop (mkF m 165 #[vi p0, vi p1, vi p2, vi p3, vi p4, vi f5, vi f6, vi f7, vi f8, vi f9, va b1, va b31, vi 0, va b6_92] [(.ref b31), (.ref b1)])) _
              refine st147.trans ?_
              refine XS.iload X147.here hx rfl (hb hby at_168) rfl ?_
              refine XS.icmpNo X147.here hx rfl (hb hby at_170) rfl (teq (by decide : (0 : Int32) = (0 : Int32))).2 ?_
              refine XS.aload X147.here hx rfl (hb hby at_173) rfl rfl ?_
              refine XS.aload X147.here hx rfl (hb hby at_175) rfl rfl ?_
              refine st148.trans ?_
              refine XS.iload X148.here hx rfl (hb hby at_180) rfl ?_
              refine XS.icmpNo X148.here hx rfl (hb hby at_182) rfl (teq (by decide : (0 : Int32) = (0 : Int32))).2 ?_
              show Steps p.tables e below (T148.setTop (mkF m 185 #[vi p0, vi p1, vi p2, vi p3, vi p4, vi f5, vi f6, vi f7, vi f8, vi f9, va b1, va b31, vi 0, va b6_92] [])) _
              refine XS.aload X148.here hx rfl (hb hby at_185) rfl rfl ?_
              refine XS.aload X148.here hx rfl (hb hby at_187) rfl rfl ?_
              refine st149.trans ?_
              refine XS.ifNo X149.here hx rfl (hb hby at_192) rfl ((if0 _ _).trans (feq (by decide : ¬ ((1 : Int32) = (0 : Int32)))).1) ?_
              refine XS.aload X149.here hx rfl (hb hby at_195) rfl rfl ?_
              refine XS.aconstNull X149.here hx rfl (hb hby at_197) ?_
              refine st150.trans ?_
              refine XS.ifNo X150.here hx rfl (hb hby at_201) rfl ((if0 _ _).trans (teq (by decide : (0 : Int32) = (0 : Int32))).2) ?_
              show Steps p.tables e below (T150.setTop (mkF m 204 #[vi p0, vi p1, vi p2, vi p3, vi p4, vi f5, vi f6, vi f7, vi f8, vi f9, va b1, va b31, vi 0, va b6_92] [])) _
              refine XS.aload X150.here hx rfl (hb hby at_204) rfl rfl ?_
              refine XS.aload X150.here hx rfl (hb hby at_206) rfl rfl ?_
              refine st151.trans ?_
              refine XS.ifNo X151.here hx rfl (hb hby at_211) rfl ((if0 _ _).trans (teq (by decide : (0 : Int32) = (0 : Int32))).2) ?_
              refine XS.iconst X151.here hx rfl (hb hby at_214) ?_
              refine XS.goto X151.here hx rfl (pc0 := 215) (pc' := 219) rfl (hb hby at_215) (by decide) (by decide) ?_
              exact retN X151 hx (t := .boolean) hrt (by simp) (hb hby at_219) hr
            · show Q0 n0 (some (.int 1)) T151.heap _
              exact (⟨rfl, N151⟩)
        · have fc108 := ((((((P3_20.ext E31).keep Kc34 nin0).keep Kc44 nin0).keep Kc55 nin0).keep Kc71 (ninS ne_b1_b31 nin0)).keep Kc92 nin0)
          have fc109 := (P0_71.keep Kc92)
          have fc110 := (P3_71.keep Kc92 nin0)
          have fc112 := (fc93.keep Kc92)
          obtain ⟨cq111, kq111, q111a, q111b, q111c⟩ := isOf hZ rfl fc112
          obtain ⟨_, _, ⟨T111, L111, k111, n111⟩, -, X111, ⟨Lc111, hQ111, l111, y111, z111⟩, st111⟩ := X92.virtualBack hx (y := My11) (z := My11) hown (mvT hZ (ww hw 58 rfl)) (mvT hZ (ww hw 59 rfl)) (notFace_of_selects (args := #[]) (mvT hZ (ww hw 61 rfl))) (mvT hZ (ww hw 61 rfl)) (mvT hZ (ww hw 60 rfl)) (by decide) (backOf (W := 0) (rm11_4 l Z a0 hw [] z_COMPACT_STRINGS b1 b6_4 b1_3_2_8_4 b6_11 b1_3_2_8_11 b6_7 b1_3_2_8_7 b31 b6_34 b1_3_2_8_34 b6_55 b1_3_2_8_55 b6_44 b1_3_2_8_44 k1_3_2_8_4 k1_3_2_8_11 k1_3_2_8_7 k1_3_2_8_34 k1_3_2_8_55 k1_3_2_8_44 p3 (bb (bb (cc (cc (p0 &&& (255 : Int32)))))) (bb (bb (cc (cc (((p0.toUInt32 >>> ((8 : Int32) &&& 31).toUInt32).toInt32) &&& (255 : Int32)))))) (bb (bb (cc (cc (p2 &&& (255 : Int32)))))) (bb (bb (cc (cc (((p2.toUInt32 >>> ((8 : Int32) &&& 31).toUInt32).toInt32) &&& (255 : Int32)))))) (bb (bb (cc (cc (p1 &&& (255 : Int32)))))) (bb (bb (cc (cc (((p1.toUInt32 >>> ((8 : Int32) &&& 31).toUInt32).toInt32) &&& (255 : Int32)))))) f9 (bb (bb (cc (cc (f6 &&& (255 : Int32)))))) (bb (bb (cc (cc (((f6.toUInt32 >>> ((8 : Int32) &&& 31).toUInt32).toInt32) &&& (255 : Int32)))))) (bb (bb (cc (cc (f8 &&& (255 : Int32)))))) (bb (bb (cc (cc (((f8.toUInt32 >>> ((8 : Int32) &&& 31).toUInt32).toInt32) &&& (255 : Int32)))))) (bb (bb (cc (cc (f7 &&& (255 : Int32)))))) (bb (bb (cc (cc (((f7.toUInt32 >>> ((8 : Int32) &&& 31).toUInt32).toInt32) &&& (255 : Int32)))))) T92.heap n0 O92 S fc108 fc109 fc110 hc106) hZ (ww hw 62 rfl) (ww hw 2 rfl) (by decide) (by decide)) q111a q111c (g := (mkF m 165 #[vi p0, vi p1, vi p2, vi p3, vi p4, vi f5, vi f6, vi f7, vi f8, vi f9, va b1, va b31, vi 0, va b6_92] [(.ref b31), (.ref b1)])) rfl (by rw [hml]; rfl) (Steps.refl _) (argsL := [(.ref b31)]) (rest := []) (lenOf pd_10 rfl) rfl (by show 2 * 0 + _ ≤ _; exact Nat.le_of_eq rfl) (hb hby at_165) (fun _ _ => ⟨rfl, rfl, (by decide : 23 + 0 ≤ _), (by decide : 64 + 0 ≤ _)⟩)
          dsimp only [Pt.U, Pt.locs, Pt.cells, Pt.slots] at X111 l111 y111 z111 st111 hQ111
          subst l111 y111 z111
          obtain ⟨rfl, Nq111, e111⟩ := hQ111
          have N111 := Fr.app N92 Nq111
          obtain ⟨cq113, kq113, q113a, q113b, q113c⟩ := isOf hZ e111 fc109
          obtain ⟨_, _, ⟨T113, L113, k113, n113⟩, -, X113, ⟨Lc113, hQ113, l113, y113, z113⟩, st113⟩ := X111.virtualBack hx (y := My11) (z := My11) hown (mvT hZ (ww hw 58 rfl)) (mvT hZ (ww hw 59 rfl)) (notFace_of_selects (args := #[]) (mvT hZ (ww hw 61 rfl))) (mvT hZ (ww hw 61 rfl)) (mvT hZ (ww hw 60 rfl)) (by decide) (backOf (W := 0) (rm11_4 l Z a0 hw [] z_COMPACT_STRINGS b31 b6_34 b1_3_2_8_34 b6_55 b1_3_2_8_55 b6_44 b1_3_2_8_44 b1 b6_4 b1_3_2_8_4 b6_11 b1_3_2_8_11 b6_7 b1_3_2_8_7 k1_3_2_8_34 k1_3_2_8_55 k1_3_2_8_44 k1_3_2_8_4 k1_3_2_8_11 k1_3_2_8_7 f9 (bb (bb (cc (cc (f6 &&& (255 : Int32)))))) (bb (bb (cc (cc (((f6.toUInt32 >>> ((8 : Int32) &&& 31).toUInt32).toInt32) &&& (255 : Int32)))))) (bb (bb (cc (cc (f8 &&& (255 : Int32)))))) (bb (bb (cc (cc (((f8.toUInt32 >>> ((8 : Int32) &&& 31).toUInt32).toInt32) &&& (255 : Int32)))))) (bb (bb (cc (cc (f7 &&& (255 : Int32)))))) (bb (bb (cc (cc (((f7.toUInt32 >>> ((8 : Int32) &&& 31).toUInt32).toInt32) &&& (255 : Int32)))))) p3 (bb (bb (cc (cc (p0 &&& (255 : Int32)))))) (bb (bb (cc (cc (((p0.toUInt32 >>> ((8 : Int32) &&& 31).toUInt32).toInt32) &&& (255 : Int32)))))) (bb (bb (cc (cc (p2 &&& (255 : Int32)))))) (bb (bb (cc (cc (((p2.toUInt32 >>> ((8 : Int32) &&& 31).toUInt32).toInt32) &&& (255 : Int32)))))) (bb (bb (cc (cc (p1 &&& (255 : Int32)))))) (bb (bb (cc (cc (((p1.toUInt32 >>> ((8 : Int32) &&& 31).toUInt32).toInt32) &&& (255 : Int32)))))) T92.heap n0 O92 S fc110 fc112 fc108 (fun q => hc106 q.symm)) hZ (ww hw 62 rfl) (ww hw 2 rfl) (by decide) (by decide)) q113a q113c (g := (mkF m 177 #[vi p0, vi p1, vi p2, vi p3, vi p4, vi f5, vi f6, vi f7, vi f8, vi f9, va b1, va b31, vi 0, va b6_92] [(.ref b1), (.ref b31)])) rfl (by rw [hml]; rfl) (Steps.refl _) (argsL := [(.ref b1)]) (rest := []) (lenOf pd_10 rfl) rfl (by show 2 * 0 + _ ≤ _; exact Nat.le_of_eq rfl) (hb hby at_177) (fun _ _ => ⟨rfl, e111, (by decide : 23 + 0 ≤ _), (by decide : 64 + 0 ≤ _)⟩)
          dsimp only [Pt.U, Pt.locs, Pt.cells, Pt.slots] at X113 l113 y113 z113 st113 hQ113
          subst l113 y113 z113
          obtain ⟨rfl, Nq113, e113⟩ := hQ113
          have N113 := Fr.app N111 Nq113
          have fc114 := ((((((P1_20.ext E31).keep Kc34 nin0).keep Kc44 nin0).keep Kc55 nin0).keep Kc71 (ninS ne_b1_b31 nin0)).keep Kc92 nin0)
          have fc115 := ((((((P2_20.ext E31).keep Kc34 nin0).keep Kc44 nin0).keep Kc55 nin0).keep Kc71 (ninS ne_b1_b31 nin0)).keep Kc92 nin0)
          have fc116 := ((((((P4_20.ext E31).keep Kc34 nin0).keep Kc44 nin0).keep Kc55 nin0).keep Kc71 (ninS ne_b1_b31 nin0)).keep Kc92 nin0)
          have fc117 := (fc94.keep Kc92)
          have fc118 := (fc98.keep Kc92)
          have fc119 := (fc96.keep Kc92)
          obtain ⟨cq120, kq120, q120a, q120b, q120c⟩ := isOf hZ e113 fc112
          obtain ⟨_, _, ⟨T120, L120, k120, n120⟩, -, X120, ⟨Lc120, hQ120, l120, y120, z120⟩, st120⟩ := X113.virtualBack hx (y := My11) (z := My11) hown (mvT hZ (ww hw 58 rfl)) (mvT hZ (ww hw 59 rfl)) (notFace_of_selects (args := #[]) (mvT hZ (ww hw 61 rfl))) (mvT hZ (ww hw 61 rfl)) (mvT hZ (ww hw 60 rfl)) (by decide) (backOf (W := 0) (rm11_1 l Z a0 hw [] z_COMPACT_STRINGS b1 b6_4 b1_3_2_8_4 b6_11 b1_3_2_8_11 b6_7 b1_3_2_8_7 k1_3_2_8_4 k1_3_2_8_11 k1_3_2_8_7 p3 (bb (bb (cc (cc (p0 &&& (255 : Int32)))))) (bb (bb (cc (cc (((p0.toUInt32 >>> ((8 : Int32) &&& 31).toUInt32).toInt32) &&& (255 : Int32)))))) (bb (bb (cc (cc (p2 &&& (255 : Int32)))))) (bb (bb (cc (cc (((p2.toUInt32 >>> ((8 : Int32) &&& 31).toUInt32).toInt32) &&& (255 : Int32)))))) (bb (bb (cc (cc (p1 &&& (255 : Int32)))))) (bb (bb (cc (cc (((p1.toUInt32 >>> ((8 : Int32) &&& 31).toUInt32).toInt32) &&& (255 : Int32)))))) T92.heap n0 O92 S fc112 fc114 fc115 fc108 fc116 fc117 fc118 fc119) hZ (ww hw 62 rfl) (ww hw 2 rfl) (by decide) (by decide)) q120a q120c (g := (mkF m 189 #[vi p0, vi p1, vi p2, vi p3, vi p4, vi f5, vi f6, vi f7, vi f8, vi f9, va b1, va b31, vi 0, va b6_92] [(.ref b1), (.ref b1)])) rfl (by rw [hml]; rfl) (Steps.refl _) (argsL := [(.ref b1)]) (rest := []) (lenOf pd_10 rfl) rfl (by show 2 * 0 + _ ≤ _; exact Nat.le_of_eq rfl) (hb hby at_189) (fun _ _ => ⟨rfl, e113, (by decide : 23 + 0 ≤ _), (by decide : 64 + 0 ≤ _)⟩)
          dsimp only [Pt.U, Pt.locs, Pt.cells, Pt.slots] at X120 l120 y120 z120 st120 hQ120
          subst l120 y120 z120
          obtain ⟨rfl, Nq120, e120⟩ := hQ120
          have N120 := Fr.app N113 Nq120
          obtain ⟨cq121, kq121, q121a, q121b, q121c⟩ := isOf hZ e120 fc112
          obtain ⟨_, _, ⟨T121, L121, k121, n121⟩, -, X121, ⟨Lc121, hQ121, l121, y121, z121⟩, st121⟩ := X120.virtualBack hx (y := My11) (z := My11) hown (mvT hZ (ww hw 58 rfl)) (mvT hZ (ww hw 59 rfl)) (notFace_of_selects (args := #[]) (mvT hZ (ww hw 61 rfl))) (mvT hZ (ww hw 61 rfl)) (mvT hZ (ww hw 60 rfl)) (by decide) (backOf (W := 0) (rm11_2 l Z a0 hw [] z_COMPACT_STRINGS b1 b6_4 b1_3_2_8_4 b6_11 b1_3_2_8_11 b6_7 b1_3_2_8_7 k1_3_2_8_4 k1_3_2_8_11 k1_3_2_8_7 p3 (bb (bb (cc (cc (p0 &&& (255 : Int32)))))) (bb (bb (cc (cc (((p0.toUInt32 >>> ((8 : Int32) &&& 31).toUInt32).toInt32) &&& (255 : Int32)))))) (bb (bb (cc (cc (p2 &&& (255 : Int32)))))) (bb (bb (cc (cc (((p2.toUInt32 >>> ((8 : Int32) &&& 31).toUInt32).toInt32) &&& (255 : Int32)))))) (bb (bb (cc (cc (p1 &&& (255 : Int32)))))) (bb (bb (cc (cc (((p1.toUInt32 >>> ((8 : Int32) &&& 31).toUInt32).toInt32) &&& (255 : Int32)))))) T92.heap n0 O92 S) hZ (ww hw 62 rfl) (ww hw 2 rfl) (by decide) (by decide)) q121a q121c (g := (mkF m 198 #[vi p0, vi p1, vi p2, vi p3, vi p4, vi f5, vi f6, vi f7, vi f8, vi f9, va b1, va b31, vi 0, va b6_92] [.null, (.ref b1)])) rfl (by rw [hml]; rfl) (Steps.refl _) (argsL := [.null]) (rest := []) (lenOf pd_10 rfl) rfl (by show 2 * 0 + _ ≤ _; exact Nat.le_of_eq rfl) (hb hby at_198) (fun _ _ => ⟨rfl, e120, (by decide : 23 + 0 ≤ _), (by decide : 64 + 0 ≤ _)⟩)
          dsimp only [Pt.U, Pt.locs, Pt.cells, Pt.slots] at X121 l121 y121 z121 st121 hQ121
          subst l121 y121 z121
          obtain ⟨rfl, Nq121, e121⟩ := hQ121
          have N121 := Fr.app N120 Nq121
          obtain ⟨cq122, kq122, q122a, q122b, q122c⟩ := isOf hZ e121 fc112
          obtain ⟨_, _, ⟨T122, L122, k122, n122⟩, -, X122, ⟨Lc122, hQ122, l122, y122, z122⟩, st122⟩ := X121.virtualBack hx (y := My11) (z := My11) hown (mvT hZ (ww hw 58 rfl)) (mvT hZ (ww hw 59 rfl)) (notFace_of_selects (args := #[]) (mvT hZ (ww hw 61 rfl))) (mvT hZ (ww hw 61 rfl)) (mvT hZ (ww hw 60 rfl)) (by decide) (backOf (W := 0) (rm11_3 l Z a0 hw [] z_COMPACT_STRINGS b1 b6_4 b1_3_2_8_4 b6_11 b1_3_2_8_11 b6_7 b1_3_2_8_7 b6_92 b1_3_2_8_92 k1_3_2_8_4 k1_3_2_8_11 k1_3_2_8_7 k1_3_2_8_92 p3 (bb (bb (cc (cc (p0 &&& (255 : Int32)))))) (bb (bb (cc (cc (((p0.toUInt32 >>> ((8 : Int32) &&& 31).toUInt32).toInt32) &&& (255 : Int32)))))) (bb (bb (cc (cc (p2 &&& (255 : Int32)))))) (bb (bb (cc (cc (((p2.toUInt32 >>> ((8 : Int32) &&& 31).toUInt32).toInt32) &&& (255 : Int32)))))) (bb (bb (cc (cc (p1 &&& (255 : Int32)))))) (bb (bb (cc (cc (((p1.toUInt32 >>> ((8 : Int32) &&& 31).toUInt32).toInt32) &&& (255 : Int32)))))) (bb (bb (cc (cc (p0 &&& (255 : Int32)))))) (bb (bb (cc (cc (((p0.toUInt32 >>> ((8 : Int32) &&& 31).toUInt32).toInt32) &&& (255 : Int32)))))) T92.heap n0 O92 S P0_92) hZ (ww hw 62 rfl) (ww hw 2 rfl) (by decide) (by decide)) q122a q122c (g := (mkF m 208 #[vi p0, vi p1, vi p2, vi p3, vi p4, vi f5, vi f6, vi f7, vi f8, vi f9, va b1, va b31, vi 0, va b6_92] [(.ref b6_92), (.ref b1)])) rfl (by rw [hml]; rfl) (Steps.refl _) (argsL := [(.ref b6_92)]) (rest := []) (lenOf pd_10 rfl) rfl (by show 2 * 0 + _ ≤ _; exact Nat.le_of_eq rfl) (hb hby at_208) (fun _ _ => ⟨rfl, e121, (by decide : 23 + 0 ≤ _), (by decide : 64 + 0 ≤ _)⟩)
          dsimp only [Pt.U, Pt.locs, Pt.cells, Pt.slots] at X122 l122 y122 z122 st122 hQ122
          subst l122 y122 z122
          obtain ⟨rfl, Nq122, e122⟩ := hQ122
          have N122 := Fr.app N121 Nq122
          obtain ⟨fs, hr, hrun, hended, hW, hsame⟩ := X122.leave (v := (some (.int 1))) (fun h => by rw [hrt] at h; cases h)
          refine ⟨_, _, pre_107 _ ?_, hrun, hended, _, _, rfl, ?_, ⟨_, rfl⟩, hW, hsame.mono (by decide) (by decide)⟩
          · show Steps p.tables e below (T92.setTop (mkF m 165 #[vi p0, vi p1, vi p2, vi p3, vi p4, vi f5, vi f6, vi f7, vi f8, vi f9, va b1, va b31, vi 0, va b6_92] [(.ref b31), (.ref b1)])) _
            refine st111.trans ?_
            refine XS.iload X111.here hx rfl (hb hby at_168) rfl ?_
            refine XS.icmpNo X111.here hx rfl (hb hby at_170) rfl (teq (by decide : (0 : Int32) = (0 : Int32))).2 ?_
            refine XS.aload X111.here hx rfl (hb hby at_173) rfl rfl ?_
            refine XS.aload X111.here hx rfl (hb hby at_175) rfl rfl ?_
            refine st113.trans ?_
            refine XS.iload X113.here hx rfl (hb hby at_180) rfl ?_
            refine XS.icmpNo X113.here hx rfl (hb hby at_182) rfl (teq (by decide : (0 : Int32) = (0 : Int32))).2 ?_
            show Steps p.tables e below (T113.setTop (mkF m 185 #[vi p0, vi p1, vi p2, vi p3, vi p4, vi f5, vi f6, vi f7, vi f8, vi f9, va b1, va b31, vi 0, va b6_92] [])) _
            refine XS.aload X113.here hx rfl (hb hby at_185) rfl rfl ?_
            refine XS.aload X113.here hx rfl (hb hby at_187) rfl rfl ?_
            refine st120.trans ?_
            refine XS.ifNo X120.here hx rfl (hb hby at_192) rfl ((if0 _ _).trans (feq (by decide : ¬ ((1 : Int32) = (0 : Int32)))).1) ?_
            refine XS.aload X120.here hx rfl (hb hby at_195) rfl rfl ?_
            refine XS.aconstNull X120.here hx rfl (hb hby at_197) ?_
            refine st121.trans ?_
            refine XS.ifNo X121.here hx rfl (hb hby at_201) rfl ((if0 _ _).trans (teq (by decide : (0 : Int32) = (0 : Int32))).2) ?_
            show Steps p.tables e below (T121.setTop (mkF m 204 #[vi p0, vi p1, vi p2, vi p3, vi p4, vi f5, vi f6, vi f7, vi f8, vi f9, va b1, va b31, vi 0, va b6_92] [])) _
            refine XS.aload X121.here hx rfl (hb hby at_204) rfl rfl ?_
            refine XS.aload X121.here hx rfl (hb hby at_206) rfl rfl ?_
            refine st122.trans ?_
            refine XS.ifNo X122.here hx rfl (hb hby at_211) rfl ((if0 _ _).trans (teq (by decide : (0 : Int32) = (0 : Int32))).2) ?_
            refine XS.iconst X122.here hx rfl (hb hby at_214) ?_
            refine XS.goto X122.here hx rfl (pc0 := 215) (pc' := 219) rfl (hb hby at_215) (by decide) (by decide) ?_
            exact retN X122 hx (t := .boolean) hrt (by simp) (hb hby at_219) hr
          · show Q0 n0 (some (.int 1)) T122.heap _
            exact (⟨rfl, N122⟩)
    · obtain ⟨_, _, ⟨T88, L88, k88, n88⟩, -, X88, ⟨Lc88, hQ88, l88, y88, z88⟩, st88⟩ := Jvm.LawKit.callS X85 hx (y := My10) hown (mvT hZ (ww hw 54 rfl)) (mvT hZ (ww hw 55 rfl)) (mvT hZ (ww hw 5 rfl)) (mvT hZ (ww hw 56 rfl)) (by decide) (backOf (W := 0) (rm10_0 l Z a0 hw [] z_COMPACT_STRINGS p1 f7 T71.heap n0 O71 S hc86) hZ (ww hw 56 rfl) (ww hw 5 rfl) (by decide) (by decide)) (g := (mkF m 127 #[vi p0, vi p1, vi p2, vi p3, vi p4, vi f5, vi f6, vi f7, vi f8, vi f9, va b1, va b31, uu, uu] [(.int f7), (.int p1)])) rfl (by rw [hml]; rfl) (argsL := [(.int p1), (.int f7)]) (rest := []) (lenOf pd_8 rfl) rfl (by show 2 * 0 + _ ≤ _; exact Nat.le_of_eq rfl) (hb hby at_127) (fun _ _ => ⟨rfl, e85, (by decide : 20 + 0 ≤ _), (by decide : 56 + 0 ≤ _)⟩)
      dsimp only [Pt.U, Pt.locs, Pt.cells, Pt.slots] at X88 l88 y88 z88 st88 hQ88
      subst l88 y88 z88
      obtain ⟨rfl, Nq88, e88⟩ := hQ88
      have N88 := Fr.app N85 Nq88
      obtain ⟨_, _, ⟨T89, L89, k89, n89⟩, -, X89, ⟨Lc89, hQ89, l89, y89, z89⟩, st89⟩ := Jvm.LawKit.callS X88 hx (y := My1) hown (mvT hZ (ww hw 3 rfl)) (mvT hZ (ww hw 4 rfl)) (mvT hZ (ww hw 5 rfl)) (mvT hZ (ww hw 6 rfl)) (by decide) (backOf (W := 0) (rm1_0 l Z a0 hw [] z_COMPACT_STRINGS p0 T71.heap n0 O71 S hc2 hc3) hZ (ww hw 6 rfl) (ww hw 5 rfl) (by decide) (by decide)) (g := (mkF m 156 #[vi p0, vi p1, vi p2, vi p3, vi p4, vi f5, vi f6, vi f7, vi f8, vi f9, va b1, va b31, vi 0, uu] [(.int p0)])) rfl (by rw [hml]; rfl) (argsL := [(.int p0)]) (rest := []) (lenOf pd_5 rfl) rfl (by show 2 * 0 + _ ≤ _; exact Nat.le_of_eq rfl) (hb hby at_156) (fun _ _ => ⟨rfl, e88, (by decide : 20 + 3 ≤ _), (by decide : 56 + 8 ≤ _)⟩)
      dsimp only [Pt.U, Pt.locs, Pt.cells, Pt.slots] at X89 l89 y89 z89 st89 hQ89
      subst l89 y89 z89
      have fc90 := (fc72.keep Kc71)
      have fc91 := (fc73.keep Kc71)
      have fc92 := (fc74.keep Kc71 (ninS ne_b1_3_2_8_4_b31 nin0))
      have fc93 := (fc75.keep Kc71)
      have fc94 := (fc76.keep Kc71 (ninS ne_b1_3_2_8_7_b31 nin0))
      have fc95 := (fc77.keep Kc71)
      have fc96 := (fc78.keep Kc71 (ninS ne_b1_3_2_8_11_b31 nin0))
      have fc97 := (fc79.keep Kc71)
      have fc98 := (fc80.keep Kc71 (ninS (Ne.symm ne_b31_b1_3_2_8_34) nin0))
      have fc99 := (fc81.keep Kc71)
      have fc100 := (fc82.keep Kc71 (ninS (Ne.symm ne_b31_b1_3_2_8_44) nin0))
      have fc101 := (P0_55.keep Kc71)
      have fc102 := (P3_55.keep Kc71 (ninS (Ne.symm ne_b31_b1_3_2_8_55) nin0))
      obtain ⟨b6_89, b1_3_2_8_89, k1_3_2_8_89, rfl, Nq89, Kc89, P0_89, P1_89, P2_89, P3_89, P4_89, P5_89, P6_89⟩ := hQ89
      have N89 := Fr.app N88 Nq89
      have ne_b1_b6_89 : b1 ≠ b6_89 := Nat.ne_of_lt (Nat.lt_of_lt_of_le fc90.lt P4_89)
      have ne_b6_4_b6_89 : b6_4 ≠ b6_89 := Nat.ne_of_lt (Nat.lt_of_lt_of_le fc91.lt P4_89)
      have ne_b1_3_2_8_4_b6_89 : b1_3_2_8_4 ≠ b6_89 := Nat.ne_of_lt (Nat.lt_of_lt_of_le fc92.lt P4_89)
      have ne_b6_7_b6_89 : b6_7 ≠ b6_89 := Nat.ne_of_lt (Nat.lt_of_lt_of_le fc93.lt P4_89)
      have ne_b1_3_2_8_7_b6_89 : b1_3_2_8_7 ≠ b6_89 := Nat.ne_of_lt (Nat.lt_of_lt_of_le fc94.lt P4_89)
      have ne_b6_11_b6_89 : b6_11 ≠ b6_89 := Nat.ne_of_lt (Nat.lt_of_lt_of_le fc95.lt P4_89)
      have ne_b1_3_2_8_11_b6_89 : b1_3_2_8_11 ≠ b6_89 := Nat.ne_of_lt (Nat.lt_of_lt_of_le fc96.lt P4_89)
      have ne_b31_b6_89 : b31 ≠ b6_89 := Nat.ne_of_lt (Nat.lt_of_lt_of_le P0_71.lt P4_89)
      have ne_b6_34_b6_89 : b6_34 ≠ b6_89 := Nat.ne_of_lt (Nat.lt_of_lt_of_le fc97.lt P4_89)
      have ne_b1_3_2_8_34_b6_89 : b1_3_2_8_34 ≠ b6_89 := Nat.ne_of_lt (Nat.lt_of_lt_of_le fc98.lt P4_89)
      have ne_b6_44_b6_89 : b6_44 ≠ b6_89 := Nat.ne_of_lt (Nat.lt_of_lt_of_le fc99.lt P4_89)
      have ne_b1_3_2_8_44_b6_89 : b1_3_2_8_44 ≠ b6_89 := Nat.ne_of_lt (Nat.lt_of_lt_of_le fc100.lt P4_89)
      have ne_b6_55_b6_89 : b6_55 ≠ b6_89 := Nat.ne_of_lt (Nat.lt_of_lt_of_le fc101.lt P4_89)
      have ne_b1_3_2_8_55_b6_89 : b1_3_2_8_55 ≠ b6_89 := Nat.ne_of_lt (Nat.lt_of_lt_of_le fc102.lt P4_89)
      have ne_b1_b1_3_2_8_89 : b1 ≠ b1_3_2_8_89 := Nat.ne_of_lt (Nat.lt_of_lt_of_le fc90.lt P5_89)
      have ne_b6_4_b1_3_2_8_89 : b6_4 ≠ b1_3_2_8_89 := Nat.ne_of_lt (Nat.lt_of_lt_of_le fc91.lt P5_89)
      have ne_b1_3_2_8_4_b1_3_2_8_89 : b1_3_2_8_4 ≠ b1_3_2_8_89 := Nat.ne_of_lt (Nat.lt_of_lt_of_le fc92.lt P5_89)
      have ne_b6_7_b1_3_2_8_89 : b6_7 ≠ b1_3_2_8_89 := Nat.ne_of_lt (Nat.lt_of_lt_of_le fc93.lt P5_89)
      have ne_b1_3_2_8_7_b1_3_2_8_89 : b1_3_2_8_7 ≠ b1_3_2_8_89 := Nat.ne_of_lt (Nat.lt_of_lt_of_le fc94.lt P5_89)
      have ne_b6_11_b1_3_2_8_89 : b6_11 ≠ b1_3_2_8_89 := Nat.ne_of_lt (Nat.lt_of_lt_of_le fc95.lt P5_89)
      have ne_b1_3_2_8_11_b1_3_2_8_89 : b1_3_2_8_11 ≠ b1_3_2_8_89 := Nat.ne_of_lt (Nat.lt_of_lt_of_le fc96.lt P5_89)
      have ne_b31_b1_3_2_8_89 : b31 ≠ b1_3_2_8_89 := Nat.ne_of_lt (Nat.lt_of_lt_of_le P0_71.lt P5_89)
      have ne_b6_34_b1_3_2_8_89 : b6_34 ≠ b1_3_2_8_89 := Nat.ne_of_lt (Nat.lt_of_lt_of_le fc97.lt P5_89)
      have ne_b1_3_2_8_34_b1_3_2_8_89 : b1_3_2_8_34 ≠ b1_3_2_8_89 := Nat.ne_of_lt (Nat.lt_of_lt_of_le fc98.lt P5_89)
      have ne_b6_44_b1_3_2_8_89 : b6_44 ≠ b1_3_2_8_89 := Nat.ne_of_lt (Nat.lt_of_lt_of_le fc99.lt P5_89)
      have ne_b1_3_2_8_44_b1_3_2_8_89 : b1_3_2_8_44 ≠ b1_3_2_8_89 := Nat.ne_of_lt (Nat.lt_of_lt_of_le fc100.lt P5_89)
      have ne_b6_55_b1_3_2_8_89 : b6_55 ≠ b1_3_2_8_89 := Nat.ne_of_lt (Nat.lt_of_lt_of_le fc101.lt P5_89)
      have ne_b1_3_2_8_55_b1_3_2_8_89 : b1_3_2_8_55 ≠ b1_3_2_8_89 := Nat.ne_of_lt (Nat.lt_of_lt_of_le fc102.lt P5_89)
      have g_b6_89 : n0 ≤ b6_89 := Nat.le_trans (own_old O71) P4_89
      have sz_b6_89 : h0.size ≤ b6_89 := Nat.le_trans K71.1 P4_89
      have g_b1_3_2_8_89 : n0 ≤ b1_3_2_8_89 := Nat.le_trans (own_old O71) P5_89
      have sz_b1_3_2_8_89 : h0.size ≤ b1_3_2_8_89 := Nat.le_trans K71.1 P5_89
      have O89 := O71.keep Kc89 all0
      have K89 : Keep h0 T89.heap [] := K71.trans Kc89 all0
      have pre_104 : ∀ t, Steps p.tables e below (T89.setTop (mkF m 165 #[vi p0, vi p1, vi p2, vi p3, vi p4, vi f5, vi f6, vi f7, vi f8, vi f9, va b1, va b31, vi 0, va b6_89] [(.ref b31), (.ref b1)])) t → Steps p.tables e below (T0.setTop (mkF m 67 #[vi p0, vi p1, vi p2, vi p3, vi p4, vi f5, vi f6, vi f7, vi f8, vi f9, uu, uu, uu, uu] [])) t := fun t k => pre_87 t (by
        show Steps p.tables e below (T85.setTop (mkF m 127 #[vi p0, vi p1, vi p2, vi p3, vi p4, vi f5, vi f6, vi f7, vi f8, vi f9, va b1, va b31, uu, uu] [(.int f7), (.int p1)])) _
        refine st88 _ ?_
        refine XS.ifYes X88.here hx rfl (pc0 := 130) (pc' := 152) rfl (hb hby at_130) rfl ((if0 _ _).trans (teq (by decide : (0 : Int32) = (0 : Int32))).1) (by decide) (by decide) ?_
        refine XS.iconst X88.here hx rfl (hb hby at_152) ?_
        refine XS.istore X88.here hx rfl (hb hby at_153) rfl (l' := #[vi p0, vi p1, vi p2, vi p3, vi p4, vi f5, vi f6, vi f7, vi f8, vi f9, va b1, va b31, vi 0, uu]) rfl ?_
        refine XS.iloadN X88.here hx rfl (hb hby at_155) rfl ?_
        refine st89 _ ?_
        refine XS.astore X89.here hx rfl (hb hby at_159) rfl rfl (l' := #[vi p0, vi p1, vi p2, vi p3, vi p4, vi f5, vi f6, vi f7, vi f8, vi f9, va b1, va b31, vi 0, va b6_89]) rfl ?_
        refine XS.aload X89.here hx rfl (hb hby at_161) rfl rfl ?_
        show Steps p.tables e below (T89.setTop (mkF m 163 #[vi p0, vi p1, vi p2, vi p3, vi p4, vi f5, vi f6, vi f7, vi f8, vi f9, va b1, va b31, vi 0, va b6_89] [(.ref b1)])) _
        refine XS.aload X89.here hx rfl (hb hby at_163) rfl rfl ?_
        exact k)
      by_cases hc103 : p3 = f9
      · have hc105 : (bb (bb (cc (cc (p0 &&& (255 : Int32)))))) = (bb (bb (cc (cc (f6 &&& (255 : Int32)))))) := ow13 p0 f6 hc2 hc3 hc32 hc33 hc83
        have hc106 : (bb (bb (cc (cc (((p0.toUInt32 >>> ((8 : Int32) &&& 31).toUInt32).toInt32) &&& (255 : Int32)))))) = (bb (bb (cc (cc (((f6.toUInt32 >>> ((8 : Int32) &&& 31).toUInt32).toInt32) &&& (255 : Int32)))))) := ow20 p0 f6 hc2 hc3 hc32 hc33 hc83 hc105
        by_cases hc107 : (bb (bb (cc (cc (p1 &&& (255 : Int32)))))) = (bb (bb (cc (cc (f7 &&& (255 : Int32))))))
        · have hc108 : ¬ ((bb (bb (cc (cc (((p1.toUInt32 >>> ((8 : Int32) &&& 31).toUInt32).toInt32) &&& (255 : Int32)))))) = (bb (bb (cc (cc (((f7.toUInt32 >>> ((8 : Int32) &&& 31).toUInt32).toInt32) &&& (255 : Int32))))))) := ow21 p1 f7 hc5 hc6 hc42 hc43 hc86 hc107
          have fc109 := (fc90.keep Kc89)
          have fc110 := ((((((P1_20.ext E31).keep Kc34 nin0).keep Kc44 nin0).keep Kc55 nin0).keep Kc71 (ninS ne_b1_b31 nin0)).keep Kc89 nin0)
          have fc111 := ((((((P3_20.ext E31).keep Kc34 nin0).keep Kc44 nin0).keep Kc55 nin0).keep Kc71 (ninS ne_b1_b31 nin0)).keep Kc89 nin0)
          have fc112 := ((((((P4_20.ext E31).keep Kc34 nin0).keep Kc44 nin0).keep Kc55 nin0).keep Kc71 (ninS ne_b1_b31 nin0)).keep Kc89 nin0)
          have fc113 := (fc91.keep Kc89)
          have fc114 := (((((((((P1_4.keep Kc7 nin0).keep Kc11 nin0).keep Kc20 (ninS (Ne.symm ne_b1_b6_4) nin0)).ext E31).keep Kc34 nin0).keep Kc44 nin0).keep Kc55 nin0).keep Kc71 (ninS ne_b6_4_b31 nin0)).keep Kc89 nin0)
          have fc115 := (((((((((P2_4.keep Kc7 nin0).keep Kc11 nin0).keep Kc20 (ninS (Ne.symm ne_b1_b6_4) nin0)).ext E31).keep Kc34 nin0).keep Kc44 nin0).keep Kc55 nin0).keep Kc71 (ninS ne_b6_4_b31 nin0)).keep Kc89 nin0)
          have fc116 := (fc92.keep Kc89 nin0)
          have fc117 := (fc93.keep Kc89)
          have fc118 := ((((((((P1_7.keep Kc11 nin0).keep Kc20 (ninS (Ne.symm ne_b1_b6_7) nin0)).ext E31).keep Kc34 nin0).keep Kc44 nin0).keep Kc55 nin0).keep Kc71 (ninS ne_b6_7_b31 nin0)).keep Kc89 nin0)
          have fc119 := ((((((((P2_7.keep Kc11 nin0).keep Kc20 (ninS (Ne.symm ne_b1_b6_7) nin0)).ext E31).keep Kc34 nin0).keep Kc44 nin0).keep Kc55 nin0).keep Kc71 (ninS ne_b6_7_b31 nin0)).keep Kc89 nin0)
          have fc120 := (fc94.keep Kc89 nin0)
          have fc121 := (P0_71.keep Kc89)
          have fc122 := (P1_71.keep Kc89 nin0)
          have fc123 := (P2_71.keep Kc89 nin0)
          have fc124 := (P3_71.keep Kc89 nin0)
          have fc125 := (P4_71.keep Kc89 nin0)
          have fc126 := (fc97.keep Kc89)
          have fc127 := ((((P1_34.keep Kc44 nin0).keep Kc55 nin0).keep Kc71 (ninS (Ne.symm ne_b31_b6_34) nin0)).keep Kc89 nin0)
          have fc128 := ((((P2_34.keep Kc44 nin0).keep Kc55 nin0).keep Kc71 (ninS (Ne.symm ne_b31_b6_34) nin0)).keep Kc89 nin0)
          have fc129 := (fc98.keep Kc89 nin0)
          have fc130 := (fc99.keep Kc89)
          have fc131 := (((P1_44.keep Kc55 nin0).keep Kc71 (ninS (Ne.symm ne_b31_b6_44) nin0)).keep Kc89 nin0)
          have fc132 := (((P2_44.keep Kc55 nin0).keep Kc71 (ninS (Ne.symm ne_b31_b6_44) nin0)).keep Kc89 nin0)
          have fc133 := (fc100.keep Kc89 nin0)
          obtain ⟨cq134, kq134, q134a, q134b, q134c⟩ := isOf hZ rfl fc109
          obtain ⟨_, _, ⟨T134, L134, k134, n134⟩, -, X134, ⟨Lc134, hQ134, l134, y134, z134⟩, st134⟩ := X89.virtualBack hx (y := My11) (z := My11) hown (mvT hZ (ww hw 58 rfl)) (mvT hZ (ww hw 59 rfl)) (notFace_of_selects (args := #[]) (mvT hZ (ww hw 61 rfl))) (mvT hZ (ww hw 61 rfl)) (mvT hZ (ww hw 60 rfl)) (by decide) (backOf (W := 0) (rm11_8 l Z a0 hw [] z_COMPACT_STRINGS b1 b6_4 b1_3_2_8_4 b6_11 b1_3_2_8_11 b6_7 b1_3_2_8_7 b31 b6_34 b1_3_2_8_34 b6_55 b1_3_2_8_55 b6_44 b1_3_2_8_44 k1_3_2_8_4 k1_3_2_8_11 k1_3_2_8_7 k1_3_2_8_34 k1_3_2_8_55 k1_3_2_8_44 p3 (bb (bb (cc (cc (p0 &&& (255 : Int32)))))) (bb (bb (cc (cc (((p0.toUInt32 >>> ((8 : Int32) &&& 31).toUInt32).toInt32) &&& (255 : Int32)))))) (bb (bb (cc (cc (p2 &&& (255 : Int32)))))) (bb (bb (cc (cc (((p2.toUInt32 >>> ((8 : Int32) &&& 31).toUInt32).toInt32) &&& (255 : Int32)))))) (bb (bb (cc (cc (p1 &&& (255 : Int32)))))) (bb (bb (cc (cc (((p1.toUInt32 >>> ((8 : Int32) &&& 31).toUInt32).toInt32) &&& (255 : Int32)))))) f9 (bb (bb (cc (cc (f6 &&& (255 : Int32)))))) (bb (bb (cc (cc (((f6.toUInt32 >>> ((8 : Int32) &&& 31).toUInt32).toInt32) &&& (255 : Int32)))))) (bb (bb (cc (cc (f8 &&& (255 : Int32)))))) (bb (bb (cc (cc (((f8.toUInt32 >>> ((8 : Int32) &&& 31).toUInt32).toInt32) &&& (255 : Int32)))))) (bb (bb (cc (cc (f7 &&& (255 : Int32)))))) (bb (bb (cc (cc (((f7.toUInt32 >>> ((8 : Int32) &&& 31).toUInt32).toInt32) &&& (255 : Int32)))))) T89.heap n0 O89 S fc109 fc110 fc111 fc112 fc113 fc114 fc115 fc116 fc117 fc118 fc119 fc120 fc121 fc122 fc123 fc124 fc125 fc126 fc127 fc128 fc129 fc130 fc131 fc132 fc133 ne_b6_4_b6_34 ne_b6_7_b6_44 hc103 hc105 hc106 hc107 hc108) hZ (ww hw 62 rfl) (ww hw 2 rfl) (by decide) (by decide)) q134a q134c (g := (mkF m 165 #[vi p0, vi p1, vi p2, vi p3, vi p4, vi f5, vi f6, vi f7, vi f8, vi f9, va b1, va b31, vi 0, va b6_89] [(.ref b31), (.ref b1)])) rfl (by rw [hml]; rfl) (Steps.refl _) (argsL := [(.ref b31)]) (rest := []) (lenOf pd_10 rfl) rfl (by show 2 * 0 + _ ≤ _; exact Nat.le_of_eq rfl) (hb hby at_165) (fun _ _ => ⟨rfl, rfl, (by decide : 23 + 0 ≤ _), (by decide : 64 + 0 ≤ _)⟩)
          dsimp only [Pt.U, Pt.locs, Pt.cells, Pt.slots] at X134 l134 y134 z134 st134 hQ134
          subst l134 y134 z134
          obtain ⟨rfl, Nq134, e134⟩ := hQ134
          have N134 := Fr.app N89 Nq134
          have fc135 := ((((((P2_20.ext E31).keep Kc34 nin0).keep Kc44 nin0).keep Kc55 nin0).keep Kc71 (ninS ne_b1_b31 nin0)).keep Kc89 nin0)
          obtain ⟨cq136, kq136, q136a, q136b, q136c⟩ := isOf hZ e134 fc121
          obtain ⟨_, _, ⟨T136, L136, k136, n136⟩, -, X136, ⟨Lc136, hQ136, l136, y136, z136⟩, st136⟩ := X134.virtualBack hx (y := My11) (z := My11) hown (mvT hZ (ww hw 58 rfl)) (mvT hZ (ww hw 59 rfl)) (notFace_of_selects (args := #[]) (mvT hZ (ww hw 61 rfl))) (mvT hZ (ww hw 61 rfl)) (mvT hZ (ww hw 60 rfl)) (by decide) (backOf (W := 0) (rm11_8 l Z a0 hw [] z_COMPACT_STRINGS b31 b6_34 b1_3_2_8_34 b6_55 b1_3_2_8_55 b6_44 b1_3_2_8_44 b1 b6_4 b1_3_2_8_4 b6_11 b1_3_2_8_11 b6_7 b1_3_2_8_7 k1_3_2_8_34 k1_3_2_8_55 k1_3_2_8_44 k1_3_2_8_4 k1_3_2_8_11 k1_3_2_8_7 f9 (bb (bb (cc (cc (f6 &&& (255 : Int32)))))) (bb (bb (cc (cc (((f6.toUInt32 >>> ((8 : Int32) &&& 31).toUInt32).toInt32) &&& (255 : Int32)))))) (bb (bb (cc (cc (f8 &&& (255 : Int32)))))) (bb (bb (cc (cc (((f8.toUInt32 >>> ((8 : Int32) &&& 31).toUInt32).toInt32) &&& (255 : Int32)))))) (bb (bb (cc (cc (f7 &&& (255 : Int32)))))) (bb (bb (cc (cc (((f7.toUInt32 >>> ((8 : Int32) &&& 31).toUInt32).toInt32) &&& (255 : Int32)))))) p3 (bb (bb (cc (cc (p0 &&& (255 : Int32)))))) (bb (bb (cc (cc (((p0.toUInt32 >>> ((8 : Int32) &&& 31).toUInt32).toInt32) &&& (255 : Int32)))))) (bb (bb (cc (cc (p2 &&& (255 : Int32)))))) (bb (bb (cc (cc (((p2.toUInt32 >>> ((8 : Int32) &&& 31).toUInt32).toInt32) &&& (255 : Int32)))))) (bb (bb (cc (cc (p1 &&& (255 : Int32)))))) (bb (bb (cc (cc (((p1.toUInt32 >>> ((8 : Int32) &&& 31).toUInt32).toInt32) &&& (255 : Int32)))))) T89.heap n0 O89 S fc121 fc122 fc124 fc125 fc126 fc127 fc128 fc129 fc130 fc131 fc132 fc133 fc109 fc110 fc135 fc111 fc112 fc113 fc114 fc115 fc116 fc117 fc118 fc119 fc120 (Ne.symm ne_b6_4_b6_34) (Ne.symm ne_b6_7_b6_44) (hc103).symm (hc105).symm (hc106).symm (hc107).symm (fun q => hc108 q.symm)) hZ (ww hw 62 rfl) (ww hw 2 rfl) (by decide) (by decide)) q136a q136c (g := (mkF m 177 #[vi p0, vi p1, vi p2, vi p3, vi p4, vi f5, vi f6, vi f7, vi f8, vi f9, va b1, va b31, vi 0, va b6_89] [(.ref b1), (.ref b31)])) rfl (by rw [hml]; rfl) (Steps.refl _) (argsL := [(.ref b1)]) (rest := []) (lenOf pd_10 rfl) rfl (by show 2 * 0 + _ ≤ _; exact Nat.le_of_eq rfl) (hb hby at_177) (fun _ _ => ⟨rfl, e134, (by decide : 23 + 0 ≤ _), (by decide : 64 + 0 ≤ _)⟩)
          dsimp only [Pt.U, Pt.locs, Pt.cells, Pt.slots] at X136 l136 y136 z136 st136 hQ136
          subst l136 y136 z136
          obtain ⟨rfl, Nq136, e136⟩ := hQ136
          have N136 := Fr.app N134 Nq136
          have fc137 := (fc95.keep Kc89)
          obtain ⟨cq138, kq138, q138a, q138b, q138c⟩ := isOf hZ e136 fc109
          obtain ⟨_, _, ⟨T138, L138, k138, n138⟩, -, X138, ⟨Lc138, hQ138, l138, y138, z138⟩, st138⟩ := X136.virtualBack hx (y := My11) (z := My11) hown (mvT hZ (ww hw 58 rfl)) (mvT hZ (ww hw 59 rfl)) (notFace_of_selects (args := #[]) (mvT hZ (ww hw 61 rfl))) (mvT hZ (ww hw 61 rfl)) (mvT hZ (ww hw 60 rfl)) (by decide) (backOf (W := 0) (rm11_1 l Z a0 hw [] z_COMPACT_STRINGS b1 b6_4 b1_3_2_8_4 b6_11 b1_3_2_8_11 b6_7 b1_3_2_8_7 k1_3_2_8_4 k1_3_2_8_11 k1_3_2_8_7 p3 (bb (bb (cc (cc (p0 &&& (255 : Int32)))))) (bb (bb (cc (cc (((p0.toUInt32 >>> ((8 : Int32) &&& 31).toUInt32).toInt32) &&& (255 : Int32)))))) (bb (bb (cc (cc (p2 &&& (255 : Int32)))))) (bb (bb (cc (cc (((p2.toUInt32 >>> ((8 : Int32) &&& 31).toUInt32).toInt32) &&& (255 : Int32)))))) (bb (bb (cc (cc (p1 &&& (255 : Int32)))))) (bb (bb (cc (cc (((p1.toUInt32 >>> ((8 : Int32) &&& 31).toUInt32).toInt32) &&& (255 : Int32)))))) T89.heap n0 O89 S fc109 fc110 fc135 fc111 fc112 fc113 fc137 fc117) hZ (ww hw 62 rfl) (ww hw 2 rfl) (by decide) (by decide)) q138a q138c (g := (mkF m 189 #[vi p0, vi p1, vi p2, vi p3, vi p4, vi f5, vi f6, vi f7, vi f8, vi f9, va b1, va b31, vi 0, va b6_89] [(.ref b1), (.ref b1)])) rfl (by rw [hml]; rfl) (Steps.refl _) (argsL := [(.ref b1)]) (rest := []) (lenOf pd_10 rfl) rfl (by show 2 * 0 + _ ≤ _; exact Nat.le_of_eq rfl) (hb hby at_189) (fun _ _ => ⟨rfl, e136, (by decide : 23 + 0 ≤ _), (by decide : 64 + 0 ≤ _)⟩)
          dsimp only [Pt.U, Pt.locs, Pt.cells, Pt.slots] at X138 l138 y138 z138 st138 hQ138
          subst l138 y138 z138
          obtain ⟨rfl, Nq138, e138⟩ := hQ138
          have N138 := Fr.app N136 Nq138
          obtain ⟨cq139, kq139, q139a, q139b, q139c⟩ := isOf hZ e138 fc109
          obtain ⟨_, _, ⟨T139, L139, k139, n139⟩, -, X139, ⟨Lc139, hQ139, l139, y139, z139⟩, st139⟩ := X138.virtualBack hx (y := My11) (z := My11) hown (mvT hZ (ww hw 58 rfl)) (mvT hZ (ww hw 59 rfl)) (notFace_of_selects (args := #[]) (mvT hZ (ww hw 61 rfl))) (mvT hZ (ww hw 61 rfl)) (mvT hZ (ww hw 60 rfl)) (by decide) (backOf (W := 0) (rm11_2 l Z a0 hw [] z_COMPACT_STRINGS b1 b6_4 b1_3_2_8_4 b6_11 b1_3_2_8_11 b6_7 b1_3_2_8_7 k1_3_2_8_4 k1_3_2_8_11 k1_3_2_8_7 p3 (bb (bb (cc (cc (p0 &&& (255 : Int32)))))) (bb (bb (cc (cc (((p0.toUInt32 >>> ((8 : Int32) &&& 31).toUInt32).toInt32) &&& (255 : Int32)))))) (bb (bb (cc (cc (p2 &&& (255 : Int32)))))) (bb (bb (cc (cc (((p2.toUInt32 >>> ((8 : Int32) &&& 31).toUInt32).toInt32) &&& (255 : Int32)))))) (bb (bb (cc (cc (p1 &&& (255 : Int32)))))) (bb (bb (cc (cc (((p1.toUInt32 >>> ((8 : Int32) &&& 31).toUInt32).toInt32) &&& (255 : Int32)))))) T89.heap n0 O89 S) hZ (ww hw 62 rfl) (ww hw 2 rfl) (by decide) (by decide)) q139a q139c (g := (mkF m 198 #[vi p0, vi p1, vi p2, vi p3, vi p4, vi f5, vi f6, vi f7, vi f8, vi f9, va b1, va b31, vi 0, va b6_89] [.null, (.ref b1)])) rfl (by rw [hml]; rfl) (Steps.refl _) (argsL := [.null]) (rest := []) (lenOf pd_10 rfl) rfl (by show 2 * 0 + _ ≤ _; exact Nat.le_of_eq rfl) (hb hby at_198) (fun _ _ => ⟨rfl, e138, (by decide : 23 + 0 ≤ _), (by decide : 64 + 0 ≤ _)⟩)
          dsimp only [Pt.U, Pt.locs, Pt.cells, Pt.slots] at X139 l139 y139 z139 st139 hQ139
          subst l139 y139 z139
          obtain ⟨rfl, Nq139, e139⟩ := hQ139
          have N139 := Fr.app N138 Nq139
          obtain ⟨cq140, kq140, q140a, q140b, q140c⟩ := isOf hZ e139 fc109
          obtain ⟨_, _, ⟨T140, L140, k140, n140⟩, -, X140, ⟨Lc140, hQ140, l140, y140, z140⟩, st140⟩ := X139.virtualBack hx (y := My11) (z := My11) hown (mvT hZ (ww hw 58 rfl)) (mvT hZ (ww hw 59 rfl)) (notFace_of_selects (args := #[]) (mvT hZ (ww hw 61 rfl))) (mvT hZ (ww hw 61 rfl)) (mvT hZ (ww hw 60 rfl)) (by decide) (backOf (W := 0) (rm11_3 l Z a0 hw [] z_COMPACT_STRINGS b1 b6_4 b1_3_2_8_4 b6_11 b1_3_2_8_11 b6_7 b1_3_2_8_7 b6_89 b1_3_2_8_89 k1_3_2_8_4 k1_3_2_8_11 k1_3_2_8_7 k1_3_2_8_89 p3 (bb (bb (cc (cc (p0 &&& (255 : Int32)))))) (bb (bb (cc (cc (((p0.toUInt32 >>> ((8 : Int32) &&& 31).toUInt32).toInt32) &&& (255 : Int32)))))) (bb (bb (cc (cc (p2 &&& (255 : Int32)))))) (bb (bb (cc (cc (((p2.toUInt32 >>> ((8 : Int32) &&& 31).toUInt32).toInt32) &&& (255 : Int32)))))) (bb (bb (cc (cc (p1 &&& (255 : Int32)))))) (bb (bb (cc (cc (((p1.toUInt32 >>> ((8 : Int32) &&& 31).toUInt32).toInt32) &&& (255 : Int32)))))) (bb (bb (cc (cc (p0 &&& (255 : Int32)))))) (bb (bb (cc (cc (((p0.toUInt32 >>> ((8 : Int32) &&& 31).toUInt32).toInt32) &&& (255 : Int32)))))) T89.heap n0 O89 S P0_89) hZ (ww hw 62 rfl) (ww hw 2 rfl) (by decide) (by decide)) q140a q140c (g := (mkF m 208 #[vi p0, vi p1, vi p2, vi p3, vi p4, vi f5, vi f6, vi f7, vi f8, vi f9, va b1, va b31, vi 0, va b6_89] [(.ref b6_89), (.ref b1)])) rfl (by rw [hml]; rfl) (Steps.refl _) (argsL := [(.ref b6_89)]) (rest := []) (lenOf pd_10 rfl) rfl (by show 2 * 0 + _ ≤ _; exact Nat.le_of_eq rfl) (hb hby at_208) (fun _ _ => ⟨rfl, e139, (by decide : 23 + 0 ≤ _), (by decide : 64 + 0 ≤ _)⟩)
          dsimp only [Pt.U, Pt.locs, Pt.cells, Pt.slots] at X140 l140 y140 z140 st140 hQ140
          subst l140 y140 z140
          obtain ⟨rfl, Nq140, e140⟩ := hQ140
          have N140 := Fr.app N139 Nq140
          obtain ⟨fs, hr, hrun, hended, hW, hsame⟩ := X140.leave (v := (some (.int 1))) (fun h => by rw [hrt] at h; cases h)
          refine ⟨_, _, pre_104 _ ?_, hrun, hended, _, _, rfl, ?_, ⟨_, rfl⟩, hW, hsame.mono (by decide) (by decide)⟩
          · show Steps p.tables e below (T89.setTop (mkF m 165 #[vi p0, vi p1, vi p2, vi p3, vi p4, vi f5, vi f6, vi f7, vi f8, vi f9, va b1, va b31, vi 0, va b6_89] [(.ref b31), (.ref b1)])) _
            refine st134.trans ?_
            refine XS.iload X134.here hx rfl (hb hby at_168) rfl ?_
            refine XS.icmpNo X134.here hx rfl (hb hby at_170) rfl (teq (by decide : (0 : Int32) = (0 : Int32))).2 ?_
            refine XS.aload X134.here hx rfl (hb hby at_173) rfl rfl ?_
            refine XS.aload X134.here hx rfl (hb hby at_175) rfl rfl ?_
            refine st136.trans ?_
            refine XS.iload X136.here hx rfl (hb hby at_180) rfl ?_
            refine XS.icmpNo X136.here hx rfl (hb hby at_182) rfl (teq (by decide : (0 : Int32) = (0 : Int32))).2 ?_
            show Steps p.tables e below (T136.setTop (mkF m 185 #[vi p0, vi p1, vi p2, vi p3, vi p4, vi f5, vi f6, vi f7, vi f8, vi f9, va b1, va b31, vi 0, va b6_89] [])) _
            refine XS.aload X136.here hx rfl (hb hby at_185) rfl rfl ?_
            refine XS.aload X136.here hx rfl (hb hby at_187) rfl rfl ?_
            refine st138.trans ?_
            refine XS.ifNo X138.here hx rfl (hb hby at_192) rfl ((if0 _ _).trans (feq (by decide : ¬ ((1 : Int32) = (0 : Int32)))).1) ?_
            refine XS.aload X138.here hx rfl (hb hby at_195) rfl rfl ?_
            refine XS.aconstNull X138.here hx rfl (hb hby at_197) ?_
            refine st139.trans ?_
            refine XS.ifNo X139.here hx rfl (hb hby at_201) rfl ((if0 _ _).trans (teq (by decide : (0 : Int32) = (0 : Int32))).2) ?_
            show Steps p.tables e below (T139.setTop (mkF m 204 #[vi p0, vi p1, vi p2, vi p3, vi p4, vi f5, vi f6, vi f7, vi f8, vi f9, va b1, va b31, vi 0, va b6_89] [])) _
            refine XS.aload X139.here hx rfl (hb hby at_204) rfl rfl ?_
            refine XS.aload X139.here hx rfl (hb hby at_206) rfl rfl ?_
            refine st140.trans ?_
            refine XS.ifNo X140.here hx rfl (hb hby at_211) rfl ((if0 _ _).trans (teq (by decide : (0 : Int32) = (0 : Int32))).2) ?_
            refine XS.iconst X140.here hx rfl (hb hby at_214) ?_
            refine XS.goto X140.here hx rfl (pc0 := 215) (pc' := 219) rfl (hb hby at_215) (by decide) (by decide) ?_
            exact retN X140 hx (t := .boolean) hrt (by simp) (hb hby at_219) hr
          · show Q0 n0 (some (.int 1)) T140.heap _
            exact (⟨rfl, N140⟩)
        · have fc108 := (fc90.keep Kc89)
          have fc109 := ((((((P1_20.ext E31).keep Kc34 nin0).keep Kc44 nin0).keep Kc55 nin0).keep Kc71 (ninS ne_b1_b31 nin0)).keep Kc89 nin0)
          have fc110 := ((((((P3_20.ext E31).keep Kc34 nin0).keep Kc44 nin0).keep Kc55 nin0).keep Kc71 (ninS ne_b1_b31 nin0)).keep Kc89 nin0)
          have fc111 := ((((((P4_20.ext E31).keep Kc34 nin0).keep Kc44 nin0).keep Kc55 nin0).keep Kc71 (ninS ne_b1_b31 nin0)).keep Kc89 nin0)
          have fc112 := (fc91.keep Kc89)
          have fc113 := (((((((((P1_4.keep Kc7 nin0).keep Kc11 nin0).keep Kc20 (ninS (Ne.symm ne_b1_b6_4) nin0)).ext E31).keep Kc34 nin0).keep Kc44 nin0).keep Kc55 nin0).keep Kc71 (ninS ne_b6_4_b31 nin0)).keep Kc89 nin0)
          have fc114 := (((((((((P2_4.keep Kc7 nin0).keep Kc11 nin0).keep Kc20 (ninS (Ne.symm ne_b1_b6_4) nin0)).ext E31).keep Kc34 nin0).keep Kc44 nin0).keep Kc55 nin0).keep Kc71 (ninS ne_b6_4_b31 nin0)).keep Kc89 nin0)
          have fc115 := (fc92.keep Kc89 nin0)
          have fc116 := (fc93.keep Kc89)
          have fc117 := ((((((((P1_7.keep Kc11 nin0).keep Kc20 (ninS (Ne.symm ne_b1_b6_7) nin0)).ext E31).keep Kc34 nin0).keep Kc44 nin0).keep Kc55 nin0).keep Kc71 (ninS ne_b6_7_b31 nin0)).keep Kc89 nin0)
          have fc118 := ((((((((P2_7.keep Kc11 nin0).keep Kc20 (ninS (Ne.symm ne_b1_b6_7) nin0)).ext E31).keep Kc34 nin0).keep Kc44 nin0).keep Kc55 nin0).keep Kc71 (ninS ne_b6_7_b31 nin0)).keep Kc89 nin0)
          have fc119 := (fc94.keep Kc89 nin0)
          have fc120 := (P0_71.keep Kc89)
          have fc121 := (P1_71.keep Kc89 nin0)
          have fc122 := (P2_71.keep Kc89 nin0)
          have fc123 := (P3_71.keep Kc89 nin0)
          have fc124 := (P4_71.keep Kc89 nin0)
          have fc125 := (fc97.keep Kc89)
          have fc126 := ((((P1_34.keep Kc44 nin0).keep Kc55 nin0).keep Kc71 (ninS (Ne.symm ne_b31_b6_34) nin0)).keep Kc89 nin0)
          have fc127 := ((((P2_34.keep Kc44 nin0).keep Kc55 nin0).keep Kc71 (ninS (Ne.symm ne_b31_b6_34) nin0)).keep Kc89 nin0)
          have fc128 := (fc98.keep Kc89 nin0)
          have fc129 := (fc99.keep Kc89)
          have fc130 := (((P1_44.keep Kc55 nin0).keep Kc71 (ninS (Ne.symm ne_b31_b6_44) nin0)).keep Kc89 nin0)
          have fc131 := (((P2_44.keep Kc55 nin0).keep Kc71 (ninS (Ne.symm ne_b31_b6_44) nin0)).keep Kc89 nin0)
          have fc132 := (fc100.keep Kc89 nin0)
          obtain ⟨cq133, kq133, q133a, q133b, q133c⟩ := isOf hZ rfl fc108
          obtain ⟨_, _, ⟨T133, L133, k133, n133⟩, -, X133, ⟨Lc133, hQ133, l133, y133, z133⟩, st133⟩ := X89.virtualBack hx (y := My11) (z := My11) hown (mvT hZ (ww hw 58 rfl)) (mvT hZ (ww hw 59 rfl)) (notFace_of_selects (args := #[]) (mvT hZ (ww hw 61 rfl))) (mvT hZ (ww hw 61 rfl)) (mvT hZ (ww hw 60 rfl)) (by decide) (backOf (W := 0) (rm11_7 l Z a0 hw [] z_COMPACT_STRINGS b1 b6_4 b1_3_2_8_4 b6_11 b1_3_2_8_11 b6_7 b1_3_2_8_7 b31 b6_34 b1_3_2_8_34 b6_55 b1_3_2_8_55 b6_44 b1_3_2_8_44 k1_3_2_8_4 k1_3_2_8_11 k1_3_2_8_7 k1_3_2_8_34 k1_3_2_8_55 k1_3_2_8_44 p3 (bb (bb (cc (cc (p0 &&& (255 : Int32)))))) (bb (bb (cc (cc (((p0.toUInt32 >>> ((8 : Int32) &&& 31).toUInt32).toInt32) &&& (255 : Int32)))))) (bb (bb (cc (cc (p2 &&& (255 : Int32)))))) (bb (bb (cc (cc (((p2.toUInt32 >>> ((8 : Int32) &&& 31).toUInt32).toInt32) &&& (255 : Int32)))))) (bb (bb (cc (cc (p1 &&& (255 : Int32)))))) (bb (bb (cc (cc (((p1.toUInt32 >>> ((8 : Int32) &&& 31).toUInt32).toInt32) &&& (255 : Int32)))))) f9 (bb (bb (cc (cc (f6 &&& (255 : Int32)))))) (bb (bb (cc (cc (((f6.toUInt32 >>> ((8 : Int32) &&& 31).toUInt32).toInt32) &&& (255 : Int32)))))) (bb (bb (cc (cc (f8 &&& (255 : Int32)))))) (bb (bb (cc (cc (((f8.toUInt32 >>> ((8 : Int32) &&& 31).toUInt32).toInt32) &&& (255 : Int32)))))) (bb (bb (cc (cc (f7 &&& (255 : Int32)))))) (bb (bb (cc (cc (((f7.toUInt32 >>> ((8 : Int32) &&& 31).toUInt32).toInt32) &&& (255 : Int32)))))) T89.heap n0 O89 S fc108 fc109 fc110 fc111 fc112 fc113 fc114 fc115 fc116 fc117 fc118 fc119 fc120 fc121 fc122 fc123 fc124 fc125 fc126 fc127 fc128 fc129 fc130 fc131 fc132 ne_b6_4_b6_34 ne_b6_7_b6_44 hc103 hc105 hc106 hc107) hZ (ww hw 62 rfl) (ww hw 2 rfl) (by decide) (by decide)) q133a q133c (g := (mkF m 165 #[vi p0, vi p1, vi p2, vi p3, vi p4, vi f5, vi f6, vi f7, vi f8, vi f9, va b1, va b31, vi 0, va b6_89] [(.ref b31), (.ref b1)])) rfl (by rw [hml]; rfl) (Steps.refl _) (argsL := [(.ref b31)]) (rest := []) (lenOf pd_10 rfl) rfl (by show 2 * 0 + _ ≤ _; exact Nat.le_of_eq rfl) (hb hby at_165) (fun _ _ => ⟨rfl, rfl, (by decide : 23 + 0 ≤ _), (by decide : 64 + 0 ≤ _)⟩)
          dsimp only [Pt.U, Pt.locs, Pt.cells, Pt.slots] at X133 l133 y133 z133 st133 hQ133
          subst l133 y133 z133
          obtain ⟨rfl, Nq133, e133⟩ := hQ133
          have N133 := Fr.app N89 Nq133
          have fc134 := ((((((P2_20.ext E31).keep Kc34 nin0).keep Kc44 nin0).keep Kc55 nin0).keep Kc71 (ninS ne_b1_b31 nin0)).keep Kc89 nin0)
          obtain ⟨cq135, kq135, q135a, q135b, q135c⟩ := isOf hZ e133 fc120
          obtain ⟨_, _, ⟨T135, L135, k135, n135⟩, -, X135, ⟨Lc135, hQ135, l135, y135, z135⟩, st135⟩ := X133.virtualBack hx (y := My11) (z := My11) hown (mvT hZ (ww hw 58 rfl)) (mvT hZ (ww hw 59 rfl)) (notFace_of_selects (args := #[]) (mvT hZ (ww hw 61 rfl))) (mvT hZ (ww hw 61 rfl)) (mvT hZ (ww hw 60 rfl)) (by decide) (backOf (W := 0) (rm11_7 l Z a0 hw [] z_COMPACT_STRINGS b31 b6_34 b1_3_2_8_34 b6_55 b1_3_2_8_55 b6_44 b1_3_2_8_44 b1 b6_4 b1_3_2_8_4 b6_11 b1_3_2_8_11 b6_7 b1_3_2_8_7 k1_3_2_8_34 k1_3_2_8_55 k1_3_2_8_44 k1_3_2_8_4 k1_3_2_8_11 k1_3_2_8_7 f9 (bb (bb (cc (cc (f6 &&& (255 : Int32)))))) (bb (bb (cc (cc (((f6.toUInt32 >>> ((8 : Int32) &&& 31).toUInt32).toInt32) &&& (255 : Int32)))))) (bb (bb (cc (cc (f8 &&& (255 : Int32)))))) (bb (bb (cc (cc (((f8.toUInt32 >>> ((8 : Int32) &&& 31).toUInt32).toInt32) &&& (255 : Int32)))))) (bb (bb (cc (cc (f7 &&& (255 : Int32)))))) (bb (bb (cc (cc (((f7.toUInt32 >>> ((8 : Int32) &&& 31).toUInt32).toInt32) &&& (255 : Int32)))))) p3 (bb (bb (cc (cc (p0 &&& (255 : Int32)))))) (bb (bb (cc (cc (((p0.toUInt32 >>> ((8 : Int32) &&& 31).toUInt32).toInt32) &&& (255 : Int32)))))) (bb (bb (cc (cc (p2 &&& (255 : Int32)))))) (bb (bb (cc (cc (((p2.toUInt32 >>> ((8 : Int32) &&& 31).toUInt32).toInt32) &&& (255 : Int32)))))) (bb (bb (cc (cc (p1 &&& (255 : Int32)))))) (bb (bb (cc (cc (((p1.toUInt32 >>> ((8 : Int32) &&& 31).toUInt32).toInt32) &&& (255 : Int32)))))) T89.heap n0 O89 S fc120 fc121 fc123 fc124 fc125 fc126 fc127 fc128 fc129 fc130 fc131 fc132 fc108 fc109 fc134 fc110 fc111 fc112 fc113 fc114 fc115 fc116 fc117 fc118 fc119 (Ne.symm ne_b6_4_b6_34) (Ne.symm ne_b6_7_b6_44) (hc103).symm (hc105).symm (hc106).symm (fun q => hc107 q.symm)) hZ (ww hw 62 rfl) (ww hw 2 rfl) (by decide) (by decide)) q135a q135c (g := (mkF m 177 #[vi p0, vi p1, vi p2, vi p3, vi p4, vi f5, vi f6, vi f7, vi f8, vi f9, va b1, va b31, vi 0, va b6_89] [(.ref b1), (.ref b31)])) rfl (by rw [hml]; rfl) (Steps.refl _) (argsL := [(.ref b1)]) (rest := []) (lenOf pd_10 rfl) rfl (by show 2 * 0 + _ ≤ _; exact Nat.le_of_eq rfl) (hb hby at_177) (fun _ _ => ⟨rfl, e133, (by decide : 23 + 0 ≤ _), (by decide : 64 + 0 ≤ _)⟩)
          dsimp only [Pt.U, Pt.locs, Pt.cells, Pt.slots] at X135 l135 y135 z135 st135 hQ135
          subst l135 y135 z135
          obtain ⟨rfl, Nq135, e135⟩ := hQ135
          have N135 := Fr.app N133 Nq135
          have fc136 := (fc95.keep Kc89)
          obtain ⟨cq137, kq137, q137a, q137b, q137c⟩ := isOf hZ e135 fc108
          obtain ⟨_, _, ⟨T137, L137, k137, n137⟩, -, X137, ⟨Lc137, hQ137, l137, y137, z137⟩, st137⟩ := X135.virtualBack hx (y := My11) (z := My11) hown (mvT hZ (ww hw 58 rfl)) (mvT hZ (ww hw 59 rfl)) (notFace_of_selects (args := #[]) (mvT hZ (ww hw 61 rfl))) (mvT hZ (ww hw 61 rfl)) (mvT hZ (ww hw 60 rfl)) (by decide) (backOf (W := 0) (rm11_1 l Z a0 hw [] z_COMPACT_STRINGS b1 b6_4 b1_3_2_8_4 b6_11 b1_3_2_8_11 b6_7 b1_3_2_8_7 k1_3_2_8_4 k1_3_2_8_11 k1_3_2_8_7 p3 (bb (bb (cc (cc (p0 &&& (255 : Int32)))))) (bb (bb (cc (cc (((p0.toUInt32 >>> ((8 : Int32) &&& 31).toUInt32).toInt32) &&& (255 : Int32)))))) (bb (bb (cc (cc (p2 &&& (255 : Int32)))))) (bb (bb (cc (cc (((p2.toUInt32 >>> ((8 : Int32) &&& 31).toUInt32).toInt32) &&& (255 : Int32)))))) (bb (bb (cc (cc (p1 &&& (255 : Int32)))))) (bb (bb (cc (cc (((p1.toUInt32 >>> ((8 : Int32) &&& 31).toUInt32).toInt32) &&& (255 : Int32)))))) T89.heap n0 O89 S fc108 fc109 fc134 fc110 fc111 fc112 fc136 fc116) hZ (ww hw 62 rfl) (ww hw 2 rfl) (by decide) (by decide)) q137a q137c (g := (mkF m 189 #[vi p0, vi p1, vi p2, vi p3, vi p4, vi f5, vi f6, vi f7, vi f8, vi f9, va b1, va b31, vi 0, va b6_89] [(.ref b1), (.ref b1)])) rfl (by rw [hml]; rfl) (Steps.refl _) (argsL := [(.ref b1)]) (rest := []) (lenOf pd_10 rfl) rfl (by show 2 * 0 + _ ≤ _; exact Nat.le_of_eq rfl) (hb hby at_189) (fun _ _ => ⟨rfl, e135, (by decide : 23 + 0 ≤ _), (by decide : 64 + 0 ≤ _)⟩)
          dsimp only [Pt.U, Pt.locs, Pt.cells, Pt.slots] at X137 l137 y137 z137 st137 hQ137
          subst l137 y137 z137
          obtain ⟨rfl, Nq137, e137⟩ := hQ137
          have N137 := Fr.app N135 Nq137
          obtain ⟨cq138, kq138, q138a, q138b, q138c⟩ := isOf hZ e137 fc108
          obtain ⟨_, _, ⟨T138, L138, k138, n138⟩, -, X138, ⟨Lc138, hQ138, l138, y138, z138⟩, st138⟩ := X137.virtualBack hx (y := My11) (z := My11) hown (mvT hZ (ww hw 58 rfl)) (mvT hZ (ww hw 59 rfl)) (notFace_of_selects (args := #[]) (mvT hZ (ww hw 61 rfl))) (mvT hZ (ww hw 61 rfl)) (mvT hZ (ww hw 60 rfl)) (by decide) (backOf (W := 0) (rm11_2 l Z a0 hw [] z_COMPACT_STRINGS b1 b6_4 b1_3_2_8_4 b6_11 b1_3_2_8_11 b6_7 b1_3_2_8_7 k1_3_2_8_4 k1_3_2_8_11 k1_3_2_8_7 p3 (bb (bb (cc (cc (p0 &&& (255 : Int32)))))) (bb (bb (cc (cc (((p0.toUInt32 >>> ((8 : Int32) &&& 31).toUInt32).toInt32) &&& (255 : Int32)))))) (bb (bb (cc (cc (p2 &&& (255 : Int32)))))) (bb (bb (cc (cc (((p2.toUInt32 >>> ((8 : Int32) &&& 31).toUInt32).toInt32) &&& (255 : Int32)))))) (bb (bb (cc (cc (p1 &&& (255 : Int32)))))) (bb (bb (cc (cc (((p1.toUInt32 >>> ((8 : Int32) &&& 31).toUInt32).toInt32) &&& (255 : Int32)))))) T89.heap n0 O89 S) hZ (ww hw 62 rfl) (ww hw 2 rfl) (by decide) (by decide)) q138a q138c (g := (mkF m 198 #[vi p0, vi p1, vi p2, vi p3, vi p4, vi f5, vi f6, vi f7, vi f8, vi f9, va b1, va b31, vi 0, va b6_89] [.null, (.ref b1)])) rfl (by rw [hml]; rfl) (Steps.refl _) (argsL := [.null]) (rest := []) (lenOf pd_10 rfl) rfl (by show 2 * 0 + _ ≤ _; exact Nat.le_of_eq rfl) (hb hby at_198) (fun _ _ => ⟨rfl, e137, (by decide : 23 + 0 ≤ _), (by decide : 64 + 0 ≤ _)⟩)
          dsimp only [Pt.U, Pt.locs, Pt.cells, Pt.slots] at X138 l138 y138 z138 st138 hQ138
          subst l138 y138 z138
          obtain ⟨rfl, Nq138, e138⟩ := hQ138
          have N138 := Fr.app N137 Nq138
          obtain ⟨cq139, kq139, q139a, q139b, q139c⟩ := isOf hZ e138 fc108
          obtain ⟨_, _, ⟨T139, L139, k139, n139⟩, -, X139, ⟨Lc139, hQ139, l139, y139, z139⟩, st139⟩ := X138.virtualBack hx (y := My11) (z := My11) hown (mvT hZ (ww hw 58 rfl)) (mvT hZ (ww hw 59 rfl)) (notFace_of_selects (args := #[]) (mvT hZ (ww hw 61 rfl))) (mvT hZ (ww hw 61 rfl)) (mvT hZ (ww hw 60 rfl)) (by decide) (backOf (W := 0) (rm11_3 l Z a0 hw [] z_COMPACT_STRINGS b1 b6_4 b1_3_2_8_4 b6_11 b1_3_2_8_11 b6_7 b1_3_2_8_7 b6_89 b1_3_2_8_89 k1_3_2_8_4 k1_3_2_8_11 k1_3_2_8_7 k1_3_2_8_89 p3 (bb (bb (cc (cc (p0 &&& (255 : Int32)))))) (bb (bb (cc (cc (((p0.toUInt32 >>> ((8 : Int32) &&& 31).toUInt32).toInt32) &&& (255 : Int32)))))) (bb (bb (cc (cc (p2 &&& (255 : Int32)))))) (bb (bb (cc (cc (((p2.toUInt32 >>> ((8 : Int32) &&& 31).toUInt32).toInt32) &&& (255 : Int32)))))) (bb (bb (cc (cc (p1 &&& (255 : Int32)))))) (bb (bb (cc (cc (((p1.toUInt32 >>> ((8 : Int32) &&& 31).toUInt32).toInt32) &&& (255 : Int32)))))) (bb (bb (cc (cc (p0 &&& (255 : Int32)))))) (bb (bb (cc (cc (((p0.toUInt32 >>> ((8 : Int32) &&& 31).toUInt32).toInt32) &&& (255 : Int32)))))) T89.heap n0 O89 S P0_89) hZ (ww hw 62 rfl) (ww hw 2 rfl) (by decide) (by decide)) q139a q139c (g := (mkF m 208 #[vi p0, vi p1, vi p2, vi p3, vi p4, vi f5, vi f6, vi f7, vi f8, vi f9, va b1, va b31, vi 0, va b6_89] [(.ref b6_89), (.ref b1)])) rfl (by rw [hml]; rfl) (Steps.refl _) (argsL := [(.ref b6_89)]) (rest := []) (lenOf pd_10 rfl) rfl (by show 2 * 0 + _ ≤ _; exact Nat.le_of_eq rfl) (hb hby at_208) (fun _ _ => ⟨rfl, e138, (by decide : 23 + 0 ≤ _), (by decide : 64 + 0 ≤ _)⟩)
          dsimp only [Pt.U, Pt.locs, Pt.cells, Pt.slots] at X139 l139 y139 z139 st139 hQ139
          subst l139 y139 z139
          obtain ⟨rfl, Nq139, e139⟩ := hQ139
          have N139 := Fr.app N138 Nq139
          obtain ⟨fs, hr, hrun, hended, hW, hsame⟩ := X139.leave (v := (some (.int 1))) (fun h => by rw [hrt] at h; cases h)
          refine ⟨_, _, pre_104 _ ?_, hrun, hended, _, _, rfl, ?_, ⟨_, rfl⟩, hW, hsame.mono (by decide) (by decide)⟩
          · show Steps p.tables e below (T89.setTop (mkF m 165 #[vi p0, vi p1, vi p2, vi p3, vi p4, vi f5, vi f6, vi f7, vi f8, vi f9, va b1, va b31, vi 0, va b6_89] [(.ref b31), (.ref b1)])) _
            refine st133.trans ?_
            refine XS.iload X133.here hx rfl (hb hby at_168) rfl ?_
            refine XS.icmpNo X133.here hx rfl (hb hby at_170) rfl (teq (by decide : (0 : Int32) = (0 : Int32))).2 ?_
            refine XS.aload X133.here hx rfl (hb hby at_173) rfl rfl ?_
            refine XS.aload X133.here hx rfl (hb hby at_175) rfl rfl ?_
            refine st135.trans ?_
            refine XS.iload X135.here hx rfl (hb hby at_180) rfl ?_
            refine XS.icmpNo X135.here hx rfl (hb hby at_182) rfl (teq (by decide : (0 : Int32) = (0 : Int32))).2 ?_
            show Steps p.tables e below (T135.setTop (mkF m 185 #[vi p0, vi p1, vi p2, vi p3, vi p4, vi f5, vi f6, vi f7, vi f8, vi f9, va b1, va b31, vi 0, va b6_89] [])) _
            refine XS.aload X135.here hx rfl (hb hby at_185) rfl rfl ?_
            refine XS.aload X135.here hx rfl (hb hby at_187) rfl rfl ?_
            refine st137.trans ?_
            refine XS.ifNo X137.here hx rfl (hb hby at_192) rfl ((if0 _ _).trans (feq (by decide : ¬ ((1 : Int32) = (0 : Int32)))).1) ?_
            refine XS.aload X137.here hx rfl (hb hby at_195) rfl rfl ?_
            refine XS.aconstNull X137.here hx rfl (hb hby at_197) ?_
            refine st138.trans ?_
            refine XS.ifNo X138.here hx rfl (hb hby at_201) rfl ((if0 _ _).trans (teq (by decide : (0 : Int32) = (0 : Int32))).2) ?_
            show Steps p.tables e below (T138.setTop (mkF m 204 #[vi p0, vi p1, vi p2, vi p3, vi p4, vi f5, vi f6, vi f7, vi f8, vi f9, va b1, va b31, vi 0, va b6_89] [])) _
            refine XS.aload X138.here hx rfl (hb hby at_204) rfl rfl ?_
            refine XS.aload X138.here hx rfl (hb hby at_206) rfl rfl ?_
            refine st139.trans ?_
            refine XS.ifNo X139.here hx rfl (hb hby at_211) rfl ((if0 _ _).trans (teq (by decide : (0 : Int32) = (0 : Int32))).2) ?_
            refine XS.iconst X139.here hx rfl (hb hby at_214) ?_
            refine XS.goto X139.here hx rfl (pc0 := 215) (pc' := 219) rfl (hb hby at_215) (by decide) (by decide) ?_
            exact retN X139 hx (t := .boolean) hrt (by simp) (hb hby at_219) hr
          · show Q0 n0 (some (.int 1)) T139.heap _
            exact (⟨rfl, N139⟩)
      · have fc105 := ((((((P3_20.ext E31).keep Kc34 nin0).keep Kc44 nin0).keep Kc55 nin0).keep Kc71 (ninS ne_b1_b31 nin0)).keep Kc89 nin0)
        have fc106 := (P0_71.keep Kc89)
        have fc107 := (P3_71.keep Kc89 nin0)
        have fc109 := (fc90.keep Kc89)
        obtain ⟨cq108, kq108, q108a, q108b, q108c⟩ := isOf hZ rfl fc109
        obtain ⟨_, _, ⟨T108, L108, k108, n108⟩, -, X108, ⟨Lc108, hQ108, l108, y108, z108⟩, st108⟩ := X89.virtualBack hx (y := My11) (z := My11) hown (mvT hZ (ww hw 58 rfl)) (mvT hZ (ww hw 59 rfl)) (notFace_of_selects (args := #[]) (mvT hZ (ww hw 61 rfl))) (mvT hZ (ww hw 61 rfl)) (mvT hZ (ww hw 60 rfl)) (by decide) (backOf (W := 0) (rm11_4 l Z a0 hw [] z_COMPACT_STRINGS b1 b6_4 b1_3_2_8_4 b6_11 b1_3_2_8_11 b6_7 b1_3_2_8_7 b31 b6_34 b1_3_2_8_34 b6_55 b1_3_2_8_55 b6_44 b1_3_2_8_44 k1_3_2_8_4 k1_3_2_8_11 k1_3_2_8_7 k1_3_2_8_34 k1_3_2_8_55 k1_3_2_8_44 p3 (bb (bb (cc (cc (p0 &&& (255 : Int32)))))) (bb (bb (cc (cc (((p0.toUInt32 >>> ((8 : Int32) &&& 31).toUInt32).toInt32) &&& (255 : Int32)))))) (bb (bb (cc (cc (p2 &&& (255 : Int32)))))) (bb (bb (cc (cc (((p2.toUInt32 >>> ((8 : Int32) &&& 31).toUInt32).toInt32) &&& (255 : Int32)))))) (bb (bb (cc (cc (p1 &&& (255 : Int32)))))) (bb (bb (cc (cc (((p1.toUInt32 >>> ((8 : Int32) &&& 31).toUInt32).toInt32) &&& (255 : Int32)))))) f9 (bb (bb (cc (cc (f6 &&& (255 : Int32)))))) (bb (bb (cc (cc (((f6.toUInt32 >>> ((8 : Int32) &&& 31).toUInt32).toInt32) &&& (255 : Int32)))))) (bb (bb (cc (cc (f8 &&& (255 : Int32)))))) (bb (bb (cc (cc (((f8.toUInt32 >>> ((8 : Int32) &&& 31).toUInt32).toInt32) &&& (255 : Int32)))))) (bb (bb (cc (cc (f7 &&& (255 : Int32)))))) (bb (bb (cc (cc (((f7.toUInt32 >>> ((8 : Int32) &&& 31).toUInt32).toInt32) &&& (255 : Int32)))))) T89.heap n0 O89 S fc105 fc106 fc107 hc103) hZ (ww hw 62 rfl) (ww hw 2 rfl) (by decide) (by decide)) q108a q108c (g := (mkF m 165 #[vi p0, vi p1, vi p2, vi p3, vi p4, vi f5, vi f6, vi f7, vi f8, vi f9, va b1, va b31, vi 0, va b6_89] [(.ref b31), (.ref b1)])) rfl (by rw [hml]; rfl) (Steps.refl _) (argsL := [(.ref b31)]) (rest := []) (lenOf pd_10 rfl) rfl (by show 2 * 0 + _ ≤ _; exact Nat.le_of_eq rfl) (hb hby at_165) (fun _ _ => ⟨rfl, rfl, (by decide : 23 + 0 ≤ _), (by decide : 64 + 0 ≤ _)⟩)
        dsimp only [Pt.U, Pt.locs, Pt.cells, Pt.slots] at X108 l108 y108 z108 st108 hQ108
        subst l108 y108 z108
        obtain ⟨rfl, Nq108, e108⟩ := hQ108
        have N108 := Fr.app N89 Nq108
        obtain ⟨cq110, kq110, q110a, q110b, q110c⟩ := isOf hZ e108 fc106
        obtain ⟨_, _, ⟨T110, L110, k110, n110⟩, -, X110, ⟨Lc110, hQ110, l110, y110, z110⟩, st110⟩ := X108.virtualBack hx (y := My11) (z := My11) hown (mvT hZ (ww hw 58 rfl)) (mvT hZ (ww hw 59 rfl)) (notFace_of_selects (args := #[]) (mvT hZ (ww hw 61 rfl))) (mvT hZ (ww hw 61 rfl)) (mvT hZ (ww hw 60 rfl)) (by decide) (backOf (W := 0) (rm11_4 l Z a0 hw [] z_COMPACT_STRINGS b31 b6_34 b1_3_2_8_34 b6_55 b1_3_2_8_55 b6_44 b1_3_2_8_44 b1 b6_4 b1_3_2_8_4 b6_11 b1_3_2_8_11 b6_7 b1_3_2_8_7 k1_3_2_8_34 k1_3_2_8_55 k1_3_2_8_44 k1_3_2_8_4 k1_3_2_8_11 k1_3_2_8_7 f9 (bb (bb (cc (cc (f6 &&& (255 : Int32)))))) (bb (bb (cc (cc (((f6.toUInt32 >>> ((8 : Int32) &&& 31).toUInt32).toInt32) &&& (255 : Int32)))))) (bb (bb (cc (cc (f8 &&& (255 : Int32)))))) (bb (bb (cc (cc (((f8.toUInt32 >>> ((8 : Int32) &&& 31).toUInt32).toInt32) &&& (255 : Int32)))))) (bb (bb (cc (cc (f7 &&& (255 : Int32)))))) (bb (bb (cc (cc (((f7.toUInt32 >>> ((8 : Int32) &&& 31).toUInt32).toInt32) &&& (255 : Int32)))))) p3 (bb (bb (cc (cc (p0 &&& (255 : Int32)))))) (bb (bb (cc (cc (((p0.toUInt32 >>> ((8 : Int32) &&& 31).toUInt32).toInt32) &&& (255 : Int32)))))) (bb (bb (cc (cc (p2 &&& (255 : Int32)))))) (bb (bb (cc (cc (((p2.toUInt32 >>> ((8 : Int32) &&& 31).toUInt32).toInt32) &&& (255 : Int32)))))) (bb (bb (cc (cc (p1 &&& (255 : Int32)))))) (bb (bb (cc (cc (((p1.toUInt32 >>> ((8 : Int32) &&& 31).toUInt32).toInt32) &&& (255 : Int32)))))) T89.heap n0 O89 S fc107 fc109 fc105 (fun q => hc103 q.symm)) hZ (ww hw 62 rfl) (ww hw 2 rfl) (by decide) (by decide)) q110a q110c (g := (mkF m 177 #[vi p0, vi p1, vi p2, vi p3, vi p4, vi f5, vi f6, vi f7, vi f8, vi f9, va b1, va b31, vi 0, va b6_89] [(.ref b1), (.ref b31)])) rfl (by rw [hml]; rfl) (Steps.refl _) (argsL := [(.ref b1)]) (rest := []) (lenOf pd_10 rfl) rfl (by show 2 * 0 + _ ≤ _; exact Nat.le_of_eq rfl) (hb hby at_177) (fun _ _ => ⟨rfl, e108, (by decide : 23 + 0 ≤ _), (by decide : 64 + 0 ≤ _)⟩)
        dsimp only [Pt.U, Pt.locs, Pt.cells, Pt.slots] at X110 l110 y110 z110 st110 hQ110
        subst l110 y110 z110
        obtain ⟨rfl, Nq110, e110⟩ := hQ110
        have N110 := Fr.app N108 Nq110
        have fc111 := ((((((P1_20.ext E31).keep Kc34 nin0).keep Kc44 nin0).keep Kc55 nin0).keep Kc71 (ninS ne_b1_b31 nin0)).keep Kc89 nin0)
        have fc112 := ((((((P2_20.ext E31).keep Kc34 nin0).keep Kc44 nin0).keep Kc55 nin0).keep Kc71 (ninS ne_b1_b31 nin0)).keep Kc89 nin0)
        have fc113 := ((((((P4_20.ext E31).keep Kc34 nin0).keep Kc44 nin0).keep Kc55 nin0).keep Kc71 (ninS ne_b1_b31 nin0)).keep Kc89 nin0)
        have fc114 := (fc91.keep Kc89)
        have fc115 := (fc95.keep Kc89)
        have fc116 := (fc93.keep Kc89)
        obtain ⟨cq117, kq117, q117a, q117b, q117c⟩ := isOf hZ e110 fc109
        obtain ⟨_, _, ⟨T117, L117, k117, n117⟩, -, X117, ⟨Lc117, hQ117, l117, y117, z117⟩, st117⟩ := X110.virtualBack hx (y := My11) (z := My11) hown (mvT hZ (ww hw 58 rfl)) (mvT hZ (ww hw 59 rfl)) (notFace_of_selects (args := #[]) (mvT hZ (ww hw 61 rfl))) (mvT hZ (ww hw 61 rfl)) (mvT hZ (ww hw 60 rfl)) (by decide) (backOf (W := 0) (rm11_1 l Z a0 hw [] z_COMPACT_STRINGS b1 b6_4 b1_3_2_8_4 b6_11 b1_3_2_8_11 b6_7 b1_3_2_8_7 k1_3_2_8_4 k1_3_2_8_11 k1_3_2_8_7 p3 (bb (bb (cc (cc (p0 &&& (255 : Int32)))))) (bb (bb (cc (cc (((p0.toUInt32 >>> ((8 : Int32) &&& 31).toUInt32).toInt32) &&& (255 : Int32)))))) (bb (bb (cc (cc (p2 &&& (255 : Int32)))))) (bb (bb (cc (cc (((p2.toUInt32 >>> ((8 : Int32) &&& 31).toUInt32).toInt32) &&& (255 : Int32)))))) (bb (bb (cc (cc (p1 &&& (255 : Int32)))))) (bb (bb (cc (cc (((p1.toUInt32 >>> ((8 : Int32) &&& 31).toUInt32).toInt32) &&& (255 : Int32)))))) T89.heap n0 O89 S fc109 fc111 fc112 fc105 fc113 fc114 fc115 fc116) hZ (ww hw 62 rfl) (ww hw 2 rfl) (by decide) (by decide)) q117a q117c (g := (mkF m 189 #[vi p0, vi p1, vi p2, vi p3, vi p4, vi f5, vi f6, vi f7, vi f8, vi f9, va b1, va b31, vi 0, va b6_89] [(.ref b1), (.ref b1)])) rfl (by rw [hml]; rfl) (Steps.refl _) (argsL := [(.ref b1)]) (rest := []) (lenOf pd_10 rfl) rfl (by show 2 * 0 + _ ≤ _; exact Nat.le_of_eq rfl) (hb hby at_189) (fun _ _ => ⟨rfl, e110, (by decide : 23 + 0 ≤ _), (by decide : 64 + 0 ≤ _)⟩)
        dsimp only [Pt.U, Pt.locs, Pt.cells, Pt.slots] at X117 l117 y117 z117 st117 hQ117
        subst l117 y117 z117
        obtain ⟨rfl, Nq117, e117⟩ := hQ117
        have N117 := Fr.app N110 Nq117
        obtain ⟨cq118, kq118, q118a, q118b, q118c⟩ := isOf hZ e117 fc109
        obtain ⟨_, _, ⟨T118, L118, k118, n118⟩, -, X118, ⟨Lc118, hQ118, l118, y118, z118⟩, st118⟩ := X117.virtualBack hx (y := My11) (z := My11) hown (mvT hZ (ww hw 58 rfl)) (mvT hZ (ww hw 59 rfl)) (notFace_of_selects (args := #[]) (mvT hZ (ww hw 61 rfl))) (mvT hZ (ww hw 61 rfl)) (mvT hZ (ww hw 60 rfl)) (by decide) (backOf (W := 0) (rm11_2 l Z a0 hw [] z_COMPACT_STRINGS b1 b6_4 b1_3_2_8_4 b6_11 b1_3_2_8_11 b6_7 b1_3_2_8_7 k1_3_2_8_4 k1_3_2_8_11 k1_3_2_8_7 p3 (bb (bb (cc (cc (p0 &&& (255 : Int32)))))) (bb (bb (cc (cc (((p0.toUInt32 >>> ((8 : Int32) &&& 31).toUInt32).toInt32) &&& (255 : Int32)))))) (bb (bb (cc (cc (p2 &&& (255 : Int32)))))) (bb (bb (cc (cc (((p2.toUInt32 >>> ((8 : Int32) &&& 31).toUInt32).toInt32) &&& (255 : Int32)))))) (bb (bb (cc (cc (p1 &&& (255 : Int32)))))) (bb (bb (cc (cc (((p1.toUInt32 >>> ((8 : Int32) &&& 31).toUInt32).toInt32) &&& (255 : Int32)))))) T89.heap n0 O89 S) hZ (ww hw 62 rfl) (ww hw 2 rfl) (by decide) (by decide)) q118a q118c (g := (mkF m 198 #[vi p0, vi p1, vi p2, vi p3, vi p4, vi f5, vi f6, vi f7, vi f8, vi f9, va b1, va b31, vi 0, va b6_89] [.null, (.ref b1)])) rfl (by rw [hml]; rfl) (Steps.refl _) (argsL := [.null]) (rest := []) (lenOf pd_10 rfl) rfl (by show 2 * 0 + _ ≤ _; exact Nat.le_of_eq rfl) (hb hby at_198) (fun _ _ => ⟨rfl, e117, (by decide : 23 + 0 ≤ _), (by decide : 64 + 0 ≤ _)⟩)
        dsimp only [Pt.U, Pt.locs, Pt.cells, Pt.slots] at X118 l118 y118 z118 st118 hQ118
        subst l118 y118 z118
        obtain ⟨rfl, Nq118, e118⟩ := hQ118
        have N118 := Fr.app N117 Nq118
        obtain ⟨cq119, kq119, q119a, q119b, q119c⟩ := isOf hZ e118 fc109
        obtain ⟨_, _, ⟨T119, L119, k119, n119⟩, -, X119, ⟨Lc119, hQ119, l119, y119, z119⟩, st119⟩ := X118.virtualBack hx (y := My11) (z := My11) hown (mvT hZ (ww hw 58 rfl)) (mvT hZ (ww hw 59 rfl)) (notFace_of_selects (args := #[]) (mvT hZ (ww hw 61 rfl))) (mvT hZ (ww hw 61 rfl)) (mvT hZ (ww hw 60 rfl)) (by decide) (backOf (W := 0) (rm11_3 l Z a0 hw [] z_COMPACT_STRINGS b1 b6_4 b1_3_2_8_4 b6_11 b1_3_2_8_11 b6_7 b1_3_2_8_7 b6_89 b1_3_2_8_89 k1_3_2_8_4 k1_3_2_8_11 k1_3_2_8_7 k1_3_2_8_89 p3 (bb (bb (cc (cc (p0 &&& (255 : Int32)))))) (bb (bb (cc (cc (((p0.toUInt32 >>> ((8 : Int32) &&& 31).toUInt32).toInt32) &&& (255 : Int32)))))) (bb (bb (cc (cc (p2 &&& (255 : Int32)))))) (bb (bb (cc (cc (((p2.toUInt32 >>> ((8 : Int32) &&& 31).toUInt32).toInt32) &&& (255 : Int32)))))) (bb (bb (cc (cc (p1 &&& (255 : Int32)))))) (bb (bb (cc (cc (((p1.toUInt32 >>> ((8 : Int32) &&& 31).toUInt32).toInt32) &&& (255 : Int32)))))) (bb (bb (cc (cc (p0 &&& (255 : Int32)))))) (bb (bb (cc (cc (((p0.toUInt32 >>> ((8 : Int32) &&& 31).toUInt32).toInt32) &&& (255 : Int32)))))) T89.heap n0 O89 S P0_89) hZ (ww hw 62 rfl) (ww hw 2 rfl) (by decide) (by decide)) q119a q119c (g := (mkF m 208 #[vi p0, vi p1, vi p2, vi p3, vi p4, vi f5, vi f6, vi f7, vi f8, vi f9, va b1, va b31, vi 0, va b6_89] [(.ref b6_89), (.ref b1)])) rfl (by rw [hml]; rfl) (Steps.refl _) (argsL := [(.ref b6_89)]) (rest := []) (lenOf pd_10 rfl) rfl (by show 2 * 0 + _ ≤ _; exact Nat.le_of_eq rfl) (hb hby at_208) (fun _ _ => ⟨rfl, e118, (by decide : 23 + 0 ≤ _), (by decide : 64 + 0 ≤ _)⟩)
        dsimp only [Pt.U, Pt.locs, Pt.cells, Pt.slots] at X119 l119 y119 z119 st119 hQ119
        subst l119 y119 z119
        obtain ⟨rfl, Nq119, e119⟩ := hQ119
        have N119 := Fr.app N118 Nq119
        obtain ⟨fs, hr, hrun, hended, hW, hsame⟩ := X119.leave (v := (some (.int 1))) (fun h => by rw [hrt] at h; cases h)
        refine ⟨_, _, pre_104 _ ?_, hrun, hended, _, _, rfl, ?_, ⟨_, rfl⟩, hW, hsame.mono (by decide) (by decide)⟩
        · show Steps p.tables e below (T89.setTop (mkF m 165 #[vi p0, vi p1, vi p2, vi p3, vi p4, vi f5, vi f6, vi f7, vi f8, vi f9, va b1, va b31, vi 0, va b6_89] [(.ref b31), (.ref b1)])) _
          refine st108.trans ?_
          refine XS.iload X108.here hx rfl (hb hby at_168) rfl ?_
          refine XS.icmpNo X108.here hx rfl (hb hby at_170) rfl (teq (by decide : (0 : Int32) = (0 : Int32))).2 ?_
          refine XS.aload X108.here hx rfl (hb hby at_173) rfl rfl ?_
          refine XS.aload X108.here hx rfl (hb hby at_175) rfl rfl ?_
          refine st110.trans ?_
          refine XS.iload X110.here hx rfl (hb hby at_180) rfl ?_
          refine XS.icmpNo X110.here hx rfl (hb hby at_182) rfl (teq (by decide : (0 : Int32) = (0 : Int32))).2 ?_
          show Steps p.tables e below (T110.setTop (mkF m 185 #[vi p0, vi p1, vi p2, vi p3, vi p4, vi f5, vi f6, vi f7, vi f8, vi f9, va b1, va b31, vi 0, va b6_89] [])) _
          refine XS.aload X110.here hx rfl (hb hby at_185) rfl rfl ?_
          refine XS.aload X110.here hx rfl (hb hby at_187) rfl rfl ?_
          refine st117.trans ?_
          refine XS.ifNo X117.here hx rfl (hb hby at_192) rfl ((if0 _ _).trans (feq (by decide : ¬ ((1 : Int32) = (0 : Int32)))).1) ?_
          refine XS.aload X117.here hx rfl (hb hby at_195) rfl rfl ?_
          refine XS.aconstNull X117.here hx rfl (hb hby at_197) ?_
          refine st118.trans ?_
          refine XS.ifNo X118.here hx rfl (hb hby at_201) rfl ((if0 _ _).trans (teq (by decide : (0 : Int32) = (0 : Int32))).2) ?_
          show Steps p.tables e below (T118.setTop (mkF m 204 #[vi p0, vi p1, vi p2, vi p3, vi p4, vi f5, vi f6, vi f7, vi f8, vi f9, va b1, va b31, vi 0, va b6_89] [])) _
          refine XS.aload X118.here hx rfl (hb hby at_204) rfl rfl ?_
          refine XS.aload X118.here hx rfl (hb hby at_206) rfl rfl ?_
          refine st119.trans ?_
          refine XS.ifNo X119.here hx rfl (hb hby at_211) rfl ((if0 _ _).trans (teq (by decide : (0 : Int32) = (0 : Int32))).2) ?_
          refine XS.iconst X119.here hx rfl (hb hby at_214) ?_
          refine XS.goto X119.here hx rfl (pc0 := 215) (pc' := 219) rfl (hb hby at_215) (by decide) (by decide) ?_
          exact retN X119 hx (t := .boolean) hrt (by simp) (hb hby at_219) hr
        · show Q0 n0 (some (.int 1)) T119.heap _
          exact (⟨rfl, N119⟩)
  · obtain ⟨_, _, ⟨T85, L85, k85, n85⟩, -, X85, ⟨Lc85, hQ85, l85, y85, z85⟩, st85⟩ := Jvm.LawKit.callS X71 hx (y := My10) hown (mvT hZ (ww hw 54 rfl)) (mvT hZ (ww hw 55 rfl)) (mvT hZ (ww hw 5 rfl)) (mvT hZ (ww hw 56 rfl)) (by decide) (backOf (W := 0) (rm10_0 l Z a0 hw [] z_COMPACT_STRINGS p0 f6 T71.heap n0 O71 S hc83) hZ (ww hw 56 rfl) (ww hw 5 rfl) (by decide) (by decide)) (g := (mkF m 118 #[vi p0, vi p1, vi p2, vi p3, vi p4, vi f5, vi f6, vi f7, vi f8, vi f9, va b1, va b31, uu, uu] [(.int f6), (.int p0)])) rfl (by rw [hml]; rfl) (argsL := [(.int p0), (.int f6)]) (rest := []) (lenOf pd_8 rfl) rfl (by show 2 * 0 + _ ≤ _; exact Nat.le_of_eq rfl) (hb hby at_118) (fun _ _ => ⟨rfl, rfl, (by decide : 20 + 0 ≤ _), (by decide : 56 + 0 ≤ _)⟩)
    dsimp only [Pt.U, Pt.locs, Pt.cells, Pt.slots] at X85 l85 y85 z85 st85 hQ85
    subst l85 y85 z85
    obtain ⟨rfl, Nq85, e85⟩ := hQ85
    have N85 := Fr.app N71 Nq85
    obtain ⟨_, _, ⟨T86, L86, k86, n86⟩, -, X86, ⟨Lc86, hQ86, l86, y86, z86⟩, st86⟩ := Jvm.LawKit.callS X85 hx (y := My1) hown (mvT hZ (ww hw 3 rfl)) (mvT hZ (ww hw 4 rfl)) (mvT hZ (ww hw 5 rfl)) (mvT hZ (ww hw 6 rfl)) (by decide) (backOf (W := 0) (rm1_0 l Z a0 hw [] z_COMPACT_STRINGS p0 T71.heap n0 O71 S hc2 hc3) hZ (ww hw 6 rfl) (ww hw 5 rfl) (by decide) (by decide)) (g := (mkF m 156 #[vi p0, vi p1, vi p2, vi p3, vi p4, vi f5, vi f6, vi f7, vi f8, vi f9, va b1, va b31, vi 0, uu] [(.int p0)])) rfl (by rw [hml]; rfl) (argsL := [(.int p0)]) (rest := []) (lenOf pd_5 rfl) rfl (by show 2 * 0 + _ ≤ _; exact Nat.le_of_eq rfl) (hb hby at_156) (fun _ _ => ⟨rfl, e85, (by decide : 20 + 3 ≤ _), (by decide : 56 + 8 ≤ _)⟩)
    dsimp only [Pt.U, Pt.locs, Pt.cells, Pt.slots] at X86 l86 y86 z86 st86 hQ86
    subst l86 y86 z86
    have fc87 := (fc72.keep Kc71)
    have fc88 := (fc73.keep Kc71)
    have fc89 := (fc74.keep Kc71 (ninS ne_b1_3_2_8_4_b31 nin0))
    have fc90 := (fc75.keep Kc71)
    have fc91 := (fc76.keep Kc71 (ninS ne_b1_3_2_8_7_b31 nin0))
    have fc92 := (fc77.keep Kc71)
    have fc93 := (fc78.keep Kc71 (ninS ne_b1_3_2_8_11_b31 nin0))
    have fc94 := (fc79.keep Kc71)
    have fc95 := (fc80.keep Kc71 (ninS (Ne.symm ne_b31_b1_3_2_8_34) nin0))
    have fc96 := (fc81.keep Kc71)
    have fc97 := (fc82.keep Kc71 (ninS (Ne.symm ne_b31_b1_3_2_8_44) nin0))
    have fc98 := (P0_55.keep Kc71)
    have fc99 := (P3_55.keep Kc71 (ninS (Ne.symm ne_b31_b1_3_2_8_55) nin0))
    obtain ⟨b6_86, b1_3_2_8_86, k1_3_2_8_86, rfl, Nq86, Kc86, P0_86, P1_86, P2_86, P3_86, P4_86, P5_86, P6_86⟩ := hQ86
    have N86 := Fr.app N85 Nq86
    have ne_b1_b6_86 : b1 ≠ b6_86 := Nat.ne_of_lt (Nat.lt_of_lt_of_le fc87.lt P4_86)
    have ne_b6_4_b6_86 : b6_4 ≠ b6_86 := Nat.ne_of_lt (Nat.lt_of_lt_of_le fc88.lt P4_86)
    have ne_b1_3_2_8_4_b6_86 : b1_3_2_8_4 ≠ b6_86 := Nat.ne_of_lt (Nat.lt_of_lt_of_le fc89.lt P4_86)
    have ne_b6_7_b6_86 : b6_7 ≠ b6_86 := Nat.ne_of_lt (Nat.lt_of_lt_of_le fc90.lt P4_86)
    have ne_b1_3_2_8_7_b6_86 : b1_3_2_8_7 ≠ b6_86 := Nat.ne_of_lt (Nat.lt_of_lt_of_le fc91.lt P4_86)
    have ne_b6_11_b6_86 : b6_11 ≠ b6_86 := Nat.ne_of_lt (Nat.lt_of_lt_of_le fc92.lt P4_86)
    have ne_b1_3_2_8_11_b6_86 : b1_3_2_8_11 ≠ b6_86 := Nat.ne_of_lt (Nat.lt_of_lt_of_le fc93.lt P4_86)
    have ne_b31_b6_86 : b31 ≠ b6_86 := Nat.ne_of_lt (Nat.lt_of_lt_of_le P0_71.lt P4_86)
    have ne_b6_34_b6_86 : b6_34 ≠ b6_86 := Nat.ne_of_lt (Nat.lt_of_lt_of_le fc94.lt P4_86)
    have ne_b1_3_2_8_34_b6_86 : b1_3_2_8_34 ≠ b6_86 := Nat.ne_of_lt (Nat.lt_of_lt_of_le fc95.lt P4_86)
    have ne_b6_44_b6_86 : b6_44 ≠ b6_86 := Nat.ne_of_lt (Nat.lt_of_lt_of_le fc96.lt P4_86)
    have ne_b1_3_2_8_44_b6_86 : b1_3_2_8_44 ≠ b6_86 := Nat.ne_of_lt (Nat.lt_of_lt_of_le fc97.lt P4_86)
    have ne_b6_55_b6_86 : b6_55 ≠ b6_86 := Nat.ne_of_lt (Nat.lt_of_lt_of_le fc98.lt P4_86)
    have ne_b1_3_2_8_55_b6_86 : b1_3_2_8_55 ≠ b6_86 := Nat.ne_of_lt (Nat.lt_of_lt_of_le fc99.lt P4_86)
    have ne_b1_b1_3_2_8_86 : b1 ≠ b1_3_2_8_86 := Nat.ne_of_lt (Nat.lt_of_lt_of_le fc87.lt P5_86)
    have ne_b6_4_b1_3_2_8_86 : b6_4 ≠ b1_3_2_8_86 := Nat.ne_of_lt (Nat.lt_of_lt_of_le fc88.lt P5_86)
    have ne_b1_3_2_8_4_b1_3_2_8_86 : b1_3_2_8_4 ≠ b1_3_2_8_86 := Nat.ne_of_lt (Nat.lt_of_lt_of_le fc89.lt P5_86)
    have ne_b6_7_b1_3_2_8_86 : b6_7 ≠ b1_3_2_8_86 := Nat.ne_of_lt (Nat.lt_of_lt_of_le fc90.lt P5_86)
    have ne_b1_3_2_8_7_b1_3_2_8_86 : b1_3_2_8_7 ≠ b1_3_2_8_86 := Nat.ne_of_lt (Nat.lt_of_lt_of_le fc91.lt P5_86)
    have ne_b6_11_b1_3_2_8_86 : b6_11 ≠ b1_3_2_8_86 := Nat.ne_of_lt (Nat.lt_of_lt_of_le fc92.lt P5_86)
    have ne_b1_3_2_8_11_b1_3_2_8_86 : b1_3_2_8_11 ≠ b1_3_2_8_86 := Nat.ne_of_lt (Nat.lt_of_lt_of_le fc93.lt P5_86)
    have ne_b31_b1_3_2_8_86 : b31 ≠ b1_3_2_8_86 := Nat.ne_of_lt (Nat.lt_of_lt_of_le P0_71.lt P5_86)
    have ne_b6_34_b1_3_2_8_86 : b6_34 ≠ b1_3_2_8_86 := Nat.ne_of_lt (Nat.lt_of_lt_of_le fc94.lt P5_86)
    have ne_b1_3_2_8_34_b1_3_2_8_86 : b1_3_2_8_34 ≠ b1_3_2_8_86 := Nat.ne_of_lt (Nat.lt_of_lt_of_le fc95.lt P5_86)
    have ne_b6_44_b1_3_2_8_86 : b6_44 ≠ b1_3_2_8_86 := Nat.ne_of_lt (Nat.lt_of_lt_of_le fc96.lt P5_86)
    have ne_b1_3_2_8_44_b1_3_2_8_86 : b1_3_2_8_44 ≠ b1_3_2_8_86 := Nat.ne_of_lt (Nat.lt_of_lt_of_le fc97.lt P5_86)
    have ne_b6_55_b1_3_2_8_86 : b6_55 ≠ b1_3_2_8_86 := Nat.ne_of_lt (Nat.lt_of_lt_of_le fc98.lt P5_86)
    have ne_b1_3_2_8_55_b1_3_2_8_86 : b1_3_2_8_55 ≠ b1_3_2_8_86 := Nat.ne_of_lt (Nat.lt_of_lt_of_le fc99.lt P5_86)
    have g_b6_86 : n0 ≤ b6_86 := Nat.le_trans (own_old O71) P4_86
    have sz_b6_86 : h0.size ≤ b6_86 := Nat.le_trans K71.1 P4_86
    have g_b1_3_2_8_86 : n0 ≤ b1_3_2_8_86 := Nat.le_trans (own_old O71) P5_86
    have sz_b1_3_2_8_86 : h0.size ≤ b1_3_2_8_86 := Nat.le_trans K71.1 P5_86
    have O86 := O71.keep Kc86 all0
    have K86 : Keep h0 T86.heap [] := K71.trans Kc86 all0
    have pre_101 : ∀ t, Steps p.tables e below (T86.setTop (mkF m 165 #[vi p0, vi p1, vi p2, vi p3, vi p4, vi f5, vi f6, vi f7, vi f8, vi f9, va b1, va b31, vi 0, va b6_86] [(.ref b31), (.ref b1)])) t → Steps p.tables e below (T0.setTop (mkF m 67 #[vi p0, vi p1, vi p2, vi p3, vi p4, vi f5, vi f6, vi f7, vi f8, vi f9, uu, uu, uu, uu] [])) t := fun t k => pre_84 t (by
      show Steps p.tables e below (T71.setTop (mkF m 118 #[vi p0, vi p1, vi p2, vi p3, vi p4, vi f5, vi f6, vi f7, vi f8, vi f9, va b1, va b31, uu, uu] [(.int f6), (.int p0)])) _
      refine st85 _ ?_
      refine XS.ifYes X85.here hx rfl (pc0 := 121) (pc' := 152) rfl (hb hby at_121) rfl ((if0 _ _).trans (teq (by decide : (0 : Int32) = (0 : Int32))).1) (by decide) (by decide) ?_
      refine XS.iconst X85.here hx rfl (hb hby at_152) ?_
      refine XS.istore X85.here hx rfl (hb hby at_153) rfl (l' := #[vi p0, vi p1, vi p2, vi p3, vi p4, vi f5, vi f6, vi f7, vi f8, vi f9, va b1, va b31, vi 0, uu]) rfl ?_
      refine XS.iloadN X85.here hx rfl (hb hby at_155) rfl ?_
      refine st86 _ ?_
      refine XS.astore X86.here hx rfl (hb hby at_159) rfl rfl (l' := #[vi p0, vi p1, vi p2, vi p3, vi p4, vi f5, vi f6, vi f7, vi f8, vi f9, va b1, va b31, vi 0, va b6_86]) rfl ?_
      refine XS.aload X86.here hx rfl (hb hby at_161) rfl rfl ?_
      show Steps p.tables e below (T86.setTop (mkF m 163 #[vi p0, vi p1, vi p2, vi p3, vi p4, vi f5, vi f6, vi f7, vi f8, vi f9, va b1, va b31, vi 0, va b6_86] [(.ref b1)])) _
      refine XS.aload X86.here hx rfl (hb hby at_163) rfl rfl ?_
      exact k)
    by_cases hc100 : p3 = f9
    · by_cases hc102 : (bb (bb (cc (cc (p0 &&& (255 : Int32)))))) = (bb (bb (cc (cc (f6 &&& (255 : Int32))))))
      · have hc103 : ¬ ((bb (bb (cc (cc (((p0.toUInt32 >>> ((8 : Int32) &&& 31).toUInt32).toInt32) &&& (255 : Int32)))))) = (bb (bb (cc (cc (((f6.toUInt32 >>> ((8 : Int32) &&& 31).toUInt32).toInt32) &&& (255 : Int32))))))) := ow22 p0 f6 hc2 hc3 hc32 hc33 hc83 hc102
        have fc104 := (fc87.keep Kc86)
        have fc105 := ((((((P1_20.ext E31).keep Kc34 nin0).keep Kc44 nin0).keep Kc55 nin0).keep Kc71 (ninS ne_b1_b31 nin0)).keep Kc86 nin0)
        have fc106 := ((((((P3_20.ext E31).keep Kc34 nin0).keep Kc44 nin0).keep Kc55 nin0).keep Kc71 (ninS ne_b1_b31 nin0)).keep Kc86 nin0)
        have fc107 := (fc88.keep Kc86)
        have fc108 := (((((((((P1_4.keep Kc7 nin0).keep Kc11 nin0).keep Kc20 (ninS (Ne.symm ne_b1_b6_4) nin0)).ext E31).keep Kc34 nin0).keep Kc44 nin0).keep Kc55 nin0).keep Kc71 (ninS ne_b6_4_b31 nin0)).keep Kc86 nin0)
        have fc109 := (((((((((P2_4.keep Kc7 nin0).keep Kc11 nin0).keep Kc20 (ninS (Ne.symm ne_b1_b6_4) nin0)).ext E31).keep Kc34 nin0).keep Kc44 nin0).keep Kc55 nin0).keep Kc71 (ninS ne_b6_4_b31 nin0)).keep Kc86 nin0)
        have fc110 := (fc89.keep Kc86 nin0)
        have fc111 := (P0_71.keep Kc86)
        have fc112 := (P1_71.keep Kc86 nin0)
        have fc113 := (P2_71.keep Kc86 nin0)
        have fc114 := (P3_71.keep Kc86 nin0)
        have fc115 := (P4_71.keep Kc86 nin0)
        have fc116 := (fc94.keep Kc86)
        have fc117 := ((((P1_34.keep Kc44 nin0).keep Kc55 nin0).keep Kc71 (ninS (Ne.symm ne_b31_b6_34) nin0)).keep Kc86 nin0)
        have fc118 := ((((P2_34.keep Kc44 nin0).keep Kc55 nin0).keep Kc71 (ninS (Ne.symm ne_b31_b6_34) nin0)).keep Kc86 nin0)
        have fc119 := (fc95.keep Kc86 nin0)
        obtain ⟨cq120, kq120, q120a, q120b, q120c⟩ := isOf hZ rfl fc104
        obtain ⟨_, _, ⟨T120, L120, k120, n120⟩, -, X120, ⟨Lc120, hQ120, l120, y120, z120⟩, st120⟩ := X86.virtualBack hx (y := My11) (z := My11) hown (mvT hZ (ww hw 58 rfl)) (mvT hZ (ww hw 59 rfl)) (notFace_of_selects (args := #[]) (mvT hZ (ww hw 61 rfl))) (mvT hZ (ww hw 61 rfl)) (mvT hZ (ww hw 60 rfl)) (by decide) (backOf (W := 0) (rm11_9 l Z a0 hw [] z_COMPACT_STRINGS b1 b6_4 b1_3_2_8_4 b6_11 b1_3_2_8_11 b6_7 b1_3_2_8_7 b31 b6_34 b1_3_2_8_34 b6_55 b1_3_2_8_55 b6_44 b1_3_2_8_44 k1_3_2_8_4 k1_3_2_8_11 k1_3_2_8_7 k1_3_2_8_34 k1_3_2_8_55 k1_3_2_8_44 p3 (bb (bb (cc (cc (p0 &&& (255 : Int32)))))) (bb (bb (cc (cc (((p0.toUInt32 >>> ((8 : Int32) &&& 31).toUInt32).toInt32) &&& (255 : Int32)))))) (bb (bb (cc (cc (p2 &&& (255 : Int32)))))) (bb (bb (cc (cc (((p2.toUInt32 >>> ((8 : Int32) &&& 31).toUInt32).toInt32) &&& (255 : Int32)))))) (bb (bb (cc (cc (p1 &&& (255 : Int32)))))) (bb (bb (cc (cc (((p1.toUInt32 >>> ((8 : Int32) &&& 31).toUInt32).toInt32) &&& (255 : Int32)))))) f9 (bb (bb (cc (cc (f6 &&& (255 : Int32)))))) (bb (bb (cc (cc (((f6.toUInt32 >>> ((8 : Int32) &&& 31).toUInt32).toInt32) &&& (255 : Int32)))))) (bb (bb (cc (cc (f8 &&& (255 : Int32)))))) (bb (bb (cc (cc (((f8.toUInt32 >>> ((8 : Int32) &&& 31).toUInt32).toInt32) &&& (255 : Int32)))))) (bb (bb (cc (cc (f7 &&& (255 : Int32)))))) (bb (bb (cc (cc (((f7.toUInt32 >>> ((8 : Int32) &&& 31).toUInt32).toInt32) &&& (255 : Int32)))))) T86.heap n0 O86 S fc104 fc105 fc106 fc107 fc108 fc109 fc110 fc111 fc112 fc113 fc114 fc115 fc116 fc117 fc118 fc119 ne_b6_4_b6_34 hc100 hc102 hc103) hZ (ww hw 62 rfl) (ww hw 2 rfl) (by decide) (by decide)) q120a q120c (g := (mkF m 165 #[vi p0, vi p1, vi p2, vi p3, vi p4, vi f5, vi f6, vi f7, vi f8, vi f9, va b1, va b31, vi 0, va b6_86] [(.ref b31), (.ref b1)])) rfl (by rw [hml]; rfl) (Steps.refl _) (argsL := [(.ref b31)]) (rest := []) (lenOf pd_10 rfl) rfl (by show 2 * 0 + _ ≤ _; exact Nat.le_of_eq rfl) (hb hby at_165) (fun _ _ => ⟨rfl, rfl, (by decide : 23 + 0 ≤ _), (by decide : 64 + 0 ≤ _)⟩)
        dsimp only [Pt.U, Pt.locs, Pt.cells, Pt.slots] at X120 l120 y120 z120 st120 hQ120
        subst l120 y120 z120
        obtain ⟨rfl, Nq120, e120⟩ := hQ120
        have N120 := Fr.app N86 Nq120
        have fc121 := ((((((P2_20.ext E31).keep Kc34 nin0).keep Kc44 nin0).keep Kc55 nin0).keep Kc71 (ninS ne_b1_b31 nin0)).keep Kc86 nin0)
        have fc122 := ((((((P4_20.ext E31).keep Kc34 nin0).keep Kc44 nin0).keep Kc55 nin0).keep Kc71 (ninS ne_b1_b31 nin0)).keep Kc86 nin0)
        obtain ⟨cq123, kq123, q123a, q123b, q123c⟩ := isOf hZ e120 fc111
        obtain ⟨_, _, ⟨T123, L123, k123, n123⟩, -, X123, ⟨Lc123, hQ123, l123, y123, z123⟩, st123⟩ := X120.virtualBack hx (y := My11) (z := My11) hown (mvT hZ (ww hw 58 rfl)) (mvT hZ (ww hw 59 rfl)) (notFace_of_selects (args := #[]) (mvT hZ (ww hw 61 rfl))) (mvT hZ (ww hw 61 rfl)) (mvT hZ (ww hw 60 rfl)) (by decide) (backOf (W := 0) (rm11_9 l Z a0 hw [] z_COMPACT_STRINGS b31 b6_34 b1_3_2_8_34 b6_55 b1_3_2_8_55 b6_44 b1_3_2_8_44 b1 b6_4 b1_3_2_8_4 b6_11 b1_3_2_8_11 b6_7 b1_3_2_8_7 k1_3_2_8_34 k1_3_2_8_55 k1_3_2_8_44 k1_3_2_8_4 k1_3_2_8_11 k1_3_2_8_7 f9 (bb (bb (cc (cc (f6 &&& (255 : Int32)))))) (bb (bb (cc (cc (((f6.toUInt32 >>> ((8 : Int32) &&& 31).toUInt32).toInt32) &&& (255 : Int32)))))) (bb (bb (cc (cc (f8 &&& (255 : Int32)))))) (bb (bb (cc (cc (((f8.toUInt32 >>> ((8 : Int32) &&& 31).toUInt32).toInt32) &&& (255 : Int32)))))) (bb (bb (cc (cc (f7 &&& (255 : Int32)))))) (bb (bb (cc (cc (((f7.toUInt32 >>> ((8 : Int32) &&& 31).toUInt32).toInt32) &&& (255 : Int32)))))) p3 (bb (bb (cc (cc (p0 &&& (255 : Int32)))))) (bb (bb (cc (cc (((p0.toUInt32 >>> ((8 : Int32) &&& 31).toUInt32).toInt32) &&& (255 : Int32)))))) (bb (bb (cc (cc (p2 &&& (255 : Int32)))))) (bb (bb (cc (cc (((p2.toUInt32 >>> ((8 : Int32) &&& 31).toUInt32).toInt32) &&& (255 : Int32)))))) (bb (bb (cc (cc (p1 &&& (255 : Int32)))))) (bb (bb (cc (cc (((p1.toUInt32 >>> ((8 : Int32) &&& 31).toUInt32).toInt32) &&& (255 : Int32)))))) T86.heap n0 O86 S fc111 fc112 fc114 fc116 fc117 fc118 fc119 fc104 fc105 fc121 fc106 fc122 fc107 fc108 fc109 fc110 (Ne.symm ne_b6_4_b6_34) (hc100).symm (hc102).symm (fun q => hc103 q.symm)) hZ (ww hw 62 rfl) (ww hw 2 rfl) (by decide) (by decide)) q123a q123c (g := (mkF m 177 #[vi p0, vi p1, vi p2, vi p3, vi p4, vi f5, vi f6, vi f7, vi f8, vi f9, va b1, va b31, vi 0, va b6_86] [(.ref b1), (.ref b31)])) rfl (by rw [hml]; rfl) (Steps.refl _) (argsL := [(.ref b1)]) (rest := []) (lenOf pd_10 rfl) rfl (by show 2 * 0 + _ ≤ _; exact Nat.le_of_eq rfl) (hb hby at_177) (fun _ _ => ⟨rfl, e120, (by decide : 23 + 0 ≤ _), (by decide : 64 + 0 ≤ _)⟩)
        dsimp only [Pt.U, Pt.locs, Pt.cells, Pt.slots] at X123 l123 y123 z123 st123 hQ123
        subst l123 y123 z123
        obtain ⟨rfl, Nq123, e123⟩ := hQ123
        have N123 := Fr.app N120 Nq123
        have fc124 := (fc92.keep Kc86)
        have fc125 := (fc90.keep Kc86)
        obtain ⟨cq126, kq126, q126a, q126b, q126c⟩ := isOf hZ e123 fc104
        obtain ⟨_, _, ⟨T126, L126, k126, n126⟩, -, X126, ⟨Lc126, hQ126, l126, y126, z126⟩, st126⟩ := X123.virtualBack hx (y := My11) (z := My11) hown (mvT hZ (ww hw 58 rfl)) (mvT hZ (ww hw 59 rfl)) (notFace_of_selects (args := #[]) (mvT hZ (ww hw 61 rfl))) (mvT hZ (ww hw 61 rfl)) (mvT hZ (ww hw 60 rfl)) (by decide) (backOf (W := 0) (rm11_1 l Z a0 hw [] z_COMPACT_STRINGS b1 b6_4 b1_3_2_8_4 b6_11 b1_3_2_8_11 b6_7 b1_3_2_8_7 k1_3_2_8_4 k1_3_2_8_11 k1_3_2_8_7 p3 (bb (bb (cc (cc (p0 &&& (255 : Int32)))))) (bb (bb (cc (cc (((p0.toUInt32 >>> ((8 : Int32) &&& 31).toUInt32).toInt32) &&& (255 : Int32)))))) (bb (bb (cc (cc (p2 &&& (255 : Int32)))))) (bb (bb (cc (cc (((p2.toUInt32 >>> ((8 : Int32) &&& 31).toUInt32).toInt32) &&& (255 : Int32)))))) (bb (bb (cc (cc (p1 &&& (255 : Int32)))))) (bb (bb (cc (cc (((p1.toUInt32 >>> ((8 : Int32) &&& 31).toUInt32).toInt32) &&& (255 : Int32)))))) T86.heap n0 O86 S fc104 fc105 fc121 fc106 fc122 fc107 fc124 fc125) hZ (ww hw 62 rfl) (ww hw 2 rfl) (by decide) (by decide)) q126a q126c (g := (mkF m 189 #[vi p0, vi p1, vi p2, vi p3, vi p4, vi f5, vi f6, vi f7, vi f8, vi f9, va b1, va b31, vi 0, va b6_86] [(.ref b1), (.ref b1)])) rfl (by rw [hml]; rfl) (Steps.refl _) (argsL := [(.ref b1)]) (rest := []) (lenOf pd_10 rfl) rfl (by show 2 * 0 + _ ≤ _; exact Nat.le_of_eq rfl) (hb hby at_189) (fun _ _ => ⟨rfl, e123, (by decide : 23 + 0 ≤ _), (by decide : 64 + 0 ≤ _)⟩)
        dsimp only [Pt.U, Pt.locs, Pt.cells, Pt.slots] at X126 l126 y126 z126 st126 hQ126
        subst l126 y126 z126
        obtain ⟨rfl, Nq126, e126⟩ := hQ126
        have N126 := Fr.app N123 Nq126
        obtain ⟨cq127, kq127, q127a, q127b, q127c⟩ := isOf hZ e126 fc104
        obtain ⟨_, _, ⟨T127, L127, k127, n127⟩, -, X127, ⟨Lc127, hQ127, l127, y127, z127⟩, st127⟩ := X126.virtualBack hx (y := My11) (z := My11) hown (mvT hZ (ww hw 58 rfl)) (mvT hZ (ww hw 59 rfl)) (notFace_of_selects (args := #[]) (mvT hZ (ww hw 61 rfl))) (mvT hZ (ww hw 61 rfl)) (mvT hZ (ww hw 60 rfl)) (by decide) (backOf (W := 0) (rm11_2 l Z a0 hw [] z_COMPACT_STRINGS b1 b6_4 b1_3_2_8_4 b6_11 b1_3_2_8_11 b6_7 b1_3_2_8_7 k1_3_2_8_4 k1_3_2_8_11 k1_3_2_8_7 p3 (bb (bb (cc (cc (p0 &&& (255 : Int32)))))) (bb (bb (cc (cc (((p0.toUInt32 >>> ((8 : Int32) &&& 31).toUInt32).toInt32) &&& (255 : Int32)))))) (bb (bb (cc (cc (p2 &&& (255 : Int32)))))) (bb (bb (cc (cc (((p2.toUInt32 >>> ((8 : Int32) &&& 31).toUInt32).toInt32) &&& (255 : Int32)))))) (bb (bb (cc (cc (p1 &&& (255 : Int32)))))) (bb (bb (cc (cc (((p1.toUInt32 >>> ((8 : Int32) &&& 31).toUInt32).toInt32) &&& (255 : Int32)))))) T86.heap n0 O86 S) hZ (ww hw 62 rfl) (ww hw 2 rfl) (by decide) (by decide)) q127a q127c (g := (mkF m 198 #[vi p0, vi p1, vi p2, vi p3, vi p4, vi f5, vi f6, vi f7, vi f8, vi f9, va b1, va b31, vi 0, va b6_86] [.null, (.ref b1)])) rfl (by rw [hml]; rfl) (Steps.refl _) (argsL := [.null]) (rest := []) (lenOf pd_10 rfl) rfl (by show 2 * 0 + _ ≤ _; exact Nat.le_of_eq rfl) (hb hby at_198) (fun _ _ => ⟨rfl, e126, (by decide : 23 + 0 ≤ _), (by decide : 64 + 0 ≤ _)⟩)
        dsimp only [Pt.U, Pt.locs, Pt.cells, Pt.slots] at X127 l127 y127 z127 st127 hQ127
        subst l127 y127 z127
        obtain ⟨rfl, Nq127, e127⟩ := hQ127
        have N127 := Fr.app N126 Nq127
        obtain ⟨cq128, kq128, q128a, q128b, q128c⟩ := isOf hZ e127 fc104
        obtain ⟨_, _, ⟨T128, L128, k128, n128⟩, -, X128, ⟨Lc128, hQ128, l128, y128, z128⟩, st128⟩ := X127.virtualBack hx (y := My11) (z := My11) hown (mvT hZ (ww hw 58 rfl)) (mvT hZ (ww hw 59 rfl)) (notFace_of_selects (args := #[]) (mvT hZ (ww hw 61 rfl))) (mvT hZ (ww hw 61 rfl)) (mvT hZ (ww hw 60 rfl)) (by decide) (backOf (W := 0) (rm11_3 l Z a0 hw [] z_COMPACT_STRINGS b1 b6_4 b1_3_2_8_4 b6_11 b1_3_2_8_11 b6_7 b1_3_2_8_7 b6_86 b1_3_2_8_86 k1_3_2_8_4 k1_3_2_8_11 k1_3_2_8_7 k1_3_2_8_86 p3 (bb (bb (cc (cc (p0 &&& (255 : Int32)))))) (bb (bb (cc (cc (((p0.toUInt32 >>> ((8 : Int32) &&& 31).toUInt32).toInt32) &&& (255 : Int32)))))) (bb (bb (cc (cc (p2 &&& (255 : Int32)))))) (bb (bb (cc (cc (((p2.toUInt32 >>> ((8 : Int32) &&& 31).toUInt32).toInt32) &&& (255 : Int32)))))) (bb (bb (cc (cc (p1 &&& (255 : Int32)))))) (bb (bb (cc (cc (((p1.toUInt32 >>> ((8 : Int32) &&& 31).toUInt32).toInt32) &&& (255 : Int32)))))) (bb (bb (cc (cc (p0 &&& (255 : Int32)))))) (bb (bb (cc (cc (((p0.toUInt32 >>> ((8 : Int32) &&& 31).toUInt32).toInt32) &&& (255 : Int32)))))) T86.heap n0 O86 S P0_86) hZ (ww hw 62 rfl) (ww hw 2 rfl) (by decide) (by decide)) q128a q128c (g := (mkF m 208 #[vi p0, vi p1, vi p2, vi p3, vi p4, vi f5, vi f6, vi f7, vi f8, vi f9, va b1, va b31, vi 0, va b6_86] [(.ref b6_86), (.ref b1)])) rfl (by rw [hml]; rfl) (Steps.refl _) (argsL := [(.ref b6_86)]) (rest := []) (lenOf pd_10 rfl) rfl (by show 2 * 0 + _ ≤ _; exact Nat.le_of_eq rfl) (hb hby at_208) (fun _ _ => ⟨rfl, e127, (by decide : 23 + 0 ≤ _), (by decide : 64 + 0 ≤ _)⟩)
        dsimp only [Pt.U, Pt.locs, Pt.cells, Pt.slots] at X128 l128 y128 z128 st128 hQ128
        subst l128 y128 z128
        obtain ⟨rfl, Nq128, e128⟩ := hQ128
        have N128 := Fr.app N127 Nq128
        obtain ⟨fs, hr, hrun, hended, hW, hsame⟩ := X128.leave (v := (some (.int 1))) (fun h => by rw [hrt] at h; cases h)
        refine ⟨_, _, pre_101 _ ?_, hrun, hended, _, _, rfl, ?_, ⟨_, rfl⟩, hW, hsame.mono (by decide) (by decide)⟩
        · show Steps p.tables e below (T86.setTop (mkF m 165 #[vi p0, vi p1, vi p2, vi p3, vi p4, vi f5, vi f6, vi f7, vi f8, vi f9, va b1, va b31, vi 0, va b6_86] [(.ref b31), (.ref b1)])) _
          refine st120.trans ?_
          refine XS.iload X120.here hx rfl (hb hby at_168) rfl ?_
          refine XS.icmpNo X120.here hx rfl (hb hby at_170) rfl (teq (by decide : (0 : Int32) = (0 : Int32))).2 ?_
          refine XS.aload X120.here hx rfl (hb hby at_173) rfl rfl ?_
          refine XS.aload X120.here hx rfl (hb hby at_175) rfl rfl ?_
          refine st123.trans ?_
          refine XS.iload X123.here hx rfl (hb hby at_180) rfl ?_
          refine XS.icmpNo X123.here hx rfl (hb hby at_182) rfl (teq (by decide : (0 : Int32) = (0 : Int32))).2 ?_
          show Steps p.tables e below (T123.setTop (mkF m 185 #[vi p0, vi p1, vi p2, vi p3, vi p4, vi f5, vi f6, vi f7, vi f8, vi f9, va b1, va b31, vi 0, va b6_86] [])) _
          refine XS.aload X123.here hx rfl (hb hby at_185) rfl rfl ?_
          refine XS.aload X123.here hx rfl (hb hby at_187) rfl rfl ?_
          refine st126.trans ?_
          refine XS.ifNo X126.here hx rfl (hb hby at_192) rfl ((if0 _ _).trans (feq (by decide : ¬ ((1 : Int32) = (0 : Int32)))).1) ?_
          refine XS.aload X126.here hx rfl (hb hby at_195) rfl rfl ?_
          refine XS.aconstNull X126.here hx rfl (hb hby at_197) ?_
          refine st127.trans ?_
          refine XS.ifNo X127.here hx rfl (hb hby at_201) rfl ((if0 _ _).trans (teq (by decide : (0 : Int32) = (0 : Int32))).2) ?_
          show Steps p.tables e below (T127.setTop (mkF m 204 #[vi p0, vi p1, vi p2, vi p3, vi p4, vi f5, vi f6, vi f7, vi f8, vi f9, va b1, va b31, vi 0, va b6_86] [])) _
          refine XS.aload X127.here hx rfl (hb hby at_204) rfl rfl ?_
          refine XS.aload X127.here hx rfl (hb hby at_206) rfl rfl ?_
          refine st128.trans ?_
          refine XS.ifNo X128.here hx rfl (hb hby at_211) rfl ((if0 _ _).trans (teq (by decide : (0 : Int32) = (0 : Int32))).2) ?_
          refine XS.iconst X128.here hx rfl (hb hby at_214) ?_
          refine XS.goto X128.here hx rfl (pc0 := 215) (pc' := 219) rfl (hb hby at_215) (by decide) (by decide) ?_
          exact retN X128 hx (t := .boolean) hrt (by simp) (hb hby at_219) hr
        · show Q0 n0 (some (.int 1)) T128.heap _
          exact (⟨rfl, N128⟩)
      · have fc103 := (fc87.keep Kc86)
        have fc104 := ((((((P1_20.ext E31).keep Kc34 nin0).keep Kc44 nin0).keep Kc55 nin0).keep Kc71 (ninS ne_b1_b31 nin0)).keep Kc86 nin0)
        have fc105 := ((((((P3_20.ext E31).keep Kc34 nin0).keep Kc44 nin0).keep Kc55 nin0).keep Kc71 (ninS ne_b1_b31 nin0)).keep Kc86 nin0)
        have fc106 := (fc88.keep Kc86)
        have fc107 := (((((((((P1_4.keep Kc7 nin0).keep Kc11 nin0).keep Kc20 (ninS (Ne.symm ne_b1_b6_4) nin0)).ext E31).keep Kc34 nin0).keep Kc44 nin0).keep Kc55 nin0).keep Kc71 (ninS ne_b6_4_b31 nin0)).keep Kc86 nin0)
        have fc108 := (((((((((P2_4.keep Kc7 nin0).keep Kc11 nin0).keep Kc20 (ninS (Ne.symm ne_b1_b6_4) nin0)).ext E31).keep Kc34 nin0).keep Kc44 nin0).keep Kc55 nin0).keep Kc71 (ninS ne_b6_4_b31 nin0)).keep Kc86 nin0)
        have fc109 := (fc89.keep Kc86 nin0)
        have fc110 := (P0_71.keep Kc86)
        have fc111 := (P1_71.keep Kc86 nin0)
        have fc112 := (P2_71.keep Kc86 nin0)
        have fc113 := (P3_71.keep Kc86 nin0)
        have fc114 := (P4_71.keep Kc86 nin0)
        have fc115 := (fc94.keep Kc86)
        have fc116 := ((((P1_34.keep Kc44 nin0).keep Kc55 nin0).keep Kc71 (ninS (Ne.symm ne_b31_b6_34) nin0)).keep Kc86 nin0)
        have fc117 := ((((P2_34.keep Kc44 nin0).keep Kc55 nin0).keep Kc71 (ninS (Ne.symm ne_b31_b6_34) nin0)).keep Kc86 nin0)
        have fc118 := (fc95.keep Kc86 nin0)
        obtain ⟨cq119, kq119, q119a, q119b, q119c⟩ := isOf hZ rfl fc103
        obtain ⟨_, _, ⟨T119, L119, k119, n119⟩, -, X119, ⟨Lc119, hQ119, l119, y119, z119⟩, st119⟩ := X86.virtualBack hx (y := My11) (z := My11) hown (mvT hZ (ww hw 58 rfl)) (mvT hZ (ww hw 59 rfl)) (notFace_of_selects (args := #[]) (mvT hZ (ww hw 61 rfl))) (mvT hZ (ww hw 61 rfl)) (mvT hZ (ww hw 60 rfl)) (by decide) (backOf (W := 0) (rm11_10 l Z a0 hw [] z_COMPACT_STRINGS b1 b6_4 b1_3_2_8_4 b6_11 b1_3_2_8_11 b6_7 b1_3_2_8_7 b31 b6_34 b1_3_2_8_34 b6_55 b1_3_2_8_55 b6_44 b1_3_2_8_44 k1_3_2_8_4 k1_3_2_8_11 k1_3_2_8_7 k1_3_2_8_34 k1_3_2_8_55 k1_3_2_8_44 p3 (bb (bb (cc (cc (p0 &&& (255 : Int32)))))) (bb (bb (cc (cc (((p0.toUInt32 >>> ((8 : Int32) &&& 31).toUInt32).toInt32) &&& (255 : Int32)))))) (bb (bb (cc (cc (p2 &&& (255 : Int32)))))) (bb (bb (cc (cc (((p2.toUInt32 >>> ((8 : Int32) &&& 31).toUInt32).toInt32) &&& (255 : Int32)))))) (bb (bb (cc (cc (p1 &&& (255 : Int32)))))) (bb (bb (cc (cc (((p1.toUInt32 >>> ((8 : Int32) &&& 31).toUInt32).toInt32) &&& (255 : Int32)))))) f9 (bb (bb (cc (cc (f6 &&& (255 : Int32)))))) (bb (bb (cc (cc (((f6.toUInt32 >>> ((8 : Int32) &&& 31).toUInt32).toInt32) &&& (255 : Int32)))))) (bb (bb (cc (cc (f8 &&& (255 : Int32)))))) (bb (bb (cc (cc (((f8.toUInt32 >>> ((8 : Int32) &&& 31).toUInt32).toInt32) &&& (255 : Int32)))))) (bb (bb (cc (cc (f7 &&& (255 : Int32)))))) (bb (bb (cc (cc (((f7.toUInt32 >>> ((8 : Int32) &&& 31).toUInt32).toInt32) &&& (255 : Int32)))))) T86.heap n0 O86 S fc103 fc104 fc105 fc106 fc107 fc108 fc109 fc110 fc111 fc112 fc113 fc114 fc115 fc116 fc117 fc118 ne_b6_4_b6_34 hc100 hc102) hZ (ww hw 62 rfl) (ww hw 2 rfl) (by decide) (by decide)) q119a q119c (g := (mkF m 165 #[vi p0, vi p1, vi p2, vi p3, vi p4, vi f5, vi f6, vi f7, vi f8, vi f9, va b1, va b31, vi 0, va b6_86] [(.ref b31), (.ref b1)])) rfl (by rw [hml]; rfl) (Steps.refl _) (argsL := [(.ref b31)]) (rest := []) (lenOf pd_10 rfl) rfl (by show 2 * 0 + _ ≤ _; exact Nat.le_of_eq rfl) (hb hby at_165) (fun _ _ => ⟨rfl, rfl, (by decide : 23 + 0 ≤ _), (by decide : 64 + 0 ≤ _)⟩)
        dsimp only [Pt.U, Pt.locs, Pt.cells, Pt.slots] at X119 l119 y119 z119 st119 hQ119
        subst l119 y119 z119
        obtain ⟨rfl, Nq119, e119⟩ := hQ119
        have N119 := Fr.app N86 Nq119
        have fc120 := ((((((P2_20.ext E31).keep Kc34 nin0).keep Kc44 nin0).keep Kc55 nin0).keep Kc71 (ninS ne_b1_b31 nin0)).keep Kc86 nin0)
        have fc121 := ((((((P4_20.ext E31).keep Kc34 nin0).keep Kc44 nin0).keep Kc55 nin0).keep Kc71 (ninS ne_b1_b31 nin0)).keep Kc86 nin0)
        obtain ⟨cq122, kq122, q122a, q122b, q122c⟩ := isOf hZ e119 fc110
        obtain ⟨_, _, ⟨T122, L122, k122, n122⟩, -, X122, ⟨Lc122, hQ122, l122, y122, z122⟩, st122⟩ := X119.virtualBack hx (y := My11) (z := My11) hown (mvT hZ (ww hw 58 rfl)) (mvT hZ (ww hw 59 rfl)) (notFace_of_selects (args := #[]) (mvT hZ (ww hw 61 rfl))) (mvT hZ (ww hw 61 rfl)) (mvT hZ (ww hw 60 rfl)) (by decide) (backOf (W := 0) (rm11_10 l Z a0 hw [] z_COMPACT_STRINGS b31 b6_34 b1_3_2_8_34 b6_55 b1_3_2_8_55 b6_44 b1_3_2_8_44 b1 b6_4 b1_3_2_8_4 b6_11 b1_3_2_8_11 b6_7 b1_3_2_8_7 k1_3_2_8_34 k1_3_2_8_55 k1_3_2_8_44 k1_3_2_8_4 k1_3_2_8_11 k1_3_2_8_7 f9 (bb (bb (cc (cc (f6 &&& (255 : Int32)))))) (bb (bb (cc (cc (((f6.toUInt32 >>> ((8 : Int32) &&& 31).toUInt32).toInt32) &&& (255 : Int32)))))) (bb (bb (cc (cc (f8 &&& (255 : Int32)))))) (bb (bb (cc (cc (((f8.toUInt32 >>> ((8 : Int32) &&& 31).toUInt32).toInt32) &&& (255 : Int32)))))) (bb (bb (cc (cc (f7 &&& (255 : Int32)))))) (bb (bb (cc (cc (((f7.toUInt32 >>> ((8 : Int32) &&& 31).toUInt32).toInt32) &&& (255 : Int32)))))) p3 (bb (bb (cc (cc (p0 &&& (255 : Int32)))))) (bb (bb (cc (cc (((p0.toUInt32 >>> ((8 : Int32) &&& 31).toUInt32).toInt32) &&& (255 : Int32)))))) (bb (bb (cc (cc (p2 &&& (255 : Int32)))))) (bb (bb (cc (cc (((p2.toUInt32 >>> ((8 : Int32) &&& 31).toUInt32).toInt32) &&& (255 : Int32)))))) (bb (bb (cc (cc (p1 &&& (255 : Int32)))))) (bb (bb (cc (cc (((p1.toUInt32 >>> ((8 : Int32) &&& 31).toUInt32).toInt32) &&& (255 : Int32)))))) T86.heap n0 O86 S fc110 fc111 fc113 fc115 fc116 fc117 fc118 fc103 fc104 fc120 fc105 fc121 fc106 fc107 fc108 fc109 (Ne.symm ne_b6_4_b6_34) (hc100).symm (fun q => hc102 q.symm)) hZ (ww hw 62 rfl) (ww hw 2 rfl) (by decide) (by decide)) q122a q122c (g := (mkF m 177 #[vi p0, vi p1, vi p2, vi p3, vi p4, vi f5, vi f6, vi f7, vi f8, vi f9, va b1, va b31, vi 0, va b6_86] [(.ref b1), (.ref b31)])) rfl (by rw [hml]; rfl) (Steps.refl _) (argsL := [(.ref b1)]) (rest := []) (lenOf pd_10 rfl) rfl (by show 2 * 0 + _ ≤ _; exact Nat.le_of_eq rfl) (hb hby at_177) (fun _ _ => ⟨rfl, e119, (by decide : 23 + 0 ≤ _), (by decide : 64 + 0 ≤ _)⟩)
        dsimp only [Pt.U, Pt.locs, Pt.cells, Pt.slots] at X122 l122 y122 z122 st122 hQ122
        subst l122 y122 z122
        obtain ⟨rfl, Nq122, e122⟩ := hQ122
        have N122 := Fr.app N119 Nq122
        have fc123 := (fc92.keep Kc86)
        have fc124 := (fc90.keep Kc86)
        obtain ⟨cq125, kq125, q125a, q125b, q125c⟩ := isOf hZ e122 fc103
        obtain ⟨_, _, ⟨T125, L125, k125, n125⟩, -, X125, ⟨Lc125, hQ125, l125, y125, z125⟩, st125⟩ := X122.virtualBack hx (y := My11) (z := My11) hown (mvT hZ (ww hw 58 rfl)) (mvT hZ (ww hw 59 rfl)) (notFace_of_selects (args := #[]) (mvT hZ (ww hw 61 rfl))) (mvT hZ (ww hw 61 rfl)) (mvT hZ (ww hw 60 rfl)) (by decide) (backOf (W := 0) (rm11_1 l Z a0 hw [] z_COMPACT_STRINGS b1 b6_4 b1_3_2_8_4 b6_11 b1_3_2_8_11 b6_7 b1_3_2_8_7 k1_3_2_8_4 k1_3_2_8_11 k1_3_2_8_7 p3 (bb (bb (cc (cc (p0 &&& (255 : Int32)))))) (bb (bb (cc (cc (((p0.toUInt32 >>> ((8 : Int32) &&& 31).toUInt32).toInt32) &&& (255 : Int32)))))) (bb (bb (cc (cc (p2 &&& (255 : Int32)))))) (bb (bb (cc (cc (((p2.toUInt32 >>> ((8 : Int32) &&& 31).toUInt32).toInt32) &&& (255 : Int32)))))) (bb (bb (cc (cc (p1 &&& (255 : Int32)))))) (bb (bb (cc (cc (((p1.toUInt32 >>> ((8 : Int32) &&& 31).toUInt32).toInt32) &&& (255 : Int32)))))) T86.heap n0 O86 S fc103 fc104 fc120 fc105 fc121 fc106 fc123 fc124) hZ (ww hw 62 rfl) (ww hw 2 rfl) (by decide) (by decide)) q125a q125c (g := (mkF m 189 #[vi p0, vi p1, vi p2, vi p3, vi p4, vi f5, vi f6, vi f7, vi f8, vi f9, va b1, va b31, vi 0, va b6_86] [(.ref b1), (.ref b1)])) rfl (by rw [hml]; rfl) (Steps.refl _) (argsL := [(.ref b1)]) (rest := []) (lenOf pd_10 rfl) rfl (by show 2 * 0 + _ ≤ _; exact Nat.le_of_eq rfl) (hb hby at_189) (fun _ _ => ⟨rfl, e122, (by decide : 23 + 0 ≤ _), (by decide : 64 + 0 ≤ _)⟩)
        dsimp only [Pt.U, Pt.locs, Pt.cells, Pt.slots] at X125 l125 y125 z125 st125 hQ125
        subst l125 y125 z125
        obtain ⟨rfl, Nq125, e125⟩ := hQ125
        have N125 := Fr.app N122 Nq125
        obtain ⟨cq126, kq126, q126a, q126b, q126c⟩ := isOf hZ e125 fc103
        obtain ⟨_, _, ⟨T126, L126, k126, n126⟩, -, X126, ⟨Lc126, hQ126, l126, y126, z126⟩, st126⟩ := X125.virtualBack hx (y := My11) (z := My11) hown (mvT hZ (ww hw 58 rfl)) (mvT hZ (ww hw 59 rfl)) (notFace_of_selects (args := #[]) (mvT hZ (ww hw 61 rfl))) (mvT hZ (ww hw 61 rfl)) (mvT hZ (ww hw 60 rfl)) (by decide) (backOf (W := 0) (rm11_2 l Z a0 hw [] z_COMPACT_STRINGS b1 b6_4 b1_3_2_8_4 b6_11 b1_3_2_8_11 b6_7 b1_3_2_8_7 k1_3_2_8_4 k1_3_2_8_11 k1_3_2_8_7 p3 (bb (bb (cc (cc (p0 &&& (255 : Int32)))))) (bb (bb (cc (cc (((p0.toUInt32 >>> ((8 : Int32) &&& 31).toUInt32).toInt32) &&& (255 : Int32)))))) (bb (bb (cc (cc (p2 &&& (255 : Int32)))))) (bb (bb (cc (cc (((p2.toUInt32 >>> ((8 : Int32) &&& 31).toUInt32).toInt32) &&& (255 : Int32)))))) (bb (bb (cc (cc (p1 &&& (255 : Int32)))))) (bb (bb (cc (cc (((p1.toUInt32 >>> ((8 : Int32) &&& 31).toUInt32).toInt32) &&& (255 : Int32)))))) T86.heap n0 O86 S) hZ (ww hw 62 rfl) (ww hw 2 rfl) (by decide) (by decide)) q126a q126c (g := (mkF m 198 #[vi p0, vi p1, vi p2, vi p3, vi p4, vi f5, vi f6, vi f7, vi f8, vi f9, va b1, va b31, vi 0, va b6_86] [.null, (.ref b1)])) rfl (by rw [hml]; rfl) (Steps.refl _) (argsL := [.null]) (rest := []) (lenOf pd_10 rfl) rfl (by show 2 * 0 + _ ≤ _; exact Nat.le_of_eq rfl) (hb hby at_198) (fun _ _ => ⟨rfl, e125, (by decide : 23 + 0 ≤ _), (by decide : 64 + 0 ≤ _)⟩)
        dsimp only [Pt.U, Pt.locs, Pt.cells, Pt.slots] at X126 l126 y126 z126 st126 hQ126
        subst l126 y126 z126
        obtain ⟨rfl, Nq126, e126⟩ := hQ126
        have N126 := Fr.app N125 Nq126
        obtain ⟨cq127, kq127, q127a, q127b, q127c⟩ := isOf hZ e126 fc103
        obtain ⟨_, _, ⟨T127, L127, k127, n127⟩, -, X127, ⟨Lc127, hQ127, l127, y127, z127⟩, st127⟩ := X126.virtualBack hx (y := My11) (z := My11) hown (mvT hZ (ww hw 58 rfl)) (mvT hZ (ww hw 59 rfl)) (notFace_of_selects (args := #[]) (mvT hZ (ww hw 61 rfl))) (mvT hZ (ww hw 61 rfl)) (mvT hZ (ww hw 60 rfl)) (by decide) (backOf (W := 0) (rm11_3 l Z a0 hw [] z_COMPACT_STRINGS b1 b6_4 b1_3_2_8_4 b6_11 b1_3_2_8_11 b6_7 b1_3_2_8_7 b6_86 b1_3_2_8_86 k1_3_2_8_4 k1_3_2_8_11 k1_3_2_8_7 k1_3_2_8_86 p3 (bb (bb (cc (cc (p0 &&& (255 : Int32)))))) (bb (bb (cc (cc (((p0.toUInt32 >>> ((8 : Int32) &&& 31).toUInt32).toInt32) &&& (255 : Int32)))))) (bb (bb (cc (cc (p2 &&& (255 : Int32)))))) (bb (bb (cc (cc (((p2.toUInt32 >>> ((8 : Int32) &&& 31).toUInt32).toInt32) &&& (255 : Int32)))))) (bb (bb (cc (cc (p1 &&& (255 : Int32)))))) (bb (bb (cc (cc (((p1.toUInt32 >>> ((8 : Int32) &&& 31).toUInt32).toInt32) &&& (255 : Int32)))))) (bb (bb (cc (cc (p0 &&& (255 : Int32)))))) (bb (bb (cc (cc (((p0.toUInt32 >>> ((8 : Int32) &&& 31).toUInt32).toInt32) &&& (255 : Int32)))))) T86.heap n0 O86 S P0_86) hZ (ww hw 62 rfl) (ww hw 2 rfl) (by decide) (by decide)) q127a q127c (g := (mkF m 208 #[vi p0, vi p1, vi p2, vi p3, vi p4, vi f5, vi f6, vi f7, vi f8, vi f9, va b1, va b31, vi 0, va b6_86] [(.ref b6_86), (.ref b1)])) rfl (by rw [hml]; rfl) (Steps.refl _) (argsL := [(.ref b6_86)]) (rest := []) (lenOf pd_10 rfl) rfl (by show 2 * 0 + _ ≤ _; exact Nat.le_of_eq rfl) (hb hby at_208) (fun _ _ => ⟨rfl, e126, (by decide : 23 + 0 ≤ _), (by decide : 64 + 0 ≤ _)⟩)
        dsimp only [Pt.U, Pt.locs, Pt.cells, Pt.slots] at X127 l127 y127 z127 st127 hQ127
        subst l127 y127 z127
        obtain ⟨rfl, Nq127, e127⟩ := hQ127
        have N127 := Fr.app N126 Nq127
        obtain ⟨fs, hr, hrun, hended, hW, hsame⟩ := X127.leave (v := (some (.int 1))) (fun h => by rw [hrt] at h; cases h)
        refine ⟨_, _, pre_101 _ ?_, hrun, hended, _, _, rfl, ?_, ⟨_, rfl⟩, hW, hsame.mono (by decide) (by decide)⟩
        · show Steps p.tables e below (T86.setTop (mkF m 165 #[vi p0, vi p1, vi p2, vi p3, vi p4, vi f5, vi f6, vi f7, vi f8, vi f9, va b1, va b31, vi 0, va b6_86] [(.ref b31), (.ref b1)])) _
          refine st119.trans ?_
          refine XS.iload X119.here hx rfl (hb hby at_168) rfl ?_
          refine XS.icmpNo X119.here hx rfl (hb hby at_170) rfl (teq (by decide : (0 : Int32) = (0 : Int32))).2 ?_
          refine XS.aload X119.here hx rfl (hb hby at_173) rfl rfl ?_
          refine XS.aload X119.here hx rfl (hb hby at_175) rfl rfl ?_
          refine st122.trans ?_
          refine XS.iload X122.here hx rfl (hb hby at_180) rfl ?_
          refine XS.icmpNo X122.here hx rfl (hb hby at_182) rfl (teq (by decide : (0 : Int32) = (0 : Int32))).2 ?_
          show Steps p.tables e below (T122.setTop (mkF m 185 #[vi p0, vi p1, vi p2, vi p3, vi p4, vi f5, vi f6, vi f7, vi f8, vi f9, va b1, va b31, vi 0, va b6_86] [])) _
          refine XS.aload X122.here hx rfl (hb hby at_185) rfl rfl ?_
          refine XS.aload X122.here hx rfl (hb hby at_187) rfl rfl ?_
          refine st125.trans ?_
          refine XS.ifNo X125.here hx rfl (hb hby at_192) rfl ((if0 _ _).trans (feq (by decide : ¬ ((1 : Int32) = (0 : Int32)))).1) ?_
          refine XS.aload X125.here hx rfl (hb hby at_195) rfl rfl ?_
          refine XS.aconstNull X125.here hx rfl (hb hby at_197) ?_
          refine st126.trans ?_
          refine XS.ifNo X126.here hx rfl (hb hby at_201) rfl ((if0 _ _).trans (teq (by decide : (0 : Int32) = (0 : Int32))).2) ?_
          show Steps p.tables e below (T126.setTop (mkF m 204 #[vi p0, vi p1, vi p2, vi p3, vi p4, vi f5, vi f6, vi f7, vi f8, vi f9, va b1, va b31, vi 0, va b6_86] [])) _
          refine XS.aload X126.here hx rfl (hb hby at_204) rfl rfl ?_
          refine XS.aload X126.here hx rfl (hb hby at_206) rfl rfl ?_
          refine st127.trans ?_
          refine XS.ifNo X127.here hx rfl (hb hby at_211) rfl ((if0 _ _).trans (teq (by decide : (0 : Int32) = (0 : Int32))).2) ?_
          refine XS.iconst X127.here hx rfl (hb hby at_214) ?_
          refine XS.goto X127.here hx rfl (pc0 := 215) (pc' := 219) rfl (hb hby at_215) (by decide) (by decide) ?_
          exact retN X127 hx (t := .boolean) hrt (by simp) (hb hby at_219) hr
        · show Q0 n0 (some (.int 1)) T127.heap _
          exact (⟨rfl, N127⟩)
    · have fc102 := ((((((P3_20.ext E31).keep Kc34 nin0).keep Kc44 nin0).keep Kc55 nin0).keep Kc71 (ninS ne_b1_b31 nin0)).keep Kc86 nin0)
      have fc103 := (P0_71.keep Kc86)
      have fc104 := (P3_71.keep Kc86 nin0)
      have fc106 := (fc87.keep Kc86)
      obtain ⟨cq105, kq105, q105a, q105b, q105c⟩ := isOf hZ rfl fc106
      obtain ⟨_, _, ⟨T105, L105, k105, n105⟩, -, X105, ⟨Lc105, hQ105, l105, y105, z105⟩, st105⟩ := X86.virtualBack hx (y := My11) (z := My11) hown (mvT hZ (ww hw 58 rfl)) (mvT hZ (ww hw 59 rfl)) (notFace_of_selects (args := #[]) (mvT hZ (ww hw 61 rfl))) (mvT hZ (ww hw 61 rfl)) (mvT hZ (ww hw 60 rfl)) (by decide) (backOf (W := 0) (rm11_4 l Z a0 hw [] z_COMPACT_STRINGS b1 b6_4 b1_3_2_8_4 b6_11 b1_3_2_8_11 b6_7 b1_3_2_8_7 b31 b6_34 b1_3_2_8_34 b6_55 b1_3_2_8_55 b6_44 b1_3_2_8_44 k1_3_2_8_4 k1_3_2_8_11 k1_3_2_8_7 k1_3_2_8_34 k1_3_2_8_55 k1_3_2_8_44 p3 (bb (bb (cc (cc (p0 &&& (255 : Int32)))))) (bb (bb (cc (cc (((p0.toUInt32 >>> ((8 : Int32) &&& 31).toUInt32).toInt32) &&& (255 : Int32)))))) (bb (bb (cc (cc (p2 &&& (255 : Int32)))))) (bb (bb (cc (cc (((p2.toUInt32 >>> ((8 : Int32) &&& 31).toUInt32).toInt32) &&& (255 : Int32)))))) (bb (bb (cc (cc (p1 &&& (255 : Int32)))))) (bb (bb (cc (cc (((p1.toUInt32 >>> ((8 : Int32) &&& 31).toUInt32).toInt32) &&& (255 : Int32)))))) f9 (bb (bb (cc (cc (f6 &&& (255 : Int32)))))) (bb (bb (cc (cc (((f6.toUInt32 >>> ((8 : Int32) &&& 31).toUInt32).toInt32) &&& (255 : Int32)))))) (bb (bb (cc (cc (f8 &&& (255 : Int32)))))) (bb (bb (cc (cc (((f8.toUInt32 >>> ((8 : Int32) &&& 31).toUInt32).toInt32) &&& (255 : Int32)))))) (bb (bb (cc (cc (f7 &&& (255 : Int32)))))) (bb (bb (cc (cc (((f7.toUInt32 >>> ((8 : Int32) &&& 31).toUInt32).toInt32) &&& (255 : Int32)))))) T86.heap n0 O86 S fc102 fc103 fc104 hc100) hZ (ww hw 62 rfl) (ww hw 2 rfl) (by decide) (by decide)) q105a q105c (g := (mkF m 165 #[vi p0, vi p1, vi p2, vi p3, vi p4, vi f5, vi f6, vi f7, vi f8, vi f9, va b1, va b31, vi 0, va b6_86] [(.ref b31), (.ref b1)])) rfl (by rw [hml]; rfl) (Steps.refl _) (argsL := [(.ref b31)]) (rest := []) (lenOf pd_10 rfl) rfl (by show 2 * 0 + _ ≤ _; exact Nat.le_of_eq rfl) (hb hby at_165) (fun _ _ => ⟨rfl, rfl, (by decide : 23 + 0 ≤ _), (by decide : 64 + 0 ≤ _)⟩)
      dsimp only [Pt.U, Pt.locs, Pt.cells, Pt.slots] at X105 l105 y105 z105 st105 hQ105
      subst l105 y105 z105
      obtain ⟨rfl, Nq105, e105⟩ := hQ105
      have N105 := Fr.app N86 Nq105
      obtain ⟨cq107, kq107, q107a, q107b, q107c⟩ := isOf hZ e105 fc103
      obtain ⟨_, _, ⟨T107, L107, k107, n107⟩, -, X107, ⟨Lc107, hQ107, l107, y107, z107⟩, st107⟩ := X105.virtualBack hx (y := My11) (z := My11) hown (mvT hZ (ww hw 58 rfl)) (mvT hZ (ww hw 59 rfl)) (notFace_of_selects (args := #[]) (mvT hZ (ww hw 61 rfl))) (mvT hZ (ww hw 61 rfl)) (mvT hZ (ww hw 60 rfl)) (by decide) (backOf (W := 0) (rm11_4 l Z a0 hw [] z_COMPACT_STRINGS b31 b6_34 b1_3_2_8_34 b6_55 b1_3_2_8_55 b6_44 b1_3_2_8_44 b1 b6_4 b1_3_2_8_4 b6_11 b1_3_2_8_11 b6_7 b1_3_2_8_7 k1_3_2_8_34 k1_3_2_8_55 k1_3_2_8_44 k1_3_2_8_4 k1_3_2_8_11 k1_3_2_8_7 f9 (bb (bb (cc (cc (f6 &&& (255 : Int32)))))) (bb (bb (cc (cc (((f6.toUInt32 >>> ((8 : Int32) &&& 31).toUInt32).toInt32) &&& (255 : Int32)))))) (bb (bb (cc (cc (f8 &&& (255 : Int32)))))) (bb (bb (cc (cc (((f8.toUInt32 >>> ((8 : Int32) &&& 31).toUInt32).toInt32) &&& (255 : Int32)))))) (bb (bb (cc (cc (f7 &&& (255 : Int32)))))) (bb (bb (cc (cc (((f7.toUInt32 >>> ((8 : Int32) &&& 31).toUInt32).toInt32) &&& (255 : Int32)))))) p3 (bb (bb (cc (cc (p0 &&& (255 : Int32)))))) (bb (bb (cc (cc (((p0.toUInt32 >>> ((8 : Int32) &&& 31).toUInt32).toInt32) &&& (255 : Int32)))))) (bb (bb (cc (cc (p2 &&& (255 : Int32)))))) (bb (bb (cc (cc (((p2.toUInt32 >>> ((8 : Int32) &&& 31).toUInt32).toInt32) &&& (255 : Int32)))))) (bb (bb (cc (cc (p1 &&& (255 : Int32)))))) (bb (bb (cc (cc (((p1.toUInt32 >>> ((8 : Int32) &&& 31).toUInt32).toInt32) &&& (255 : Int32)))))) T86.heap n0 O86 S fc104 fc106 fc102 (fun q => hc100 q.symm)) hZ (ww hw 62 rfl) (ww hw 2 rfl) (by decide) (by decide)) q107a q107c (g := (mkF m 177 #[vi p0, vi p1, vi p2, vi p3, vi p4, vi f5, vi f6, vi f7, vi f8, vi f9, va b1, va b31, vi 0, va b6_86] [(.ref b1), (.ref b31)])) rfl (by rw [hml]; rfl) (Steps.refl _) (argsL := [(.ref b1)]) (rest := []) (lenOf pd_10 rfl) rfl (by show 2 * 0 + _ ≤ _; exact Nat.le_of_eq rfl) (hb hby at_177) (fun _ _ => ⟨rfl, e105, (by decide : 23 + 0 ≤ _), (by decide : 64 + 0 ≤ _)⟩)
      dsimp only [Pt.U, Pt.locs, Pt.cells, Pt.slots] at X107 l107 y107 z107 st107 hQ107
      subst l107 y107 z107
      obtain ⟨rfl, Nq107, e107⟩ := hQ107
      have N107 := Fr.app N105 Nq107
      have fc108 := ((((((P1_20.ext E31).keep Kc34 nin0).keep Kc44 nin0).keep Kc55 nin0).keep Kc71 (ninS ne_b1_b31 nin0)).keep Kc86 nin0)
      have fc109 := ((((((P2_20.ext E31).keep Kc34 nin0).keep Kc44 nin0).keep Kc55 nin0).keep Kc71 (ninS ne_b1_b31 nin0)).keep Kc86 nin0)
      have fc110 := ((((((P4_20.ext E31).keep Kc34 nin0).keep Kc44 nin0).keep Kc55 nin0).keep Kc71 (ninS ne_b1_b31 nin0)).keep Kc86 nin0)
      have fc111 := (fc88.keep Kc86)
      have fc112 := (fc92.keep Kc86)
      have fc113 := (fc90.keep Kc86)
      obtain ⟨cq114, kq114, q114a, q114b, q114c⟩ := isOf hZ e107 fc106
      obtain ⟨_, _, ⟨T114, L114, k114, n114⟩, -, X114, ⟨Lc114, hQ114, l114, y114, z114⟩, st114⟩ := X107.virtualBack hx (y := My11) (z := My11) hown (mvT hZ (ww hw 58 rfl)) (mvT hZ (ww hw 59 rfl)) (notFace_of_selects (args := #[]) (mvT hZ (ww hw 61 rfl))) (mvT hZ (ww hw 61 rfl)) (mvT hZ (ww hw 60 rfl)) (by decide) (backOf (W := 0) (rm11_1 l Z a0 hw [] z_COMPACT_STRINGS b1 b6_4 b1_3_2_8_4 b6_11 b1_3_2_8_11 b6_7 b1_3_2_8_7 k1_3_2_8_4 k1_3_2_8_11 k1_3_2_8_7 p3 (bb (bb (cc (cc (p0 &&& (255 : Int32)))))) (bb (bb (cc (cc (((p0.toUInt32 >>> ((8 : Int32) &&& 31).toUInt32).toInt32) &&& (255 : Int32)))))) (bb (bb (cc (cc (p2 &&& (255 : Int32)))))) (bb (bb (cc (cc (((p2.toUInt32 >>> ((8 : Int32) &&& 31).toUInt32).toInt32) &&& (255 : Int32)))))) (bb (bb (cc (cc (p1 &&& (255 : Int32)))))) (bb (bb (cc (cc (((p1.toUInt32 >>> ((8 : Int32) &&& 31).toUInt32).toInt32) &&& (255 : Int32)))))) T86.heap n0 O86 S fc106 fc108 fc109 fc102 fc110 fc111 fc112 fc113) hZ (ww hw 62 rfl) (ww hw 2 rfl) (by decide) (by decide)) q114a q114c (g := (mkF m 189 #[vi p0, vi p1, vi p2, vi p3, vi p4, vi f5, vi f6, vi f7, vi f8, vi f9, va b1, va b31, vi 0, va b6_86] [(.ref b1), (.ref b1)])) rfl (by rw [hml]; rfl) (Steps.refl _) (argsL := [(.ref b1)]) (rest := []) (lenOf pd_10 rfl) rfl (by show 2 * 0 + _ ≤ _; exact Nat.le_of_eq rfl) (hb hby at_189) (fun _ _ => ⟨rfl, e107, (by decide : 23 + 0 ≤ _), (by decide : 64 + 0 ≤ _)⟩)
      dsimp only [Pt.U, Pt.locs, Pt.cells, Pt.slots] at X114 l114 y114 z114 st114 hQ114
      subst l114 y114 z114
      obtain ⟨rfl, Nq114, e114⟩ := hQ114
      have N114 := Fr.app N107 Nq114
      obtain ⟨cq115, kq115, q115a, q115b, q115c⟩ := isOf hZ e114 fc106
      obtain ⟨_, _, ⟨T115, L115, k115, n115⟩, -, X115, ⟨Lc115, hQ115, l115, y115, z115⟩, st115⟩ := X114.virtualBack hx (y := My11) (z := My11) hown (mvT hZ (ww hw 58 rfl)) (mvT hZ (ww hw 59 rfl)) (notFace_of_selects (args := #[]) (mvT hZ (ww hw 61 rfl))) (mvT hZ (ww hw 61 rfl)) (mvT hZ (ww hw 60 rfl)) (by decide) (backOf (W := 0) (rm11_2 l Z a0 hw [] z_COMPACT_STRINGS b1 b6_4 b1_3_2_8_4 b6_11 b1_3_2_8_11 b6_7 b1_3_2_8_7 k1_3_2_8_4 k1_3_2_8_11 k1_3_2_8_7 p3 (bb (bb (cc (cc (p0 &&& (255 : Int32)))))) (bb (bb (cc (cc (((p0.toUInt32 >>> ((8 : Int32) &&& 31).toUInt32).toInt32) &&& (255 : Int32)))))) (bb (bb (cc (cc (p2 &&& (255 : Int32)))))) (bb (bb (cc (cc (((p2.toUInt32 >>> ((8 : Int32) &&& 31).toUInt32).toInt32) &&& (255 : Int32)))))) (bb (bb (cc (cc (p1 &&& (255 : Int32)))))) (bb (bb (cc (cc (((p1.toUInt32 >>> ((8 : Int32) &&& 31).toUInt32).toInt32) &&& (255 : Int32)))))) T86.heap n0 O86 S) hZ (ww hw 62 rfl) (ww hw 2 rfl) (by decide) (by decide)) q115a q115c (g := (mkF m 198 #[vi p0, vi p1, vi p2, vi p3, vi p4, vi f5, vi f6, vi f7, vi f8, vi f9, va b1, va b31, vi 0, va b6_86] [.null, (.ref b1)])) rfl (by rw [hml]; rfl) (Steps.refl _) (argsL := [.null]) (rest := []) (lenOf pd_10 rfl) rfl (by show 2 * 0 + _ ≤ _; exact Nat.le_of_eq rfl) (hb hby at_198) (fun _ _ => ⟨rfl, e114, (by decide : 23 + 0 ≤ _), (by decide : 64 + 0 ≤ _)⟩)
      dsimp only [Pt.U, Pt.locs, Pt.cells, Pt.slots] at X115 l115 y115 z115 st115 hQ115
      subst l115 y115 z115
      obtain ⟨rfl, Nq115, e115⟩ := hQ115
      have N115 := Fr.app N114 Nq115
      obtain ⟨cq116, kq116, q116a, q116b, q116c⟩ := isOf hZ e115 fc106
      obtain ⟨_, _, ⟨T116, L116, k116, n116⟩, -, X116, ⟨Lc116, hQ116, l116, y116, z116⟩, st116⟩ := X115.virtualBack hx (y := My11) (z := My11) hown (mvT hZ (ww hw 58 rfl)) (mvT hZ (ww hw 59 rfl)) (notFace_of_selects (args := #[]) (mvT hZ (ww hw 61 rfl))) (mvT hZ (ww hw 61 rfl)) (mvT hZ (ww hw 60 rfl)) (by decide) (backOf (W := 0) (rm11_3 l Z a0 hw [] z_COMPACT_STRINGS b1 b6_4 b1_3_2_8_4 b6_11 b1_3_2_8_11 b6_7 b1_3_2_8_7 b6_86 b1_3_2_8_86 k1_3_2_8_4 k1_3_2_8_11 k1_3_2_8_7 k1_3_2_8_86 p3 (bb (bb (cc (cc (p0 &&& (255 : Int32)))))) (bb (bb (cc (cc (((p0.toUInt32 >>> ((8 : Int32) &&& 31).toUInt32).toInt32) &&& (255 : Int32)))))) (bb (bb (cc (cc (p2 &&& (255 : Int32)))))) (bb (bb (cc (cc (((p2.toUInt32 >>> ((8 : Int32) &&& 31).toUInt32).toInt32) &&& (255 : Int32)))))) (bb (bb (cc (cc (p1 &&& (255 : Int32)))))) (bb (bb (cc (cc (((p1.toUInt32 >>> ((8 : Int32) &&& 31).toUInt32).toInt32) &&& (255 : Int32)))))) (bb (bb (cc (cc (p0 &&& (255 : Int32)))))) (bb (bb (cc (cc (((p0.toUInt32 >>> ((8 : Int32) &&& 31).toUInt32).toInt32) &&& (255 : Int32)))))) T86.heap n0 O86 S P0_86) hZ (ww hw 62 rfl) (ww hw 2 rfl) (by decide) (by decide)) q116a q116c (g := (mkF m 208 #[vi p0, vi p1, vi p2, vi p3, vi p4, vi f5, vi f6, vi f7, vi f8, vi f9, va b1, va b31, vi 0, va b6_86] [(.ref b6_86), (.ref b1)])) rfl (by rw [hml]; rfl) (Steps.refl _) (argsL := [(.ref b6_86)]) (rest := []) (lenOf pd_10 rfl) rfl (by show 2 * 0 + _ ≤ _; exact Nat.le_of_eq rfl) (hb hby at_208) (fun _ _ => ⟨rfl, e115, (by decide : 23 + 0 ≤ _), (by decide : 64 + 0 ≤ _)⟩)
      dsimp only [Pt.U, Pt.locs, Pt.cells, Pt.slots] at X116 l116 y116 z116 st116 hQ116
      subst l116 y116 z116
      obtain ⟨rfl, Nq116, e116⟩ := hQ116
      have N116 := Fr.app N115 Nq116
      obtain ⟨fs, hr, hrun, hended, hW, hsame⟩ := X116.leave (v := (some (.int 1))) (fun h => by rw [hrt] at h; cases h)
      refine ⟨_, _, pre_101 _ ?_, hrun, hended, _, _, rfl, ?_, ⟨_, rfl⟩, hW, hsame.mono (by decide) (by decide)⟩
      · show Steps p.tables e below (T86.setTop (mkF m 165 #[vi p0, vi p1, vi p2, vi p3, vi p4, vi f5, vi f6, vi f7, vi f8, vi f9, va b1, va b31, vi 0, va b6_86] [(.ref b31), (.ref b1)])) _
        refine st105.trans ?_
        refine XS.iload X105.here hx rfl (hb hby at_168) rfl ?_
        refine XS.icmpNo X105.here hx rfl (hb hby at_170) rfl (teq (by decide : (0 : Int32) = (0 : Int32))).2 ?_
        refine XS.aload X105.here hx rfl (hb hby at_173) rfl rfl ?_
        refine XS.aload X105.here hx rfl (hb hby at_175) rfl rfl ?_
        refine st107.trans ?_
        refine XS.iload X107.here hx rfl (hb hby at_180) rfl ?_
        refine XS.icmpNo X107.here hx rfl (hb hby at_182) rfl (teq (by decide : (0 : Int32) = (0 : Int32))).2 ?_
        show Steps p.tables e below (T107.setTop (mkF m 185 #[vi p0, vi p1, vi p2, vi p3, vi p4, vi f5, vi f6, vi f7, vi f8, vi f9, va b1, va b31, vi 0, va b6_86] [])) _
        refine XS.aload X107.here hx rfl (hb hby at_185) rfl rfl ?_
        refine XS.aload X107.here hx rfl (hb hby at_187) rfl rfl ?_
        refine st114.trans ?_
        refine XS.ifNo X114.here hx rfl (hb hby at_192) rfl ((if0 _ _).trans (feq (by decide : ¬ ((1 : Int32) = (0 : Int32)))).1) ?_
        refine XS.aload X114.here hx rfl (hb hby at_195) rfl rfl ?_
        refine XS.aconstNull X114.here hx rfl (hb hby at_197) ?_
        refine st115.trans ?_
        refine XS.ifNo X115.here hx rfl (hb hby at_201) rfl ((if0 _ _).trans (teq (by decide : (0 : Int32) = (0 : Int32))).2) ?_
        show Steps p.tables e below (T115.setTop (mkF m 204 #[vi p0, vi p1, vi p2, vi p3, vi p4, vi f5, vi f6, vi f7, vi f8, vi f9, va b1, va b31, vi 0, va b6_86] [])) _
        refine XS.aload X115.here hx rfl (hb hby at_204) rfl rfl ?_
        refine XS.aload X115.here hx rfl (hb hby at_206) rfl rfl ?_
        refine st116.trans ?_
        refine XS.ifNo X116.here hx rfl (hb hby at_211) rfl ((if0 _ _).trans (teq (by decide : (0 : Int32) = (0 : Int32))).2) ?_
        refine XS.iconst X116.here hx rfl (hb hby at_214) ?_
        refine XS.goto X116.here hx rfl (pc0 := 215) (pc' := 219) rfl (hb hby at_215) (by decide) (by decide) ?_
        exact retN X116 hx (t := .boolean) hrt (by simp) (hb hby at_219) hr
      · show Q0 n0 (some (.int 1)) T116.heap _
        exact (⟨rfl, N116⟩)
theorem rm0 (l : Launch) (Z : State) (a0 : Array Value) (hw : HW Z a0) (ws : List Jvm.Cond) (z_COMPACT_STRINGS : Int32) (h0 : Heap) (n0 : Nat) (O0 : Old Z n0 h0) (S : SF Z z_COMPACT_STRINGS) (p0 : Int32) (p1 : Int32) (p2 : Int32) (p3 : Int32) (p4 : Int32) (p5 : Int32) :
    Pay l Z x ws code maxLocals ret #[(.int p0), (.int p1), (.int p2), (.int p3), (.int p4), (.int p5)] h0 room_1 (Q0 n0) := by
  refine own_body (plainFor_of_name pn_0) (L0 := #[vi p0, vi p1, vi p2, vi p3, vi p4, vi p5, uu, uu, uu, uu, uu, uu, uu, uu]) (fun _ => by first | rfl | (simp [entryFrame, mkF, argsToLocals, Value.category, maxLocals]; done)) ?_
  intro p e s m below meth c s₁ hrt hlk hx hby hml hZ hown0 hnm X0 e0
  have hown : s.vm.findClass "com/example/darogan/darogan/FrameEqualsPinLaw" = some m.cls := hown0
  have N0 := Fr.nil n0
  have K0 : Keep h0 h0 [] := Keep.refl _ _
  have pre_2 : ∀ t, Steps p.tables e below (s₁.setTop (mkF m 4 #[vi p0, vi p1, vi p2, vi p3, vi p4, vi p5, uu, uu, uu, uu, uu, uu, uu, uu] [(.int (p5 &&& (1 : Int32)))])) t → Steps p.tables e below (s₁.setTop (mkF m 0 #[vi p0, vi p1, vi p2, vi p3, vi p4, vi p5, uu, uu, uu, uu, uu, uu, uu, uu] [])) t := fun t k => (by
    show Steps p.tables e below (s₁.setTop (mkF m 0 #[vi p0, vi p1, vi p2, vi p3, vi p4, vi p5, uu, uu, uu, uu, uu, uu, uu, uu] [])) _
    refine XS.iload X0.here hx rfl (hb hby at_0) rfl ?_
    refine XS.iconst X0.here hx rfl (hb hby at_2) ?_
    refine XS.iand X0.here hx rfl (hb hby at_3) rfl ?_
    exact k)
  by_cases hc1 : (p5 &&& (1 : Int32)) = (0 : Int32)
  · obtain ⟨v0, hv0⟩ : ∃ z : Int32, z = ((p0.toUInt32 >>> ((16 : Int32) &&& 31).toUInt32).toInt32) := ⟨_, rfl⟩
    have pre_4 : ∀ t, Steps p.tables e below (s₁.setTop (mkF m 21 #[vi p0, vi p1, vi p2, vi p3, vi p4, vi p5, vi v0, uu, uu, uu, uu, uu, uu, uu] [(.int (p5 &&& (2 : Int32)))])) t → Steps p.tables e below (s₁.setTop (mkF m 0 #[vi p0, vi p1, vi p2, vi p3, vi p4, vi p5, uu, uu, uu, uu, uu, uu, uu, uu] [])) t := fun t k => pre_2 t (by
      show Steps p.tables e below (s₁.setTop (mkF m 4 #[vi p0, vi p1, vi p2, vi p3, vi p4, vi p5, uu, uu, uu, uu, uu, uu, uu, uu] [(.int (p5 &&& (1 : Int32)))])) _
      refine XS.ifYes X0.here hx rfl (pc0 := 4) (pc' := 11) rfl (hb hby at_4) rfl ((if0 _ _).trans (teq hc1).1) (by decide) (by decide) ?_
      refine XS.iloadN X0.here hx rfl (hb hby at_11) rfl ?_
      refine XS.bipush X0.here hx rfl (hb hby at_12) ?_
      refine XS.iushr X0.here hx rfl (hb hby at_14) rfl ?_
      show Steps p.tables e below (s₁.setTop (mkF m 15 #[vi p0, vi p1, vi p2, vi p3, vi p4, vi p5, uu, uu, uu, uu, uu, uu, uu, uu] [(.int ((p0.toUInt32 >>> ((16 : Int32) &&& 31).toUInt32).toInt32))])) _
      rw [← hv0]
      refine XS.istore X0.here hx rfl (hb hby at_15) rfl (l' := #[vi p0, vi p1, vi p2, vi p3, vi p4, vi p5, vi v0, uu, uu, uu, uu, uu, uu, uu]) rfl ?_
      refine XS.iload X0.here hx rfl (hb hby at_17) rfl ?_
      refine XS.iconst X0.here hx rfl (hb hby at_19) ?_
      refine XS.iand X0.here hx rfl (hb hby at_20) rfl ?_
      exact k)
    by_cases hc3 : (p5 &&& (2 : Int32)) = (0 : Int32)
    · obtain ⟨v1, hv1⟩ : ∃ z : Int32, z = ((p1.toUInt32 >>> ((16 : Int32) &&& 31).toUInt32).toInt32) := ⟨_, rfl⟩
      have pre_6 : ∀ t, Steps p.tables e below (s₁.setTop (mkF m 38 #[vi p0, vi p1, vi p2, vi p3, vi p4, vi p5, vi v0, vi v1, uu, uu, uu, uu, uu, uu] [(.int (p5 &&& (4 : Int32)))])) t → Steps p.tables e below (s₁.setTop (mkF m 0 #[vi p0, vi p1, vi p2, vi p3, vi p4, vi p5, uu, uu, uu, uu, uu, uu, uu, uu] [])) t := fun t k => pre_4 t (by
        show Steps p.tables e below (s₁.setTop (mkF m 21 #[vi p0, vi p1, vi p2, vi p3, vi p4, vi p5, vi v0, uu, uu, uu, uu, uu, uu, uu] [(.int (p5 &&& (2 : Int32)))])) _
        refine XS.ifYes X0.here hx rfl (pc0 := 21) (pc' := 28) rfl (hb hby at_21) rfl ((if0 _ _).trans (teq hc3).1) (by decide) (by decide) ?_
        refine XS.iloadN X0.here hx rfl (hb hby at_28) rfl ?_
        refine XS.bipush X0.here hx rfl (hb hby at_29) ?_
        refine XS.iushr X0.here hx rfl (hb hby at_31) rfl ?_
        show Steps p.tables e below (s₁.setTop (mkF m 32 #[vi p0, vi p1, vi p2, vi p3, vi p4, vi p5, vi v0, uu, uu, uu, uu, uu, uu, uu] [(.int ((p1.toUInt32 >>> ((16 : Int32) &&& 31).toUInt32).toInt32))])) _
        rw [← hv1]
        refine XS.istore X0.here hx rfl (hb hby at_32) rfl (l' := #[vi p0, vi p1, vi p2, vi p3, vi p4, vi p5, vi v0, vi v1, uu, uu, uu, uu, uu, uu]) rfl ?_
        refine XS.iload X0.here hx rfl (hb hby at_34) rfl ?_
        refine XS.iconst X0.here hx rfl (hb hby at_36) ?_
        refine XS.iand X0.here hx rfl (hb hby at_37) rfl ?_
        exact k)
      by_cases hc5 : (p5 &&& (4 : Int32)) = (0 : Int32)
      · obtain ⟨v2, hv2⟩ : ∃ z : Int32, z = ((p2.toUInt32 >>> ((16 : Int32) &&& 31).toUInt32).toInt32) := ⟨_, rfl⟩
        have pre_8 : ∀ t, Steps p.tables e below (s₁.setTop (mkF m 56 #[vi p0, vi p1, vi p2, vi p3, vi p4, vi p5, vi v0, vi v1, vi v2, uu, uu, uu, uu, uu] [(.int (p5 &&& (8 : Int32)))])) t → Steps p.tables e below (s₁.setTop (mkF m 0 #[vi p0, vi p1, vi p2, vi p3, vi p4, vi p5, uu, uu, uu, uu, uu, uu, uu, uu] [])) t := fun t k => pre_6 t (by
          show Steps p.tables e below (s₁.setTop (mkF m 38 #[vi p0, vi p1, vi p2, vi p3, vi p4, vi p5, vi v0, vi v1, uu, uu, uu, uu, uu, uu] [(.int (p5 &&& (4 : Int32)))])) _
          refine XS.ifYes X0.here hx rfl (pc0 := 38) (pc' := 45) rfl (hb hby at_38) rfl ((if0 _ _).trans (teq hc5).1) (by decide) (by decide) ?_
          refine XS.iloadN X0.here hx rfl (hb hby at_45) rfl ?_
          refine XS.bipush X0.here hx rfl (hb hby at_46) ?_
          refine XS.iushr X0.here hx rfl (hb hby at_48) rfl ?_
          show Steps p.tables e below (s₁.setTop (mkF m 49 #[vi p0, vi p1, vi p2, vi p3, vi p4, vi p5, vi v0, vi v1, uu, uu, uu, uu, uu, uu] [(.int ((p2.toUInt32 >>> ((16 : Int32) &&& 31).toUInt32).toInt32))])) _
          rw [← hv2]
          refine XS.istore X0.here hx rfl (hb hby at_49) rfl (l' := #[vi p0, vi p1, vi p2, vi p3, vi p4, vi p5, vi v0, vi v1, vi v2, uu, uu, uu, uu, uu]) rfl ?_
          refine XS.iload X0.here hx rfl (hb hby at_51) rfl ?_
          refine XS.bipush X0.here hx rfl (hb hby at_53) ?_
          refine XS.iand X0.here hx rfl (hb hby at_55) rfl ?_
          exact k)
        by_cases hc7 : (p5 &&& (8 : Int32)) = (0 : Int32)
        · have pre_9 : ∀ t, Steps p.tables e below (s₁.setTop (mkF m 67 #[vi p0, vi p1, vi p2, vi p3, vi p4, vi p5, vi v0, vi v1, vi v2, vi p4, uu, uu, uu, uu] [])) t → Steps p.tables e below (s₁.setTop (mkF m 0 #[vi p0, vi p1, vi p2, vi p3, vi p4, vi p5, uu, uu, uu, uu, uu, uu, uu, uu] [])) t := fun t k => pre_8 t (by
            show Steps p.tables e below (s₁.setTop (mkF m 56 #[vi p0, vi p1, vi p2, vi p3, vi p4, vi p5, vi v0, vi v1, vi v2, uu, uu, uu, uu, uu] [(.int (p5 &&& (8 : Int32)))])) _
            refine XS.ifYes X0.here hx rfl (pc0 := 56) (pc' := 63) rfl (hb hby at_56) rfl ((if0 _ _).trans (teq hc7).1) (by decide) (by decide) ?_
            refine XS.iload X0.here hx rfl (hb hby at_63) rfl ?_
            refine XS.istore X0.here hx rfl (hb hby at_65) rfl (l' := #[vi p0, vi p1, vi p2, vi p3, vi p4, vi p5, vi v0, vi v1, vi v2, vi p4, uu, uu, uu, uu]) rfl ?_
            exact k)
          obtain ⟨U, o, st, rest⟩ := jn1 (a0 := a0) hx hZ hby hml hown hrt hlk hw z_COMPACT_STRINGS  p0 p1 p2 p3 p4 p5  p5 v0 v1 v2 p4 (X0.more (by decide) (by decide)) e0 N0 O0 S 
          exact ⟨U, o, pre_9 _ st, rest⟩
        · have pre_9 : ∀ t, Steps p.tables e below (s₁.setTop (mkF m 67 #[vi p0, vi p1, vi p2, vi p3, vi p4, vi p5, vi v0, vi v1, vi v2, vi p3, uu, uu, uu, uu] [])) t → Steps p.tables e below (s₁.setTop (mkF m 0 #[vi p0, vi p1, vi p2, vi p3, vi p4, vi p5, uu, uu, uu, uu, uu, uu, uu, uu] [])) t := fun t k => pre_8 t (by
            show Steps p.tables e below (s₁.setTop (mkF m 56 #[vi p0, vi p1, vi p2, vi p3, vi p4, vi p5, vi v0, vi v1, vi v2, uu, uu, uu, uu, uu] [(.int (p5 &&& (8 : Int32)))])) _
            refine XS.ifNo X0.here hx rfl (hb hby at_56) rfl ((if0 _ _).trans (feq hc7).1) ?_
            refine XS.iloadN X0.here hx rfl (hb hby at_59) rfl ?_
            refine XS.goto X0.here hx rfl (pc0 := 60) (pc' := 65) rfl (hb hby at_60) (by decide) (by decide) ?_
            refine XS.istore X0.here hx rfl (hb hby at_65) rfl (l' := #[vi p0, vi p1, vi p2, vi p3, vi p4, vi p5, vi v0, vi v1, vi v2, vi p3, uu, uu, uu, uu]) rfl ?_
            exact k)
          obtain ⟨U, o, st, rest⟩ := jn1 (a0 := a0) hx hZ hby hml hown hrt hlk hw z_COMPACT_STRINGS  p0 p1 p2 p3 p4 p5  p5 v0 v1 v2 p3 (X0.more (by decide) (by decide)) e0 N0 O0 S 
          exact ⟨U, o, pre_9 _ st, rest⟩
      · have pre_8 : ∀ t, Steps p.tables e below (s₁.setTop (mkF m 56 #[vi p0, vi p1, vi p2, vi p3, vi p4, vi p5, vi v0, vi v1, vi p2, uu, uu, uu, uu, uu] [(.int (p5 &&& (8 : Int32)))])) t → Steps p.tables e below (s₁.setTop (mkF m 0 #[vi p0, vi p1, vi p2, vi p3, vi p4, vi p5, uu, uu, uu, uu, uu, uu, uu, uu] [])) t := fun t k => pre_6 t (by
          show Steps p.tables e below (s₁.setTop (mkF m 38 #[vi p0, vi p1, vi p2, vi p3, vi p4, vi p5, vi v0, vi v1, uu, uu, uu, uu, uu, uu] [(.int (p5 &&& (4 : Int32)))])) _
          refine XS.ifNo X0.here hx rfl (hb hby at_38) rfl ((if0 _ _).trans (feq hc5).1) ?_
          refine XS.iloadN X0.here hx rfl (hb hby at_41) rfl ?_
          refine XS.goto X0.here hx rfl (pc0 := 42) (pc' := 49) rfl (hb hby at_42) (by decide) (by decide) ?_
          refine XS.istore X0.here hx rfl (hb hby at_49) rfl (l' := #[vi p0, vi p1, vi p2, vi p3, vi p4, vi p5, vi v0, vi v1, vi p2, uu, uu, uu, uu, uu]) rfl ?_
          refine XS.iload X0.here hx rfl (hb hby at_51) rfl ?_
          refine XS.bipush X0.here hx rfl (hb hby at_53) ?_
          refine XS.iand X0.here hx rfl (hb hby at_55) rfl ?_
          exact k)
        by_cases hc7 : (p5 &&& (8 : Int32)) = (0 : Int32)
        · have pre_9 : ∀ t, Steps p.tables e below (s₁.setTop (mkF m 67 #[vi p0, vi p1, vi p2, vi p3, vi p4, vi p5, vi v0, vi v1, vi p2, vi p4, uu, uu, uu, uu] [])) t → Steps p.tables e below (s₁.setTop (mkF m 0 #[vi p0, vi p1, vi p2, vi p3, vi p4, vi p5, uu, uu, uu, uu, uu, uu, uu, uu] [])) t := fun t k => pre_8 t (by
            show Steps p.tables e below (s₁.setTop (mkF m 56 #[vi p0, vi p1, vi p2, vi p3, vi p4, vi p5, vi v0, vi v1, vi p2, uu, uu, uu, uu, uu] [(.int (p5 &&& (8 : Int32)))])) _
            refine XS.ifYes X0.here hx rfl (pc0 := 56) (pc' := 63) rfl (hb hby at_56) rfl ((if0 _ _).trans (teq hc7).1) (by decide) (by decide) ?_
            refine XS.iload X0.here hx rfl (hb hby at_63) rfl ?_
            refine XS.istore X0.here hx rfl (hb hby at_65) rfl (l' := #[vi p0, vi p1, vi p2, vi p3, vi p4, vi p5, vi v0, vi v1, vi p2, vi p4, uu, uu, uu, uu]) rfl ?_
            exact k)
          obtain ⟨U, o, st, rest⟩ := jn1 (a0 := a0) hx hZ hby hml hown hrt hlk hw z_COMPACT_STRINGS  p0 p1 p2 p3 p4 p5  p5 v0 v1 p2 p4 (X0.more (by decide) (by decide)) e0 N0 O0 S 
          exact ⟨U, o, pre_9 _ st, rest⟩
        · have pre_9 : ∀ t, Steps p.tables e below (s₁.setTop (mkF m 67 #[vi p0, vi p1, vi p2, vi p3, vi p4, vi p5, vi v0, vi v1, vi p2, vi p3, uu, uu, uu, uu] [])) t → Steps p.tables e below (s₁.setTop (mkF m 0 #[vi p0, vi p1, vi p2, vi p3, vi p4, vi p5, uu, uu, uu, uu, uu, uu, uu, uu] [])) t := fun t k => pre_8 t (by
            show Steps p.tables e below (s₁.setTop (mkF m 56 #[vi p0, vi p1, vi p2, vi p3, vi p4, vi p5, vi v0, vi v1, vi p2, uu, uu, uu, uu, uu] [(.int (p5 &&& (8 : Int32)))])) _
            refine XS.ifNo X0.here hx rfl (hb hby at_56) rfl ((if0 _ _).trans (feq hc7).1) ?_
            refine XS.iloadN X0.here hx rfl (hb hby at_59) rfl ?_
            refine XS.goto X0.here hx rfl (pc0 := 60) (pc' := 65) rfl (hb hby at_60) (by decide) (by decide) ?_
            refine XS.istore X0.here hx rfl (hb hby at_65) rfl (l' := #[vi p0, vi p1, vi p2, vi p3, vi p4, vi p5, vi v0, vi v1, vi p2, vi p3, uu, uu, uu, uu]) rfl ?_
            exact k)
          obtain ⟨U, o, st, rest⟩ := jn1 (a0 := a0) hx hZ hby hml hown hrt hlk hw z_COMPACT_STRINGS  p0 p1 p2 p3 p4 p5  p5 v0 v1 p2 p3 (X0.more (by decide) (by decide)) e0 N0 O0 S 
          exact ⟨U, o, pre_9 _ st, rest⟩
    · have pre_6 : ∀ t, Steps p.tables e below (s₁.setTop (mkF m 38 #[vi p0, vi p1, vi p2, vi p3, vi p4, vi p5, vi v0, vi p1, uu, uu, uu, uu, uu, uu] [(.int (p5 &&& (4 : Int32)))])) t → Steps p.tables e below (s₁.setTop (mkF m 0 #[vi p0, vi p1, vi p2, vi p3, vi p4, vi p5, uu, uu, uu, uu, uu, uu, uu, uu] [])) t := fun t k => pre_4 t (by
        show Steps p.tables e below (s₁.setTop (mkF m 21 #[vi p0, vi p1, vi p2, vi p3, vi p4, vi p5, vi v0, uu, uu, uu, uu, uu, uu, uu] [(.int (p5 &&& (2 : Int32)))])) _
        refine XS.ifNo X0.here hx rfl (hb hby at_21) rfl ((if0 _ _).trans (feq hc3).1) ?_
        refine XS.iloadN X0.here hx rfl (hb hby at_24) rfl ?_
        refine XS.goto X0.here hx rfl (pc0 := 25) (pc' := 32) rfl (hb hby at_25) (by decide) (by decide) ?_
        refine XS.istore X0.here hx rfl (hb hby at_32) rfl (l' := #[vi p0, vi p1, vi p2, vi p3, vi p4, vi p5, vi v0, vi p1, uu, uu, uu, uu, uu, uu]) rfl ?_
        refine XS.iload X0.here hx rfl (hb hby at_34) rfl ?_
        refine XS.iconst X0.here hx rfl (hb hby at_36) ?_
        refine XS.iand X0.here hx rfl (hb hby at_37) rfl ?_
        exact k)
      by_cases hc5 : (p5 &&& (4 : Int32)) = (0 : Int32)
      · obtain ⟨v3, hv3⟩ : ∃ z : Int32, z = ((p2.toUInt32 >>> ((16 : Int32) &&& 31).toUInt32).toInt32) := ⟨_, rfl⟩
        have pre_8 : ∀ t, Steps p.tables e below (s₁.setTop (mkF m 56 #[vi p0, vi p1, vi p2, vi p3, vi p4, vi p5, vi v0, vi p1, vi v3, uu, uu, uu, uu, uu] [(.int (p5 &&& (8 : Int32)))])) t → Steps p.tables e below (s₁.setTop (mkF m 0 #[vi p0, vi p1, vi p2, vi p3, vi p4, vi p5, uu, uu, uu, uu, uu, uu, uu, uu] [])) t := fun t k => pre_6 t (by
          show Steps p.tables e below (s₁.setTop (mkF m 38 #[vi p0, vi p1, vi p2, vi p3, vi p4, vi p5, vi v0, vi p1, uu, uu, uu, uu, uu, uu] [(.int (p5 &&& (4 : Int32)))])) _
          refine XS.ifYes X0.here hx rfl (pc0 := 38) (pc' := 45) rfl (hb hby at_38) rfl ((if0 _ _).trans (teq hc5).1) (by decide) (by decide) ?_
          refine XS.iloadN X0.here hx rfl (hb hby at_45) rfl ?_
          refine XS.bipush X0.here hx rfl (hb hby at_46) ?_
          refine XS.iushr X0.here hx rfl (hb hby at_48) rfl ?_
          show Steps p.tables e below (s₁.setTop (mkF m 49 #[vi p0, vi p1, vi p2, vi p3, vi p4, vi p5, vi v0, vi p1, uu, uu, uu, uu, uu, uu] [(.int ((p2.toUInt32 >>> ((16 : Int32) &&& 31).toUInt32).toInt32))])) _
          rw [← hv3]
          refine XS.istore X0.here hx rfl (hb hby at_49) rfl (l' := #[vi p0, vi p1, vi p2, vi p3, vi p4, vi p5, vi v0, vi p1, vi v3, uu, uu, uu, uu, uu]) rfl ?_
          refine XS.iload X0.here hx rfl (hb hby at_51) rfl ?_
          refine XS.bipush X0.here hx rfl (hb hby at_53) ?_
          refine XS.iand X0.here hx rfl (hb hby at_55) rfl ?_
          exact k)
        by_cases hc7 : (p5 &&& (8 : Int32)) = (0 : Int32)
        · have pre_9 : ∀ t, Steps p.tables e below (s₁.setTop (mkF m 67 #[vi p0, vi p1, vi p2, vi p3, vi p4, vi p5, vi v0, vi p1, vi v3, vi p4, uu, uu, uu, uu] [])) t → Steps p.tables e below (s₁.setTop (mkF m 0 #[vi p0, vi p1, vi p2, vi p3, vi p4, vi p5, uu, uu, uu, uu, uu, uu, uu, uu] [])) t := fun t k => pre_8 t (by
            show Steps p.tables e below (s₁.setTop (mkF m 56 #[vi p0, vi p1, vi p2, vi p3, vi p4, vi p5, vi v0, vi p1, vi v3, uu, uu, uu, uu, uu] [(.int (p5 &&& (8 : Int32)))])) _
            refine XS.ifYes X0.here hx rfl (pc0 := 56) (pc' := 63) rfl (hb hby at_56) rfl ((if0 _ _).trans (teq hc7).1) (by decide) (by decide) ?_
            refine XS.iload X0.here hx rfl (hb hby at_63) rfl ?_
            refine XS.istore X0.here hx rfl (hb hby at_65) rfl (l' := #[vi p0, vi p1, vi p2, vi p3, vi p4, vi p5, vi v0, vi p1, vi v3, vi p4, uu, uu, uu, uu]) rfl ?_
            exact k)
          obtain ⟨U, o, st, rest⟩ := jn1 (a0 := a0) hx hZ hby hml hown hrt hlk hw z_COMPACT_STRINGS  p0 p1 p2 p3 p4 p5  p5 v0 p1 v3 p4 (X0.more (by decide) (by decide)) e0 N0 O0 S 
          exact ⟨U, o, pre_9 _ st, rest⟩
        · have pre_9 : ∀ t, Steps p.tables e below (s₁.setTop (mkF m 67 #[vi p0, vi p1, vi p2, vi p3, vi p4, vi p5, vi v0, vi p1, vi v3, vi p3, uu, uu, uu, uu] [])) t → Steps p.tables e below (s₁.setTop (mkF m 0 #[vi p0, vi p1, vi p2, vi p3, vi p4, vi p5, uu, uu, uu, uu, uu, uu, uu, uu] [])) t := fun t k => pre_8 t (by
            show Steps p.tables e below (s₁.setTop (mkF m 56 #[vi p0, vi p1, vi p2, vi p3, vi p4, vi p5, vi v0, vi p1, vi v3, uu, uu, uu, uu, uu] [(.int (p5 &&& (8 : Int32)))])) _
            refine XS.ifNo X0.here hx rfl (hb hby at_56) rfl ((if0 _ _).trans (feq hc7).1) ?_
            refine XS.iloadN X0.here hx rfl (hb hby at_59) rfl ?_
            refine XS.goto X0.here hx rfl (pc0 := 60) (pc' := 65) rfl (hb hby at_60) (by decide) (by decide) ?_
            refine XS.istore X0.here hx rfl (hb hby at_65) rfl (l' := #[vi p0, vi p1, vi p2, vi p3, vi p4, vi p5, vi v0, vi p1, vi v3, vi p3, uu, uu, uu, uu]) rfl ?_
            exact k)
          obtain ⟨U, o, st, rest⟩ := jn1 (a0 := a0) hx hZ hby hml hown hrt hlk hw z_COMPACT_STRINGS  p0 p1 p2 p3 p4 p5  p5 v0 p1 v3 p3 (X0.more (by decide) (by decide)) e0 N0 O0 S 
          exact ⟨U, o, pre_9 _ st, rest⟩
      · have pre_8 : ∀ t, Steps p.tables e below (s₁.setTop (mkF m 56 #[vi p0, vi p1, vi p2, vi p3, vi p4, vi p5, vi v0, vi p1, vi p2, uu, uu, uu, uu, uu] [(.int (p5 &&& (8 : Int32)))])) t → Steps p.tables e below (s₁.setTop (mkF m 0 #[vi p0, vi p1, vi p2, vi p3, vi p4, vi p5, uu, uu, uu, uu, uu, uu, uu, uu] [])) t := fun t k => pre_6 t (by
          show Steps p.tables e below (s₁.setTop (mkF m 38 #[vi p0, vi p1, vi p2, vi p3, vi p4, vi p5, vi v0, vi p1, uu, uu, uu, uu, uu, uu] [(.int (p5 &&& (4 : Int32)))])) _
          refine XS.ifNo X0.here hx rfl (hb hby at_38) rfl ((if0 _ _).trans (feq hc5).1) ?_
          refine XS.iloadN X0.here hx rfl (hb hby at_41) rfl ?_
          refine XS.goto X0.here hx rfl (pc0 := 42) (pc' := 49) rfl (hb hby at_42) (by decide) (by decide) ?_
          refine XS.istore X0.here hx rfl (hb hby at_49) rfl (l' := #[vi p0, vi p1, vi p2, vi p3, vi p4, vi p5, vi v0, vi p1, vi p2, uu, uu, uu, uu, uu]) rfl ?_
          refine XS.iload X0.here hx rfl (hb hby at_51) rfl ?_
          refine XS.bipush X0.here hx rfl (hb hby at_53) ?_
          refine XS.iand X0.here hx rfl (hb hby at_55) rfl ?_
          exact k)
        by_cases hc7 : (p5 &&& (8 : Int32)) = (0 : Int32)
        · have pre_9 : ∀ t, Steps p.tables e below (s₁.setTop (mkF m 67 #[vi p0, vi p1, vi p2, vi p3, vi p4, vi p5, vi v0, vi p1, vi p2, vi p4, uu, uu, uu, uu] [])) t → Steps p.tables e below (s₁.setTop (mkF m 0 #[vi p0, vi p1, vi p2, vi p3, vi p4, vi p5, uu, uu, uu, uu, uu, uu, uu, uu] [])) t := fun t k => pre_8 t (by
            show Steps p.tables e below (s₁.setTop (mkF m 56 #[vi p0, vi p1, vi p2, vi p3, vi p4, vi p5, vi v0, vi p1, vi p2, uu, uu, uu, uu, uu] [(.int (p5 &&& (8 : Int32)))])) _
            refine XS.ifYes X0.here hx rfl (pc0 := 56) (pc' := 63) rfl (hb hby at_56) rfl ((if0 _ _).trans (teq hc7).1) (by decide) (by decide) ?_
            refine XS.iload X0.here hx rfl (hb hby at_63) rfl ?_
            refine XS.istore X0.here hx rfl (hb hby at_65) rfl (l' := #[vi p0, vi p1, vi p2, vi p3, vi p4, vi p5, vi v0, vi p1, vi p2, vi p4, uu, uu, uu, uu]) rfl ?_
            exact k)
          obtain ⟨U, o, st, rest⟩ := jn1 (a0 := a0) hx hZ hby hml hown hrt hlk hw z_COMPACT_STRINGS  p0 p1 p2 p3 p4 p5  p5 v0 p1 p2 p4 (X0.more (by decide) (by decide)) e0 N0 O0 S 
          exact ⟨U, o, pre_9 _ st, rest⟩
        · have pre_9 : ∀ t, Steps p.tables e below (s₁.setTop (mkF m 67 #[vi p0, vi p1, vi p2, vi p3, vi p4, vi p5, vi v0, vi p1, vi p2, vi p3, uu, uu, uu, uu] [])) t → Steps p.tables e below (s₁.setTop (mkF m 0 #[vi p0, vi p1, vi p2, vi p3, vi p4, vi p5, uu, uu, uu, uu, uu, uu, uu, uu] [])) t := fun t k => pre_8 t (by
            show Steps p.tables e below (s₁.setTop (mkF m 56 #[vi p0, vi p1, vi p2, vi p3, vi p4, vi p5, vi v0, vi p1, vi p2, uu, uu, uu, uu, uu] [(.int (p5 &&& (8 : Int32)))])) _
            refine XS.ifNo X0.here hx rfl (hb hby at_56) rfl ((if0 _ _).trans (feq hc7).1) ?_
            refine XS.iloadN X0.here hx rfl (hb hby at_59) rfl ?_
            refine XS.goto X0.here hx rfl (pc0 := 60) (pc' := 65) rfl (hb hby at_60) (by decide) (by decide) ?_
            refine XS.istore X0.here hx rfl (hb hby at_65) rfl (l' := #[vi p0, vi p1, vi p2, vi p3, vi p4, vi p5, vi v0, vi p1, vi p2, vi p3, uu, uu, uu, uu]) rfl ?_
            exact k)
          obtain ⟨U, o, st, rest⟩ := jn1 (a0 := a0) hx hZ hby hml hown hrt hlk hw z_COMPACT_STRINGS  p0 p1 p2 p3 p4 p5  p5 v0 p1 p2 p3 (X0.more (by decide) (by decide)) e0 N0 O0 S 
          exact ⟨U, o, pre_9 _ st, rest⟩
  · have pre_4 : ∀ t, Steps p.tables e below (s₁.setTop (mkF m 21 #[vi p0, vi p1, vi p2, vi p3, vi p4, vi p5, vi p0, uu, uu, uu, uu, uu, uu, uu] [(.int (p5 &&& (2 : Int32)))])) t → Steps p.tables e below (s₁.setTop (mkF m 0 #[vi p0, vi p1, vi p2, vi p3, vi p4, vi p5, uu, uu, uu, uu, uu, uu, uu, uu] [])) t := fun t k => pre_2 t (by
      show Steps p.tables e below (s₁.setTop (mkF m 4 #[vi p0, vi p1, vi p2, vi p3, vi p4, vi p5, uu, uu, uu, uu, uu, uu, uu, uu] [(.int (p5 &&& (1 : Int32)))])) _
      refine XS.ifNo X0.here hx rfl (hb hby at_4) rfl ((if0 _ _).trans (feq hc1).1) ?_
      refine XS.iloadN X0.here hx rfl (hb hby at_7) rfl ?_
      refine XS.goto X0.here hx rfl (pc0 := 8) (pc' := 15) rfl (hb hby at_8) (by decide) (by decide) ?_
      refine XS.istore X0.here hx rfl (hb hby at_15) rfl (l' := #[vi p0, vi p1, vi p2, vi p3, vi p4, vi p5, vi p0, uu, uu, uu, uu, uu, uu, uu]) rfl ?_
      refine XS.iload X0.here hx rfl (hb hby at_17) rfl ?_
      refine XS.iconst X0.here hx rfl (hb hby at_19) ?_
      refine XS.iand X0.here hx rfl (hb hby at_20) rfl ?_
      exact k)
    by_cases hc3 : (p5 &&& (2 : Int32)) = (0 : Int32)
    · obtain ⟨v4, hv4⟩ : ∃ z : Int32, z = ((p1.toUInt32 >>> ((16 : Int32) &&& 31).toUInt32).toInt32) := ⟨_, rfl⟩
      have pre_6 : ∀ t, Steps p.tables e below (s₁.setTop (mkF m 38 #[vi p0, vi p1, vi p2, vi p3, vi p4, vi p5, vi p0, vi v4, uu, uu, uu, uu, uu, uu] [(.int (p5 &&& (4 : Int32)))])) t → Steps p.tables e below (s₁.setTop (mkF m 0 #[vi p0, vi p1, vi p2, vi p3, vi p4, vi p5, uu, uu, uu, uu, uu, uu, uu, uu] [])) t := fun t k => pre_4 t (by
        show Steps p.tables e below (s₁.setTop (mkF m 21 #[vi p0, vi p1, vi p2, vi p3, vi p4, vi p5, vi p0, uu, uu, uu, uu, uu, uu, uu] [(.int (p5 &&& (2 : Int32)))])) _
        refine XS.ifYes X0.here hx rfl (pc0 := 21) (pc' := 28) rfl (hb hby at_21) rfl ((if0 _ _).trans (teq hc3).1) (by decide) (by decide) ?_
        refine XS.iloadN X0.here hx rfl (hb hby at_28) rfl ?_
        refine XS.bipush X0.here hx rfl (hb hby at_29) ?_
        refine XS.iushr X0.here hx rfl (hb hby at_31) rfl ?_
        show Steps p.tables e below (s₁.setTop (mkF m 32 #[vi p0, vi p1, vi p2, vi p3, vi p4, vi p5, vi p0, uu, uu, uu, uu, uu, uu, uu] [(.int ((p1.toUInt32 >>> ((16 : Int32) &&& 31).toUInt32).toInt32))])) _
        rw [← hv4]
        refine XS.istore X0.here hx rfl (hb hby at_32) rfl (l' := #[vi p0, vi p1, vi p2, vi p3, vi p4, vi p5, vi p0, vi v4, uu, uu, uu, uu, uu, uu]) rfl ?_
        refine XS.iload X0.here hx rfl (hb hby at_34) rfl ?_
        refine XS.iconst X0.here hx rfl (hb hby at_36) ?_
        refine XS.iand X0.here hx rfl (hb hby at_37) rfl ?_
        exact k)
      by_cases hc5 : (p5 &&& (4 : Int32)) = (0 : Int32)
      · obtain ⟨v5, hv5⟩ : ∃ z : Int32, z = ((p2.toUInt32 >>> ((16 : Int32) &&& 31).toUInt32).toInt32) := ⟨_, rfl⟩
        have pre_8 : ∀ t, Steps p.tables e below (s₁.setTop (mkF m 56 #[vi p0, vi p1, vi p2, vi p3, vi p4, vi p5, vi p0, vi v4, vi v5, uu, uu, uu, uu, uu] [(.int (p5 &&& (8 : Int32)))])) t → Steps p.tables e below (s₁.setTop (mkF m 0 #[vi p0, vi p1, vi p2, vi p3, vi p4, vi p5, uu, uu, uu, uu, uu, uu, uu, uu] [])) t := fun t k => pre_6 t (by
          show Steps p.tables e below (s₁.setTop (mkF m 38 #[vi p0, vi p1, vi p2, vi p3, vi p4, vi p5, vi p0, vi v4, uu, uu, uu, uu, uu, uu] [(.int (p5 &&& (4 : Int32)))])) _
          refine XS.ifYes X0.here hx rfl (pc0 := 38) (pc' := 45) rfl (hb hby at_38) rfl ((if0 _ _).trans (teq hc5).1) (by decide) (by decide) ?_
          refine XS.iloadN X0.here hx rfl (hb hby at_45) rfl ?_
          refine XS.bipush X0.here hx rfl (hb hby at_46) ?_
          refine XS.iushr X0.here hx rfl (hb hby at_48) rfl ?_
          show Steps p.tables e below (s₁.setTop (mkF m 49 #[vi p0, vi p1, vi p2, vi p3, vi p4, vi p5, vi p0, vi v4, uu, uu, uu, uu, uu, uu] [(.int ((p2.toUInt32 >>> ((16 : Int32) &&& 31).toUInt32).toInt32))])) _
          rw [← hv5]
          refine XS.istore X0.here hx rfl (hb hby at_49) rfl (l' := #[vi p0, vi p1, vi p2, vi p3, vi p4, vi p5, vi p0, vi v4, vi v5, uu, uu, uu, uu, uu]) rfl ?_
          refine XS.iload X0.here hx rfl (hb hby at_51) rfl ?_
          refine XS.bipush X0.here hx rfl (hb hby at_53) ?_
          refine XS.iand X0.here hx rfl (hb hby at_55) rfl ?_
          exact k)
        by_cases hc7 : (p5 &&& (8 : Int32)) = (0 : Int32)
        · have pre_9 : ∀ t, Steps p.tables e below (s₁.setTop (mkF m 67 #[vi p0, vi p1, vi p2, vi p3, vi p4, vi p5, vi p0, vi v4, vi v5, vi p4, uu, uu, uu, uu] [])) t → Steps p.tables e below (s₁.setTop (mkF m 0 #[vi p0, vi p1, vi p2, vi p3, vi p4, vi p5, uu, uu, uu, uu, uu, uu, uu, uu] [])) t := fun t k => pre_8 t (by
            show Steps p.tables e below (s₁.setTop (mkF m 56 #[vi p0, vi p1, vi p2, vi p3, vi p4, vi p5, vi p0, vi v4, vi v5, uu, uu, uu, uu, uu] [(.int (p5 &&& (8 : Int32)))])) _
            refine XS.ifYes X0.here hx rfl (pc0 := 56) (pc' := 63) rfl (hb hby at_56) rfl ((if0 _ _).trans (teq hc7).1) (by decide) (by decide) ?_
            refine XS.iload X0.here hx rfl (hb hby at_63) rfl ?_
            refine XS.istore X0.here hx rfl (hb hby at_65) rfl (l' := #[vi p0, vi p1, vi p2, vi p3, vi p4, vi p5, vi p0, vi v4, vi v5, vi p4, uu, uu, uu, uu]) rfl ?_
            exact k)
          obtain ⟨U, o, st, rest⟩ := jn1 (a0 := a0) hx hZ hby hml hown hrt hlk hw z_COMPACT_STRINGS  p0 p1 p2 p3 p4 p5  p5 p0 v4 v5 p4 (X0.more (by decide) (by decide)) e0 N0 O0 S 
          exact ⟨U, o, pre_9 _ st, rest⟩
        · have pre_9 : ∀ t, Steps p.tables e below (s₁.setTop (mkF m 67 #[vi p0, vi p1, vi p2, vi p3, vi p4, vi p5, vi p0, vi v4, vi v5, vi p3, uu, uu, uu, uu] [])) t → Steps p.tables e below (s₁.setTop (mkF m 0 #[vi p0, vi p1, vi p2, vi p3, vi p4, vi p5, uu, uu, uu, uu, uu, uu, uu, uu] [])) t := fun t k => pre_8 t (by
            show Steps p.tables e below (s₁.setTop (mkF m 56 #[vi p0, vi p1, vi p2, vi p3, vi p4, vi p5, vi p0, vi v4, vi v5, uu, uu, uu, uu, uu] [(.int (p5 &&& (8 : Int32)))])) _
            refine XS.ifNo X0.here hx rfl (hb hby at_56) rfl ((if0 _ _).trans (feq hc7).1) ?_
            refine XS.iloadN X0.here hx rfl (hb hby at_59) rfl ?_
            refine XS.goto X0.here hx rfl (pc0 := 60) (pc' := 65) rfl (hb hby at_60) (by decide) (by decide) ?_
            refine XS.istore X0.here hx rfl (hb hby at_65) rfl (l' := #[vi p0, vi p1, vi p2, vi p3, vi p4, vi p5, vi p0, vi v4, vi v5, vi p3, uu, uu, uu, uu]) rfl ?_
            exact k)
          obtain ⟨U, o, st, rest⟩ := jn1 (a0 := a0) hx hZ hby hml hown hrt hlk hw z_COMPACT_STRINGS  p0 p1 p2 p3 p4 p5  p5 p0 v4 v5 p3 (X0.more (by decide) (by decide)) e0 N0 O0 S 
          exact ⟨U, o, pre_9 _ st, rest⟩
      · have pre_8 : ∀ t, Steps p.tables e below (s₁.setTop (mkF m 56 #[vi p0, vi p1, vi p2, vi p3, vi p4, vi p5, vi p0, vi v4, vi p2, uu, uu, uu, uu, uu] [(.int (p5 &&& (8 : Int32)))])) t → Steps p.tables e below (s₁.setTop (mkF m 0 #[vi p0, vi p1, vi p2, vi p3, vi p4, vi p5, uu, uu, uu, uu, uu, uu, uu, uu] [])) t := fun t k => pre_6 t (by
          show Steps p.tables e below (s₁.setTop (mkF m 38 #[vi p0, vi p1, vi p2, vi p3, vi p4, vi p5, vi p0, vi v4, uu, uu, uu, uu, uu, uu] [(.int (p5 &&& (4 : Int32)))])) _
          refine XS.ifNo X0.here hx rfl (hb hby at_38) rfl ((if0 _ _).trans (feq hc5).1) ?_
          refine XS.iloadN X0.here hx rfl (hb hby at_41) rfl ?_
          refine XS.goto X0.here hx rfl (pc0 := 42) (pc' := 49) rfl (hb hby at_42) (by decide) (by decide) ?_
          refine XS.istore X0.here hx rfl (hb hby at_49) rfl (l' := #[vi p0, vi p1, vi p2, vi p3, vi p4, vi p5, vi p0, vi v4, vi p2, uu, uu, uu, uu, uu]) rfl ?_
          refine XS.iload X0.here hx rfl (hb hby at_51) rfl ?_
          refine XS.bipush X0.here hx rfl (hb hby at_53) ?_
          refine XS.iand X0.here hx rfl (hb hby at_55) rfl ?_
          exact k)
        by_cases hc7 : (p5 &&& (8 : Int32)) = (0 : Int32)
        · have pre_9 : ∀ t, Steps p.tables e below (s₁.setTop (mkF m 67 #[vi p0, vi p1, vi p2, vi p3, vi p4, vi p5, vi p0, vi v4, vi p2, vi p4, uu, uu, uu, uu] [])) t → Steps p.tables e below (s₁.setTop (mkF m 0 #[vi p0, vi p1, vi p2, vi p3, vi p4, vi p5, uu, uu, uu, uu, uu, uu, uu, uu] [])) t := fun t k => pre_8 t (by
            show Steps p.tables e below (s₁.setTop (mkF m 56 #[vi p0, vi p1, vi p2, vi p3, vi p4, vi p5, vi p0, vi v4, vi p2, uu, uu, uu, uu, uu] [(.int (p5 &&& (8 : Int32)))])) _
            refine XS.ifYes X0.here hx rfl (pc0 := 56) (pc' := 63) rfl (hb hby at_56) rfl ((if0 _ _).trans (teq hc7).1) (by decide) (by decide) ?_
            refine XS.iload X0.here hx rfl (hb hby at_63) rfl ?_
            refine XS.istore X0.here hx rfl (hb hby at_65) rfl (l' := #[vi p0, vi p1, vi p2, vi p3, vi p4, vi p5, vi p0, vi v4, vi p2, vi p4, uu, uu, uu, uu]) rfl ?_
            exact k)
          obtain ⟨U, o, st, rest⟩ := jn1 (a0 := a0) hx hZ hby hml hown hrt hlk hw z_COMPACT_STRINGS  p0 p1 p2 p3 p4 p5  p5 p0 v4 p2 p4 (X0.more (by decide) (by decide)) e0 N0 O0 S 
          exact ⟨U, o, pre_9 _ st, rest⟩
        · have pre_9 : ∀ t, Steps p.tables e below (s₁.setTop (mkF m 67 #[vi p0, vi p1, vi p2, vi p3, vi p4, vi p5, vi p0, vi v4, vi p2, vi p3, uu, uu, uu, uu] [])) t → Steps p.tables e below (s₁.setTop (mkF m 0 #[vi p0, vi p1, vi p2, vi p3, vi p4, vi p5, uu, uu, uu, uu, uu, uu, uu, uu] [])) t := fun t k => pre_8 t (by
            show Steps p.tables e below (s₁.setTop (mkF m 56 #[vi p0, vi p1, vi p2, vi p3, vi p4, vi p5, vi p0, vi v4, vi p2, uu, uu, uu, uu, uu] [(.int (p5 &&& (8 : Int32)))])) _
            refine XS.ifNo X0.here hx rfl (hb hby at_56) rfl ((if0 _ _).trans (feq hc7).1) ?_
            refine XS.iloadN X0.here hx rfl (hb hby at_59) rfl ?_
            refine XS.goto X0.here hx rfl (pc0 := 60) (pc' := 65) rfl (hb hby at_60) (by decide) (by decide) ?_
            refine XS.istore X0.here hx rfl (hb hby at_65) rfl (l' := #[vi p0, vi p1, vi p2, vi p3, vi p4, vi p5, vi p0, vi v4, vi p2, vi p3, uu, uu, uu, uu]) rfl ?_
            exact k)
          obtain ⟨U, o, st, rest⟩ := jn1 (a0 := a0) hx hZ hby hml hown hrt hlk hw z_COMPACT_STRINGS  p0 p1 p2 p3 p4 p5  p5 p0 v4 p2 p3 (X0.more (by decide) (by decide)) e0 N0 O0 S 
          exact ⟨U, o, pre_9 _ st, rest⟩
    · have pre_6 : ∀ t, Steps p.tables e below (s₁.setTop (mkF m 38 #[vi p0, vi p1, vi p2, vi p3, vi p4, vi p5, vi p0, vi p1, uu, uu, uu, uu, uu, uu] [(.int (p5 &&& (4 : Int32)))])) t → Steps p.tables e below (s₁.setTop (mkF m 0 #[vi p0, vi p1, vi p2, vi p3, vi p4, vi p5, uu, uu, uu, uu, uu, uu, uu, uu] [])) t := fun t k => pre_4 t (by
        show Steps p.tables e below (s₁.setTop (mkF m 21 #[vi p0, vi p1, vi p2, vi p3, vi p4, vi p5, vi p0, uu, uu, uu, uu, uu, uu, uu] [(.int (p5 &&& (2 : Int32)))])) _
        refine XS.ifNo X0.here hx rfl (hb hby at_21) rfl ((if0 _ _).trans (feq hc3).1) ?_
        refine XS.iloadN X0.here hx rfl (hb hby at_24) rfl ?_
        refine XS.goto X0.here hx rfl (pc0 := 25) (pc' := 32) rfl (hb hby at_25) (by decide) (by decide) ?_
        refine XS.istore X0.here hx rfl (hb hby at_32) rfl (l' := #[vi p0, vi p1, vi p2, vi p3, vi p4, vi p5, vi p0, vi p1, uu, uu, uu, uu, uu, uu]) rfl ?_
        refine XS.iload X0.here hx rfl (hb hby at_34) rfl ?_
        refine XS.iconst X0.here hx rfl (hb hby at_36) ?_
        refine XS.iand X0.here hx rfl (hb hby at_37) rfl ?_
        exact k)
      by_cases hc5 : (p5 &&& (4 : Int32)) = (0 : Int32)
      · obtain ⟨v6, hv6⟩ : ∃ z : Int32, z = ((p2.toUInt32 >>> ((16 : Int32) &&& 31).toUInt32).toInt32) := ⟨_, rfl⟩
        have pre_8 : ∀ t, Steps p.tables e below (s₁.setTop (mkF m 56 #[vi p0, vi p1, vi p2, vi p3, vi p4, vi p5, vi p0, vi p1, vi v6, uu, uu, uu, uu, uu] [(.int (p5 &&& (8 : Int32)))])) t → Steps p.tables e below (s₁.setTop (mkF m 0 #[vi p0, vi p1, vi p2, vi p3, vi p4, vi p5, uu, uu, uu, uu, uu, uu, uu, uu] [])) t := fun t k => pre_6 t (by
          show Steps p.tables e below (s₁.setTop (mkF m 38 #[vi p0, vi p1, vi p2, vi p3, vi p4, vi p5, vi p0, vi p1, uu, uu, uu, uu, uu, uu] [(.int (p5 &&& (4 : Int32)))])) _
          refine XS.ifYes X0.here hx rfl (pc0 := 38) (pc' := 45) rfl (hb hby at_38) rfl ((if0 _ _).trans (teq hc5).1) (by decide) (by decide) ?_
          refine XS.iloadN X0.here hx rfl (hb hby at_45) rfl ?_
          refine XS.bipush X0.here hx rfl (hb hby at_46) ?_
          refine XS.iushr X0.here hx rfl (hb hby at_48) rfl ?_
          show Steps p.tables e below (s₁.setTop (mkF m 49 #[vi p0, vi p1, vi p2, vi p3, vi p4, vi p5, vi p0, vi p1, uu, uu, uu, uu, uu, uu] [(.int ((p2.toUInt32 >>> ((16 : Int32) &&& 31).toUInt32).toInt32))])) _
          rw [← hv6]
          refine XS.istore X0.here hx rfl (hb hby at_49) rfl (l' := #[vi p0, vi p1, vi p2, vi p3, vi p4, vi p5, vi p0, vi p1, vi v6, uu, uu, uu, uu, uu]) rfl ?_
          refine XS.iload X0.here hx rfl (hb hby at_51) rfl ?_
          refine XS.bipush X0.here hx rfl (hb hby at_53) ?_
          refine XS.iand X0.here hx rfl (hb hby at_55) rfl ?_
          exact k)
        by_cases hc7 : (p5 &&& (8 : Int32)) = (0 : Int32)
        · have pre_9 : ∀ t, Steps p.tables e below (s₁.setTop (mkF m 67 #[vi p0, vi p1, vi p2, vi p3, vi p4, vi p5, vi p0, vi p1, vi v6, vi p4, uu, uu, uu, uu] [])) t → Steps p.tables e below (s₁.setTop (mkF m 0 #[vi p0, vi p1, vi p2, vi p3, vi p4, vi p5, uu, uu, uu, uu, uu, uu, uu, uu] [])) t := fun t k => pre_8 t (by
            show Steps p.tables e below (s₁.setTop (mkF m 56 #[vi p0, vi p1, vi p2, vi p3, vi p4, vi p5, vi p0, vi p1, vi v6, uu, uu, uu, uu, uu] [(.int (p5 &&& (8 : Int32)))])) _
            refine XS.ifYes X0.here hx rfl (pc0 := 56) (pc' := 63) rfl (hb hby at_56) rfl ((if0 _ _).trans (teq hc7).1) (by decide) (by decide) ?_
            refine XS.iload X0.here hx rfl (hb hby at_63) rfl ?_
            refine XS.istore X0.here hx rfl (hb hby at_65) rfl (l' := #[vi p0, vi p1, vi p2, vi p3, vi p4, vi p5, vi p0, vi p1, vi v6, vi p4, uu, uu, uu, uu]) rfl ?_
            exact k)
          obtain ⟨U, o, st, rest⟩ := jn1 (a0 := a0) hx hZ hby hml hown hrt hlk hw z_COMPACT_STRINGS  p0 p1 p2 p3 p4 p5  p5 p0 p1 v6 p4 (X0.more (by decide) (by decide)) e0 N0 O0 S 
          exact ⟨U, o, pre_9 _ st, rest⟩
        · have pre_9 : ∀ t, Steps p.tables e below (s₁.setTop (mkF m 67 #[vi p0, vi p1, vi p2, vi p3, vi p4, vi p5, vi p0, vi p1, vi v6, vi p3, uu, uu, uu, uu] [])) t → Steps p.tables e below (s₁.setTop (mkF m 0 #[vi p0, vi p1, vi p2, vi p3, vi p4, vi p5, uu, uu, uu, uu, uu, uu, uu, uu] [])) t := fun t k => pre_8 t (by
            show Steps p.tables e below (s₁.setTop (mkF m 56 #[vi p0, vi p1, vi p2, vi p3, vi p4, vi p5, vi p0, vi p1, vi v6, uu, uu, uu, uu, uu] [(.int (p5 &&& (8 : Int32)))])) _
            refine XS.ifNo X0.here hx rfl (hb hby at_56) rfl ((if0 _ _).trans (feq hc7).1) ?_
            refine XS.iloadN X0.here hx rfl (hb hby at_59) rfl ?_
            refine XS.goto X0.here hx rfl (pc0 := 60) (pc' := 65) rfl (hb hby at_60) (by decide) (by decide) ?_
            refine XS.istore X0.here hx rfl (hb hby at_65) rfl (l' := #[vi p0, vi p1, vi p2, vi p3, vi p4, vi p5, vi p0, vi p1, vi v6, vi p3, uu, uu, uu, uu]) rfl ?_
            exact k)
          obtain ⟨U, o, st, rest⟩ := jn1 (a0 := a0) hx hZ hby hml hown hrt hlk hw z_COMPACT_STRINGS  p0 p1 p2 p3 p4 p5  p5 p0 p1 v6 p3 (X0.more (by decide) (by decide)) e0 N0 O0 S 
          exact ⟨U, o, pre_9 _ st, rest⟩
      · have pre_8 : ∀ t, Steps p.tables e below (s₁.setTop (mkF m 56 #[vi p0, vi p1, vi p2, vi p3, vi p4, vi p5, vi p0, vi p1, vi p2, uu, uu, uu, uu, uu] [(.int (p5 &&& (8 : Int32)))])) t → Steps p.tables e below (s₁.setTop (mkF m 0 #[vi p0, vi p1, vi p2, vi p3, vi p4, vi p5, uu, uu, uu, uu, uu, uu, uu, uu] [])) t := fun t k => pre_6 t (by
          show Steps p.tables e below (s₁.setTop (mkF m 38 #[vi p0, vi p1, vi p2, vi p3, vi p4, vi p5, vi p0, vi p1, uu, uu, uu, uu, uu, uu] [(.int (p5 &&& (4 : Int32)))])) _
          refine XS.ifNo X0.here hx rfl (hb hby at_38) rfl ((if0 _ _).trans (feq hc5).1) ?_
          refine XS.iloadN X0.here hx rfl (hb hby at_41) rfl ?_
          refine XS.goto X0.here hx rfl (pc0 := 42) (pc' := 49) rfl (hb hby at_42) (by decide) (by decide) ?_
          refine XS.istore X0.here hx rfl (hb hby at_49) rfl (l' := #[vi p0, vi p1, vi p2, vi p3, vi p4, vi p5, vi p0, vi p1, vi p2, uu, uu, uu, uu, uu]) rfl ?_
          refine XS.iload X0.here hx rfl (hb hby at_51) rfl ?_
          refine XS.bipush X0.here hx rfl (hb hby at_53) ?_
          refine XS.iand X0.here hx rfl (hb hby at_55) rfl ?_
          exact k)
        by_cases hc7 : (p5 &&& (8 : Int32)) = (0 : Int32)
        · have pre_9 : ∀ t, Steps p.tables e below (s₁.setTop (mkF m 67 #[vi p0, vi p1, vi p2, vi p3, vi p4, vi p5, vi p0, vi p1, vi p2, vi p4, uu, uu, uu, uu] [])) t → Steps p.tables e below (s₁.setTop (mkF m 0 #[vi p0, vi p1, vi p2, vi p3, vi p4, vi p5, uu, uu, uu, uu, uu, uu, uu, uu] [])) t := fun t k => pre_8 t (by
            show Steps p.tables e below (s₁.setTop (mkF m 56 #[vi p0, vi p1, vi p2, vi p3, vi p4, vi p5, vi p0, vi p1, vi p2, uu, uu, uu, uu, uu] [(.int (p5 &&& (8 : Int32)))])) _
            refine XS.ifYes X0.here hx rfl (pc0 := 56) (pc' := 63) rfl (hb hby at_56) rfl ((if0 _ _).trans (teq hc7).1) (by decide) (by decide) ?_
            refine XS.iload X0.here hx rfl (hb hby at_63) rfl ?_
            refine XS.istore X0.here hx rfl (hb hby at_65) rfl (l' := #[vi p0, vi p1, vi p2, vi p3, vi p4, vi p5, vi p0, vi p1, vi p2, vi p4, uu, uu, uu, uu]) rfl ?_
            exact k)
          obtain ⟨U, o, st, rest⟩ := jn1 (a0 := a0) hx hZ hby hml hown hrt hlk hw z_COMPACT_STRINGS  p0 p1 p2 p3 p4 p5  p5 p0 p1 p2 p4 (X0.more (by decide) (by decide)) e0 N0 O0 S 
          exact ⟨U, o, pre_9 _ st, rest⟩
        · have pre_9 : ∀ t, Steps p.tables e below (s₁.setTop (mkF m 67 #[vi p0, vi p1, vi p2, vi p3, vi p4, vi p5, vi p0, vi p1, vi p2, vi p3, uu, uu, uu, uu] [])) t → Steps p.tables e below (s₁.setTop (mkF m 0 #[vi p0, vi p1, vi p2, vi p3, vi p4, vi p5, uu, uu, uu, uu, uu, uu, uu, uu] [])) t := fun t k => pre_8 t (by
            show Steps p.tables e below (s₁.setTop (mkF m 56 #[vi p0, vi p1, vi p2, vi p3, vi p4, vi p5, vi p0, vi p1, vi p2, uu, uu, uu, uu, uu] [(.int (p5 &&& (8 : Int32)))])) _
            refine XS.ifNo X0.here hx rfl (hb hby at_56) rfl ((if0 _ _).trans (feq hc7).1) ?_
            refine XS.iloadN X0.here hx rfl (hb hby at_59) rfl ?_
            refine XS.goto X0.here hx rfl (pc0 := 60) (pc' := 65) rfl (hb hby at_60) (by decide) (by decide) ?_
            refine XS.istore X0.here hx rfl (hb hby at_65) rfl (l' := #[vi p0, vi p1, vi p2, vi p3, vi p4, vi p5, vi p0, vi p1, vi p2, vi p3, uu, uu, uu, uu]) rfl ?_
            exact k)
          obtain ⟨U, o, st, rest⟩ := jn1 (a0 := a0) hx hZ hby hml hown hrt hlk hw z_COMPACT_STRINGS  p0 p1 p2 p3 p4 p5  p5 p0 p1 p2 p3 (X0.more (by decide) (by decide)) e0 N0 O0 S 
          exact ⟨U, o, pre_9 _ st, rest⟩
theorem comes_1 {Post : Tables → Env → Array Value → State → Outcome → State → Prop} (hpost : ∀ tb e args s v u, (limb_1_1.after args s (.returned v) u = true ∧ limb_1_2.after args s (.returned v) u = true ∧ True) → FrameEnd s (.returned v) u (Jvm.fieldLocs frame_1_writes args s ++ Jvm.arrayLocs frame_1_arrays args s ++ Jvm.staticLocs frame_1_statics s) 56 192 → Post tb e args s (.returned v) u) :
    ArmFor flags0 classFile x code maxLocals ret World_1 tables_1 room_1 Calls_1 rest_1 Pre_1 Post := by
  intro l hfl _ _ p e ha hc hk s m args below hf hA hF happ hP
  obtain ⟨hcalls, hrest, hpre⟩ := hP
  obtain ⟨-, -, -, hnamed, -, -, -, hat⟩ := (Spec.applies_iff hf).mp happ
  obtain ⟨hg, hn⟩ := and_e (Cond.before_iff.mp (show (Jvm.Cond.and given_1 narrow_1).before args s = true from hpre))
  obtain ⟨g0, gr0⟩ := and_e hg
  obtain ⟨g1, gr1⟩ := and_e gr0
  obtain ⟨g2, gr2⟩ := and_e gr1
  obtain ⟨g3, gr3⟩ := and_e gr2
  obtain ⟨g4, gr4⟩ := and_e gr3
  obtain ⟨g5, gr5⟩ := and_e gr4
  obtain ⟨v0, v1, v2, v3, v4, v5, rfl⟩ : ∃ v0 v1 v2 v3 v4 v5 : Value, args = #[v0, v1, v2, v3, v4, v5] := by
    have hs : args.size = 6 := by simpa [Cond.value, given_1] using g0
    obtain ⟨L⟩ := args
    match L, hs with
    | [v0, v1, v2, v3, v4, v5], _ => exact ⟨v0, v1, v2, v3, v4, v5, rfl⟩
  have hw := fun d (hd : d ∈ tables_1) => atoms_spec (ws := Jvm.Cond.code x code maxLocals ret :: tables_1) hat d (List.mem_cons_of_mem _ hd)
  have hfit : Fit s := fun {y c} hc i hi => by
    obtain ⟨ha, rfl⟩ := Array.getElem?_eq_some_iff.mp hc
    have q := List.all_eq_true.mp ((Array.all_eq_true_iff_forall_mem.mp hF) _ (Array.getElem_mem ha)) i (List.mem_range.mpr hi)
    simpa [Array.getElem?_eq_getElem hi] using q
  obtain ⟨i0, ei0⟩ := is_v g1
  obtain rfl : v0 = (.int i0) := Option.some.inj ei0
  obtain ⟨i1, ei1⟩ := is_v g2
  obtain rfl : v1 = (.int i1) := Option.some.inj ei1
  obtain ⟨i2, ei2⟩ := is_v g3
  obtain rfl : v2 = (.int i2) := Option.some.inj ei2
  obtain ⟨i3, ei3⟩ := is_v g4
  obtain rfl : v3 = (.int i3) := Option.some.inj ei3
  obtain ⟨i4, ei4⟩ := is_v g5
  obtain rfl : v4 = (.int i4) := Option.some.inj ei4
  obtain ⟨i5, ei5⟩ := is_v gr5
  obtain rfl : v5 = (.int i5) := Option.some.inj ei5
  obtain ⟨hsets, hown0⟩ := atoms_of _ (rest_1_c_eq ▸ (show rest_1_c.before _ s = true from hrest))
  obtain ⟨z_COMPACT_STRINGS, ev_z_COMPACT_STRINGS⟩ := is_v (Cond.before_iff.mp (hsets _ (List.mem_of_getElem? (i := 1) rfl)))
  have S_z_COMPACT_STRINGS := Sta.start ev_z_COMPACT_STRINGS (Or.inl (hsets _ (List.mem_of_getElem? (i := 0) rfl)))
  have hz_z_COMPACT_STRINGS : ¬ (z_COMPACT_STRINGS = (0 : Int32)) := own_ne0 ev_z_COMPACT_STRINGS (Cond.before_iff.mp (hsets _ (List.mem_of_getElem? (i := 2) rfl)))
  obtain ⟨n, o, h1, h2, h3, _, L, rfl, ⟨rfl, N⟩, hq⟩ := rm0 l s _ hw tables_1 z_COMPACT_STRINGS s.heap s.heap.size (Old.start s) ⟨S_z_COMPACT_STRINGS, hz_z_COMPACT_STRINGS, trivial⟩ i0 i1 i2 i3 i4 i5 p e ha hc hk s m _ below hf ((Spec.applies_iff_loose hf).mp happ).1 ⟨rfl, State.Warmed39.refl s, rfl⟩ trivial
  refine ⟨n, _, h1, h2, h3, hpost _ _ _ _ _ _ ⟨Cond.after_iff.mpr rfl, Cond.after_iff.mpr (eq_i res_at (Term.int_eval (1)) rfl), trivial⟩ ⟨hq.1, hq.2.1, (hq.2.2.sift fun y hy => Or.inr (N y hy)).mono (by decide) (by decide)⟩⟩
theorem main_1_1 : Claimed_1_1 := comes_1 fun _ _ _ _ _ _ h hF => ⟨h.1, hF⟩
theorem main_1_2 : Claimed_1_2 := comes_1 fun _ _ _ _ _ _ h hF => ⟨h.2.1, hF⟩
end Jvm.Pilot.@@N@@
namespace Jvm.Pilot.@@N@@
open Jvm Jvm.ClassFile Sem Op Lib Jvm.Free Jvm.Stand Jvm.Pilot.@@N@@.Jvm.D
/-! MADE BY PROGRAM (witnessworld.py) out of the Statement's table words and the real class files: 21 classes; the members and pool entries that the words name. The judged class is class 1, her method 3. -/
namespace start1
open Jvm.ClassFile
def u (s : String) : CpInfo := .utf8 (stringToUtf16 s)
/-- a pool by its gaps: so many unusable entries, then the entry; so many at the end -/
def gap : Nat → List CpInfo → List CpInfo
  | 0, r => r
  | n + 1, r => .unusable :: gap n r
def poolList (es : List (Nat × CpInfo)) (last : Nat) : List CpInfo := es.foldr (fun e r => gap e.1 (e.2 :: r)) (gap last [])
def pool (es : List (Nat × CpInfo)) (last : Nat) : Array CpInfo := ⟨poolList es last⟩
def fileOf (pool : Array CpInfo) (this : Nat) (attrs : Array Attribute := #[]) (ms : Array MethodInfo := #[]) (fl : Nat := 33) (sup : Nat := 0) (ifs : Array Nat := #[]) (fds : Array FieldInfo := #[]) : ClassFile where
  minorVersion := 0
  majorVersion := 65
  constantPool := pool
  accessFlags := fl
  thisClass := this
  superClass := sup
  interfaces := ifs
  fields := fds
  methods := ms
  attributes := attrs
def plain (name : String) (sup : Option ClassId) : Class where
  name := name
  kind := .ordinary
  loader := none
  accessFlags := 33
  super := sup
  interfaces := #[]
  cf := none
  fields := #[]
  methods := #[]
  instanceTypes := #[]
  staticTypes := #[]
  resolved := #[]
  callSites := []
  init := .initialized
  statics := none
  mirror := none

def pool0 : Array CpInfo := pool [(5, u "<init>"), (0, u "()V"), (1, .class_ 10), (1, u "java/lang/Object")] 113

def k0c0 : Code := { maxStack := 0, maxLocals := 1, code := object_method_1_code, exceptionTable := #[], attributes := #[] }
def k0m0 : Method := { name := "<init>", desc := "()V", sig := { parameters := [], returnType := none }, accessFlags := 1, code := some k0c0 }
/-- java/lang/Object -/
def k0 : Class := { plain "java/lang/Object" none with
  accessFlags := 33
  interfaces := #[]
  cf := some (fileOf pool0 8 #[] #[{ accessFlags := 1, nameIndex := 5, descriptorIndex := 6, attributes := #[] }] 33 0 #[] #[])
  fields := #[]
  methods := #[k0m0]
  instanceTypes := #[]
  staticTypes := #[]
  resolved := Array.replicate 124 none
  statics := none }

def pool1 : Array CpInfo := pool [(2, .class_ 4), (1, u "java/lang/Object"), (0, u "<init>"), (0, u "()V"), (0, .class_ 8), (0, u "java/lang/String"), (0, .methodref 7 10), (0, .nameAndType 5 11), (0, u "([C)V"), (0, .integer 65535), (0, .class_ 14), (0, u "com/example/darogan/darogan/CallSite$Frame"), (0, .methodref 16 17), (0, .class_ 18), (0, .nameAndType 19 20), (0, u "com/example/darogan/darogan/FrameEqualsPinLaw"), (0, u "str"), (0, u "(I)Ljava/lang/String;"), (0, .methodref 13 22), (0, .nameAndType 5 23), (0, u "(Ljava/lang/String;Ljava/lang/String;Ljava/lang/String;I)V"), (0, .methodref 16 25), (0, .nameAndType 26 27), (0, u "same16"), (0, u "(II)Z"), (0, .methodref 13 29), (0, .nameAndType 30 31), (0, u "equals"), (0, u "(Ljava/lang/Object;)Z"), (3, u "law"), (0, u "(IIIIII)Z")] 6

def k1m0 : Method := { name := "<init>", desc := "()V", sig := { parameters := [], returnType := none }, accessFlags := 1, code := none }
def k1c1 : Code := { maxStack := 4, maxLocals := 2, code := method_2_code, exceptionTable := #[], attributes := #[] }
def k1m1 : Method := { name := "str", desc := "(I)Ljava/lang/String;", sig := { parameters := [.int], returnType := some (.object "java/lang/String") }, accessFlags := 10, code := some k1c1 }
def k1c2 : Code := { maxStack := 3, maxLocals := 2, code := method_3_code, exceptionTable := #[], attributes := #[] }
def k1m2 : Method := { name := "same16", desc := "(II)Z", sig := { parameters := [.int, .int], returnType := some .boolean }, accessFlags := 10, code := some k1c2 }
def k1c3 : Code := { maxStack := 6, maxLocals := 14, code := code, exceptionTable := #[], attributes := #[] }
def k1m3 : Method := { name := "law", desc := "(IIIIII)Z", sig := { parameters := [.int, .int, .int, .int, .int, .int], returnType := some .boolean }, accessFlags := 9, code := some k1c3 }
/-- com/example/darogan/darogan/FrameEqualsPinLaw -/
def k1 : Class := { plain "com/example/darogan/darogan/FrameEqualsPinLaw" (some 0) with
  accessFlags := 49
  interfaces := #[]
  cf := some (fileOf pool1 16 #[] #[{ accessFlags := 1, nameIndex := 5, descriptorIndex := 6, attributes := #[] }, { accessFlags := 10, nameIndex := 19, descriptorIndex := 20, attributes := #[] }, { accessFlags := 10, nameIndex := 26, descriptorIndex := 27, attributes := #[] }, { accessFlags := 9, nameIndex := 35, descriptorIndex := 36, attributes := #[] }] 49 2 #[] #[])
  fields := #[]
  methods := #[k1m0, k1m1, k1m2, k1m3]
  instanceTypes := #[]
  staticTypes := #[]
  resolved := Array.replicate 43 none
  statics := none }

def pool2 : Array CpInfo := pool [(1, .methodref 2 3), (0, .class_ 4), (0, .nameAndType 5 6), (0, u "java/lang/Object"), (0, u "<init>"), (0, u "()V"), (0, .class_ 8), (0, u "java/lang/Record")] 13

def k2c0 : Code := { maxStack := 1, maxLocals := 1, code := jdk_30_method_1_code, exceptionTable := #[], attributes := #[] }
def k2m0 : Method := { name := "<init>", desc := "()V", sig := { parameters := [], returnType := none }, accessFlags := 4, code := some k2c0 }
/-- java/lang/Record -/
def k2 : Class := { plain "java/lang/Record" (some 0) with
  accessFlags := 1057
  interfaces := #[]
  cf := some (fileOf pool2 7 #[] #[{ accessFlags := 4, nameIndex := 5, descriptorIndex := 6, attributes := #[] }] 1057 2 #[] #[])
  fields := #[]
  methods := #[k2m0]
  instanceTypes := #[]
  staticTypes := #[]
  resolved := Array.replicate 22 none
  statics := none }

def pool3 : Array CpInfo := pool [(1, .methodref 2 3), (0, .class_ 4), (0, .nameAndType 5 6), (0, u "java/lang/Record"), (0, u "<init>"), (0, u "()V"), (0, .fieldref 8 9), (0, .class_ 10), (0, .nameAndType 11 12), (0, u "com/example/darogan/darogan/CallSite$Frame"), (0, u "className"), (0, u "Ljava/lang/String;"), (0, .fieldref 8 14), (0, .nameAndType 15 12), (0, u "method"), (0, .fieldref 8 17), (0, .nameAndType 18 12), (0, u "descriptor"), (0, .fieldref 8 20), (0, .nameAndType 21 22), (0, u "instruction"), (0, u "I"), (18, u "(Ljava/lang/String;Ljava/lang/String;Ljava/lang/String;I)V"), (0, .methodref 8 43), (0, .nameAndType 44 45), (0, u "inMethod"), (0, u "(Ljava/lang/String;Ljava/lang/String;Ljava/lang/String;)Z"), (0, .methodref 47 48), (0, .class_ 49), (0, .nameAndType 50 51), (0, u "java/lang/String"), (0, u "equals"), (0, u "(Ljava/lang/Object;)Z"), (0, .methodref 8 53), (0, .nameAndType 54 55), (0, u "inSameMethod"), (0, u "(Lcom/example/darogan/darogan/CallSite$Frame;)Z"), (18, .class_ 75), (0, u "com/example/darogan/darogan/CallSite")] 20

def k3c0 : Code := { maxStack := 2, maxLocals := 5, code := prog_3_method_2_code, exceptionTable := #[], attributes := #[] }
def k3m0 : Method := { name := "<init>", desc := "(Ljava/lang/String;Ljava/lang/String;Ljava/lang/String;I)V", sig := { parameters := [(.object "java/lang/String"), (.object "java/lang/String"), (.object "java/lang/String"), .int], returnType := none }, accessFlags := 0, code := some k3c0 }
def k3c1 : Code := { maxStack := 4, maxLocals := 2, code := prog_3_method_4_code, exceptionTable := #[], attributes := #[] }
def k3m1 : Method := { name := "inSameMethod", desc := "(Lcom/example/darogan/darogan/CallSite$Frame;)Z", sig := { parameters := [(.object "com/example/darogan/darogan/CallSite$Frame")], returnType := some .boolean }, accessFlags := 2, code := some k3c1 }
def k3c2 : Code := { maxStack := 2, maxLocals := 4, code := prog_3_method_5_code, exceptionTable := #[], attributes := #[] }
def k3m2 : Method := { name := "inMethod", desc := "(Ljava/lang/String;Ljava/lang/String;Ljava/lang/String;)Z", sig := { parameters := [(.object "java/lang/String"), (.object "java/lang/String"), (.object "java/lang/String")], returnType := some .boolean }, accessFlags := 2, code := some k3c2 }
def k3c3 : Code := { maxStack := 2, maxLocals := 3, code := prog_3_method_6_code, exceptionTable := #[], attributes := #[] }
def k3m3 : Method := { name := "equals", desc := "(Ljava/lang/Object;)Z", sig := { parameters := [(.object "java/lang/Object")], returnType := some .boolean }, accessFlags := 1, code := some k3c3 }
/-- com/example/darogan/darogan/CallSite$Frame -/
def k3 : Class := { plain "com/example/darogan/darogan/CallSite$Frame" (some 2) with
  accessFlags := 48
  interfaces := #[]
  cf := some (fileOf pool3 8 #[.nestHost 74] #[{ accessFlags := 0, nameIndex := 5, descriptorIndex := 41, attributes := #[] }, { accessFlags := 2, nameIndex := 54, descriptorIndex := 55, attributes := #[] }, { accessFlags := 2, nameIndex := 44, descriptorIndex := 45, attributes := #[] }, { accessFlags := 1, nameIndex := 50, descriptorIndex := 51, attributes := #[] }] 48 2 #[] #[{ accessFlags := 18, nameIndex := 11, descriptorIndex := 12, attributes := #[] }, { accessFlags := 18, nameIndex := 15, descriptorIndex := 12, attributes := #[] }, { accessFlags := 18, nameIndex := 18, descriptorIndex := 12, attributes := #[] }, { accessFlags := 18, nameIndex := 21, descriptorIndex := 22, attributes := #[] }])
  fields := #[{ name := "className", type := (.object "java/lang/String"), accessFlags := 18, slot := 0, constantValue := 0 }, { name := "method", type := (.object "java/lang/String"), accessFlags := 18, slot := 1, constantValue := 0 }, { name := "descriptor", type := (.object "java/lang/String"), accessFlags := 18, slot := 2, constantValue := 0 }, { name := "instruction", type := .int, accessFlags := 18, slot := 3, constantValue := 0 }]
  methods := #[k3m0, k3m1, k3m2, k3m3]
  instanceTypes := #[(.object "java/lang/String"), (.object "java/lang/String"), (.object "java/lang/String"), .int]
  staticTypes := #[]
  resolved := Array.replicate 96 none
  statics := none }

def pool4 : Array CpInfo := pool [(1, .class_ 2), (0, u "java/io/Serializable"), (0, .class_ 4), (0, u "java/lang/Object")] 2

/-- java/io/Serializable -/
def k4 : Class := { plain "java/io/Serializable" (some 0) with
  accessFlags := 1537
  interfaces := #[]
  cf := some (fileOf pool4 1 #[] #[] 1537 3 #[] #[])
  fields := #[]
  methods := #[]
  instanceTypes := #[]
  staticTypes := #[]
  resolved := Array.replicate 7 none
  statics := none }

def pool5 : Array CpInfo := pool [(1, .class_ 2), (0, u "java/lang/Comparable"), (0, .class_ 4), (0, u "java/lang/Object")] 7

/-- java/lang/Comparable -/
def k5 : Class := { plain "java/lang/Comparable" (some 0) with
  accessFlags := 1537
  interfaces := #[]
  cf := some (fileOf pool5 1 #[] #[] 1537 3 #[] #[])
  fields := #[]
  methods := #[]
  instanceTypes := #[]
  staticTypes := #[]
  resolved := Array.replicate 12 none
  statics := none }

def pool6 : Array CpInfo := pool [(2, .class_ 4), (1, u "java/lang/CharSequence"), (42, .class_ 48), (0, u "java/lang/CharSequence$1CodePointIterator"), (10, .class_ 60), (0, u "java/lang/CharSequence$1CharIterator"), (5, .class_ 67), (0, u "java/lang/Object")] 63

/-- java/lang/CharSequence -/
def k6 : Class := { plain "java/lang/CharSequence" (some 0) with
  accessFlags := 1537
  interfaces := #[]
  cf := some (fileOf pool6 2 #[.nestMembers #[47, 59]] #[] 1537 66 #[] #[])
  fields := #[]
  methods := #[]
  instanceTypes := #[]
  staticTypes := #[]
  resolved := Array.replicate 131 none
  statics := none }

def pool7 : Array CpInfo := pool [(1, .class_ 2), (0, u "java/lang/constant/Constable"), (0, .class_ 4), (0, u "java/lang/Object")] 6

/-- java/lang/constant/Constable -/
def k7 : Class := { plain "java/lang/constant/Constable" (some 0) with
  accessFlags := 1537
  interfaces := #[]
  cf := some (fileOf pool7 1 #[] #[] 1537 3 #[] #[])
  fields := #[]
  methods := #[]
  instanceTypes := #[]
  staticTypes := #[]
  resolved := Array.replicate 11 none
  statics := none }

def pool8 : Array CpInfo := pool [(1, .class_ 2), (0, u "java/lang/constant/ConstantDesc"), (0, .class_ 4), (0, u "java/lang/Object")] 32

/-- java/lang/constant/ConstantDesc -/
def k8 : Class := { plain "java/lang/constant/ConstantDesc" (some 0) with
  accessFlags := 1537
  interfaces := #[]
  cf := some (fileOf pool8 1 #[] #[] 1537 3 #[] #[])
  fields := #[]
  methods := #[]
  instanceTypes := #[]
  staticTypes := #[]
  resolved := Array.replicate 37 none
  statics := none }

def pool9 : Array CpInfo := pool [(1, .methodref 2 3), (0, .class_ 4), (0, .nameAndType 5 6), (0, u "java/lang/Object"), (0, u "<init>"), (0, u "()V"), (2, .fieldref 10 11), (0, .class_ 12), (0, .nameAndType 13 14), (0, u "java/lang/String"), (0, u "value"), (0, u "[B"), (0, .fieldref 10 16), (0, .nameAndType 17 18), (0, u "coder"), (0, u "B"), (2, u "hash"), (0, u "I"), (2, u "hashIsZero"), (0, u "Z"), (0, .methodref 10 28), (0, .nameAndType 5 29), (0, u "([CIILjava/lang/Void;)V"), (8, .fieldref 10 39), (0, .nameAndType 40 26), (0, u "COMPACT_STRINGS"), (1, .class_ 44), (1, u "java/lang/StringUTF16"), (0, u "compress"), (1, .methodref 42 48), (0, .nameAndType 49 50), (0, u "coderFromArrayLen"), (0, u "([BI)B"), (56, .class_ 109), (1, u "java/lang/StringLatin1"), (67, .methodref 42 178), (0, .nameAndType 45 179), (0, u "([CII)[B"), (361, .methodref 107 542), (0, .nameAndType 543 544), (0, u "equals"), (0, u "([B[B)Z"), (28, u "(Ljava/lang/Object;)Z"), (1, .class_ 576), (0, u "java/lang/CharSequence"), (22, u "CASE_INSENSITIVE_ORDER"), (0, u "Ljava/util/Comparator;"), (409, u "([C)V"), (90, u "serialPersistentFields"), (0, u "[Ljava/io/ObjectStreamField;"), (0, .class_ 1104), (0, u "java/lang/String$CaseInsensitiveComparator"), (1, .class_ 1107), (0, u "java/io/Serializable"), (0, .class_ 1109), (0, u "java/lang/Comparable"), (0, .class_ 1111), (0, u "java/lang/constant/Constable"), (0, .class_ 1113), (0, u "java/lang/constant/ConstantDesc"), (2, u "serialVersionUID"), (0, u "J"), (3, u "REPL"), (0, u "C"), (2, u "LATIN1"), (1, u "UTF16")] 323

def k9m0 : Method := { name := "<init>", desc := "()V", sig := { parameters := [], returnType := none }, accessFlags := 1, code := none }
def k9c1 : Code := { maxStack := 5, maxLocals := 2, code := jdk_42_method_3_code, exceptionTable := #[], attributes := #[] }
def k9m1 : Method := { name := "<init>", desc := "([C)V", sig := { parameters := [(.array .char)], returnType := none }, accessFlags := 1, code := some k9c1 }
def k9c2 : Code := { maxStack := 2, maxLocals := 3, code := jdk_42_method_66_code, exceptionTable := #[], attributes := #[] }
def k9m2 : Method := { name := "equals", desc := "(Ljava/lang/Object;)Z", sig := { parameters := [(.object "java/lang/Object")], returnType := some .boolean }, accessFlags := 1, code := some k9c2 }
def k9c3 : Code := { maxStack := 4, maxLocals := 6, code := jdk_42_method_149_code, exceptionTable := #[], attributes := #[] }
def k9m3 : Method := { name := "<init>", desc := "([CIILjava/lang/Void;)V", sig := { parameters := [(.array .char), .int, .int, (.object "java/lang/Void")], returnType := none }, accessFlags := 2, code := some k9c3 }
/-- java/lang/String -/
def k9 : Class := { plain "java/lang/String" (some 0) with
  accessFlags := 49
  interfaces := #[4, 5, 6, 7, 8]
  cf := some (fileOf pool9 10 #[.nestMembers #[1103]] #[{ accessFlags := 1, nameIndex := 5, descriptorIndex := 6, attributes := #[] }, { accessFlags := 1, nameIndex := 5, descriptorIndex := 1010, attributes := #[] }, { accessFlags := 1, nameIndex := 543, descriptorIndex := 573, attributes := #[] }, { accessFlags := 2, nameIndex := 5, descriptorIndex := 29, attributes := #[] }] 49 2 #[1106, 1108, 575, 1110, 1112] #[{ accessFlags := 18, nameIndex := 13, descriptorIndex := 14, attributes := #[] }, { accessFlags := 18, nameIndex := 17, descriptorIndex := 18, attributes := #[] }, { accessFlags := 2, nameIndex := 21, descriptorIndex := 22, attributes := #[] }, { accessFlags := 2, nameIndex := 25, descriptorIndex := 26, attributes := #[] }, { accessFlags := 26, nameIndex := 1116, descriptorIndex := 1117, attributes := #[] }, { accessFlags := 24, nameIndex := 40, descriptorIndex := 26, attributes := #[] }, { accessFlags := 26, nameIndex := 1101, descriptorIndex := 1102, attributes := #[] }, { accessFlags := 26, nameIndex := 1121, descriptorIndex := 1122, attributes := #[] }, { accessFlags := 25, nameIndex := 599, descriptorIndex := 600, attributes := #[] }, { accessFlags := 24, nameIndex := 1125, descriptorIndex := 18, attributes := #[] }, { accessFlags := 24, nameIndex := 1127, descriptorIndex := 18, attributes := #[] }])
  fields := #[{ name := "value", type := (.array .byte), accessFlags := 18, slot := 0, constantValue := 0 }, { name := "coder", type := .byte, accessFlags := 18, slot := 1, constantValue := 0 }, { name := "hash", type := .int, accessFlags := 2, slot := 2, constantValue := 0 }, { name := "hashIsZero", type := .boolean, accessFlags := 2, slot := 3, constantValue := 0 }, { name := "serialVersionUID", type := .long, accessFlags := 26, slot := 0, constantValue := 0 }, { name := "COMPACT_STRINGS", type := .boolean, accessFlags := 24, slot := 1, constantValue := 0 }, { name := "serialPersistentFields", type := (.array (.object "java/io/ObjectStreamField")), accessFlags := 26, slot := 2, constantValue := 0 }, { name := "REPL", type := .char, accessFlags := 26, slot := 3, constantValue := 0 }, { name := "CASE_INSENSITIVE_ORDER", type := (.object "java/util/Comparator"), accessFlags := 25, slot := 4, constantValue := 0 }, { name := "LATIN1", type := .byte, accessFlags := 24, slot := 5, constantValue := 0 }, { name := "UTF16", type := .byte, accessFlags := 24, slot := 6, constantValue := 0 }]
  methods := #[k9m0, k9m1, k9m2, k9m3]
  instanceTypes := #[(.array .byte), .byte, .int, .boolean]
  staticTypes := #[.long, .boolean, (.array (.object "java/io/ObjectStreamField")), .char, (.object "java/util/Comparator"), .byte, .byte]
  resolved := Array.replicate 1451 none
  statics := some 0 }

def pool10 : Array CpInfo := pool [(6, .class_ 8), (1, u "java/lang/Object"), (0, u "<init>"), (0, u "()V"), (1, .class_ 14), (1, u "java/lang/StringUTF16"), (31, u "$assertionsDisabled"), (0, u "Z"), (13, u "HI_BYTE_SHIFT"), (0, u "I"), (2, u "LO_BYTE_SHIFT"), (49, .methodref 12 116), (0, .nameAndType 117 118), (0, u "compress"), (0, u "([CI[BII)I"), (3, u "([CII)[B"), (138, u "coderFromArrayLen"), (0, u "([BI)B"), (106, .class_ 371), (1, u "java/lang/StringUTF16$LinesSpliterator"), (58, u "MAX_LENGTH"), (196, .class_ 628), (0, u "java/lang/StringUTF16$CodePointsSpliterator"), (0, .class_ 630), (0, u "java/lang/StringUTF16$CharsSpliterator")] 4

def k10m0 : Method := { name := "<init>", desc := "()V", sig := { parameters := [], returnType := none }, accessFlags := 0, code := none }
def k10c1 : Code := { maxStack := 2, maxLocals := 2, code := jdk_52_method_15_code, exceptionTable := #[], attributes := #[] }
def k10m1 : Method := { name := "coderFromArrayLen", desc := "([BI)B", sig := { parameters := [(.array .byte), .int], returnType := some .byte }, accessFlags := 8, code := some k10c1 }
def k10c2 : Code := { maxStack := 5, maxLocals := 6, code := jdk_52_method_16_code, exceptionTable := #[], attributes := #[] }
def k10m2 : Method := { name := "compress", desc := "([CII)[B", sig := { parameters := [(.array .char), .int, .int], returnType := some (.array .byte) }, accessFlags := 9, code := some k10c2 }
def k10c3 : Code := { maxStack := 3, maxLocals := 7, code := jdk_52_method_21_code, exceptionTable := #[], attributes := #[] }
def k10m3 : Method := { name := "compress", desc := "([CI[BII)I", sig := { parameters := [(.array .char), .int, (.array .byte), .int, .int], returnType := some .int }, accessFlags := 9, code := some k10c3 }
/-- java/lang/StringUTF16 -/
def k10 : Class := { plain "java/lang/StringUTF16" (some 0) with
  accessFlags := 48
  interfaces := #[]
  cf := some (fileOf pool10 12 #[.nestMembers #[627, 629, 369]] #[{ accessFlags := 0, nameIndex := 9, descriptorIndex := 10, attributes := #[] }, { accessFlags := 8, nameIndex := 261, descriptorIndex := 262, attributes := #[] }, { accessFlags := 9, nameIndex := 117, descriptorIndex := 122, attributes := #[] }, { accessFlags := 9, nameIndex := 117, descriptorIndex := 118, attributes := #[] }] 48 6 #[] #[{ accessFlags := 26, nameIndex := 61, descriptorIndex := 62, attributes := #[] }, { accessFlags := 26, nameIndex := 65, descriptorIndex := 62, attributes := #[] }, { accessFlags := 24, nameIndex := 430, descriptorIndex := 62, attributes := #[] }, { accessFlags := 4120, nameIndex := 46, descriptorIndex := 47, attributes := #[] }])
  fields := #[{ name := "HI_BYTE_SHIFT", type := .int, accessFlags := 26, slot := 0, constantValue := 0 }, { name := "LO_BYTE_SHIFT", type := .int, accessFlags := 26, slot := 1, constantValue := 0 }, { name := "MAX_LENGTH", type := .int, accessFlags := 24, slot := 2, constantValue := 0 }, { name := "$assertionsDisabled", type := .boolean, accessFlags := 4120, slot := 3, constantValue := 0 }]
  methods := #[k10m0, k10m1, k10m2, k10m3]
  instanceTypes := #[]
  staticTypes := #[.int, .int, .int, .boolean]
  resolved := Array.replicate 635 none
  statics := none }

def pool11 : Array CpInfo := pool [(4, .class_ 6), (1, u "java/lang/Object"), (0, u "<init>"), (0, u "()V"), (5, .class_ 16), (1, u "java/lang/StringLatin1"), (104, u "$assertionsDisabled"), (0, u "Z"), (98, .class_ 223), (1, u "java/lang/StringLatin1$LinesSpliterator"), (57, u "equals"), (0, u "([B[B)Z"), (107, .class_ 391), (0, u "java/lang/StringLatin1$CharsSpliterator")] 3

def k11m0 : Method := { name := "<init>", desc := "()V", sig := { parameters := [], returnType := none }, accessFlags := 0, code := none }
def k11c1 : Code := { maxStack := 3, maxLocals := 3, code := jdk_43_method_13_code, exceptionTable := #[], attributes := #[] }
def k11m1 : Method := { name := "equals", desc := "([B[B)Z", sig := { parameters := [(.array .byte), (.array .byte)], returnType := some .boolean }, accessFlags := 9, code := some k11c1 }
/-- java/lang/StringLatin1 -/
def k11 : Class := { plain "java/lang/StringLatin1" (some 0) with
  accessFlags := 48
  interfaces := #[]
  cf := some (fileOf pool11 14 #[.nestMembers #[390, 221]] #[{ accessFlags := 0, nameIndex := 7, descriptorIndex := 8, attributes := #[] }, { accessFlags := 9, nameIndex := 281, descriptorIndex := 282, attributes := #[] }] 48 4 #[] #[{ accessFlags := 4120, nameIndex := 121, descriptorIndex := 122, attributes := #[] }])
  fields := #[{ name := "$assertionsDisabled", type := .boolean, accessFlags := 4120, slot := 0, constantValue := 0 }]
  methods := #[k11m0, k11m1]
  instanceTypes := #[]
  staticTypes := #[.boolean]
  resolved := Array.replicate 395 none
  statics := none }

def pool12 : Array CpInfo := pool [(2, .class_ 4), (1, u "java/lang/Object"), (0, u "<init>"), (0, u "()V"), (17, .class_ 26), (1, u "jdk/internal/util/Preconditions"), (28, .class_ 56), (0, u "jdk/internal/util/Preconditions$4"), (57, .class_ 115), (0, u "jdk/internal/util/Preconditions$1"), (7, u "SIOOBE_FORMATTER"), (0, u "Ljava/util/function/BiFunction;"), (0, .class_ 126), (0, u "jdk/internal/util/Preconditions$2"), (3, u "AIOOBE_FORMATTER"), (0, .class_ 132), (0, u "jdk/internal/util/Preconditions$3"), (3, u "IOOBE_FORMATTER")] 57

def k12m0 : Method := { name := "<init>", desc := "()V", sig := { parameters := [], returnType := none }, accessFlags := 1, code := none }
/-- jdk/internal/util/Preconditions -/
def k12 : Class := { plain "jdk/internal/util/Preconditions" (some 0) with
  accessFlags := 33
  interfaces := #[]
  cf := some (fileOf pool12 24 #[.nestMembers #[55, 131, 125, 114]] #[{ accessFlags := 1, nameIndex := 5, descriptorIndex := 6, attributes := #[] }] 33 2 #[] #[{ accessFlags := 25, nameIndex := 123, descriptorIndex := 124, attributes := #[] }, { accessFlags := 25, nameIndex := 130, descriptorIndex := 124, attributes := #[] }, { accessFlags := 25, nameIndex := 136, descriptorIndex := 124, attributes := #[] }])
  fields := #[{ name := "SIOOBE_FORMATTER", type := (.object "java/util/function/BiFunction"), accessFlags := 25, slot := 0, constantValue := 0 }, { name := "AIOOBE_FORMATTER", type := (.object "java/util/function/BiFunction"), accessFlags := 25, slot := 1, constantValue := 0 }, { name := "IOOBE_FORMATTER", type := (.object "java/util/function/BiFunction"), accessFlags := 25, slot := 2, constantValue := 0 }]
  methods := #[k12m0]
  instanceTypes := #[]
  staticTypes := #[(.object "java/util/function/BiFunction"), (.object "java/util/function/BiFunction"), (.object "java/util/function/BiFunction")]
  resolved := Array.replicate 194 none
  statics := some 1 }

def pool13 : Array CpInfo := pool [(9, u "<init>"), (6, .class_ 18), (1, u "java/lang/Object"), (0, u "()V"), (1, .class_ 23), (1, u "jdk/internal/util/ArraysSupport"), (0, u "LOG2_ARRAY_LONG_INDEX_SCALE"), (0, u "I"), (2, u "U"), (0, u "Ljdk/internal/misc/Unsafe;"), (8, u "BIG_ENDIAN"), (0, u "Z"), (8, u "LOG2_BYTE_BIT_SIZE"), (4, u "LOG2_ARRAY_INT_INDEX_SCALE"), (54, u "JLA"), (0, u "Ljdk/internal/access/JavaLangAccess;"), (11, u "LOG2_ARRAY_BOOLEAN_INDEX_SCALE"), (9, u "LOG2_ARRAY_BYTE_INDEX_SCALE"), (5, u "LOG2_ARRAY_CHAR_INDEX_SCALE"), (5, u "LOG2_ARRAY_SHORT_INDEX_SCALE"), (18, u "LOG2_ARRAY_FLOAT_INDEX_SCALE"), (24, u "LOG2_ARRAY_DOUBLE_INDEX_SCALE"), (89, u "T_BOOLEAN"), (2, u "T_CHAR"), (1, u "T_FLOAT"), (1, u "T_DOUBLE"), (1, u "T_BYTE"), (1, u "T_SHORT"), (1, u "T_INT"), (1, u "T_LONG"), (1, u "SOFT_MAX_ARRAY_LENGTH")] 83

def k13m0 : Method := { name := "<init>", desc := "()V", sig := { parameters := [], returnType := none }, accessFlags := 2, code := none }
/-- jdk/internal/util/ArraysSupport -/
def k13 : Class := { plain "jdk/internal/util/ArraysSupport" (some 0) with
  accessFlags := 33
  interfaces := #[]
  cf := some (fileOf pool13 21 #[] #[{ accessFlags := 2, nameIndex := 9, descriptorIndex := 19, attributes := #[] }] 33 16 #[] #[{ accessFlags := 24, nameIndex := 28, descriptorIndex := 29, attributes := #[] }, { accessFlags := 26, nameIndex := 38, descriptorIndex := 39, attributes := #[] }, { accessFlags := 25, nameIndex := 121, descriptorIndex := 25, attributes := #[] }, { accessFlags := 25, nameIndex := 131, descriptorIndex := 25, attributes := #[] }, { accessFlags := 25, nameIndex := 137, descriptorIndex := 25, attributes := #[] }, { accessFlags := 25, nameIndex := 143, descriptorIndex := 25, attributes := #[] }, { accessFlags := 25, nameIndex := 53, descriptorIndex := 25, attributes := #[] }, { accessFlags := 25, nameIndex := 24, descriptorIndex := 25, attributes := #[] }, { accessFlags := 25, nameIndex := 162, descriptorIndex := 25, attributes := #[] }, { accessFlags := 25, nameIndex := 187, descriptorIndex := 25, attributes := #[] }, { accessFlags := 26, nameIndex := 48, descriptorIndex := 25, attributes := #[] }, { accessFlags := 25, nameIndex := 277, descriptorIndex := 25, attributes := #[] }, { accessFlags := 25, nameIndex := 280, descriptorIndex := 25, attributes := #[] }, { accessFlags := 25, nameIndex := 282, descriptorIndex := 25, attributes := #[] }, { accessFlags := 25, nameIndex := 284, descriptorIndex := 25, attributes := #[] }, { accessFlags := 25, nameIndex := 286, descriptorIndex := 25, attributes := #[] }, { accessFlags := 25, nameIndex := 288, descriptorIndex := 25, attributes := #[] }, { accessFlags := 25, nameIndex := 290, descriptorIndex := 25, attributes := #[] }, { accessFlags := 25, nameIndex := 292, descriptorIndex := 25, attributes := #[] }, { accessFlags := 26, nameIndex := 108, descriptorIndex := 109, attributes := #[] }, { accessFlags := 25, nameIndex := 294, descriptorIndex := 25, attributes := #[] }])
  fields := #[{ name := "U", type := (.object "jdk/internal/misc/Unsafe"), accessFlags := 24, slot := 0, constantValue := 0 }, { name := "BIG_ENDIAN", type := .boolean, accessFlags := 26, slot := 1, constantValue := 0 }, { name := "LOG2_ARRAY_BOOLEAN_INDEX_SCALE", type := .int, accessFlags := 25, slot := 2, constantValue := 0 }, { name := "LOG2_ARRAY_BYTE_INDEX_SCALE", type := .int, accessFlags := 25, slot := 3, constantValue := 0 }, { name := "LOG2_ARRAY_CHAR_INDEX_SCALE", type := .int, accessFlags := 25, slot := 4, constantValue := 0 }, { name := "LOG2_ARRAY_SHORT_INDEX_SCALE", type := .int, accessFlags := 25, slot := 5, constantValue := 0 }, { name := "LOG2_ARRAY_INT_INDEX_SCALE", type := .int, accessFlags := 25, slot := 6, constantValue := 0 }, { name := "LOG2_ARRAY_LONG_INDEX_SCALE", type := .int, accessFlags := 25, slot := 7, constantValue := 0 }, { name := "LOG2_ARRAY_FLOAT_INDEX_SCALE", type := .int, accessFlags := 25, slot := 8, constantValue := 0 }, { name := "LOG2_ARRAY_DOUBLE_INDEX_SCALE", type := .int, accessFlags := 25, slot := 9, constantValue := 0 }, { name := "LOG2_BYTE_BIT_SIZE", type := .int, accessFlags := 26, slot := 10, constantValue := 0 }, { name := "T_BOOLEAN", type := .int, accessFlags := 25, slot := 11, constantValue := 0 }, { name := "T_CHAR", type := .int, accessFlags := 25, slot := 12, constantValue := 0 }, { name := "T_FLOAT", type := .int, accessFlags := 25, slot := 13, constantValue := 0 }, { name := "T_DOUBLE", type := .int, accessFlags := 25, slot := 14, constantValue := 0 }, { name := "T_BYTE", type := .int, accessFlags := 25, slot := 15, constantValue := 0 }, { name := "T_SHORT", type := .int, accessFlags := 25, slot := 16, constantValue := 0 }, { name := "T_INT", type := .int, accessFlags := 25, slot := 17, constantValue := 0 }, { name := "T_LONG", type := .int, accessFlags := 25, slot := 18, constantValue := 0 }, { name := "JLA", type := (.object "jdk/internal/access/JavaLangAccess"), accessFlags := 26, slot := 19, constantValue := 0 }, { name := "SOFT_MAX_ARRAY_LENGTH", type := .int, accessFlags := 25, slot := 20, constantValue := 0 }]
  methods := #[k13m0]
  instanceTypes := #[]
  staticTypes := #[(.object "jdk/internal/misc/Unsafe"), .boolean, .int, .int, .int, .int, .int, .int, .int, .int, .int, .int, .int, .int, .int, .int, .int, .int, .int, (.object "jdk/internal/access/JavaLangAccess"), .int]
  resolved := Array.replicate 378 none
  statics := none }

def pool14 : Array CpInfo := pool [(1, u "java/lang/Cloneable"), (0, .class_ 1), (0, u "java/lang/Object"), (0, .class_ 3)] 3

/-- java/lang/Cloneable -/
def k14 : Class := { plain "java/lang/Cloneable" (some 0) with
  accessFlags := 1537
  interfaces := #[]
  cf := some (fileOf pool14 2 #[] #[] 1537 4 #[] #[])
  fields := #[]
  methods := #[]
  instanceTypes := #[]
  staticTypes := #[]
  resolved := Array.replicate 8 none
  statics := none }

/-- the primitive byte -/
def k15 : Class := { plain "byte" none with kind := .primitive 'B', accessFlags := 0x411 }
/-- [B -/
def k16 : Class := { plain "[B" (some 0) with kind := .array 15 .byte, interfaces := #[14, 4], accessFlags := 1041 }

/-- the primitive char -/
def k17 : Class := { plain "char" none with kind := .primitive 'C', accessFlags := 0x411 }
/-- [C -/
def k18 : Class := { plain "[C" (some 0) with kind := .array 17 .char, interfaces := #[14, 4], accessFlags := 1041 }

/-- the primitive int -/
def k19 : Class := { plain "int" none with kind := .primitive 'I', accessFlags := 0x411 }
/-- [I -/
def k20 : Class := { plain "[I" (some 0) with kind := .array 19 .int, interfaces := #[14, 4], accessFlags := 1041 }

def heap : Heap := #[{ cls := 9, slots := #[.long 0, .int 1, .null, .int 0, .null, .int 0, .int 0], vm := .statics 9 },
  { cls := 12, slots := #[.null, .null, .null], vm := .statics 12 }]
def classes : Array Class := #[k0, k1, k2, k3, k4, k5, k6, k7, k8, k9, k10, k11, k12, k13, k14, k15, k16, k17, k18, k19, k20]
def interned : List (Array UInt16 × Addr) := []
def slotsUsed : Nat := 10
def theMethod : MethodId := ⟨1, 3⟩
def args0 : Array Value := #[.int 5, .int 5, .int 5, .int 5, .int 5, .int 5]
def aboutOver (below : List Frame) : State where
  vm := { classes := classes, interned := interned.toArray }
  heap := heap
  slotsUsed := slotsUsed
  threads := #[{ frames := .invoking theMethod args0 :: below }]
def below0 : List Frame := [.native { method := ⟨0, 0⟩, args := #[] }]
def about1 : State := aboutOver below0
def p0 : Program := .bare "" "" ""
def e0 : Env := launch0.env 0 0 0
theorem w_frames : about1.frames = Frame.invoking theMethod args0 :: below0 := rfl
set_option maxRecDepth 65536 in
theorem w_args : argsFit about1.vm theMethod args0 = true := by decide +kernel
set_option maxRecDepth 65536 in
theorem w_heap : heapFits about1 = true := by decide +kernel
set_option maxRecDepth 65536 in
theorem w_runnable : about1.curStatus? = some .runnable := by decide +kernel
set_option maxRecDepth 65536 in
theorem w_alone : about1.alone = true := by decide +kernel
set_option maxRecDepth 65536 in
theorem w_named : about1.methodNamed? x = some theMethod := by decide +kernel
set_option maxRecDepth 65536 in
theorem w_hears : about1.hears theMethod below0 = true := by decide +kernel
set_option maxRecDepth 65536 in
theorem w_ripe : about1.ripe theMethod args0 below0 = true := by decide +kernel
theorem w_running : about1.status = .running := rfl
set_option maxRecDepth 65536 in
theorem w_room : about1.hasRoom e0.platform room_1 = true :=
  launch0.hasRoom_least _ room_1 (by decide +kernel) (by decide +kernel) (by decide +kernel) (by decide +kernel) (by decide +kernel) (by decide +kernel)
theorem allAtoms_all (ts : List Jvm.Cond) (a : Array Jvm.Value) (st : Jvm.State) : (allAtoms ts).before a st = ts.all (fun c => c.before a st) := by
  induction ts with
  | nil => rfl
  | cons c t ih =>
    show (Jvm.Cond.and c (allAtoms t)).before a st = _
    rw [Jvm.Cond.before_and, ih, List.all_cons]
def words1 : List Jvm.Cond := Jvm.Cond.code x code maxLocals ret :: tables_1
/-- a 'code' word, met by the world's own term for the bytes: nothing is compared byte by byte -/
theorem code_word {y : MethodName} {bytes : ByteArray} {mx : Nat} {rt : Option FieldType} {a : Array Value} {s : State} {m : MethodId} {meth : Method} {c : Code} (h1 : s.methodNamed? y = some m) (h2 : s.vm.method? m = some meth) (h3 : meth.code = some c) (h4 : c.code = bytes)
    (h5 : (c.maxLocals == mx && c.exceptionTable.isEmpty && decide (c.maxStack ≤ mostOperands) && decide (meth.sig.returnType = rt) && !meth.locks && decide (parseMethodDescriptor y.desc = some meth.sig)) = true) : (Jvm.Cond.code y bytes mx rt).before a s = true := by
  simp only [Bool.and_eq_true, beq_iff_eq, Bool.not_eq_true', decide_eq_true_eq] at h5
  obtain ⟨⟨⟨⟨⟨g1, g2⟩, g3⟩, g4⟩, g5⟩, g6⟩ := h5
  simp [Cond.before, Cond.holds, Cond.value, h1, h2, h3, h4, g1, g2, g3, g4, g5, g6]
def isCode : Jvm.Cond → Bool
  | .code _ _ _ _ => true
  | _ => false
theorem all_split {L : List Jvm.Cond} {P : Jvm.Cond → Bool} (h1 : L.all (fun c => isCode c || P c) = true) (h2 : ∀ c ∈ L.filter isCode, P c = true) : L.all P = true := by
  refine List.all_eq_true.mpr fun c hc => ?_
  have h := List.all_eq_true.mp h1 c hc
  rcases Bool.eq_false_or_eq_true (isCode c) with hi | hi
  · exact h2 c (List.mem_filter.mpr ⟨hc, hi⟩)
  · simpa [hi] using h
set_option maxRecDepth 65536 in
theorem w_c0 : (Jvm.Cond.code x code maxLocals ret).before args0 about1 = true := code_word (m := ⟨1, 3⟩) (meth := k1m3) (c := k1c3) (by decide +kernel) rfl rfl rfl (by decide +kernel)
set_option maxRecDepth 65536 in
theorem w_c1 : (Jvm.Cond.code ({ cls := "com/example/darogan/darogan/FrameEqualsPinLaw", name := "str", desc := "(I)Ljava/lang/String;" } : Jvm.MethodName) method_2_code (2 : Nat) (Option.some (Jvm.ClassFile.FieldType.object "java/lang/String"))).before args0 about1 = true := code_word (m := ⟨1, 1⟩) (meth := k1m1) (c := k1c1) (by decide +kernel) rfl rfl rfl (by decide +kernel)
set_option maxRecDepth 65536 in
theorem w_c2 : (Jvm.Cond.code ({ cls := "java/lang/String", name := "<init>", desc := "([C)V" } : Jvm.MethodName) jdk_42_method_3_code (2 : Nat) (Option.none : Option Jvm.ClassFile.FieldType)).before args0 about1 = true := code_word (m := ⟨9, 1⟩) (meth := k9m1) (c := k9c1) (by decide +kernel) rfl rfl rfl (by decide +kernel)
set_option maxRecDepth 65536 in
theorem w_c3 : (Jvm.Cond.code ({ cls := "java/lang/String", name := "<init>", desc := "([CIILjava/lang/Void;)V" } : Jvm.MethodName) jdk_42_method_149_code (6 : Nat) (Option.none : Option Jvm.ClassFile.FieldType)).before args0 about1 = true := code_word (m := ⟨9, 3⟩) (meth := k9m3) (c := k9c3) (by decide +kernel) rfl rfl rfl (by decide +kernel)
set_option maxRecDepth 65536 in
theorem w_c4 : (Jvm.Cond.code ({ cls := "java/lang/Object", name := "<init>", desc := "()V" } : Jvm.MethodName) object_method_1_code (1 : Nat) (Option.none : Option Jvm.ClassFile.FieldType)).before args0 about1 = true := code_word (m := ⟨0, 0⟩) (meth := k0m0) (c := k0c0) (by decide +kernel) rfl rfl rfl (by decide +kernel)
set_option maxRecDepth 65536 in
theorem w_c5 : (Jvm.Cond.code ({ cls := "java/lang/StringUTF16", name := "compress", desc := "([CII)[B" } : Jvm.MethodName) jdk_52_method_16_code (6 : Nat) (Option.some (Jvm.ClassFile.FieldType.array Jvm.ClassFile.FieldType.byte))).before args0 about1 = true := code_word (m := ⟨10, 2⟩) (meth := k10m2) (c := k10c2) (by decide +kernel) rfl rfl rfl (by decide +kernel)
set_option maxRecDepth 65536 in
theorem w_c6 : (Jvm.Cond.code ({ cls := "java/lang/StringUTF16", name := "compress", desc := "([CI[BII)I" } : Jvm.MethodName) jdk_52_method_21_code (7 : Nat) (Option.some Jvm.ClassFile.FieldType.int)).before args0 about1 = true := code_word (m := ⟨10, 3⟩) (meth := k10m3) (c := k10c3) (by decide +kernel) rfl rfl rfl (by decide +kernel)
set_option maxRecDepth 65536 in
theorem w_c7 : (Jvm.Cond.code ({ cls := "java/lang/StringUTF16", name := "coderFromArrayLen", desc := "([BI)B" } : Jvm.MethodName) jdk_52_method_15_code (2 : Nat) (Option.some Jvm.ClassFile.FieldType.byte)).before args0 about1 = true := code_word (m := ⟨10, 1⟩) (meth := k10m1) (c := k10c1) (by decide +kernel) rfl rfl rfl (by decide +kernel)
set_option maxRecDepth 65536 in
theorem w_c8 : (Jvm.Cond.code ({ cls := "com/example/darogan/darogan/CallSite$Frame", name := "<init>", desc := "(Ljava/lang/String;Ljava/lang/String;Ljava/lang/String;I)V" } : Jvm.MethodName) prog_3_method_2_code (5 : Nat) (Option.none : Option Jvm.ClassFile.FieldType)).before args0 about1 = true := code_word (m := ⟨3, 0⟩) (meth := k3m0) (c := k3c0) (by decide +kernel) rfl rfl rfl (by decide +kernel)
set_option maxRecDepth 65536 in
theorem w_c9 : (Jvm.Cond.code ({ cls := "java/lang/Record", name := "<init>", desc := "()V" } : Jvm.MethodName) jdk_30_method_1_code (1 : Nat) (Option.none : Option Jvm.ClassFile.FieldType)).before args0 about1 = true := code_word (m := ⟨2, 0⟩) (meth := k2m0) (c := k2c0) (by decide +kernel) rfl rfl rfl (by decide +kernel)
set_option maxRecDepth 65536 in
theorem w_c10 : (Jvm.Cond.code ({ cls := "com/example/darogan/darogan/FrameEqualsPinLaw", name := "same16", desc := "(II)Z" } : Jvm.MethodName) method_3_code (2 : Nat) (Option.some Jvm.ClassFile.FieldType.boolean)).before args0 about1 = true := code_word (m := ⟨1, 2⟩) (meth := k1m2) (c := k1c2) (by decide +kernel) rfl rfl rfl (by decide +kernel)
set_option maxRecDepth 65536 in
theorem w_c11 : (Jvm.Cond.code ({ cls := "com/example/darogan/darogan/CallSite$Frame", name := "equals", desc := "(Ljava/lang/Object;)Z" } : Jvm.MethodName) prog_3_method_6_code (3 : Nat) (Option.some Jvm.ClassFile.FieldType.boolean)).before args0 about1 = true := code_word (m := ⟨3, 3⟩) (meth := k3m3) (c := k3c3) (by decide +kernel) rfl rfl rfl (by decide +kernel)
set_option maxRecDepth 65536 in
theorem w_c12 : (Jvm.Cond.code ({ cls := "com/example/darogan/darogan/CallSite$Frame", name := "inSameMethod", desc := "(Lcom/example/darogan/darogan/CallSite$Frame;)Z" } : Jvm.MethodName) prog_3_method_4_code (2 : Nat) (Option.some Jvm.ClassFile.FieldType.boolean)).before args0 about1 = true := code_word (m := ⟨3, 1⟩) (meth := k3m1) (c := k3c1) (by decide +kernel) rfl rfl rfl (by decide +kernel)
set_option maxRecDepth 65536 in
theorem w_c13 : (Jvm.Cond.code ({ cls := "com/example/darogan/darogan/CallSite$Frame", name := "inMethod", desc := "(Ljava/lang/String;Ljava/lang/String;Ljava/lang/String;)Z" } : Jvm.MethodName) prog_3_method_5_code (4 : Nat) (Option.some Jvm.ClassFile.FieldType.boolean)).before args0 about1 = true := code_word (m := ⟨3, 2⟩) (meth := k3m2) (c := k3c2) (by decide +kernel) rfl rfl rfl (by decide +kernel)
set_option maxRecDepth 65536 in
theorem w_c14 : (Jvm.Cond.code ({ cls := "java/lang/String", name := "equals", desc := "(Ljava/lang/Object;)Z" } : Jvm.MethodName) jdk_42_method_66_code (3 : Nat) (Option.some Jvm.ClassFile.FieldType.boolean)).before args0 about1 = true := code_word (m := ⟨9, 2⟩) (meth := k9m2) (c := k9c2) (by decide +kernel) rfl rfl rfl (by decide +kernel)
set_option maxRecDepth 65536 in
theorem w_c15 : (Jvm.Cond.code ({ cls := "java/lang/StringLatin1", name := "equals", desc := "([B[B)Z" } : Jvm.MethodName) jdk_43_method_13_code (3 : Nat) (Option.some Jvm.ClassFile.FieldType.boolean)).before args0 about1 = true := code_word (m := ⟨11, 1⟩) (meth := k11m1) (c := k11c1) (by decide +kernel) rfl rfl rfl (by decide +kernel)
def codes1 : List Jvm.Cond := [Jvm.Cond.code x code maxLocals ret, Jvm.Cond.code ({ cls := "com/example/darogan/darogan/FrameEqualsPinLaw", name := "str", desc := "(I)Ljava/lang/String;" } : Jvm.MethodName) method_2_code (2 : Nat) (Option.some (Jvm.ClassFile.FieldType.object "java/lang/String")), Jvm.Cond.code ({ cls := "java/lang/String", name := "<init>", desc := "([C)V" } : Jvm.MethodName) jdk_42_method_3_code (2 : Nat) (Option.none : Option Jvm.ClassFile.FieldType), Jvm.Cond.code ({ cls := "java/lang/String", name := "<init>", desc := "([CIILjava/lang/Void;)V" } : Jvm.MethodName) jdk_42_method_149_code (6 : Nat) (Option.none : Option Jvm.ClassFile.FieldType), Jvm.Cond.code ({ cls := "java/lang/Object", name := "<init>", desc := "()V" } : Jvm.MethodName) object_method_1_code (1 : Nat) (Option.none : Option Jvm.ClassFile.FieldType), Jvm.Cond.code ({ cls := "java/lang/StringUTF16", name := "compress", desc := "([CII)[B" } : Jvm.MethodName) jdk_52_method_16_code (6 : Nat) (Option.some (Jvm.ClassFile.FieldType.array Jvm.ClassFile.FieldType.byte)), Jvm.Cond.code ({ cls := "java/lang/StringUTF16", name := "compress", desc := "([CI[BII)I" } : Jvm.MethodName) jdk_52_method_21_code (7 : Nat) (Option.some Jvm.ClassFile.FieldType.int), Jvm.Cond.code ({ cls := "java/lang/StringUTF16", name := "coderFromArrayLen", desc := "([BI)B" } : Jvm.MethodName) jdk_52_method_15_code (2 : Nat) (Option.some Jvm.ClassFile.FieldType.byte), Jvm.Cond.code ({ cls := "com/example/darogan/darogan/CallSite$Frame", name := "<init>", desc := "(Ljava/lang/String;Ljava/lang/String;Ljava/lang/String;I)V" } : Jvm.MethodName) prog_3_method_2_code (5 : Nat) (Option.none : Option Jvm.ClassFile.FieldType), Jvm.Cond.code ({ cls := "java/lang/Record", name := "<init>", desc := "()V" } : Jvm.MethodName) jdk_30_method_1_code (1 : Nat) (Option.none : Option Jvm.ClassFile.FieldType), Jvm.Cond.code ({ cls := "com/example/darogan/darogan/FrameEqualsPinLaw", name := "same16", desc := "(II)Z" } : Jvm.MethodName) method_3_code (2 : Nat) (Option.some Jvm.ClassFile.FieldType.boolean), Jvm.Cond.code ({ cls := "com/example/darogan/darogan/CallSite$Frame", name := "equals", desc := "(Ljava/lang/Object;)Z" } : Jvm.MethodName) prog_3_method_6_code (3 : Nat) (Option.some Jvm.ClassFile.FieldType.boolean), Jvm.Cond.code ({ cls := "com/example/darogan/darogan/CallSite$Frame", name := "inSameMethod", desc := "(Lcom/example/darogan/darogan/CallSite$Frame;)Z" } : Jvm.MethodName) prog_3_method_4_code (2 : Nat) (Option.some Jvm.ClassFile.FieldType.boolean), Jvm.Cond.code ({ cls := "com/example/darogan/darogan/CallSite$Frame", name := "inMethod", desc := "(Ljava/lang/String;Ljava/lang/String;Ljava/lang/String;)Z" } : Jvm.MethodName) prog_3_method_5_code (4 : Nat) (Option.some Jvm.ClassFile.FieldType.boolean), Jvm.Cond.code ({ cls := "java/lang/String", name := "equals", desc := "(Ljava/lang/Object;)Z" } : Jvm.MethodName) jdk_42_method_66_code (3 : Nat) (Option.some Jvm.ClassFile.FieldType.boolean), Jvm.Cond.code ({ cls := "java/lang/StringLatin1", name := "equals", desc := "([B[B)Z" } : Jvm.MethodName) jdk_43_method_13_code (3 : Nat) (Option.some Jvm.ClassFile.FieldType.boolean)]
set_option maxRecDepth 65536 in
theorem codes_eq : words1.filter isCode = codes1 := rfl
theorem w_codes : ∀ c ∈ words1.filter isCode, c.before args0 about1 = true := by
  rw [codes_eq]
  intro c hc
  simp only [codes1, List.mem_cons, List.not_mem_nil, or_false] at hc
  rcases hc with rfl | rfl | rfl | rfl | rfl | rfl | rfl | rfl | rfl | rfl | rfl | rfl | rfl | rfl | rfl | rfl
  · exact w_c0
  · exact w_c1
  · exact w_c2
  · exact w_c3
  · exact w_c4
  · exact w_c5
  · exact w_c6
  · exact w_c7
  · exact w_c8
  · exact w_c9
  · exact w_c10
  · exact w_c11
  · exact w_c12
  · exact w_c13
  · exact w_c14
  · exact w_c15
set_option maxRecDepth 65536 in
theorem w_t1 : (words1.take 24).all (fun c => isCode c || c.before args0 about1) = true := by decide +kernel
set_option maxRecDepth 65536 in
theorem w_t2 : ((words1.drop 24).take 24).all (fun c => isCode c || c.before args0 about1) = true := by decide +kernel
set_option maxRecDepth 65536 in
theorem w_t3 : (((words1.drop 24).drop 24).take 24).all (fun c => isCode c || c.before args0 about1) = true := by decide +kernel
set_option maxRecDepth 65536 in
theorem w_t4 : (((words1.drop 24).drop 24).drop 24).all (fun c => isCode c || c.before args0 about1) = true := by decide +kernel
theorem w_tables : (allAtoms (Jvm.Cond.code x code maxLocals ret :: tables_1)).before args0 about1 = true := by
  rw [allAtoms_all]
  show words1.all (fun c => c.before args0 about1) = true
  refine all_split ?_ w_codes
  rw [← List.take_append_drop 24 words1, List.all_append, w_t1, ← List.take_append_drop 24 (words1.drop 24), List.all_append, w_t2, ← List.take_append_drop 24 ((words1.drop 24).drop 24), List.all_append, w_t3, w_t4]
  rfl
set_option maxRecDepth 65536 in
theorem w_rest : rest_1_c.before args0 about1 = true := by decide +kernel
set_option maxRecDepth 65536 in
theorem w_case : (Jvm.Cond.and given_1 narrow_1).before args0 about1 = true := by decide +kernel
theorem w_applies : (headSpec (Jvm.Cond.code x code maxLocals ret :: tables_1) room_1).applies x e0.platform about1 = true :=
  (Spec.applies_iff w_frames).mpr ⟨w_running, w_runnable, w_alone, w_named, w_hears, w_ripe, w_room, w_tables⟩
theorem atStart : AtStart classFile x code maxLocals ret World_1 tables_1 room_1 Calls_1 rest_1 Pre_1 launch0 p0 e0 about1 theMethod args0 below0 :=
  ⟨lists_1, trivial, launch0.admits_env _ _ _, launch0.least_env, fairChoices_fair.cas, fairChoices_fair.clock, w_frames, w_args, w_heap, w_applies, trivial, w_rest, w_case⟩
end start1
theorem witness_1 : WitnessClaimed_1 := ⟨start1.p0, start1.e0, start1.about1, start1.theMethod, start1.args0, start1.below0, start1.atStart⟩
end Jvm.Pilot.@@N@@
