import JvmDerived
import JvmDerived.Pilot.@@N@@Statement
import JvmDerived.Pilot.@@N@@Code
set_option linter.unusedVariables false
set_option linter.unusedSimpArgs false
set_option maxRecDepth 65536
set_option maxHeartbeats 400000000
@@BLOCK:NumsL.lean.txt@@
namespace Jvm.Pilot.@@N@@
open Jvm Jvm.ClassFile Sem Op Lib Jvm.Free Jvm.Stand Jvm.LawKit Jvm.RoadKit Bundle Jvm.Pilot.@@N@@.Jvm.D
abbrev cc (x : Int32) : Int32 := x.toUInt32.toUInt16.toUInt32.toInt32
abbrev bb (x : Int32) : Int32 := x.toInt8.toInt32
abbrev PayOf (F : State → Outcome → State → List Loc → Nat → Nat → Prop) (l : Launch) (Z : State) (y : MethodName) (ws : List Jvm.Cond) (bytes : ByteArray) (ml : Nat) (rt : Option FieldType) (as' : Array Value) (h0 : Heap) (rm : Room) (Q : Option Value → Heap → List Loc → Prop) : Prop :=
  MetFree l y (head1 (Jvm.Cond.code y bytes ml rt :: ws) rm) (fun a U => a = as' ∧ Z.Warmed39 U.vm ∧ U.heap = h0) (fun _ _ _ _ _ => True) (fun _ U o U' => ∃ v L, o = .returned v ∧ Q v U'.heap L ∧ F U o U' L rm.cells rm.slots)
abbrev Pay := PayOf FrameEnd
abbrev PayW := PayOf ReturnedEndW
theorem own_body {F : State → Outcome → State → List Loc → Nat → Nat → Prop} {l : Launch} {Z : State} {y : MethodName} {ws : List Jvm.Cond} {bytes : ByteArray} {ml : Nat} {rt : Option FieldType} {as' : Array Value} {h0 : Heap} {rm : Room} {Q : Option Value → Heap → List Loc → Prop} (hp : plainFor y = true) {L0 : Array Slot} (hent : ∀ m, entryFrame m as' ml = mkF m 0 L0 [])
    (body : ∀ (p : Program) (e : Env) (s : State) (m : MethodId) (below : List Frame) (meth : Method) (c : Code) (s₁ : State), meth.sig.returnType = rt → meth.locks = false → p.tables.exec = Jvm.exec → c.code = bytes → c.maxLocals = ml → Z.Warmed39 s.vm → s.vm.findClass y.cls = some m.cls → meth.name = y.name → Stand p l e rm s m as' below meth c s₁ [] 0 0 → s₁.heap = h0 →
      ∃ s₂ o, Steps p.tables e below (s₁.setTop (mkF m 0 L0 [])) s₂ ∧ s₂.status = .running ∧ Ended s₂ below o ∧ ∃ v L, o = .returned v ∧ Q v s₂.heap L ∧ F s o s₂ L rm.cells rm.slots) : PayOf F l Z y ws bytes ml rt as' h0 rm Q := by
  refine MetFree.of_bodySF hp hisR ?_
  intro p e s m args below meth c s₁ Bd hml hP hK
  obtain ⟨rfl, hZ, hh⟩ := hP
  obtain ⟨s₂, o, st, r⟩ := body p e s m below meth c s₁ Bd.returns Bd.notSynchronized Bd.exec Bd.bytes hml hZ (findClass_of_methodNamed Bd.named) (name_of_methodNamed Bd.named Bd.method).1 (Stand.of_body Bd) (by rw [← hh, Bd.state]; rfl)
  exact ⟨s₂, o, castTop (hent m) st, r⟩
abbrev HW (Z : State) (a0 : Array Value) : Prop := ∀ d ∈ tables_1, d.before a0 Z = true
abbrev vi (x : Int32) : Slot := .val (.int x)
abbrev vl (x : Int64) : Slot := .val (.long x)
abbrev va (x : Addr) : Slot := .val (.ref x)
abbrev uu : Slot := .unset
abbrev ss : Slot := .second
theorem ww {Z : State} {a0 : Array Value} (hw : ∀ d ∈ tables_1, d.before a0 Z = true) (i : Nat) {d : Jvm.Cond} (h : tables_1[i]? = some d) : d.before a0 Z = true := hw _ (List.mem_of_getElem? h)
theorem own_old {Z : State} {n0 : Nat} {h : Heap} (O : Old Z n0 h) : n0 ≤ h.size := O.1 ▸ O.2.1
theorem own_lc_ltT {x y : Int64} (h : x < y) : ifCond.holds .lt (lcmpW x y) = true ∧ ifCond.holds .ge (lcmpW x y) = false := by
  have q : lcmpW x y < 0 := by rw [lcW]; exact (lc_lt x y).mpr h
  exact ⟨(if0 _ _).trans (tlt q).1, (if0 _ _).trans (tlt q).2.1⟩
theorem own_lc_ltF {x y : Int64} (h : ¬ x < y) : ifCond.holds .lt (lcmpW x y) = false ∧ ifCond.holds .ge (lcmpW x y) = true := by
  have q : ¬ lcmpW x y < 0 := by rw [lcW]; exact fun z => h ((lc_lt x y).mp z)
  exact ⟨(if0 _ _).trans (flt q).1, (if0 _ _).trans (flt q).2.1⟩
theorem own_lc_gtT {x y : Int64} (h : y < x) : ifCond.holds .gt (lcmpW x y) = true ∧ ifCond.holds .le (lcmpW x y) = false := by
  have q : 0 < lcmpW x y := by rw [lcW]; exact (lc_gt x y).mpr h
  exact ⟨(if0 _ _).trans (tlt q).2.2.1, (if0 _ _).trans (tlt q).2.2.2⟩
theorem own_lc_gtF {x y : Int64} (h : ¬ y < x) : ifCond.holds .gt (lcmpW x y) = false ∧ ifCond.holds .le (lcmpW x y) = true := by
  have q : ¬ 0 < lcmpW x y := by rw [lcW]; exact fun z => h ((lc_gt x y).mp z)
  exact ⟨(if0 _ _).trans (flt q).2.2.1, (if0 _ _).trans (flt q).2.2.2⟩
theorem own_lc_eqT {x y : Int64} (h : x = y) : ifCond.holds .eq (lcmpW x y) = true ∧ ifCond.holds .ne (lcmpW x y) = false := by
  have q : lcmpW x y = 0 := by rw [lcW]; exact (lc_eq x y).mpr h
  exact ⟨(if0 _ _).trans (teq q).1, (if0 _ _).trans (teq q).2⟩
theorem own_lc_eqF {x y : Int64} (h : ¬ x = y) : ifCond.holds .eq (lcmpW x y) = false ∧ ifCond.holds .ne (lcmpW x y) = true := by
  have q : ¬ lcmpW x y = 0 := by rw [lcW]; exact fun z => h ((lc_eq x y).mp z)
  exact ⟨(if0 _ _).trans (feq q).1, (if0 _ _).trans (feq q).2⟩
theorem own_selp {y : MethodName} {s : State} {args : Array Value} {n : Nat} (hy : y.cls ≠ "java/lang/invoke/MethodHandle" ∧ y.cls ≠ "java/lang/invoke/VarHandle") (hins : (Jvm.Cond.instantiable y.cls n).before args s = true) (hpriv : (Jvm.Cond.privateMethod y).before args s = true) (hinst : (Jvm.Cond.instanceMethod y).before args s = true) : (Jvm.Cond.selects y.cls y y).before args s = true := by
  obtain ⟨c, k, hc, hk, -, hniab, -, -⟩ := Cond.instantiable_spec hins
  exact selects_self_of_private hc hk (Bool.or_eq_false_iff.mp hniab).1 (Cond.privateMethod_at hpriv) hinst hy
theorem own_rem (x k : Int32) (n : Int) (hk : k.toInt = n) (hx : 0 ≤ x.toInt) : (x % k).toInt = x.toInt % n := by
  rw [Int32.toInt_mod, hk, Int.tmod_eq_emod_of_nonneg hx]
theorem own_eqI {t : Term} {k : Int32} {args : Array Value} {Z : State} (h : (Jvm.Cond.eq t (Jvm.Term.int k)).value args Z none Z [] = some true) : t.eval args Z none [] Z = some (.int k) := by
  simp only [Cond.value, Term.eval] at h
  cases ht : t.eval args Z none [] Z with
  | none => simp [ht] at h
  | some v => cases v <;> simp [ht] at h ⊢; exact h
theorem own_ne0 {t : Term} {x : Int32} {args : Array Value} {Z : State} (e : t.eval args Z none [] Z = some (.int x)) (h : (Jvm.Cond.not (Jvm.Cond.eq t (Jvm.Term.int (0 : Int32)))).value args Z none Z [] = some true) : ¬ (x = (0 : Int32)) := by
  intro q
  subst q
  simp [Cond.value, Term.eval, e] at h
theorem own_arvStart {ty : FieldType} {Z : State} {args : Array Value} {t : Term} {a : Addr} {cl : Cell} {z : Int32} {vs : List Value} {dv : Value} (hf : Fit Z) (ev : t.eval args Z none [] Z = some (.ref a)) (A : Arr Z Z.heap a cl ty) (hl : (Term.length t).eval args Z none [] Z = some (.int z)) (hz : ¬ z < 0) (hn : z.toNatClampNeg = vs.length) (H : HasL cl 0 vs) : Arv Z Z.heap a cl.cls ty z vs dv := by
  have hq : cl.slots.size < 2 ^ 31 ∧ cl.slots.size.toInt32 = z := by
    have e := A.fin (Vm.Alike.refl _)
    simp only [Term.eval, ev, e, Option.bind_eq_bind, Option.bind_some] at hl
    by_cases q : cl.slots.size < 2 ^ 31
    · rw [if_pos q] at hl; exact ⟨q, Value.int.inj (Option.some.inj hl)⟩
    · rw [if_neg q] at hl; cases hl
  exact Arv.start hf A hq.1 hq.2 hz hn H
theorem own_nat (x : Int32) : x.toInt % 4294967296 = (x.toBitVec.toNat : Int) := by
  have h : x.toInt = x.toBitVec.toInt := rfl
  have q := x.toBitVec.isLt
  rw [h, BitVec.toInt_eq_toNat_cond]
  split <;> omega
theorem own_cc_toInt (x : Int32) : (cc x).toInt = x.toInt % 65536 := by
  have e : (cc x).toBitVec = (x.toBitVec.setWidth 16).setWidth 32 := rfl
  have h : (cc x).toInt = (cc x).toBitVec.toInt := rfl
  have n := own_nat x
  have q := x.toBitVec.isLt
  rw [h, e, BitVec.toInt_eq_toNat_cond, BitVec.toNat_setWidth, BitVec.toNat_setWidth]
  split <;> omega
theorem own_bb_toInt (x : Int32) : (bb x).toInt = (x.toInt + 128) % 256 - 128 := by
  have h : (bb x).toInt = x.toInt8.toInt := Int8.toInt_toInt32 _
  rw [h, Int32.toInt_toInt8, Int.bmod_def]
  split <;> omega
theorem own_ushr8 (x : Int32) : ((x.toUInt32 >>> ((8 : Int32) &&& 31).toUInt32).toInt32).toInt = x.toInt % 4294967296 / 256 := by
  have e : ((x.toUInt32 >>> ((8 : Int32) &&& 31).toUInt32).toInt32).toBitVec = x.toBitVec >>> 8 := rfl
  have h : ((x.toUInt32 >>> ((8 : Int32) &&& 31).toUInt32).toInt32).toInt = ((x.toUInt32 >>> ((8 : Int32) &&& 31).toUInt32).toInt32).toBitVec.toInt := rfl
  have n := own_nat x
  have q := x.toBitVec.isLt
  rw [h, e, BitVec.toInt_eq_toNat_cond, BitVec.toNat_ushiftRight, Nat.shiftRight_eq_div_pow]
  split <;> omega
theorem own_fitsC {Z : State} {h : Heap} {a : Addr} {k : ClassId} {z : Int32} {vs : List Value} {dv : Value} (V : Arv Z h a k .char z vs dv) (i : Nat) (hi : i < z.toNatClampNeg) : fits .char (vs.getD i dv) = true := by
  obtain ⟨c, -, -, S, -, -, G⟩ := V
  exact G i (by rw [S]; exact hi)
theorem own_or (x y : Int32) (h1 : 0 ≤ x.toInt) (h2 : x.toInt < 256) (h3 : 0 ≤ y.toInt) (h4 : y.toInt < 256) : (((x <<< ((0 : Int32) &&& 31)) ||| (y <<< ((8 : Int32) &&& 31))).toInt) = x.toInt + 256 * y.toInt := by
  have ex := own_nat x
  have ey := own_nat y
  have nx : x.toBitVec.toNat < 256 := by omega
  have ny : y.toBitVec.toNat < 256 := by omega
  have e : ((x <<< ((0 : Int32) &&& 31)) ||| (y <<< ((8 : Int32) &&& 31))).toBitVec = (x.toBitVec <<< (0 : Nat)) ||| (y.toBitVec <<< (8 : Nat)) := rfl
  have s : (y.toBitVec.toNat <<< 8) = 256 * y.toBitVec.toNat := by rw [Nat.shiftLeft_eq]; omega
  have n : ((x.toBitVec <<< (0 : Nat)) ||| (y.toBitVec <<< (8 : Nat))).toNat = x.toBitVec.toNat + 256 * y.toBitVec.toNat := by
    rw [BitVec.toNat_or, BitVec.toNat_shiftLeft, BitVec.toNat_shiftLeft, Nat.shiftLeft_zero, Nat.mod_eq_of_lt (show x.toBitVec.toNat < 2 ^ 32 by omega), Nat.mod_eq_of_lt (show y.toBitVec.toNat <<< 8 < 2 ^ 32 by rw [s]; omega), Nat.or_comm, ← Nat.shiftLeft_add_eq_or_of_lt (show x.toBitVec.toNat < 2 ^ 8 from nx), s]
    omega
  have h : ∀ z : Int32, z.toInt = z.toBitVec.toInt := fun _ => rfl
  rw [h ((x <<< ((0 : Int32) &&& 31)) ||| (y <<< ((8 : Int32) &&& 31))), e, BitVec.toInt_eq_toNat_cond, n]
  split <;> omega
theorem own_sar8 (x : Int32) : (x >>> ((8 : Int32) &&& 31)).toInt = x.toInt / 256 := by
  have e : (x >>> ((8 : Int32) &&& 31)).toBitVec = x.toBitVec.sshiftRight 8 := rfl
  have h : ∀ z : Int32, z.toInt = z.toBitVec.toInt := fun _ => rfl
  rw [h, e, BitVec.toInt_sshiftRight, Int.shiftRight_eq_div_pow]
  rfl
theorem own_sar0 (x : Int32) : (x >>> ((0 : Int32) &&& 31)).toInt = x.toInt := by
  have e : (x >>> ((0 : Int32) &&& 31)).toBitVec = x.toBitVec.sshiftRight 0 := rfl
  have h : ∀ z : Int32, z.toInt = z.toBitVec.toInt := fun _ => rfl
  rw [h (x >>> ((0 : Int32) &&& 31)), e, BitVec.toInt_sshiftRight, Int.shiftRight_eq_div_pow]
  exact Int.ediv_one _
theorem own_fitC {c : Int32} (hf : fits .char (.int c) = true) : 0 ≤ c.toInt ∧ c.toInt ≤ 65535 := by
  have h : (decide ((0 : Int32) ≤ c) && decide (c ≤ (65535 : Int32))) = true := hf
  rw [Bool.and_eq_true, decide_eq_true_eq, decide_eq_true_eq, Int32.le_iff_toInt_le, Int32.le_iff_toInt_le] at h
  exact h
theorem own_getChar {c : Int32} (hf : fits .char (.int c) = true) (h : (255 : Int32) < c) : (255 : Int32) < (cc (cc ((((bb (bb (c >>> ((0 : Int32) &&& 31)))) &&& (255 : Int32)) <<< ((0 : Int32) &&& 31)) ||| (((bb (bb (c >>> ((8 : Int32) &&& 31)))) &&& (255 : Int32)) <<< ((8 : Int32) &&& 31))))) := by
  obtain ⟨f1, f2⟩ := own_fitC hf
  have e255 : (255 : Int32).toInt = 255 := rfl
  have m := fun z : Int32 => Jvm.Kit.i32_mask z 255 (k := 8) (by decide) (by decide)
  have a0 : ((bb (bb (c >>> ((0 : Int32) &&& 31)))) &&& (255 : Int32)).toInt = c.toInt % 256 := by rw [m, own_bb_toInt, own_bb_toInt, own_sar0]; omega
  have a8 : ((bb (bb (c >>> ((8 : Int32) &&& 31)))) &&& (255 : Int32)).toInt = c.toInt / 256 % 256 := by rw [m, own_bb_toInt, own_bb_toInt, own_sar8]; omega
  rw [Int32.lt_iff_toInt_lt, e255] at h ⊢
  rw [own_cc_toInt, own_cc_toInt, own_or _ _ (by rw [a0]; omega) (by rw [a0]; omega) (by rw [a8]; omega) (by rw [a8]; omega), a0, a8]
  omega
abbrev My1 : MethodName := ⟨"com/example/leafcutter/leafcutter/RunOptionsRequireConcurrencyKeyPinLaw", "make", "(ICCCC)Ljava/lang/String;"⟩
abbrev My2 : MethodName := ⟨"java/lang/String", "<init>", "([C)V"⟩
abbrev My3 : MethodName := ⟨"java/lang/String", "<init>", "([CIILjava/lang/Void;)V"⟩
abbrev My5 : MethodName := ⟨"java/lang/StringUTF16", "compress", "([CII)[B"⟩
abbrev My6 : MethodName := ⟨"java/lang/StringUTF16", "compress", "([CI[BII)I"⟩
abbrev My7 : MethodName := ⟨"java/lang/StringUTF16", "coderFromArrayLen", "([BI)B"⟩
abbrev My8 : MethodName := ⟨"com/example/leafcutter/leafcutter/RunOptions", "requireConcurrencyKey", "(Ljava/lang/String;)Ljava/lang/String;"⟩
abbrev My9 : MethodName := ⟨"java/util/Objects", "requireNonNull", "(Ljava/lang/Object;Ljava/lang/String;)Ljava/lang/Object;"⟩
abbrev My10 : MethodName := ⟨"java/lang/String", "isEmpty", "()Z"⟩
abbrev My11 : MethodName := ⟨"java/lang/String", "length", "()I"⟩
abbrev My12 : MethodName := ⟨"java/lang/String", "coder", "()B"⟩
abbrev My13 : MethodName := ⟨"java/lang/StringUTF16", "toBytes", "([CII)[B"⟩
abbrev My14 : MethodName := ⟨"java/lang/StringUTF16", "newBytesFor", "(I)[B"⟩
abbrev My15 : MethodName := ⟨"java/lang/StringUTF16", "newBytesLength", "(I)I"⟩
abbrev My16 : MethodName := ⟨"java/lang/StringUTF16", "putChar", "([BII)V"⟩
abbrev My17 : MethodName := ⟨"java/lang/StringUTF16", "getChar", "([BI)C"⟩
abbrev sC0 : String := "java/lang/String"
abbrev sC1 : String := "java/lang/StringUTF16"
abbrev sC2 : String := "com/example/leafcutter/leafcutter/RunOptions"
abbrev sC3 : String := "com/example/leafcutter/leafcutter/RunOptionsRequireConcurrencyKeyPinLaw"
abbrev sC4 : String := "java/lang/Object"
abbrev sC5 : String := "java/util/Objects"
/-- what the law's case says of the statics, at the start -/
def SF (Z : State) (z_COMPACT_STRINGS : Int32) : Prop := (Sta Z Z.heap sC0 "COMPACT_STRINGS" "Z" (.int z_COMPACT_STRINGS)) ∧ (¬ (z_COMPACT_STRINGS = (0 : Int32))) ∧ (Sta Z Z.heap sC1 "$assertionsDisabled" "Z" (.int (1 : Int32))) ∧ (Sta Z Z.heap sC1 "HI_BYTE_SHIFT" "I" (.int (0 : Int32))) ∧ (Sta Z Z.heap sC1 "LO_BYTE_SHIFT" "I" (.int (8 : Int32))) ∧ True
theorem own_wS {Z : State} {a0 : Array Value} (hw : ∀ d ∈ tables_1, d.before a0 Z = true) : ∀ a ∈ Bundle.stringAtoms, a.before a0 Z = true := by
  intro a ha
  simp only [Bundle.stringAtoms, List.mem_cons, List.not_mem_nil, or_false] at ha
  rcases ha with rfl | rfl | rfl | rfl | rfl | rfl | rfl
  · exact (ww hw 8 rfl)
  · exact (ww hw 7 rfl)
  · exact (ww hw 24 rfl)
  · exact (ww hw 34 rfl)
  · exact (ww hw 32 rfl)
  · exact (ww hw 40 rfl)
  · exact (ww hw 41 rfl)
theorem pn_0 : plainName "com/example/leafcutter/leafcutter/RunOptionsRequireConcurrencyKeyPinLaw" = true := by first | (simp [plainName, overriddenIn]; done) | decide +kernel
theorem d1_0 : decode method_3_code 0 = .ok (.iload_n 0, 1) := by decide +kernel
theorem d1_1 : decode method_3_code 1 = .ok (.ifCond .ne 23, 3) := by decide +kernel
theorem d1_24 : decode method_3_code 24 = .ok (.iload_n 0, 1) := by decide +kernel
theorem d1_25 : decode method_3_code 25 = .ok (.iconst 1, 1) := by decide +kernel
theorem d1_26 : decode method_3_code 26 = .ok (.if_icmp .ne 28, 3) := by decide +kernel
theorem d1_54 : decode method_3_code 54 = .ok (.iload_n 0, 1) := by decide +kernel
theorem d1_55 : decode method_3_code 55 = .ok (.iconst 2, 1) := by decide +kernel
theorem d1_56 : decode method_3_code 56 = .ok (.if_icmp .ne 33, 3) := by decide +kernel
theorem d1_89 : decode method_3_code 89 = .ok (.iconst 4, 1) := by decide +kernel
theorem d1_90 : decode method_3_code 90 = .ok (.newarray .char, 2) := by decide +kernel
theorem d1_92 : decode method_3_code 92 = .ok (.astore 5, 2) := by decide +kernel
theorem d1_94 : decode method_3_code 94 = .ok (.aload 5, 2) := by decide +kernel
theorem d1_96 : decode method_3_code 96 = .ok (.iconst 0, 1) := by decide +kernel
theorem d1_97 : decode method_3_code 97 = .ok (.iload_n 1, 1) := by decide +kernel
theorem d1_98 : decode method_3_code 98 = .ok (.castore, 1) := by decide +kernel
theorem d1_99 : decode method_3_code 99 = .ok (.aload 5, 2) := by decide +kernel
theorem d1_101 : decode method_3_code 101 = .ok (.iconst 1, 1) := by decide +kernel
theorem d1_102 : decode method_3_code 102 = .ok (.iload_n 2, 1) := by decide +kernel
theorem d1_103 : decode method_3_code 103 = .ok (.castore, 1) := by decide +kernel
theorem d1_104 : decode method_3_code 104 = .ok (.aload 5, 2) := by decide +kernel
theorem d1_106 : decode method_3_code 106 = .ok (.iconst 2, 1) := by decide +kernel
theorem d1_107 : decode method_3_code 107 = .ok (.iload_n 3, 1) := by decide +kernel
theorem d1_108 : decode method_3_code 108 = .ok (.castore, 1) := by decide +kernel
theorem d1_109 : decode method_3_code 109 = .ok (.aload 5, 2) := by decide +kernel
theorem d1_111 : decode method_3_code 111 = .ok (.iconst 3, 1) := by decide +kernel
theorem d1_112 : decode method_3_code 112 = .ok (.iload 4, 2) := by decide +kernel
theorem d1_114 : decode method_3_code 114 = .ok (.castore, 1) := by decide +kernel
theorem d1_115 : decode method_3_code 115 = .ok (.new 21, 3) := by decide +kernel
theorem d1_118 : decode method_3_code 118 = .ok (.dup, 1) := by decide +kernel
theorem d1_119 : decode method_3_code 119 = .ok (.aload 5, 2) := by decide +kernel
theorem d1_121 : decode method_3_code 121 = .ok (.invokespecial 26, 3) := by decide +kernel
theorem pn_1 : plainName "java/lang/String" = true := by first | (simp [plainName, overriddenIn]; done) | decide +kernel
theorem d2_0 : decode jdk_42_method_3_code 0 = .ok (.aload_n 0, 1) := by decide +kernel
theorem d2_1 : decode jdk_42_method_3_code 1 = .ok (.aload_n 1, 1) := by decide +kernel
theorem d2_2 : decode jdk_42_method_3_code 2 = .ok (.iconst 0, 1) := by decide +kernel
theorem d2_3 : decode jdk_42_method_3_code 3 = .ok (.aload_n 1, 1) := by decide +kernel
theorem d2_4 : decode jdk_42_method_3_code 4 = .ok (.arraylength, 1) := by decide +kernel
theorem d2_5 : decode jdk_42_method_3_code 5 = .ok (.aconst_null, 1) := by decide +kernel
theorem d2_6 : decode jdk_42_method_3_code 6 = .ok (.invokespecial 27, 3) := by decide +kernel
theorem d3_0 : decode jdk_42_method_149_code 0 = .ok (.aload_n 0, 1) := by decide +kernel
theorem d3_1 : decode jdk_42_method_149_code 1 = .ok (.invokespecial 1, 3) := by decide +kernel
theorem d3_4 : decode jdk_42_method_149_code 4 = .ok (.iload_n 3, 1) := by decide +kernel
theorem d3_5 : decode jdk_42_method_149_code 5 = .ok (.ifCond .ne 22, 3) := by decide +kernel
theorem d3_27 : decode jdk_42_method_149_code 27 = .ok (.getstatic 38, 3) := by decide +kernel
theorem d3_30 : decode jdk_42_method_149_code 30 = .ok (.ifCond .eq 28, 3) := by decide +kernel
theorem d3_33 : decode jdk_42_method_149_code 33 = .ok (.aload_n 1, 1) := by decide +kernel
theorem d3_34 : decode jdk_42_method_149_code 34 = .ok (.iload_n 2, 1) := by decide +kernel
theorem d3_35 : decode jdk_42_method_149_code 35 = .ok (.iload_n 3, 1) := by decide +kernel
theorem d3_36 : decode jdk_42_method_149_code 36 = .ok (.invokestatic 177, 3) := by decide +kernel
theorem pn_2 : plainName "java/lang/StringUTF16" = true := by first | (simp [plainName, overriddenIn]; done) | decide +kernel
theorem d5_0 : decode jdk_52_method_16_code 0 = .ok (.iload_n 2, 1) := by decide +kernel
theorem d5_1 : decode jdk_52_method_16_code 1 = .ok (.newarray .byte, 2) := by decide +kernel
theorem d5_3 : decode jdk_52_method_16_code 3 = .ok (.astore_n 3, 1) := by decide +kernel
theorem d5_4 : decode jdk_52_method_16_code 4 = .ok (.aload_n 0, 1) := by decide +kernel
theorem d5_5 : decode jdk_52_method_16_code 5 = .ok (.iload_n 1, 1) := by decide +kernel
theorem d5_6 : decode jdk_52_method_16_code 6 = .ok (.aload_n 3, 1) := by decide +kernel
theorem d5_7 : decode jdk_52_method_16_code 7 = .ok (.iconst 0, 1) := by decide +kernel
theorem d5_8 : decode jdk_52_method_16_code 8 = .ok (.iload_n 2, 1) := by decide +kernel
theorem d5_9 : decode jdk_52_method_16_code 9 = .ok (.invokestatic 115, 3) := by decide +kernel
theorem d6_0 : decode jdk_52_method_21_code 0 = .ok (.iconst 0, 1) := by decide +kernel
theorem d6_1 : decode jdk_52_method_21_code 1 = .ok (.istore 5, 2) := by decide +kernel
theorem d6_3 : decode jdk_52_method_21_code 3 = .ok (.iload 5, 2) := by decide +kernel
theorem d6_5 : decode jdk_52_method_21_code 5 = .ok (.iload 4, 2) := by decide +kernel
theorem d6_7 : decode jdk_52_method_21_code 7 = .ok (.if_icmp .ge 37, 3) := by decide +kernel
theorem d6_10 : decode jdk_52_method_21_code 10 = .ok (.aload_n 0, 1) := by decide +kernel
theorem d6_11 : decode jdk_52_method_21_code 11 = .ok (.iload_n 1, 1) := by decide +kernel
theorem d6_12 : decode jdk_52_method_21_code 12 = .ok (.caload, 1) := by decide +kernel
theorem d6_13 : decode jdk_52_method_21_code 13 = .ok (.istore 6, 2) := by decide +kernel
theorem d6_15 : decode jdk_52_method_21_code 15 = .ok (.iload 6, 2) := by decide +kernel
theorem d6_17 : decode jdk_52_method_21_code 17 = .ok (.sipush 255, 3) := by decide +kernel
theorem d6_20 : decode jdk_52_method_21_code 20 = .ok (.if_icmp .le 6, 3) := by decide +kernel
theorem d6_26 : decode jdk_52_method_21_code 26 = .ok (.aload_n 2, 1) := by decide +kernel
theorem d6_27 : decode jdk_52_method_21_code 27 = .ok (.iload_n 3, 1) := by decide +kernel
theorem d6_28 : decode jdk_52_method_21_code 28 = .ok (.iload 6, 2) := by decide +kernel
theorem d6_30 : decode jdk_52_method_21_code 30 = .ok (.i2b, 1) := by decide +kernel
theorem d6_31 : decode jdk_52_method_21_code 31 = .ok (.bastore, 1) := by decide +kernel
theorem d6_32 : decode jdk_52_method_21_code 32 = .ok (.iinc 1 1, 3) := by decide +kernel
theorem d6_35 : decode jdk_52_method_21_code 35 = .ok (.iinc 3 1, 3) := by decide +kernel
theorem d6_38 : decode jdk_52_method_21_code 38 = .ok (.iinc 5 1, 3) := by decide +kernel
theorem d6_41 : decode jdk_52_method_21_code 41 = .ok (.goto (-38), 3) := by decide +kernel
theorem d6_44 : decode jdk_52_method_21_code 44 = .ok (.iload 4, 2) := by decide +kernel
theorem d6_46 : decode jdk_52_method_21_code 46 = .ok (.ireturn, 1) := by decide +kernel
def Q6_0 (Z : State) (z_COMPACT_STRINGS : Int32) (o0 : Addr) (o1 : Addr) (kk_o0 : ClassId) (kk_o1 : ClassId) (p0 : Int32) (p1 : Int32) (p2 : Int32) (p3 : Int32) (h0 : Heap) (n0 : Nat) (v : Option Value) (h : Heap) (L : List Loc) : Prop := v = (some (.int 4)) ∧ Fr n0 L ∧ Keep h0 h [o1] ∧ Arv Z h o1 kk_o1 .byte (4 : Int32) [(.int (bb (bb p0))), (.int (bb (bb p1))), (.int (bb (bb p2))), (.int (bb (bb p3)))] (.int 0)
theorem rm6_0 (l : Launch) (Z : State) (a0 : Array Value) (hw : HW Z a0) (ws : List Jvm.Cond) (z_COMPACT_STRINGS : Int32) (o0 : Addr) (o1 : Addr) (kk_o0 : ClassId) (kk_o1 : ClassId) (p0 : Int32) (p1 : Int32) (p2 : Int32) (p3 : Int32) (h0 : Heap) (n0 : Nat) (O0 : Old Z n0 h0) (S : SF Z z_COMPACT_STRINGS) (V_o0 : Arv Z h0 o0 kk_o0 .char (4 : Int32) [(.int p0), (.int p1), (.int p2), (.int p3)] (.int 0)) (V_o1 : Arv Z h0 o1 kk_o1 .byte (4 : Int32) [(.int 0), (.int 0), (.int 0), (.int 0)] (.int 0)) (ne_o0_o1 : o0 ≠ o1) (g_o1 : n0 ≤ o1) (hc0 : ¬ ((255 : Int32) < p0)) (hc1 : ¬ ((255 : Int32) < p1)) (hc2 : ¬ ((255 : Int32) < p2)) (hc3 : ¬ ((255 : Int32) < p3)) :
    Pay l Z My6 ws jdk_52_method_21_code 7 (some .int) #[(.ref o0), (.int 0), (.ref o1), (.int 0), (.int 4)] h0 ({ frames := 0, cells := 0, slots := 0, locals := 0 } : Room) (Q6_0 Z z_COMPACT_STRINGS o0 o1 kk_o0 kk_o1 p0 p1 p2 p3 h0 n0) := by
  refine own_body (plainFor_of_name pn_2) (L0 := #[va o0, vi 0, va o1, vi 0, vi 4, uu, uu]) (fun _ => by first | rfl | (simp [entryFrame, mkF, argsToLocals, Value.category]; done)) ?_
  intro p e s m below meth c s₁ hrt hlk hx hby hml hZ hown0 hnm X0 e0
  have hown : s.vm.findClass sC1 = some m.cls := hown0
  have N0 := Fr.nil n0
  have K0 : Keep h0 h0 [o1] := Keep.refl _ _
  obtain ⟨cl1, Ar1, qk1, Sz1, Ng1, Hh1, Gg1⟩ := id V_o0
  have hin1_0 : ¬ ((0 : Int32) < 0 ∨ cl1.slots.size ≤ ((0 : Int32)).toNatClampNeg) := inb_of Sz1 ⟨by decide, by decide⟩
  obtain ⟨cl2, Ar2, qk2, Sz2, Ng2, Hh2, Gg2⟩ := id V_o1
  have hin2_0 : ¬ ((0 : Int32) < 0 ∨ cl2.slots.size ≤ ((0 : Int32)).toNatClampNeg) := inb_of Sz2 ⟨by decide, by decide⟩
  obtain ⟨T3, h3, X3, e3, W3, st3⟩ := stB X0 hx hZ e0 Ar2 (j := (0 : Int32)) hin2_0 (g := (mkF m 31 #[va o0, vi 0, va o1, vi 0, vi 4, vi 0, vi p0] [(.int (bb p0)), (.int 0), (.ref o1)])) rfl rfl (hb hby d6_31)
  have V3 : Arv Z h3 o1 kk_o1 .byte (4 : Int32) [(.int (bb (bb p0))), (.int 0), (.int 0), (.int 0)] (.int 0) := Arv.set Ar2 qk2 Sz2 Ng2 Hh2 Gg2 (fits_nar_byte _) W3 0 rfl (Nat.le_of_ble_eq_true rfl)
  have O3 := O0.wr W3 g_o1
  have K3 : Keep h0 h3 [o1] := K0.wr W3 (Or.inl (List.mem_of_getElem? (i := 0) rfl))
  have N3 := Fr.snoc X3 N0 g_o1
  have fc4 := (V_o0.other W3 ne_o0_o1)
  obtain ⟨cl5, Ar5, qk5, Sz5, Ng5, Hh5, Gg5⟩ := id fc4
  have hin5_1 : ¬ ((1 : Int32) < 0 ∨ cl5.slots.size ≤ ((1 : Int32)).toNatClampNeg) := inb_of Sz5 ⟨by decide, by decide⟩
  obtain ⟨cl6, Ar6, qk6, Sz6, Ng6, Hh6, Gg6⟩ := id V3
  have hin6_1 : ¬ ((1 : Int32) < 0 ∨ cl6.slots.size ≤ ((1 : Int32)).toNatClampNeg) := inb_of Sz6 ⟨by decide, by decide⟩
  obtain ⟨T7, h7, X7, e7, W7, st7⟩ := stB X3 hx hZ e3 Ar6 (j := (1 : Int32)) hin6_1 (g := (mkF m 31 #[va o0, vi 1, va o1, vi 1, vi 4, vi 1, vi p1] [(.int (bb p1)), (.int 1), (.ref o1)])) rfl rfl (hb hby d6_31)
  have V7 : Arv Z h7 o1 kk_o1 .byte (4 : Int32) [(.int (bb (bb p0))), (.int (bb (bb p1))), (.int 0), (.int 0)] (.int 0) := Arv.set Ar6 qk6 Sz6 Ng6 Hh6 Gg6 (fits_nar_byte _) W7 1 rfl (Nat.le_of_ble_eq_true rfl)
  have O7 := O3.wr W7 g_o1
  have K7 : Keep h0 h7 [o1] := K3.wr W7 (Or.inl (List.mem_of_getElem? (i := 0) rfl))
  have N7 := Fr.snoc X7 N3 g_o1
  have fc8 := (fc4.other W7 ne_o0_o1)
  obtain ⟨cl9, Ar9, qk9, Sz9, Ng9, Hh9, Gg9⟩ := id fc8
  have hin9_2 : ¬ ((2 : Int32) < 0 ∨ cl9.slots.size ≤ ((2 : Int32)).toNatClampNeg) := inb_of Sz9 ⟨by decide, by decide⟩
  obtain ⟨cl10, Ar10, qk10, Sz10, Ng10, Hh10, Gg10⟩ := id V7
  have hin10_2 : ¬ ((2 : Int32) < 0 ∨ cl10.slots.size ≤ ((2 : Int32)).toNatClampNeg) := inb_of Sz10 ⟨by decide, by decide⟩
  obtain ⟨T11, h11, X11, e11, W11, st11⟩ := stB X7 hx hZ e7 Ar10 (j := (2 : Int32)) hin10_2 (g := (mkF m 31 #[va o0, vi 2, va o1, vi 2, vi 4, vi 2, vi p2] [(.int (bb p2)), (.int 2), (.ref o1)])) rfl rfl (hb hby d6_31)
  have V11 : Arv Z h11 o1 kk_o1 .byte (4 : Int32) [(.int (bb (bb p0))), (.int (bb (bb p1))), (.int (bb (bb p2))), (.int 0)] (.int 0) := Arv.set Ar10 qk10 Sz10 Ng10 Hh10 Gg10 (fits_nar_byte _) W11 2 rfl (Nat.le_of_ble_eq_true rfl)
  have O11 := O7.wr W11 g_o1
  have K11 : Keep h0 h11 [o1] := K7.wr W11 (Or.inl (List.mem_of_getElem? (i := 0) rfl))
  have N11 := Fr.snoc X11 N7 g_o1
  have fc12 := (fc8.other W11 ne_o0_o1)
  obtain ⟨cl13, Ar13, qk13, Sz13, Ng13, Hh13, Gg13⟩ := id fc12
  have hin13_3 : ¬ ((3 : Int32) < 0 ∨ cl13.slots.size ≤ ((3 : Int32)).toNatClampNeg) := inb_of Sz13 ⟨by decide, by decide⟩
  obtain ⟨cl14, Ar14, qk14, Sz14, Ng14, Hh14, Gg14⟩ := id V11
  have hin14_3 : ¬ ((3 : Int32) < 0 ∨ cl14.slots.size ≤ ((3 : Int32)).toNatClampNeg) := inb_of Sz14 ⟨by decide, by decide⟩
  obtain ⟨T15, h15, X15, e15, W15, st15⟩ := stB X11 hx hZ e11 Ar14 (j := (3 : Int32)) hin14_3 (g := (mkF m 31 #[va o0, vi 3, va o1, vi 3, vi 4, vi 3, vi p3] [(.int (bb p3)), (.int 3), (.ref o1)])) rfl rfl (hb hby d6_31)
  have V15 : Arv Z h15 o1 kk_o1 .byte (4 : Int32) [(.int (bb (bb p0))), (.int (bb (bb p1))), (.int (bb (bb p2))), (.int (bb (bb p3)))] (.int 0) := Arv.set Ar14 qk14 Sz14 Ng14 Hh14 Gg14 (fits_nar_byte _) W15 3 rfl (Nat.le_of_ble_eq_true rfl)
  have O15 := O11.wr W15 g_o1
  have K15 : Keep h0 h15 [o1] := K11.wr W15 (Or.inl (List.mem_of_getElem? (i := 0) rfl))
  have N15 := Fr.snoc X15 N11 g_o1
  obtain ⟨fs, hr, hrun, hended, hW, hsame⟩ := X15.leave (v := (some (.int 4))) (fun h => by rw [hrt] at h; cases h)
  refine ⟨_, _, ?_, hrun, hended, _, _, rfl, ?_, ⟨_, rfl⟩, hW, hsame.mono (by decide) (by decide)⟩
  · show Steps p.tables e below (s₁.setTop (mkF m 0 #[va o0, vi 0, va o1, vi 0, vi 4, uu, uu] [])) _
    refine XS.iconst X0.here hx rfl (hb hby d6_0) ?_
    refine XS.istore X0.here hx rfl (hb hby d6_1) rfl (l' := #[va o0, vi 0, va o1, vi 0, vi 4, vi 0, uu]) rfl ?_
    refine XS.iload X0.here hx rfl (hb hby d6_3) rfl ?_
    refine XS.iload X0.here hx rfl (hb hby d6_5) rfl ?_
    refine XS.icmpNo X0.here hx rfl (hb hby d6_7) rfl (tlt (by decide : (0 : Int32) < (4 : Int32))).2.1 ?_
    refine XS.aloadN X0.here hx rfl (hb hby d6_10) rfl rfl ?_
    refine XS.iloadN X0.here hx rfl (hb hby d6_11) rfl ?_
    refine X0.caload hx (j := (0 : Int32)) (v := (.int p0)) (by rw [e0]; exact Ar1.1) (State.isArrayOf_alike hZ.alike Ar1.2.1) Ar1.2.2 hin1_0 (Has.at Hh1 hin1_0 rfl) (g := (mkF m 12 #[va o0, vi 0, va o1, vi 0, vi 4, vi 0, uu] [(.int 0), (.ref o0)])) rfl rfl (hb hby d6_12) _ ?_
    show Steps p.tables e below (s₁.setTop (mkF m 13 #[va o0, vi 0, va o1, vi 0, vi 4, vi 0, uu] [(.int p0)])) _
    refine XS.istore X0.here hx rfl (hb hby d6_13) rfl (l' := #[va o0, vi 0, va o1, vi 0, vi 4, vi 0, vi p0]) rfl ?_
    refine XS.iload X0.here hx rfl (hb hby d6_15) rfl ?_
    refine XS.sipush X0.here hx rfl (hb hby d6_17) ?_
    refine XS.icmpYes X0.here hx rfl (pc0 := 20) (pc' := 26) rfl (hb hby d6_20) rfl (flt hc0).2.2.2 (by decide) (by decide) ?_
    refine XS.aloadN X0.here hx rfl (hb hby d6_26) rfl rfl ?_
    refine XS.iloadN X0.here hx rfl (hb hby d6_27) rfl ?_
    refine XS.iload X0.here hx rfl (hb hby d6_28) rfl ?_
    refine XS.i2b X0.here hx rfl (hb hby d6_30) rfl ?_
    show Steps p.tables e below (s₁.setTop (mkF m 31 #[va o0, vi 0, va o1, vi 0, vi 4, vi 0, vi p0] [(.int (bb p0)), (.int 0), (.ref o1)])) _
    refine st3 _ ?_
    refine XS.iinc X3.here hx rfl (hb hby d6_32) rfl (l' := #[va o0, vi ((0 : Int32) + (1 : Int32)), va o1, vi 0, vi 4, vi 0, vi p0]) rfl ?_
    show Steps p.tables e below (T3.setTop (mkF m 35 #[va o0, vi ((0 : Int32) + (1 : Int32)), va o1, vi 0, vi 4, vi 0, vi p0] [])) _
    rw [show (((0 : Int32) + (1 : Int32)) : Int32) = (1 : Int32) from by decide]
    refine XS.iinc X3.here hx rfl (hb hby d6_35) rfl (l' := #[va o0, vi 1, va o1, vi ((0 : Int32) + (1 : Int32)), vi 4, vi 0, vi p0]) rfl ?_
    show Steps p.tables e below (T3.setTop (mkF m 38 #[va o0, vi 1, va o1, vi ((0 : Int32) + (1 : Int32)), vi 4, vi 0, vi p0] [])) _
    rw [show (((0 : Int32) + (1 : Int32)) : Int32) = (1 : Int32) from by decide]
    refine XS.iinc X3.here hx rfl (hb hby d6_38) rfl (l' := #[va o0, vi 1, va o1, vi 1, vi 4, vi ((0 : Int32) + (1 : Int32)), vi p0]) rfl ?_
    show Steps p.tables e below (T3.setTop (mkF m 41 #[va o0, vi 1, va o1, vi 1, vi 4, vi ((0 : Int32) + (1 : Int32)), vi p0] [])) _
    rw [show (((0 : Int32) + (1 : Int32)) : Int32) = (1 : Int32) from by decide]
    refine XS.goto X3.here hx rfl (pc0 := 41) (pc' := 3) rfl (hb hby d6_41) (by decide) (by decide) ?_
    refine XS.iload X3.here hx rfl (hb hby d6_3) rfl ?_
    refine XS.iload X3.here hx rfl (hb hby d6_5) rfl ?_
    refine XS.icmpNo X3.here hx rfl (hb hby d6_7) rfl (tlt (by decide : (1 : Int32) < (4 : Int32))).2.1 ?_
    refine XS.aloadN X3.here hx rfl (hb hby d6_10) rfl rfl ?_
    refine XS.iloadN X3.here hx rfl (hb hby d6_11) rfl ?_
    refine X3.caload hx (j := (1 : Int32)) (v := (.int p1)) (by rw [e3]; exact Ar5.1) (State.isArrayOf_alike hZ.alike Ar5.2.1) Ar5.2.2 hin5_1 (Has.at Hh5 hin5_1 rfl) (g := (mkF m 12 #[va o0, vi 1, va o1, vi 1, vi 4, vi 1, vi p0] [(.int 1), (.ref o0)])) rfl rfl (hb hby d6_12) _ ?_
    show Steps p.tables e below (T3.setTop (mkF m 13 #[va o0, vi 1, va o1, vi 1, vi 4, vi 1, vi p0] [(.int p1)])) _
    refine XS.istore X3.here hx rfl (hb hby d6_13) rfl (l' := #[va o0, vi 1, va o1, vi 1, vi 4, vi 1, vi p1]) rfl ?_
    refine XS.iload X3.here hx rfl (hb hby d6_15) rfl ?_
    refine XS.sipush X3.here hx rfl (hb hby d6_17) ?_
    refine XS.icmpYes X3.here hx rfl (pc0 := 20) (pc' := 26) rfl (hb hby d6_20) rfl (flt hc1).2.2.2 (by decide) (by decide) ?_
    refine XS.aloadN X3.here hx rfl (hb hby d6_26) rfl rfl ?_
    refine XS.iloadN X3.here hx rfl (hb hby d6_27) rfl ?_
    refine XS.iload X3.here hx rfl (hb hby d6_28) rfl ?_
    refine XS.i2b X3.here hx rfl (hb hby d6_30) rfl ?_
    show Steps p.tables e below (T3.setTop (mkF m 31 #[va o0, vi 1, va o1, vi 1, vi 4, vi 1, vi p1] [(.int (bb p1)), (.int 1), (.ref o1)])) _
    refine st7 _ ?_
    refine XS.iinc X7.here hx rfl (hb hby d6_32) rfl (l' := #[va o0, vi ((1 : Int32) + (1 : Int32)), va o1, vi 1, vi 4, vi 1, vi p1]) rfl ?_
    show Steps p.tables e below (T7.setTop (mkF m 35 #[va o0, vi ((1 : Int32) + (1 : Int32)), va o1, vi 1, vi 4, vi 1, vi p1] [])) _
    rw [show (((1 : Int32) + (1 : Int32)) : Int32) = (2 : Int32) from by decide]
    refine XS.iinc X7.here hx rfl (hb hby d6_35) rfl (l' := #[va o0, vi 2, va o1, vi ((1 : Int32) + (1 : Int32)), vi 4, vi 1, vi p1]) rfl ?_
    show Steps p.tables e below (T7.setTop (mkF m 38 #[va o0, vi 2, va o1, vi ((1 : Int32) + (1 : Int32)), vi 4, vi 1, vi p1] [])) _
    rw [show (((1 : Int32) + (1 : Int32)) : Int32) = (2 : Int32) from by decide]
    refine XS.iinc X7.here hx rfl (hb hby d6_38) rfl (l' := #[va o0, vi 2, va o1, vi 2, vi 4, vi ((1 : Int32) + (1 : Int32)), vi p1]) rfl ?_
    show Steps p.tables e below (T7.setTop (mkF m 41 #[va o0, vi 2, va o1, vi 2, vi 4, vi ((1 : Int32) + (1 : Int32)), vi p1] [])) _
    rw [show (((1 : Int32) + (1 : Int32)) : Int32) = (2 : Int32) from by decide]
    refine XS.goto X7.here hx rfl (pc0 := 41) (pc' := 3) rfl (hb hby d6_41) (by decide) (by decide) ?_
    refine XS.iload X7.here hx rfl (hb hby d6_3) rfl ?_
    refine XS.iload X7.here hx rfl (hb hby d6_5) rfl ?_
    refine XS.icmpNo X7.here hx rfl (hb hby d6_7) rfl (tlt (by decide : (2 : Int32) < (4 : Int32))).2.1 ?_
    refine XS.aloadN X7.here hx rfl (hb hby d6_10) rfl rfl ?_
    refine XS.iloadN X7.here hx rfl (hb hby d6_11) rfl ?_
    refine X7.caload hx (j := (2 : Int32)) (v := (.int p2)) (by rw [e7]; exact Ar9.1) (State.isArrayOf_alike hZ.alike Ar9.2.1) Ar9.2.2 hin9_2 (Has.at Hh9 hin9_2 rfl) (g := (mkF m 12 #[va o0, vi 2, va o1, vi 2, vi 4, vi 2, vi p1] [(.int 2), (.ref o0)])) rfl rfl (hb hby d6_12) _ ?_
    show Steps p.tables e below (T7.setTop (mkF m 13 #[va o0, vi 2, va o1, vi 2, vi 4, vi 2, vi p1] [(.int p2)])) _
    refine XS.istore X7.here hx rfl (hb hby d6_13) rfl (l' := #[va o0, vi 2, va o1, vi 2, vi 4, vi 2, vi p2]) rfl ?_
    refine XS.iload X7.here hx rfl (hb hby d6_15) rfl ?_
    refine XS.sipush X7.here hx rfl (hb hby d6_17) ?_
    refine XS.icmpYes X7.here hx rfl (pc0 := 20) (pc' := 26) rfl (hb hby d6_20) rfl (flt hc2).2.2.2 (by decide) (by decide) ?_
    refine XS.aloadN X7.here hx rfl (hb hby d6_26) rfl rfl ?_
    refine XS.iloadN X7.here hx rfl (hb hby d6_27) rfl ?_
    refine XS.iload X7.here hx rfl (hb hby d6_28) rfl ?_
    refine XS.i2b X7.here hx rfl (hb hby d6_30) rfl ?_
    show Steps p.tables e below (T7.setTop (mkF m 31 #[va o0, vi 2, va o1, vi 2, vi 4, vi 2, vi p2] [(.int (bb p2)), (.int 2), (.ref o1)])) _
    refine st11 _ ?_
    refine XS.iinc X11.here hx rfl (hb hby d6_32) rfl (l' := #[va o0, vi ((2 : Int32) + (1 : Int32)), va o1, vi 2, vi 4, vi 2, vi p2]) rfl ?_
    show Steps p.tables e below (T11.setTop (mkF m 35 #[va o0, vi ((2 : Int32) + (1 : Int32)), va o1, vi 2, vi 4, vi 2, vi p2] [])) _
    rw [show (((2 : Int32) + (1 : Int32)) : Int32) = (3 : Int32) from by decide]
    refine XS.iinc X11.here hx rfl (hb hby d6_35) rfl (l' := #[va o0, vi 3, va o1, vi ((2 : Int32) + (1 : Int32)), vi 4, vi 2, vi p2]) rfl ?_
    show Steps p.tables e below (T11.setTop (mkF m 38 #[va o0, vi 3, va o1, vi ((2 : Int32) + (1 : Int32)), vi 4, vi 2, vi p2] [])) _
    rw [show (((2 : Int32) + (1 : Int32)) : Int32) = (3 : Int32) from by decide]
    refine XS.iinc X11.here hx rfl (hb hby d6_38) rfl (l' := #[va o0, vi 3, va o1, vi 3, vi 4, vi ((2 : Int32) + (1 : Int32)), vi p2]) rfl ?_
    show Steps p.tables e below (T11.setTop (mkF m 41 #[va o0, vi 3, va o1, vi 3, vi 4, vi ((2 : Int32) + (1 : Int32)), vi p2] [])) _
    rw [show (((2 : Int32) + (1 : Int32)) : Int32) = (3 : Int32) from by decide]
    refine XS.goto X11.here hx rfl (pc0 := 41) (pc' := 3) rfl (hb hby d6_41) (by decide) (by decide) ?_
    refine XS.iload X11.here hx rfl (hb hby d6_3) rfl ?_
    refine XS.iload X11.here hx rfl (hb hby d6_5) rfl ?_
    refine XS.icmpNo X11.here hx rfl (hb hby d6_7) rfl (tlt (by decide : (3 : Int32) < (4 : Int32))).2.1 ?_
    refine XS.aloadN X11.here hx rfl (hb hby d6_10) rfl rfl ?_
    refine XS.iloadN X11.here hx rfl (hb hby d6_11) rfl ?_
    refine X11.caload hx (j := (3 : Int32)) (v := (.int p3)) (by rw [e11]; exact Ar13.1) (State.isArrayOf_alike hZ.alike Ar13.2.1) Ar13.2.2 hin13_3 (Has.at Hh13 hin13_3 rfl) (g := (mkF m 12 #[va o0, vi 3, va o1, vi 3, vi 4, vi 3, vi p2] [(.int 3), (.ref o0)])) rfl rfl (hb hby d6_12) _ ?_
    show Steps p.tables e below (T11.setTop (mkF m 13 #[va o0, vi 3, va o1, vi 3, vi 4, vi 3, vi p2] [(.int p3)])) _
    refine XS.istore X11.here hx rfl (hb hby d6_13) rfl (l' := #[va o0, vi 3, va o1, vi 3, vi 4, vi 3, vi p3]) rfl ?_
    refine XS.iload X11.here hx rfl (hb hby d6_15) rfl ?_
    refine XS.sipush X11.here hx rfl (hb hby d6_17) ?_
    refine XS.icmpYes X11.here hx rfl (pc0 := 20) (pc' := 26) rfl (hb hby d6_20) rfl (flt hc3).2.2.2 (by decide) (by decide) ?_
    refine XS.aloadN X11.here hx rfl (hb hby d6_26) rfl rfl ?_
    refine XS.iloadN X11.here hx rfl (hb hby d6_27) rfl ?_
    refine XS.iload X11.here hx rfl (hb hby d6_28) rfl ?_
    refine XS.i2b X11.here hx rfl (hb hby d6_30) rfl ?_
    show Steps p.tables e below (T11.setTop (mkF m 31 #[va o0, vi 3, va o1, vi 3, vi 4, vi 3, vi p3] [(.int (bb p3)), (.int 3), (.ref o1)])) _
    refine st15 _ ?_
    refine XS.iinc X15.here hx rfl (hb hby d6_32) rfl (l' := #[va o0, vi ((3 : Int32) + (1 : Int32)), va o1, vi 3, vi 4, vi 3, vi p3]) rfl ?_
    show Steps p.tables e below (T15.setTop (mkF m 35 #[va o0, vi ((3 : Int32) + (1 : Int32)), va o1, vi 3, vi 4, vi 3, vi p3] [])) _
    rw [show (((3 : Int32) + (1 : Int32)) : Int32) = (4 : Int32) from by decide]
    refine XS.iinc X15.here hx rfl (hb hby d6_35) rfl (l' := #[va o0, vi 4, va o1, vi ((3 : Int32) + (1 : Int32)), vi 4, vi 3, vi p3]) rfl ?_
    show Steps p.tables e below (T15.setTop (mkF m 38 #[va o0, vi 4, va o1, vi ((3 : Int32) + (1 : Int32)), vi 4, vi 3, vi p3] [])) _
    rw [show (((3 : Int32) + (1 : Int32)) : Int32) = (4 : Int32) from by decide]
    refine XS.iinc X15.here hx rfl (hb hby d6_38) rfl (l' := #[va o0, vi 4, va o1, vi 4, vi 4, vi ((3 : Int32) + (1 : Int32)), vi p3]) rfl ?_
    show Steps p.tables e below (T15.setTop (mkF m 41 #[va o0, vi 4, va o1, vi 4, vi 4, vi ((3 : Int32) + (1 : Int32)), vi p3] [])) _
    rw [show (((3 : Int32) + (1 : Int32)) : Int32) = (4 : Int32) from by decide]
    refine XS.goto X15.here hx rfl (pc0 := 41) (pc' := 3) rfl (hb hby d6_41) (by decide) (by decide) ?_
    refine XS.iload X15.here hx rfl (hb hby d6_3) rfl ?_
    refine XS.iload X15.here hx rfl (hb hby d6_5) rfl ?_
    refine XS.icmpYes X15.here hx rfl (pc0 := 7) (pc' := 44) rfl (hb hby d6_7) rfl (flt (by decide : ¬ ((4 : Int32) < (4 : Int32)))).2.1 (by decide) (by decide) ?_
    refine XS.iload X15.here hx rfl (hb hby d6_44) rfl ?_
    exact retOut X15 hx (t := .int) (i := .ireturn) hrt rfl (Or.inl ⟨rfl, Or.inl rfl, _, rfl⟩) (hb hby d6_46) hr
  · show Q6_0 Z z_COMPACT_STRINGS o0 o1 kk_o0 kk_o1 p0 p1 p2 p3 h0 n0 (some (.int 4)) T15.heap _
    rw [e15]; exact ⟨rfl, N15, K15, V15⟩
theorem pd_0 : parseMethodDescriptor "([CI[BII)I" = some ⟨[(.array .char), .int, (.array .byte), .int, .int], some .int⟩ := by decide +kernel
theorem d5_12 : decode jdk_52_method_16_code 12 = .ok (.istore 4, 2) := by decide +kernel
theorem d5_14 : decode jdk_52_method_16_code 14 = .ok (.iload 4, 2) := by decide +kernel
theorem d5_16 : decode jdk_52_method_16_code 16 = .ok (.iload_n 2, 1) := by decide +kernel
theorem d5_17 : decode jdk_52_method_16_code 17 = .ok (.if_icmp .eq 40, 3) := by decide +kernel
theorem d5_57 : decode jdk_52_method_16_code 57 = .ok (.aload_n 3, 1) := by decide +kernel
theorem d5_58 : decode jdk_52_method_16_code 58 = .ok (.areturn, 1) := by decide +kernel
def Q5_0 (Z : State) (z_COMPACT_STRINGS : Int32) (o0 : Addr) (kk_o0 : ClassId) (p0 : Int32) (p1 : Int32) (p2 : Int32) (p3 : Int32) (h0 : Heap) (n0 : Nat) (v : Option Value) (h : Heap) (L : List Loc) : Prop := ∃ (b1 : Addr), ∃ (k1 : ClassId), v = (some (.ref b1)) ∧ Fr n0 L ∧ Keep h0 h [] ∧ Arv Z h b1 k1 .byte (4 : Int32) [(.int (bb (bb p0))), (.int (bb (bb p1))), (.int (bb (bb p2))), (.int (bb (bb p3)))] (.int 0) ∧ h0.size ≤ b1
theorem rm5_0 (l : Launch) (Z : State) (a0 : Array Value) (hw : HW Z a0) (ws : List Jvm.Cond) (z_COMPACT_STRINGS : Int32) (o0 : Addr) (kk_o0 : ClassId) (p0 : Int32) (p1 : Int32) (p2 : Int32) (p3 : Int32) (h0 : Heap) (n0 : Nat) (O0 : Old Z n0 h0) (S : SF Z z_COMPACT_STRINGS) (V_o0 : Arv Z h0 o0 kk_o0 .char (4 : Int32) [(.int p0), (.int p1), (.int p2), (.int p3)] (.int 0)) (hc0 : ¬ ((255 : Int32) < p0)) (hc1 : ¬ ((255 : Int32) < p1)) (hc2 : ¬ ((255 : Int32) < p2)) (hc3 : ¬ ((255 : Int32) < p3)) :
    Pay l Z My5 ws jdk_52_method_16_code 6 (some (.array .byte)) #[(.ref o0), (.int 0), (.int 4)] h0 ({ frames := 1, cells := 1, slots := 4, locals := 18 } : Room) (Q5_0 Z z_COMPACT_STRINGS o0 kk_o0 p0 p1 p2 p3 h0 n0) := by
  refine own_body (plainFor_of_name pn_2) (L0 := #[va o0, vi 0, vi 4, uu, uu, uu]) (fun _ => by first | rfl | (simp [entryFrame, mkF, argsToLocals, Value.category]; done)) ?_
  intro p e s m below meth c s₁ hrt hlk hx hby hml hZ hown0 hnm X0 e0
  have hown : s.vm.findClass sC1 = some m.cls := hown0
  have N0 := Fr.nil n0
  have K0 : Keep h0 h0 [] := Keep.refl _ _
  obtain ⟨T1, h1, k1, X1, e1, E1, A1, st1⟩ := newP X0 hx hZ (ww hw 24 rfl) e0 (g := (mkF m 1 #[va o0, vi 0, vi 4, uu, uu, uu] [(.int 4)])) rfl (hb hby d5_1) rfl (by decide) (cap := 4) (by decide) (by decide) (by decide) (by decide)
  obtain ⟨b1, qs1⟩ : ∃ z, z = h0.size := ⟨_, rfl⟩
  rw [← qs1] at A1 st1
  have ne_o0_b1 : o0 ≠ b1 := Nat.ne_of_lt (Nat.lt_of_lt_of_le V_o0.lt (Nat.le_of_eq qs1.symm))
  have g_b1 : n0 ≤ b1 := Nat.le_trans (own_old O0) (Nat.le_of_eq qs1.symm)
  have sz_b1 : h0.size ≤ b1 := Nat.le_trans K0.1 (Nat.le_of_eq qs1.symm)
  have O1 := O0.ext E1
  have K1 : Keep h0 h1 [] := K0.ext E1
  have V_b1 : Arv Z h1 b1 k1 .byte (4 : Int32) [(.int 0), (.int 0), (.int 0), (.int 0)] (.int 0) := (Arv.new A1 (by decide)).pad (pad_rep [] (.int 0) 4)
  have fc2 := (V_o0.ext E1)
  obtain ⟨_, _, ⟨T3, L3, k3, n3⟩, -, X3, ⟨Lc3, hQ3, l3, y3, z3⟩, st3⟩ := Jvm.LawKit.callS X1 hx (y := My6) hown (mvT hZ (ww hw 25 rfl)) (mvT hZ (ww hw 26 rfl)) (mvT hZ (ww hw 22 rfl)) (mvT hZ (ww hw 27 rfl)) (by decide) (backOf (W := 0) (rm6_0 l Z a0 hw [] z_COMPACT_STRINGS o0 b1 kk_o0 k1 p0 p1 p2 p3 h1 n0 O1 S fc2 V_b1 ne_o0_b1 g_b1 hc0 hc1 hc2 hc3) hZ (ww hw 27 rfl) (ww hw 22 rfl) (by decide) (by decide)) (g := (mkF m 9 #[va o0, vi 0, vi 4, va b1, uu, uu] [(.int 4), (.int 0), (.ref b1), (.int 0), (.ref o0)])) rfl (by rw [hml]; rfl) (argsL := [(.ref o0), (.int 0), (.ref b1), (.int 0), (.int 4)]) (rest := []) (lenOf pd_0 rfl) rfl (by show 2 * 0 + _ ≤ _; exact Nat.le_of_eq rfl) (hb hby d5_9) (fun _ _ => ⟨rfl, e1, (by decide : 1 + 0 ≤ _), (by decide : 4 + 0 ≤ _)⟩)
  dsimp only [Pt.U, Pt.locs, Pt.cells, Pt.slots] at X3 l3 y3 z3 st3 hQ3
  subst l3 y3 z3
  obtain ⟨rfl, Nq3, Kc3, P0_3⟩ := hQ3
  have N3 := Fr.app N0 Nq3
  have O3 := O1.keep Kc3 (allS g_b1 all0)
  have K3 : Keep h0 T3.heap [] := K1.trans Kc3 (allS (Or.inr sz_b1) all0)
  obtain ⟨fs, hr, hrun, hended, hW, hsame⟩ := X3.leave (v := (some (.ref b1))) (fun h => by rw [hrt] at h; cases h)
  refine ⟨_, _, ?_, hrun, hended, _, _, rfl, ?_, ⟨_, rfl⟩, hW, hsame.mono (by decide) (by decide)⟩
  · show Steps p.tables e below (s₁.setTop (mkF m 0 #[va o0, vi 0, vi 4, uu, uu, uu] [])) _
    refine XS.iloadN X0.here hx rfl (hb hby d5_0) rfl ?_
    refine st1 _ ?_
    refine XS.astoreN X1.here hx rfl (hb hby d5_3) rfl rfl (l' := #[va o0, vi 0, vi 4, va b1, uu, uu]) rfl ?_
    refine XS.aloadN X1.here hx rfl (hb hby d5_4) rfl rfl ?_
    refine XS.iloadN X1.here hx rfl (hb hby d5_5) rfl ?_
    refine XS.aloadN X1.here hx rfl (hb hby d5_6) rfl rfl ?_
    refine XS.iconst X1.here hx rfl (hb hby d5_7) ?_
    refine XS.iloadN X1.here hx rfl (hb hby d5_8) rfl ?_
    show Steps p.tables e below (T1.setTop (mkF m 9 #[va o0, vi 0, vi 4, va b1, uu, uu] [(.int 4), (.int 0), (.ref b1), (.int 0), (.ref o0)])) _
    refine st3 _ ?_
    refine XS.istore X3.here hx rfl (hb hby d5_12) rfl (l' := #[va o0, vi 0, vi 4, va b1, vi 4, uu]) rfl ?_
    refine XS.iload X3.here hx rfl (hb hby d5_14) rfl ?_
    refine XS.iloadN X3.here hx rfl (hb hby d5_16) rfl ?_
    refine XS.icmpYes X3.here hx rfl (pc0 := 17) (pc' := 57) rfl (hb hby d5_17) rfl (teq (by decide : (4 : Int32) = (4 : Int32))).1 (by decide) (by decide) ?_
    refine XS.aloadN X3.here hx rfl (hb hby d5_57) rfl rfl ?_
    exact retOut X3 hx (t := (.array .byte)) (i := .areturn) hrt rfl (Or.inr (Or.inr (Or.inr (Or.inr ⟨rfl, rfl, rfl⟩)))) (hb hby d5_58) hr
  · show Q5_0 Z z_COMPACT_STRINGS o0 kk_o0 p0 p1 p2 p3 h0 n0 (some (.ref b1)) T3.heap _
    exact (⟨b1, k1, rfl, N3, K3, P0_3, sz_b1⟩)
theorem d6_23 : decode jdk_52_method_21_code 23 = .ok (.iload 5, 2) := by decide +kernel
theorem d6_25 : decode jdk_52_method_21_code 25 = .ok (.ireturn, 1) := by decide +kernel
def Q6_1 (Z : State) (z_COMPACT_STRINGS : Int32) (o0 : Addr) (o1 : Addr) (kk_o0 : ClassId) (kk_o1 : ClassId) (p0 : Int32) (p1 : Int32) (p2 : Int32) (p3 : Int32) (h0 : Heap) (n0 : Nat) (v : Option Value) (h : Heap) (L : List Loc) : Prop := v = (some (.int 3)) ∧ Fr n0 L ∧ Keep h0 h [o1] ∧ Arv Z h o1 kk_o1 .byte (4 : Int32) [(.int (bb (bb p0))), (.int (bb (bb p1))), (.int (bb (bb p2))), (.int 0)] (.int 0)
theorem rm6_1 (l : Launch) (Z : State) (a0 : Array Value) (hw : HW Z a0) (ws : List Jvm.Cond) (z_COMPACT_STRINGS : Int32) (o0 : Addr) (o1 : Addr) (kk_o0 : ClassId) (kk_o1 : ClassId) (p0 : Int32) (p1 : Int32) (p2 : Int32) (p3 : Int32) (h0 : Heap) (n0 : Nat) (O0 : Old Z n0 h0) (S : SF Z z_COMPACT_STRINGS) (V_o0 : Arv Z h0 o0 kk_o0 .char (4 : Int32) [(.int p0), (.int p1), (.int p2), (.int p3)] (.int 0)) (V_o1 : Arv Z h0 o1 kk_o1 .byte (4 : Int32) [(.int 0), (.int 0), (.int 0), (.int 0)] (.int 0)) (ne_o0_o1 : o0 ≠ o1) (g_o1 : n0 ≤ o1) (hc0 : ¬ ((255 : Int32) < p0)) (hc1 : ¬ ((255 : Int32) < p1)) (hc2 : ¬ ((255 : Int32) < p2)) (hc3 : (255 : Int32) < p3) :
    Pay l Z My6 ws jdk_52_method_21_code 7 (some .int) #[(.ref o0), (.int 0), (.ref o1), (.int 0), (.int 4)] h0 ({ frames := 0, cells := 0, slots := 0, locals := 0 } : Room) (Q6_1 Z z_COMPACT_STRINGS o0 o1 kk_o0 kk_o1 p0 p1 p2 p3 h0 n0) := by
  refine own_body (plainFor_of_name pn_2) (L0 := #[va o0, vi 0, va o1, vi 0, vi 4, uu, uu]) (fun _ => by first | rfl | (simp [entryFrame, mkF, argsToLocals, Value.category]; done)) ?_
  intro p e s m below meth c s₁ hrt hlk hx hby hml hZ hown0 hnm X0 e0
  have hown : s.vm.findClass sC1 = some m.cls := hown0
  have N0 := Fr.nil n0
  have K0 : Keep h0 h0 [o1] := Keep.refl _ _
  obtain ⟨cl1, Ar1, qk1, Sz1, Ng1, Hh1, Gg1⟩ := id V_o0
  have hin1_0 : ¬ ((0 : Int32) < 0 ∨ cl1.slots.size ≤ ((0 : Int32)).toNatClampNeg) := inb_of Sz1 ⟨by decide, by decide⟩
  obtain ⟨cl2, Ar2, qk2, Sz2, Ng2, Hh2, Gg2⟩ := id V_o1
  have hin2_0 : ¬ ((0 : Int32) < 0 ∨ cl2.slots.size ≤ ((0 : Int32)).toNatClampNeg) := inb_of Sz2 ⟨by decide, by decide⟩
  obtain ⟨T3, h3, X3, e3, W3, st3⟩ := stB X0 hx hZ e0 Ar2 (j := (0 : Int32)) hin2_0 (g := (mkF m 31 #[va o0, vi 0, va o1, vi 0, vi 4, vi 0, vi p0] [(.int (bb p0)), (.int 0), (.ref o1)])) rfl rfl (hb hby d6_31)
  have V3 : Arv Z h3 o1 kk_o1 .byte (4 : Int32) [(.int (bb (bb p0))), (.int 0), (.int 0), (.int 0)] (.int 0) := Arv.set Ar2 qk2 Sz2 Ng2 Hh2 Gg2 (fits_nar_byte _) W3 0 rfl (Nat.le_of_ble_eq_true rfl)
  have O3 := O0.wr W3 g_o1
  have K3 : Keep h0 h3 [o1] := K0.wr W3 (Or.inl (List.mem_of_getElem? (i := 0) rfl))
  have N3 := Fr.snoc X3 N0 g_o1
  have fc4 := (V_o0.other W3 ne_o0_o1)
  obtain ⟨cl5, Ar5, qk5, Sz5, Ng5, Hh5, Gg5⟩ := id fc4
  have hin5_1 : ¬ ((1 : Int32) < 0 ∨ cl5.slots.size ≤ ((1 : Int32)).toNatClampNeg) := inb_of Sz5 ⟨by decide, by decide⟩
  obtain ⟨cl6, Ar6, qk6, Sz6, Ng6, Hh6, Gg6⟩ := id V3
  have hin6_1 : ¬ ((1 : Int32) < 0 ∨ cl6.slots.size ≤ ((1 : Int32)).toNatClampNeg) := inb_of Sz6 ⟨by decide, by decide⟩
  obtain ⟨T7, h7, X7, e7, W7, st7⟩ := stB X3 hx hZ e3 Ar6 (j := (1 : Int32)) hin6_1 (g := (mkF m 31 #[va o0, vi 1, va o1, vi 1, vi 4, vi 1, vi p1] [(.int (bb p1)), (.int 1), (.ref o1)])) rfl rfl (hb hby d6_31)
  have V7 : Arv Z h7 o1 kk_o1 .byte (4 : Int32) [(.int (bb (bb p0))), (.int (bb (bb p1))), (.int 0), (.int 0)] (.int 0) := Arv.set Ar6 qk6 Sz6 Ng6 Hh6 Gg6 (fits_nar_byte _) W7 1 rfl (Nat.le_of_ble_eq_true rfl)
  have O7 := O3.wr W7 g_o1
  have K7 : Keep h0 h7 [o1] := K3.wr W7 (Or.inl (List.mem_of_getElem? (i := 0) rfl))
  have N7 := Fr.snoc X7 N3 g_o1
  have fc8 := (fc4.other W7 ne_o0_o1)
  obtain ⟨cl9, Ar9, qk9, Sz9, Ng9, Hh9, Gg9⟩ := id fc8
  have hin9_2 : ¬ ((2 : Int32) < 0 ∨ cl9.slots.size ≤ ((2 : Int32)).toNatClampNeg) := inb_of Sz9 ⟨by decide, by decide⟩
  obtain ⟨cl10, Ar10, qk10, Sz10, Ng10, Hh10, Gg10⟩ := id V7
  have hin10_2 : ¬ ((2 : Int32) < 0 ∨ cl10.slots.size ≤ ((2 : Int32)).toNatClampNeg) := inb_of Sz10 ⟨by decide, by decide⟩
  obtain ⟨T11, h11, X11, e11, W11, st11⟩ := stB X7 hx hZ e7 Ar10 (j := (2 : Int32)) hin10_2 (g := (mkF m 31 #[va o0, vi 2, va o1, vi 2, vi 4, vi 2, vi p2] [(.int (bb p2)), (.int 2), (.ref o1)])) rfl rfl (hb hby d6_31)
  have V11 : Arv Z h11 o1 kk_o1 .byte (4 : Int32) [(.int (bb (bb p0))), (.int (bb (bb p1))), (.int (bb (bb p2))), (.int 0)] (.int 0) := Arv.set Ar10 qk10 Sz10 Ng10 Hh10 Gg10 (fits_nar_byte _) W11 2 rfl (Nat.le_of_ble_eq_true rfl)
  have O11 := O7.wr W11 g_o1
  have K11 : Keep h0 h11 [o1] := K7.wr W11 (Or.inl (List.mem_of_getElem? (i := 0) rfl))
  have N11 := Fr.snoc X11 N7 g_o1
  have fc12 := (fc8.other W11 ne_o0_o1)
  obtain ⟨cl13, Ar13, qk13, Sz13, Ng13, Hh13, Gg13⟩ := id fc12
  have hin13_3 : ¬ ((3 : Int32) < 0 ∨ cl13.slots.size ≤ ((3 : Int32)).toNatClampNeg) := inb_of Sz13 ⟨by decide, by decide⟩
  obtain ⟨fs, hr, hrun, hended, hW, hsame⟩ := X11.leave (v := (some (.int 3))) (fun h => by rw [hrt] at h; cases h)
  refine ⟨_, _, ?_, hrun, hended, _, _, rfl, ?_, ⟨_, rfl⟩, hW, hsame.mono (by decide) (by decide)⟩
  · show Steps p.tables e below (s₁.setTop (mkF m 0 #[va o0, vi 0, va o1, vi 0, vi 4, uu, uu] [])) _
    refine XS.iconst X0.here hx rfl (hb hby d6_0) ?_
    refine XS.istore X0.here hx rfl (hb hby d6_1) rfl (l' := #[va o0, vi 0, va o1, vi 0, vi 4, vi 0, uu]) rfl ?_
    refine XS.iload X0.here hx rfl (hb hby d6_3) rfl ?_
    refine XS.iload X0.here hx rfl (hb hby d6_5) rfl ?_
    refine XS.icmpNo X0.here hx rfl (hb hby d6_7) rfl (tlt (by decide : (0 : Int32) < (4 : Int32))).2.1 ?_
    refine XS.aloadN X0.here hx rfl (hb hby d6_10) rfl rfl ?_
    refine XS.iloadN X0.here hx rfl (hb hby d6_11) rfl ?_
    refine X0.caload hx (j := (0 : Int32)) (v := (.int p0)) (by rw [e0]; exact Ar1.1) (State.isArrayOf_alike hZ.alike Ar1.2.1) Ar1.2.2 hin1_0 (Has.at Hh1 hin1_0 rfl) (g := (mkF m 12 #[va o0, vi 0, va o1, vi 0, vi 4, vi 0, uu] [(.int 0), (.ref o0)])) rfl rfl (hb hby d6_12) _ ?_
    show Steps p.tables e below (s₁.setTop (mkF m 13 #[va o0, vi 0, va o1, vi 0, vi 4, vi 0, uu] [(.int p0)])) _
    refine XS.istore X0.here hx rfl (hb hby d6_13) rfl (l' := #[va o0, vi 0, va o1, vi 0, vi 4, vi 0, vi p0]) rfl ?_
    refine XS.iload X0.here hx rfl (hb hby d6_15) rfl ?_
    refine XS.sipush X0.here hx rfl (hb hby d6_17) ?_
    refine XS.icmpYes X0.here hx rfl (pc0 := 20) (pc' := 26) rfl (hb hby d6_20) rfl (flt hc0).2.2.2 (by decide) (by decide) ?_
    refine XS.aloadN X0.here hx rfl (hb hby d6_26) rfl rfl ?_
    refine XS.iloadN X0.here hx rfl (hb hby d6_27) rfl ?_
    refine XS.iload X0.here hx rfl (hb hby d6_28) rfl ?_
    refine XS.i2b X0.here hx rfl (hb hby d6_30) rfl ?_
    show Steps p.tables e below (s₁.setTop (mkF m 31 #[va o0, vi 0, va o1, vi 0, vi 4, vi 0, vi p0] [(.int (bb p0)), (.int 0), (.ref o1)])) _
    refine st3 _ ?_
    refine XS.iinc X3.here hx rfl (hb hby d6_32) rfl (l' := #[va o0, vi ((0 : Int32) + (1 : Int32)), va o1, vi 0, vi 4, vi 0, vi p0]) rfl ?_
    show Steps p.tables e below (T3.setTop (mkF m 35 #[va o0, vi ((0 : Int32) + (1 : Int32)), va o1, vi 0, vi 4, vi 0, vi p0] [])) _
    rw [show (((0 : Int32) + (1 : Int32)) : Int32) = (1 : Int32) from by decide]
    refine XS.iinc X3.here hx rfl (hb hby d6_35) rfl (l' := #[va o0, vi 1, va o1, vi ((0 : Int32) + (1 : Int32)), vi 4, vi 0, vi p0]) rfl ?_
    show Steps p.tables e below (T3.setTop (mkF m 38 #[va o0, vi 1, va o1, vi ((0 : Int32) + (1 : Int32)), vi 4, vi 0, vi p0] [])) _
    rw [show (((0 : Int32) + (1 : Int32)) : Int32) = (1 : Int32) from by decide]
    refine XS.iinc X3.here hx rfl (hb hby d6_38) rfl (l' := #[va o0, vi 1, va o1, vi 1, vi 4, vi ((0 : Int32) + (1 : Int32)), vi p0]) rfl ?_
    show Steps p.tables e below (T3.setTop (mkF m 41 #[va o0, vi 1, va o1, vi 1, vi 4, vi ((0 : Int32) + (1 : Int32)), vi p0] [])) _
    rw [show (((0 : Int32) + (1 : Int32)) : Int32) = (1 : Int32) from by decide]
    refine XS.goto X3.here hx rfl (pc0 := 41) (pc' := 3) rfl (hb hby d6_41) (by decide) (by decide) ?_
    refine XS.iload X3.here hx rfl (hb hby d6_3) rfl ?_
    refine XS.iload X3.here hx rfl (hb hby d6_5) rfl ?_
    refine XS.icmpNo X3.here hx rfl (hb hby d6_7) rfl (tlt (by decide : (1 : Int32) < (4 : Int32))).2.1 ?_
    refine XS.aloadN X3.here hx rfl (hb hby d6_10) rfl rfl ?_
    refine XS.iloadN X3.here hx rfl (hb hby d6_11) rfl ?_
    refine X3.caload hx (j := (1 : Int32)) (v := (.int p1)) (by rw [e3]; exact Ar5.1) (State.isArrayOf_alike hZ.alike Ar5.2.1) Ar5.2.2 hin5_1 (Has.at Hh5 hin5_1 rfl) (g := (mkF m 12 #[va o0, vi 1, va o1, vi 1, vi 4, vi 1, vi p0] [(.int 1), (.ref o0)])) rfl rfl (hb hby d6_12) _ ?_
    show Steps p.tables e below (T3.setTop (mkF m 13 #[va o0, vi 1, va o1, vi 1, vi 4, vi 1, vi p0] [(.int p1)])) _
    refine XS.istore X3.here hx rfl (hb hby d6_13) rfl (l' := #[va o0, vi 1, va o1, vi 1, vi 4, vi 1, vi p1]) rfl ?_
    refine XS.iload X3.here hx rfl (hb hby d6_15) rfl ?_
    refine XS.sipush X3.here hx rfl (hb hby d6_17) ?_
    refine XS.icmpYes X3.here hx rfl (pc0 := 20) (pc' := 26) rfl (hb hby d6_20) rfl (flt hc1).2.2.2 (by decide) (by decide) ?_
    refine XS.aloadN X3.here hx rfl (hb hby d6_26) rfl rfl ?_
    refine XS.iloadN X3.here hx rfl (hb hby d6_27) rfl ?_
    refine XS.iload X3.here hx rfl (hb hby d6_28) rfl ?_
    refine XS.i2b X3.here hx rfl (hb hby d6_30) rfl ?_
    show Steps p.tables e below (T3.setTop (mkF m 31 #[va o0, vi 1, va o1, vi 1, vi 4, vi 1, vi p1] [(.int (bb p1)), (.int 1), (.ref o1)])) _
    refine st7 _ ?_
    refine XS.iinc X7.here hx rfl (hb hby d6_32) rfl (l' := #[va o0, vi ((1 : Int32) + (1 : Int32)), va o1, vi 1, vi 4, vi 1, vi p1]) rfl ?_
    show Steps p.tables e below (T7.setTop (mkF m 35 #[va o0, vi ((1 : Int32) + (1 : Int32)), va o1, vi 1, vi 4, vi 1, vi p1] [])) _
    rw [show (((1 : Int32) + (1 : Int32)) : Int32) = (2 : Int32) from by decide]
    refine XS.iinc X7.here hx rfl (hb hby d6_35) rfl (l' := #[va o0, vi 2, va o1, vi ((1 : Int32) + (1 : Int32)), vi 4, vi 1, vi p1]) rfl ?_
    show Steps p.tables e below (T7.setTop (mkF m 38 #[va o0, vi 2, va o1, vi ((1 : Int32) + (1 : Int32)), vi 4, vi 1, vi p1] [])) _
    rw [show (((1 : Int32) + (1 : Int32)) : Int32) = (2 : Int32) from by decide]
    refine XS.iinc X7.here hx rfl (hb hby d6_38) rfl (l' := #[va o0, vi 2, va o1, vi 2, vi 4, vi ((1 : Int32) + (1 : Int32)), vi p1]) rfl ?_
    show Steps p.tables e below (T7.setTop (mkF m 41 #[va o0, vi 2, va o1, vi 2, vi 4, vi ((1 : Int32) + (1 : Int32)), vi p1] [])) _
    rw [show (((1 : Int32) + (1 : Int32)) : Int32) = (2 : Int32) from by decide]
    refine XS.goto X7.here hx rfl (pc0 := 41) (pc' := 3) rfl (hb hby d6_41) (by decide) (by decide) ?_
    refine XS.iload X7.here hx rfl (hb hby d6_3) rfl ?_
    refine XS.iload X7.here hx rfl (hb hby d6_5) rfl ?_
    refine XS.icmpNo X7.here hx rfl (hb hby d6_7) rfl (tlt (by decide : (2 : Int32) < (4 : Int32))).2.1 ?_
    refine XS.aloadN X7.here hx rfl (hb hby d6_10) rfl rfl ?_
    refine XS.iloadN X7.here hx rfl (hb hby d6_11) rfl ?_
    refine X7.caload hx (j := (2 : Int32)) (v := (.int p2)) (by rw [e7]; exact Ar9.1) (State.isArrayOf_alike hZ.alike Ar9.2.1) Ar9.2.2 hin9_2 (Has.at Hh9 hin9_2 rfl) (g := (mkF m 12 #[va o0, vi 2, va o1, vi 2, vi 4, vi 2, vi p1] [(.int 2), (.ref o0)])) rfl rfl (hb hby d6_12) _ ?_
    show Steps p.tables e below (T7.setTop (mkF m 13 #[va o0, vi 2, va o1, vi 2, vi 4, vi 2, vi p1] [(.int p2)])) _
    refine XS.istore X7.here hx rfl (hb hby d6_13) rfl (l' := #[va o0, vi 2, va o1, vi 2, vi 4, vi 2, vi p2]) rfl ?_
    refine XS.iload X7.here hx rfl (hb hby d6_15) rfl ?_
    refine XS.sipush X7.here hx rfl (hb hby d6_17) ?_
    refine XS.icmpYes X7.here hx rfl (pc0 := 20) (pc' := 26) rfl (hb hby d6_20) rfl (flt hc2).2.2.2 (by decide) (by decide) ?_
    refine XS.aloadN X7.here hx rfl (hb hby d6_26) rfl rfl ?_
    refine XS.iloadN X7.here hx rfl (hb hby d6_27) rfl ?_
    refine XS.iload X7.here hx rfl (hb hby d6_28) rfl ?_
    refine XS.i2b X7.here hx rfl (hb hby d6_30) rfl ?_
    show Steps p.tables e below (T7.setTop (mkF m 31 #[va o0, vi 2, va o1, vi 2, vi 4, vi 2, vi p2] [(.int (bb p2)), (.int 2), (.ref o1)])) _
    refine st11 _ ?_
    refine XS.iinc X11.here hx rfl (hb hby d6_32) rfl (l' := #[va o0, vi ((2 : Int32) + (1 : Int32)), va o1, vi 2, vi 4, vi 2, vi p2]) rfl ?_
    show Steps p.tables e below (T11.setTop (mkF m 35 #[va o0, vi ((2 : Int32) + (1 : Int32)), va o1, vi 2, vi 4, vi 2, vi p2] [])) _
    rw [show (((2 : Int32) + (1 : Int32)) : Int32) = (3 : Int32) from by decide]
    refine XS.iinc X11.here hx rfl (hb hby d6_35) rfl (l' := #[va o0, vi 3, va o1, vi ((2 : Int32) + (1 : Int32)), vi 4, vi 2, vi p2]) rfl ?_
    show Steps p.tables e below (T11.setTop (mkF m 38 #[va o0, vi 3, va o1, vi ((2 : Int32) + (1 : Int32)), vi 4, vi 2, vi p2] [])) _
    rw [show (((2 : Int32) + (1 : Int32)) : Int32) = (3 : Int32) from by decide]
    refine XS.iinc X11.here hx rfl (hb hby d6_38) rfl (l' := #[va o0, vi 3, va o1, vi 3, vi 4, vi ((2 : Int32) + (1 : Int32)), vi p2]) rfl ?_
    show Steps p.tables e below (T11.setTop (mkF m 41 #[va o0, vi 3, va o1, vi 3, vi 4, vi ((2 : Int32) + (1 : Int32)), vi p2] [])) _
    rw [show (((2 : Int32) + (1 : Int32)) : Int32) = (3 : Int32) from by decide]
    refine XS.goto X11.here hx rfl (pc0 := 41) (pc' := 3) rfl (hb hby d6_41) (by decide) (by decide) ?_
    refine XS.iload X11.here hx rfl (hb hby d6_3) rfl ?_
    refine XS.iload X11.here hx rfl (hb hby d6_5) rfl ?_
    refine XS.icmpNo X11.here hx rfl (hb hby d6_7) rfl (tlt (by decide : (3 : Int32) < (4 : Int32))).2.1 ?_
    refine XS.aloadN X11.here hx rfl (hb hby d6_10) rfl rfl ?_
    refine XS.iloadN X11.here hx rfl (hb hby d6_11) rfl ?_
    refine X11.caload hx (j := (3 : Int32)) (v := (.int p3)) (by rw [e11]; exact Ar13.1) (State.isArrayOf_alike hZ.alike Ar13.2.1) Ar13.2.2 hin13_3 (Has.at Hh13 hin13_3 rfl) (g := (mkF m 12 #[va o0, vi 3, va o1, vi 3, vi 4, vi 3, vi p2] [(.int 3), (.ref o0)])) rfl rfl (hb hby d6_12) _ ?_
    show Steps p.tables e below (T11.setTop (mkF m 13 #[va o0, vi 3, va o1, vi 3, vi 4, vi 3, vi p2] [(.int p3)])) _
    refine XS.istore X11.here hx rfl (hb hby d6_13) rfl (l' := #[va o0, vi 3, va o1, vi 3, vi 4, vi 3, vi p3]) rfl ?_
    refine XS.iload X11.here hx rfl (hb hby d6_15) rfl ?_
    refine XS.sipush X11.here hx rfl (hb hby d6_17) ?_
    refine XS.icmpNo X11.here hx rfl (hb hby d6_20) rfl (tlt hc3).2.2.2 ?_
    refine XS.iload X11.here hx rfl (hb hby d6_23) rfl ?_
    exact retOut X11 hx (t := .int) (i := .ireturn) hrt rfl (Or.inl ⟨rfl, Or.inl rfl, _, rfl⟩) (hb hby d6_25) hr
  · show Q6_1 Z z_COMPACT_STRINGS o0 o1 kk_o0 kk_o1 p0 p1 p2 p3 h0 n0 (some (.int 3)) T11.heap _
    rw [e11]; exact ⟨rfl, N11, K11, V11⟩
theorem d5_20 : decode jdk_52_method_16_code 20 = .ok (.aload_n 0, 1) := by decide +kernel
theorem d5_21 : decode jdk_52_method_16_code 21 = .ok (.iload_n 1, 1) := by decide +kernel
theorem d5_22 : decode jdk_52_method_16_code 22 = .ok (.iload_n 2, 1) := by decide +kernel
theorem d5_23 : decode jdk_52_method_16_code 23 = .ok (.invokestatic 119, 3) := by decide +kernel
theorem d13_0 : decode jdk_52_method_14_code 0 = .ok (.iload_n 2, 1) := by decide +kernel
theorem d13_1 : decode jdk_52_method_14_code 1 = .ok (.invokestatic 107, 3) := by decide +kernel
theorem d14_0 : decode jdk_52_method_2_code 0 = .ok (.iload_n 0, 1) := by decide +kernel
theorem d14_1 : decode jdk_52_method_2_code 1 = .ok (.invokestatic 11, 3) := by decide +kernel
theorem d15_0 : decode jdk_52_method_3_code 0 = .ok (.iload_n 0, 1) := by decide +kernel
theorem d15_1 : decode jdk_52_method_3_code 1 = .ok (.ifCond .ge 11, 3) := by decide +kernel
theorem d15_12 : decode jdk_52_method_3_code 12 = .ok (.iload_n 0, 1) := by decide +kernel
theorem d15_13 : decode jdk_52_method_3_code 13 = .ok (.ldc 20, 2) := by decide +kernel
theorem d15_15 : decode jdk_52_method_3_code 15 = .ok (.if_icmp .lt 40, 3) := by decide +kernel
theorem d15_55 : decode jdk_52_method_3_code 55 = .ok (.iload_n 0, 1) := by decide +kernel
theorem d15_56 : decode jdk_52_method_3_code 56 = .ok (.iconst 1, 1) := by decide +kernel
theorem d15_57 : decode jdk_52_method_3_code 57 = .ok (.ishl, 1) := by decide +kernel
theorem d15_58 : decode jdk_52_method_3_code 58 = .ok (.ireturn, 1) := by decide +kernel
def Q15_0 (Z : State) (z_COMPACT_STRINGS : Int32) (h0 : Heap) (n0 : Nat) (v : Option Value) (h : Heap) (L : List Loc) : Prop := v = (some (.int 8)) ∧ Fr n0 L ∧ h = h0
theorem rm15_0 (l : Launch) (Z : State) (a0 : Array Value) (hw : HW Z a0) (ws : List Jvm.Cond) (z_COMPACT_STRINGS : Int32) (h0 : Heap) (n0 : Nat) (O0 : Old Z n0 h0) (S : SF Z z_COMPACT_STRINGS) :
    Pay l Z My15 ws jdk_52_method_3_code 1 (some .int) #[(.int 4)] h0 ({ frames := 0, cells := 0, slots := 0, locals := 0 } : Room) (Q15_0 Z z_COMPACT_STRINGS  h0 n0) := by
  refine own_body (plainFor_of_name pn_2) (L0 := #[vi 4]) (fun _ => by first | rfl | (simp [entryFrame, mkF, argsToLocals, Value.category]; done)) ?_
  intro p e s m below meth c s₁ hrt hlk hx hby hml hZ hown0 hnm X0 e0
  have hown : s.vm.findClass sC1 = some m.cls := hown0
  have N0 := Fr.nil n0
  have K0 : Keep h0 h0 [] := Keep.refl _ _
  obtain ⟨fs, hr, hrun, hended, hW, hsame⟩ := X0.leave (v := (some (.int 8))) (fun h => by rw [hrt] at h; cases h)
  refine ⟨_, _, ?_, hrun, hended, _, _, rfl, ?_, ⟨_, rfl⟩, hW, hsame.mono (by decide) (by decide)⟩
  · show Steps p.tables e below (s₁.setTop (mkF m 0 #[vi 4] [])) _
    refine XS.iloadN X0.here hx rfl (hb hby d15_0) rfl ?_
    refine XS.ifYes X0.here hx rfl (pc0 := 1) (pc' := 12) rfl (hb hby d15_1) rfl ((if0 _ _).trans (flt (by decide : ¬ ((4 : Int32) < (0 : Int32)))).2.1) (by decide) (by decide) ?_
    refine XS.iloadN X0.here hx rfl (hb hby d15_12) rfl ?_
    refine X0.ldcInt hx hown (mvT hZ (ww hw 70 rfl)) (g := (mkF m 13 #[vi 4] [(.int 4)])) rfl (hb hby d15_13) _ ?_
    refine XS.icmpYes X0.here hx rfl (pc0 := 15) (pc' := 55) rfl (hb hby d15_15) rfl (tlt (by decide : (4 : Int32) < (1073741823 : Int32))).1 (by decide) (by decide) ?_
    refine XS.iloadN X0.here hx rfl (hb hby d15_55) rfl ?_
    refine XS.iconst X0.here hx rfl (hb hby d15_56) ?_
    refine XS.ishl X0.here hx rfl (hb hby d15_57) rfl ?_
    show Steps p.tables e below (s₁.setTop (mkF m 58 #[vi 4] [(.int ((4 : Int32) <<< ((1 : Int32) &&& 31)))])) _
    rw [show (((4 : Int32) <<< ((1 : Int32) &&& 31)) : Int32) = (8 : Int32) from by decide]
    exact retOut X0 hx (t := .int) (i := .ireturn) hrt rfl (Or.inl ⟨rfl, Or.inl rfl, _, rfl⟩) (hb hby d15_58) hr
  · show Q15_0 Z z_COMPACT_STRINGS  h0 n0 (some (.int 8)) s₁.heap _
    exact (⟨rfl, N0, e0⟩)
theorem pd_1 : parseMethodDescriptor "(I)I" = some ⟨[.int], some .int⟩ := by decide +kernel
theorem d14_4 : decode jdk_52_method_2_code 4 = .ok (.newarray .byte, 2) := by decide +kernel
theorem d14_6 : decode jdk_52_method_2_code 6 = .ok (.areturn, 1) := by decide +kernel
def Q14_0 (Z : State) (z_COMPACT_STRINGS : Int32) (h0 : Heap) (n0 : Nat) (v : Option Value) (h : Heap) (L : List Loc) : Prop := ∃ (b2 : Addr), ∃ (k2 : ClassId), v = (some (.ref b2)) ∧ Fr n0 L ∧ Keep h0 h [] ∧ Arv Z h b2 k2 .byte (8 : Int32) [(.int 0), (.int 0), (.int 0), (.int 0), (.int 0), (.int 0), (.int 0), (.int 0)] (.int 0) ∧ h0.size ≤ b2
theorem rm14_0 (l : Launch) (Z : State) (a0 : Array Value) (hw : HW Z a0) (ws : List Jvm.Cond) (z_COMPACT_STRINGS : Int32) (h0 : Heap) (n0 : Nat) (O0 : Old Z n0 h0) (S : SF Z z_COMPACT_STRINGS) :
    Pay l Z My14 ws jdk_52_method_2_code 1 (some (.array .byte)) #[(.int 4)] h0 ({ frames := 1, cells := 1, slots := 8, locals := 12 } : Room) (Q14_0 Z z_COMPACT_STRINGS  h0 n0) := by
  refine own_body (plainFor_of_name pn_2) (L0 := #[vi 4]) (fun _ => by first | rfl | (simp [entryFrame, mkF, argsToLocals, Value.category]; done)) ?_
  intro p e s m below meth c s₁ hrt hlk hx hby hml hZ hown0 hnm X0 e0
  have hown : s.vm.findClass sC1 = some m.cls := hown0
  have N0 := Fr.nil n0
  have K0 : Keep h0 h0 [] := Keep.refl _ _
  obtain ⟨_, _, ⟨T1, L1, k1, n1⟩, -, X1, ⟨Lc1, hQ1, l1, y1, z1⟩, st1⟩ := Jvm.LawKit.callS X0 hx (y := My15) hown (mvT hZ (ww hw 67 rfl)) (mvT hZ (ww hw 68 rfl)) (mvT hZ (ww hw 22 rfl)) (mvT hZ (ww hw 69 rfl)) (by decide) (backOf (W := 0) (rm15_0 l Z a0 hw [] z_COMPACT_STRINGS h0 n0 O0 S) hZ (ww hw 69 rfl) (ww hw 22 rfl) (by decide) (by decide)) (g := (mkF m 1 #[vi 4] [(.int 4)])) rfl (by rw [hml]; rfl) (argsL := [(.int 4)]) (rest := []) (lenOf pd_1 rfl) rfl (by show 2 * 0 + _ ≤ _; exact Nat.le_of_eq rfl) (hb hby d14_1) (fun _ _ => ⟨rfl, e0, (by decide : 0 + 0 ≤ _), (by decide : 0 + 0 ≤ _)⟩)
  dsimp only [Pt.U, Pt.locs, Pt.cells, Pt.slots] at X1 l1 y1 z1 st1 hQ1
  subst l1 y1 z1
  obtain ⟨rfl, Nq1, e1⟩ := hQ1
  have N1 := Fr.app N0 Nq1
  obtain ⟨T2, h2, k2, X2, e2, E2, A2, st2⟩ := newP X1 hx hZ (ww hw 24 rfl) e1 (g := (mkF m 4 #[vi 4] [(.int 8)])) rfl (hb hby d14_4) rfl (by decide) (cap := 8) (by decide) (by decide) (by decide) (by decide)
  obtain ⟨b2, qs2⟩ : ∃ z, z = h0.size := ⟨_, rfl⟩
  rw [← qs2] at A2 st2
  have g_b2 : n0 ≤ b2 := Nat.le_trans (own_old O0) (Nat.le_of_eq qs2.symm)
  have sz_b2 : h0.size ≤ b2 := Nat.le_trans K0.1 (Nat.le_of_eq qs2.symm)
  have O2 := O0.ext E2
  have K2 : Keep h0 h2 [] := K0.ext E2
  have V_b2 : Arv Z h2 b2 k2 .byte (8 : Int32) [(.int 0), (.int 0), (.int 0), (.int 0), (.int 0), (.int 0), (.int 0), (.int 0)] (.int 0) := (Arv.new A2 (by decide)).pad (pad_rep [] (.int 0) 8)
  obtain ⟨fs, hr, hrun, hended, hW, hsame⟩ := X2.leave (v := (some (.ref b2))) (fun h => by rw [hrt] at h; cases h)
  refine ⟨_, _, ?_, hrun, hended, _, _, rfl, ?_, ⟨_, rfl⟩, hW, hsame.mono (by decide) (by decide)⟩
  · show Steps p.tables e below (s₁.setTop (mkF m 0 #[vi 4] [])) _
    refine XS.iloadN X0.here hx rfl (hb hby d14_0) rfl ?_
    refine st1 _ ?_
    refine st2 _ ?_
    exact retOut X2 hx (t := (.array .byte)) (i := .areturn) hrt rfl (Or.inr (Or.inr (Or.inr (Or.inr ⟨rfl, rfl, rfl⟩)))) (hb hby d14_6) hr
  · show Q14_0 Z z_COMPACT_STRINGS  h0 n0 (some (.ref b2)) T2.heap _
    rw [e2]; exact ⟨b2, k2, rfl, N1, K2, V_b2, sz_b2⟩
theorem pd_2 : parseMethodDescriptor "(I)[B" = some ⟨[.int], some (.array .byte)⟩ := by decide +kernel
theorem d13_4 : decode jdk_52_method_14_code 4 = .ok (.astore_n 3, 1) := by decide +kernel
theorem d13_5 : decode jdk_52_method_14_code 5 = .ok (.iconst 0, 1) := by decide +kernel
theorem d13_6 : decode jdk_52_method_14_code 6 = .ok (.istore 4, 2) := by decide +kernel
theorem d13_8 : decode jdk_52_method_14_code 8 = .ok (.iload 4, 2) := by decide +kernel
theorem d13_10 : decode jdk_52_method_14_code 10 = .ok (.iload_n 2, 1) := by decide +kernel
theorem d13_11 : decode jdk_52_method_14_code 11 = .ok (.if_icmp .ge 21, 3) := by decide +kernel
theorem d13_14 : decode jdk_52_method_14_code 14 = .ok (.aload_n 3, 1) := by decide +kernel
theorem d13_15 : decode jdk_52_method_14_code 15 = .ok (.iload 4, 2) := by decide +kernel
theorem d13_17 : decode jdk_52_method_14_code 17 = .ok (.aload_n 0, 1) := by decide +kernel
theorem d13_18 : decode jdk_52_method_14_code 18 = .ok (.iload_n 1, 1) := by decide +kernel
theorem d13_19 : decode jdk_52_method_14_code 19 = .ok (.caload, 1) := by decide +kernel
theorem d13_20 : decode jdk_52_method_14_code 20 = .ok (.invokestatic 111, 3) := by decide +kernel
theorem d16_0 : decode jdk_52_method_4_code 0 = .ok (.getstatic 44, 3) := by decide +kernel
theorem d16_3 : decode jdk_52_method_4_code 3 = .ok (.ifCond .ne 25, 3) := by decide +kernel
theorem d16_28 : decode jdk_52_method_4_code 28 = .ok (.iload_n 1, 1) := by decide +kernel
theorem d16_29 : decode jdk_52_method_4_code 29 = .ok (.iconst 1, 1) := by decide +kernel
theorem d16_30 : decode jdk_52_method_4_code 30 = .ok (.ishl, 1) := by decide +kernel
theorem d16_31 : decode jdk_52_method_4_code 31 = .ok (.istore_n 1, 1) := by decide +kernel
theorem d16_32 : decode jdk_52_method_4_code 32 = .ok (.aload_n 0, 1) := by decide +kernel
theorem d16_33 : decode jdk_52_method_4_code 33 = .ok (.iload_n 1, 1) := by decide +kernel
theorem d16_34 : decode jdk_52_method_4_code 34 = .ok (.iinc 1 1, 3) := by decide +kernel
theorem d16_37 : decode jdk_52_method_4_code 37 = .ok (.iload_n 2, 1) := by decide +kernel
theorem d16_38 : decode jdk_52_method_4_code 38 = .ok (.getstatic 59, 3) := by decide +kernel
theorem d16_41 : decode jdk_52_method_4_code 41 = .ok (.ishr, 1) := by decide +kernel
theorem d16_42 : decode jdk_52_method_4_code 42 = .ok (.i2b, 1) := by decide +kernel
theorem d16_43 : decode jdk_52_method_4_code 43 = .ok (.bastore, 1) := by decide +kernel
theorem d16_44 : decode jdk_52_method_4_code 44 = .ok (.aload_n 0, 1) := by decide +kernel
theorem d16_45 : decode jdk_52_method_4_code 45 = .ok (.iload_n 1, 1) := by decide +kernel
theorem d16_46 : decode jdk_52_method_4_code 46 = .ok (.iload_n 2, 1) := by decide +kernel
theorem d16_47 : decode jdk_52_method_4_code 47 = .ok (.getstatic 63, 3) := by decide +kernel
theorem d16_50 : decode jdk_52_method_4_code 50 = .ok (.ishr, 1) := by decide +kernel
theorem d16_51 : decode jdk_52_method_4_code 51 = .ok (.i2b, 1) := by decide +kernel
theorem d16_52 : decode jdk_52_method_4_code 52 = .ok (.bastore, 1) := by decide +kernel
theorem d16_53 : decode jdk_52_method_4_code 53 = .ok (.return_, 1) := by decide +kernel
def Q16_0 (Z : State) (z_COMPACT_STRINGS : Int32) (o0 : Addr) (kk_o0 : ClassId) (p0 : Int32) (h0 : Heap) (n0 : Nat) (v : Option Value) (h : Heap) (L : List Loc) : Prop := v = none ∧ Fr n0 L ∧ Keep h0 h [o0] ∧ Arv Z h o0 kk_o0 .byte (8 : Int32) [(.int (bb (bb (p0 >>> ((0 : Int32) &&& 31))))), (.int (bb (bb (p0 >>> ((8 : Int32) &&& 31))))), (.int 0), (.int 0), (.int 0), (.int 0), (.int 0), (.int 0)] (.int 0)
theorem rm16_0 (l : Launch) (Z : State) (a0 : Array Value) (hw : HW Z a0) (ws : List Jvm.Cond) (z_COMPACT_STRINGS : Int32) (o0 : Addr) (kk_o0 : ClassId) (p0 : Int32) (h0 : Heap) (n0 : Nat) (O0 : Old Z n0 h0) (S : SF Z z_COMPACT_STRINGS) (V_o0 : Arv Z h0 o0 kk_o0 .byte (8 : Int32) [(.int 0), (.int 0), (.int 0), (.int 0), (.int 0), (.int 0), (.int 0), (.int 0)] (.int 0)) (g_o0 : n0 ≤ o0) :
    Pay l Z My16 ws jdk_52_method_4_code 3 none #[(.ref o0), (.int 0), (.int p0)] h0 ({ frames := 0, cells := 0, slots := 0, locals := 0 } : Room) (Q16_0 Z z_COMPACT_STRINGS o0 kk_o0 p0 h0 n0) := by
  obtain ⟨-, -, S_StringUTF16__assertionsDisabled, S_StringUTF16_HI_BYTE_SHIFT, S_StringUTF16_LO_BYTE_SHIFT, -⟩ := id S
  refine own_body (plainFor_of_name pn_2) (L0 := #[va o0, vi 0, vi p0]) (fun _ => by first | rfl | (simp [entryFrame, mkF, argsToLocals, Value.category]; done)) ?_
  intro p e s m below meth c s₁ hrt hlk hx hby hml hZ hown0 hnm X0 e0
  have hown : s.vm.findClass sC1 = some m.cls := hown0
  have N0 := Fr.nil n0
  have K0 : Keep h0 h0 [o0] := Keep.refl _ _
  obtain ⟨T1, X1, e1, st1⟩ := getS2 X0 hx hZ hown (host := "") (Or.inl (ww hw 74 rfl)) Via.refl e0 (S_StringUTF16__assertionsDisabled.ext O0.2) (g := (mkF m 0 #[va o0, vi 0, vi p0] [])) rfl (hb hby d16_0)
  obtain ⟨T2, X2, e2, st2⟩ := getS2 X1 hx hZ hown (host := "") (Or.inl (ww hw 75 rfl)) Via.refl e1 (S_StringUTF16_HI_BYTE_SHIFT.ext O0.2) (g := (mkF m 38 #[va o0, vi 1, vi p0] [(.int p0), (.int 0), (.ref o0)])) rfl (hb hby d16_38)
  obtain ⟨cl3, Ar3, qk3, Sz3, Ng3, Hh3, Gg3⟩ := id V_o0
  have hin3_0 : ¬ ((0 : Int32) < 0 ∨ cl3.slots.size ≤ ((0 : Int32)).toNatClampNeg) := inb_of Sz3 ⟨by decide, by decide⟩
  obtain ⟨T4, h4, X4, e4, W4, st4⟩ := stB X2 hx hZ e2 Ar3 (j := (0 : Int32)) hin3_0 (g := (mkF m 43 #[va o0, vi 1, vi p0] [(.int (bb (p0 >>> ((0 : Int32) &&& 31)))), (.int 0), (.ref o0)])) rfl rfl (hb hby d16_43)
  have V4 : Arv Z h4 o0 kk_o0 .byte (8 : Int32) [(.int (bb (bb (p0 >>> ((0 : Int32) &&& 31))))), (.int 0), (.int 0), (.int 0), (.int 0), (.int 0), (.int 0), (.int 0)] (.int 0) := Arv.set Ar3 qk3 Sz3 Ng3 Hh3 Gg3 (fits_nar_byte _) W4 0 rfl (Nat.le_of_ble_eq_true rfl)
  have O4 := O0.wr W4 g_o0
  have K4 : Keep h0 h4 [o0] := K0.wr W4 (Or.inl (List.mem_of_getElem? (i := 0) rfl))
  have N4 := Fr.snoc X4 N0 g_o0
  obtain ⟨T5, X5, e5, st5⟩ := getS2 X4 hx hZ hown (host := "") (Or.inl (ww hw 76 rfl)) Via.refl e4 (S_StringUTF16_LO_BYTE_SHIFT.ext O4.2) (g := (mkF m 47 #[va o0, vi 1, vi p0] [(.int p0), (.int 1), (.ref o0)])) rfl (hb hby d16_47)
  obtain ⟨cl6, Ar6, qk6, Sz6, Ng6, Hh6, Gg6⟩ := id V4
  have hin6_1 : ¬ ((1 : Int32) < 0 ∨ cl6.slots.size ≤ ((1 : Int32)).toNatClampNeg) := inb_of Sz6 ⟨by decide, by decide⟩
  obtain ⟨T7, h7, X7, e7, W7, st7⟩ := stB X5 hx hZ e5 Ar6 (j := (1 : Int32)) hin6_1 (g := (mkF m 52 #[va o0, vi 1, vi p0] [(.int (bb (p0 >>> ((8 : Int32) &&& 31)))), (.int 1), (.ref o0)])) rfl rfl (hb hby d16_52)
  have V7 : Arv Z h7 o0 kk_o0 .byte (8 : Int32) [(.int (bb (bb (p0 >>> ((0 : Int32) &&& 31))))), (.int (bb (bb (p0 >>> ((8 : Int32) &&& 31))))), (.int 0), (.int 0), (.int 0), (.int 0), (.int 0), (.int 0)] (.int 0) := Arv.set Ar6 qk6 Sz6 Ng6 Hh6 Gg6 (fits_nar_byte _) W7 1 rfl (Nat.le_of_ble_eq_true rfl)
  have O7 := O4.wr W7 g_o0
  have K7 : Keep h0 h7 [o0] := K4.wr W7 (Or.inl (List.mem_of_getElem? (i := 0) rfl))
  have N7 := Fr.snoc X7 N4 g_o0
  obtain ⟨fs, hr, hrun, hended, hW, hsame⟩ := X7.leave (v := none) (fun _ => rfl)
  refine ⟨_, _, ?_, hrun, hended, _, _, rfl, ?_, ⟨_, rfl⟩, hW, hsame.mono (by decide) (by decide)⟩
  · show Steps p.tables e below (s₁.setTop (mkF m 0 #[va o0, vi 0, vi p0] [])) _
    refine st1 _ ?_
    refine XS.ifYes X1.here hx rfl (pc0 := 3) (pc' := 28) rfl (hb hby d16_3) rfl ((if0 _ _).trans (feq (by decide : ¬ ((1 : Int32) = (0 : Int32)))).2) (by decide) (by decide) ?_
    refine XS.iloadN X1.here hx rfl (hb hby d16_28) rfl ?_
    refine XS.iconst X1.here hx rfl (hb hby d16_29) ?_
    refine XS.ishl X1.here hx rfl (hb hby d16_30) rfl ?_
    show Steps p.tables e below (T1.setTop (mkF m 31 #[va o0, vi 0, vi p0] [(.int ((0 : Int32) <<< ((1 : Int32) &&& 31)))])) _
    rw [show (((0 : Int32) <<< ((1 : Int32) &&& 31)) : Int32) = (0 : Int32) from by decide]
    refine XS.istoreN X1.here hx rfl (hb hby d16_31) rfl (l' := #[va o0, vi 0, vi p0]) rfl ?_
    refine XS.aloadN X1.here hx rfl (hb hby d16_32) rfl rfl ?_
    refine XS.iloadN X1.here hx rfl (hb hby d16_33) rfl ?_
    refine XS.iinc X1.here hx rfl (hb hby d16_34) rfl (l' := #[va o0, vi ((0 : Int32) + (1 : Int32)), vi p0]) rfl ?_
    show Steps p.tables e below (T1.setTop (mkF m 37 #[va o0, vi ((0 : Int32) + (1 : Int32)), vi p0] [(.int 0), (.ref o0)])) _
    rw [show (((0 : Int32) + (1 : Int32)) : Int32) = (1 : Int32) from by decide]
    refine XS.iloadN X1.here hx rfl (hb hby d16_37) rfl ?_
    refine st2 _ ?_
    refine XS.ishr X2.here hx rfl (hb hby d16_41) rfl ?_
    refine XS.i2b X2.here hx rfl (hb hby d16_42) rfl ?_
    refine st4 _ ?_
    refine XS.aloadN X4.here hx rfl (hb hby d16_44) rfl rfl ?_
    refine XS.iloadN X4.here hx rfl (hb hby d16_45) rfl ?_
    show Steps p.tables e below (T4.setTop (mkF m 46 #[va o0, vi 1, vi p0] [(.int 1), (.ref o0)])) _
    refine XS.iloadN X4.here hx rfl (hb hby d16_46) rfl ?_
    refine st5 _ ?_
    refine XS.ishr X5.here hx rfl (hb hby d16_50) rfl ?_
    refine XS.i2b X5.here hx rfl (hb hby d16_51) rfl ?_
    refine st7 _ ?_
    exact X7.returnOut hx hrt (hb hby d16_53) hr
  · show Q16_0 Z z_COMPACT_STRINGS o0 kk_o0 p0 h0 n0 none T7.heap _
    rw [e7]; exact ⟨rfl, N7, K7, V7⟩
theorem pd_3 : parseMethodDescriptor "([BII)V" = some ⟨[(.array .byte), .int, .int], none⟩ := by decide +kernel
theorem d13_23 : decode jdk_52_method_14_code 23 = .ok (.iinc 1 1, 3) := by decide +kernel
theorem d13_26 : decode jdk_52_method_14_code 26 = .ok (.iinc 4 1, 3) := by decide +kernel
theorem d13_29 : decode jdk_52_method_14_code 29 = .ok (.goto (-21), 3) := by decide +kernel
def Q16_1 (Z : State) (z_COMPACT_STRINGS : Int32) (o0 : Addr) (kk_o0 : ClassId) (p2 : Int32) (p0 : Int32) (p1 : Int32) (h0 : Heap) (n0 : Nat) (v : Option Value) (h : Heap) (L : List Loc) : Prop := v = none ∧ Fr n0 L ∧ Keep h0 h [o0] ∧ Arv Z h o0 kk_o0 .byte (8 : Int32) [(.int p0), (.int p1), (.int (bb (bb (p2 >>> ((0 : Int32) &&& 31))))), (.int (bb (bb (p2 >>> ((8 : Int32) &&& 31))))), (.int 0), (.int 0), (.int 0), (.int 0)] (.int 0)
theorem rm16_1 (l : Launch) (Z : State) (a0 : Array Value) (hw : HW Z a0) (ws : List Jvm.Cond) (z_COMPACT_STRINGS : Int32) (o0 : Addr) (kk_o0 : ClassId) (p2 : Int32) (p0 : Int32) (p1 : Int32) (h0 : Heap) (n0 : Nat) (O0 : Old Z n0 h0) (S : SF Z z_COMPACT_STRINGS) (V_o0 : Arv Z h0 o0 kk_o0 .byte (8 : Int32) [(.int p0), (.int p1), (.int 0), (.int 0), (.int 0), (.int 0), (.int 0), (.int 0)] (.int 0)) (g_o0 : n0 ≤ o0) :
    Pay l Z My16 ws jdk_52_method_4_code 3 none #[(.ref o0), (.int 1), (.int p2)] h0 ({ frames := 0, cells := 0, slots := 0, locals := 0 } : Room) (Q16_1 Z z_COMPACT_STRINGS o0 kk_o0 p2 p0 p1 h0 n0) := by
  obtain ⟨-, -, S_StringUTF16__assertionsDisabled, S_StringUTF16_HI_BYTE_SHIFT, S_StringUTF16_LO_BYTE_SHIFT, -⟩ := id S
  refine own_body (plainFor_of_name pn_2) (L0 := #[va o0, vi 1, vi p2]) (fun _ => by first | rfl | (simp [entryFrame, mkF, argsToLocals, Value.category]; done)) ?_
  intro p e s m below meth c s₁ hrt hlk hx hby hml hZ hown0 hnm X0 e0
  have hown : s.vm.findClass sC1 = some m.cls := hown0
  have N0 := Fr.nil n0
  have K0 : Keep h0 h0 [o0] := Keep.refl _ _
  obtain ⟨T1, X1, e1, st1⟩ := getS2 X0 hx hZ hown (host := "") (Or.inl (ww hw 74 rfl)) Via.refl e0 (S_StringUTF16__assertionsDisabled.ext O0.2) (g := (mkF m 0 #[va o0, vi 1, vi p2] [])) rfl (hb hby d16_0)
  obtain ⟨T2, X2, e2, st2⟩ := getS2 X1 hx hZ hown (host := "") (Or.inl (ww hw 75 rfl)) Via.refl e1 (S_StringUTF16_HI_BYTE_SHIFT.ext O0.2) (g := (mkF m 38 #[va o0, vi 3, vi p2] [(.int p2), (.int 2), (.ref o0)])) rfl (hb hby d16_38)
  obtain ⟨cl3, Ar3, qk3, Sz3, Ng3, Hh3, Gg3⟩ := id V_o0
  have hin3_2 : ¬ ((2 : Int32) < 0 ∨ cl3.slots.size ≤ ((2 : Int32)).toNatClampNeg) := inb_of Sz3 ⟨by decide, by decide⟩
  obtain ⟨T4, h4, X4, e4, W4, st4⟩ := stB X2 hx hZ e2 Ar3 (j := (2 : Int32)) hin3_2 (g := (mkF m 43 #[va o0, vi 3, vi p2] [(.int (bb (p2 >>> ((0 : Int32) &&& 31)))), (.int 2), (.ref o0)])) rfl rfl (hb hby d16_43)
  have V4 : Arv Z h4 o0 kk_o0 .byte (8 : Int32) [(.int p0), (.int p1), (.int (bb (bb (p2 >>> ((0 : Int32) &&& 31))))), (.int 0), (.int 0), (.int 0), (.int 0), (.int 0)] (.int 0) := Arv.set Ar3 qk3 Sz3 Ng3 Hh3 Gg3 (fits_nar_byte _) W4 2 rfl (Nat.le_of_ble_eq_true rfl)
  have O4 := O0.wr W4 g_o0
  have K4 : Keep h0 h4 [o0] := K0.wr W4 (Or.inl (List.mem_of_getElem? (i := 0) rfl))
  have N4 := Fr.snoc X4 N0 g_o0
  obtain ⟨T5, X5, e5, st5⟩ := getS2 X4 hx hZ hown (host := "") (Or.inl (ww hw 76 rfl)) Via.refl e4 (S_StringUTF16_LO_BYTE_SHIFT.ext O4.2) (g := (mkF m 47 #[va o0, vi 3, vi p2] [(.int p2), (.int 3), (.ref o0)])) rfl (hb hby d16_47)
  obtain ⟨cl6, Ar6, qk6, Sz6, Ng6, Hh6, Gg6⟩ := id V4
  have hin6_3 : ¬ ((3 : Int32) < 0 ∨ cl6.slots.size ≤ ((3 : Int32)).toNatClampNeg) := inb_of Sz6 ⟨by decide, by decide⟩
  obtain ⟨T7, h7, X7, e7, W7, st7⟩ := stB X5 hx hZ e5 Ar6 (j := (3 : Int32)) hin6_3 (g := (mkF m 52 #[va o0, vi 3, vi p2] [(.int (bb (p2 >>> ((8 : Int32) &&& 31)))), (.int 3), (.ref o0)])) rfl rfl (hb hby d16_52)
  have V7 : Arv Z h7 o0 kk_o0 .byte (8 : Int32) [(.int p0), (.int p1), (.int (bb (bb (p2 >>> ((0 : Int32) &&& 31))))), (.int (bb (bb (p2 >>> ((8 : Int32) &&& 31))))), (.int 0), (.int 0), (.int 0), (.int 0)] (.int 0) := Arv.set Ar6 qk6 Sz6 Ng6 Hh6 Gg6 (fits_nar_byte _) W7 3 rfl (Nat.le_of_ble_eq_true rfl)
  have O7 := O4.wr W7 g_o0
  have K7 : Keep h0 h7 [o0] := K4.wr W7 (Or.inl (List.mem_of_getElem? (i := 0) rfl))
  have N7 := Fr.snoc X7 N4 g_o0
  obtain ⟨fs, hr, hrun, hended, hW, hsame⟩ := X7.leave (v := none) (fun _ => rfl)
  refine ⟨_, _, ?_, hrun, hended, _, _, rfl, ?_, ⟨_, rfl⟩, hW, hsame.mono (by decide) (by decide)⟩
  · show Steps p.tables e below (s₁.setTop (mkF m 0 #[va o0, vi 1, vi p2] [])) _
    refine st1 _ ?_
    refine XS.ifYes X1.here hx rfl (pc0 := 3) (pc' := 28) rfl (hb hby d16_3) rfl ((if0 _ _).trans (feq (by decide : ¬ ((1 : Int32) = (0 : Int32)))).2) (by decide) (by decide) ?_
    refine XS.iloadN X1.here hx rfl (hb hby d16_28) rfl ?_
    refine XS.iconst X1.here hx rfl (hb hby d16_29) ?_
    refine XS.ishl X1.here hx rfl (hb hby d16_30) rfl ?_
    show Steps p.tables e below (T1.setTop (mkF m 31 #[va o0, vi 1, vi p2] [(.int ((1 : Int32) <<< ((1 : Int32) &&& 31)))])) _
    rw [show (((1 : Int32) <<< ((1 : Int32) &&& 31)) : Int32) = (2 : Int32) from by decide]
    refine XS.istoreN X1.here hx rfl (hb hby d16_31) rfl (l' := #[va o0, vi 2, vi p2]) rfl ?_
    refine XS.aloadN X1.here hx rfl (hb hby d16_32) rfl rfl ?_
    refine XS.iloadN X1.here hx rfl (hb hby d16_33) rfl ?_
    refine XS.iinc X1.here hx rfl (hb hby d16_34) rfl (l' := #[va o0, vi ((2 : Int32) + (1 : Int32)), vi p2]) rfl ?_
    show Steps p.tables e below (T1.setTop (mkF m 37 #[va o0, vi ((2 : Int32) + (1 : Int32)), vi p2] [(.int 2), (.ref o0)])) _
    rw [show (((2 : Int32) + (1 : Int32)) : Int32) = (3 : Int32) from by decide]
    refine XS.iloadN X1.here hx rfl (hb hby d16_37) rfl ?_
    refine st2 _ ?_
    refine XS.ishr X2.here hx rfl (hb hby d16_41) rfl ?_
    refine XS.i2b X2.here hx rfl (hb hby d16_42) rfl ?_
    refine st4 _ ?_
    refine XS.aloadN X4.here hx rfl (hb hby d16_44) rfl rfl ?_
    refine XS.iloadN X4.here hx rfl (hb hby d16_45) rfl ?_
    show Steps p.tables e below (T4.setTop (mkF m 46 #[va o0, vi 3, vi p2] [(.int 3), (.ref o0)])) _
    refine XS.iloadN X4.here hx rfl (hb hby d16_46) rfl ?_
    refine st5 _ ?_
    refine XS.ishr X5.here hx rfl (hb hby d16_50) rfl ?_
    refine XS.i2b X5.here hx rfl (hb hby d16_51) rfl ?_
    refine st7 _ ?_
    exact X7.returnOut hx hrt (hb hby d16_53) hr
  · show Q16_1 Z z_COMPACT_STRINGS o0 kk_o0 p2 p0 p1 h0 n0 none T7.heap _
    rw [e7]; exact ⟨rfl, N7, K7, V7⟩
def Q16_2 (Z : State) (z_COMPACT_STRINGS : Int32) (o0 : Addr) (kk_o0 : ClassId) (p4 : Int32) (p0 : Int32) (p1 : Int32) (p2 : Int32) (p3 : Int32) (h0 : Heap) (n0 : Nat) (v : Option Value) (h : Heap) (L : List Loc) : Prop := v = none ∧ Fr n0 L ∧ Keep h0 h [o0] ∧ Arv Z h o0 kk_o0 .byte (8 : Int32) [(.int p0), (.int p1), (.int p2), (.int p3), (.int (bb (bb (p4 >>> ((0 : Int32) &&& 31))))), (.int (bb (bb (p4 >>> ((8 : Int32) &&& 31))))), (.int 0), (.int 0)] (.int 0)
theorem rm16_2 (l : Launch) (Z : State) (a0 : Array Value) (hw : HW Z a0) (ws : List Jvm.Cond) (z_COMPACT_STRINGS : Int32) (o0 : Addr) (kk_o0 : ClassId) (p4 : Int32) (p0 : Int32) (p1 : Int32) (p2 : Int32) (p3 : Int32) (h0 : Heap) (n0 : Nat) (O0 : Old Z n0 h0) (S : SF Z z_COMPACT_STRINGS) (V_o0 : Arv Z h0 o0 kk_o0 .byte (8 : Int32) [(.int p0), (.int p1), (.int p2), (.int p3), (.int 0), (.int 0), (.int 0), (.int 0)] (.int 0)) (g_o0 : n0 ≤ o0) :
    Pay l Z My16 ws jdk_52_method_4_code 3 none #[(.ref o0), (.int 2), (.int p4)] h0 ({ frames := 0, cells := 0, slots := 0, locals := 0 } : Room) (Q16_2 Z z_COMPACT_STRINGS o0 kk_o0 p4 p0 p1 p2 p3 h0 n0) := by
  obtain ⟨-, -, S_StringUTF16__assertionsDisabled, S_StringUTF16_HI_BYTE_SHIFT, S_StringUTF16_LO_BYTE_SHIFT, -⟩ := id S
  refine own_body (plainFor_of_name pn_2) (L0 := #[va o0, vi 2, vi p4]) (fun _ => by first | rfl | (simp [entryFrame, mkF, argsToLocals, Value.category]; done)) ?_
  intro p e s m below meth c s₁ hrt hlk hx hby hml hZ hown0 hnm X0 e0
  have hown : s.vm.findClass sC1 = some m.cls := hown0
  have N0 := Fr.nil n0
  have K0 : Keep h0 h0 [o0] := Keep.refl _ _
  obtain ⟨T1, X1, e1, st1⟩ := getS2 X0 hx hZ hown (host := "") (Or.inl (ww hw 74 rfl)) Via.refl e0 (S_StringUTF16__assertionsDisabled.ext O0.2) (g := (mkF m 0 #[va o0, vi 2, vi p4] [])) rfl (hb hby d16_0)
  obtain ⟨T2, X2, e2, st2⟩ := getS2 X1 hx hZ hown (host := "") (Or.inl (ww hw 75 rfl)) Via.refl e1 (S_StringUTF16_HI_BYTE_SHIFT.ext O0.2) (g := (mkF m 38 #[va o0, vi 5, vi p4] [(.int p4), (.int 4), (.ref o0)])) rfl (hb hby d16_38)
  obtain ⟨cl3, Ar3, qk3, Sz3, Ng3, Hh3, Gg3⟩ := id V_o0
  have hin3_4 : ¬ ((4 : Int32) < 0 ∨ cl3.slots.size ≤ ((4 : Int32)).toNatClampNeg) := inb_of Sz3 ⟨by decide, by decide⟩
  obtain ⟨T4, h4, X4, e4, W4, st4⟩ := stB X2 hx hZ e2 Ar3 (j := (4 : Int32)) hin3_4 (g := (mkF m 43 #[va o0, vi 5, vi p4] [(.int (bb (p4 >>> ((0 : Int32) &&& 31)))), (.int 4), (.ref o0)])) rfl rfl (hb hby d16_43)
  have V4 : Arv Z h4 o0 kk_o0 .byte (8 : Int32) [(.int p0), (.int p1), (.int p2), (.int p3), (.int (bb (bb (p4 >>> ((0 : Int32) &&& 31))))), (.int 0), (.int 0), (.int 0)] (.int 0) := Arv.set Ar3 qk3 Sz3 Ng3 Hh3 Gg3 (fits_nar_byte _) W4 4 rfl (Nat.le_of_ble_eq_true rfl)
  have O4 := O0.wr W4 g_o0
  have K4 : Keep h0 h4 [o0] := K0.wr W4 (Or.inl (List.mem_of_getElem? (i := 0) rfl))
  have N4 := Fr.snoc X4 N0 g_o0
  obtain ⟨T5, X5, e5, st5⟩ := getS2 X4 hx hZ hown (host := "") (Or.inl (ww hw 76 rfl)) Via.refl e4 (S_StringUTF16_LO_BYTE_SHIFT.ext O4.2) (g := (mkF m 47 #[va o0, vi 5, vi p4] [(.int p4), (.int 5), (.ref o0)])) rfl (hb hby d16_47)
  obtain ⟨cl6, Ar6, qk6, Sz6, Ng6, Hh6, Gg6⟩ := id V4
  have hin6_5 : ¬ ((5 : Int32) < 0 ∨ cl6.slots.size ≤ ((5 : Int32)).toNatClampNeg) := inb_of Sz6 ⟨by decide, by decide⟩
  obtain ⟨T7, h7, X7, e7, W7, st7⟩ := stB X5 hx hZ e5 Ar6 (j := (5 : Int32)) hin6_5 (g := (mkF m 52 #[va o0, vi 5, vi p4] [(.int (bb (p4 >>> ((8 : Int32) &&& 31)))), (.int 5), (.ref o0)])) rfl rfl (hb hby d16_52)
  have V7 : Arv Z h7 o0 kk_o0 .byte (8 : Int32) [(.int p0), (.int p1), (.int p2), (.int p3), (.int (bb (bb (p4 >>> ((0 : Int32) &&& 31))))), (.int (bb (bb (p4 >>> ((8 : Int32) &&& 31))))), (.int 0), (.int 0)] (.int 0) := Arv.set Ar6 qk6 Sz6 Ng6 Hh6 Gg6 (fits_nar_byte _) W7 5 rfl (Nat.le_of_ble_eq_true rfl)
  have O7 := O4.wr W7 g_o0
  have K7 : Keep h0 h7 [o0] := K4.wr W7 (Or.inl (List.mem_of_getElem? (i := 0) rfl))
  have N7 := Fr.snoc X7 N4 g_o0
  obtain ⟨fs, hr, hrun, hended, hW, hsame⟩ := X7.leave (v := none) (fun _ => rfl)
  refine ⟨_, _, ?_, hrun, hended, _, _, rfl, ?_, ⟨_, rfl⟩, hW, hsame.mono (by decide) (by decide)⟩
  · show Steps p.tables e below (s₁.setTop (mkF m 0 #[va o0, vi 2, vi p4] [])) _
    refine st1 _ ?_
    refine XS.ifYes X1.here hx rfl (pc0 := 3) (pc' := 28) rfl (hb hby d16_3) rfl ((if0 _ _).trans (feq (by decide : ¬ ((1 : Int32) = (0 : Int32)))).2) (by decide) (by decide) ?_
    refine XS.iloadN X1.here hx rfl (hb hby d16_28) rfl ?_
    refine XS.iconst X1.here hx rfl (hb hby d16_29) ?_
    refine XS.ishl X1.here hx rfl (hb hby d16_30) rfl ?_
    show Steps p.tables e below (T1.setTop (mkF m 31 #[va o0, vi 2, vi p4] [(.int ((2 : Int32) <<< ((1 : Int32) &&& 31)))])) _
    rw [show (((2 : Int32) <<< ((1 : Int32) &&& 31)) : Int32) = (4 : Int32) from by decide]
    refine XS.istoreN X1.here hx rfl (hb hby d16_31) rfl (l' := #[va o0, vi 4, vi p4]) rfl ?_
    refine XS.aloadN X1.here hx rfl (hb hby d16_32) rfl rfl ?_
    refine XS.iloadN X1.here hx rfl (hb hby d16_33) rfl ?_
    refine XS.iinc X1.here hx rfl (hb hby d16_34) rfl (l' := #[va o0, vi ((4 : Int32) + (1 : Int32)), vi p4]) rfl ?_
    show Steps p.tables e below (T1.setTop (mkF m 37 #[va o0, vi ((4 : Int32) + (1 : Int32)), vi p4] [(.int 4), (.ref o0)])) _
    rw [show (((4 : Int32) + (1 : Int32)) : Int32) = (5 : Int32) from by decide]
    refine XS.iloadN X1.here hx rfl (hb hby d16_37) rfl ?_
    refine st2 _ ?_
    refine XS.ishr X2.here hx rfl (hb hby d16_41) rfl ?_
    refine XS.i2b X2.here hx rfl (hb hby d16_42) rfl ?_
    refine st4 _ ?_
    refine XS.aloadN X4.here hx rfl (hb hby d16_44) rfl rfl ?_
    refine XS.iloadN X4.here hx rfl (hb hby d16_45) rfl ?_
    show Steps p.tables e below (T4.setTop (mkF m 46 #[va o0, vi 5, vi p4] [(.int 5), (.ref o0)])) _
    refine XS.iloadN X4.here hx rfl (hb hby d16_46) rfl ?_
    refine st5 _ ?_
    refine XS.ishr X5.here hx rfl (hb hby d16_50) rfl ?_
    refine XS.i2b X5.here hx rfl (hb hby d16_51) rfl ?_
    refine st7 _ ?_
    exact X7.returnOut hx hrt (hb hby d16_53) hr
  · show Q16_2 Z z_COMPACT_STRINGS o0 kk_o0 p4 p0 p1 p2 p3 h0 n0 none T7.heap _
    rw [e7]; exact ⟨rfl, N7, K7, V7⟩
def Q16_3 (Z : State) (z_COMPACT_STRINGS : Int32) (o0 : Addr) (kk_o0 : ClassId) (p6 : Int32) (p0 : Int32) (p1 : Int32) (p2 : Int32) (p3 : Int32) (p4 : Int32) (p5 : Int32) (h0 : Heap) (n0 : Nat) (v : Option Value) (h : Heap) (L : List Loc) : Prop := v = none ∧ Fr n0 L ∧ Keep h0 h [o0] ∧ Arv Z h o0 kk_o0 .byte (8 : Int32) [(.int p0), (.int p1), (.int p2), (.int p3), (.int p4), (.int p5), (.int (bb (bb (p6 >>> ((0 : Int32) &&& 31))))), (.int (bb (bb (p6 >>> ((8 : Int32) &&& 31)))))] (.int 0)
theorem rm16_3 (l : Launch) (Z : State) (a0 : Array Value) (hw : HW Z a0) (ws : List Jvm.Cond) (z_COMPACT_STRINGS : Int32) (o0 : Addr) (kk_o0 : ClassId) (p6 : Int32) (p0 : Int32) (p1 : Int32) (p2 : Int32) (p3 : Int32) (p4 : Int32) (p5 : Int32) (h0 : Heap) (n0 : Nat) (O0 : Old Z n0 h0) (S : SF Z z_COMPACT_STRINGS) (V_o0 : Arv Z h0 o0 kk_o0 .byte (8 : Int32) [(.int p0), (.int p1), (.int p2), (.int p3), (.int p4), (.int p5), (.int 0), (.int 0)] (.int 0)) (g_o0 : n0 ≤ o0) :
    Pay l Z My16 ws jdk_52_method_4_code 3 none #[(.ref o0), (.int 3), (.int p6)] h0 ({ frames := 0, cells := 0, slots := 0, locals := 0 } : Room) (Q16_3 Z z_COMPACT_STRINGS o0 kk_o0 p6 p0 p1 p2 p3 p4 p5 h0 n0) := by
  obtain ⟨-, -, S_StringUTF16__assertionsDisabled, S_StringUTF16_HI_BYTE_SHIFT, S_StringUTF16_LO_BYTE_SHIFT, -⟩ := id S
  refine own_body (plainFor_of_name pn_2) (L0 := #[va o0, vi 3, vi p6]) (fun _ => by first | rfl | (simp [entryFrame, mkF, argsToLocals, Value.category]; done)) ?_
  intro p e s m below meth c s₁ hrt hlk hx hby hml hZ hown0 hnm X0 e0
  have hown : s.vm.findClass sC1 = some m.cls := hown0
  have N0 := Fr.nil n0
  have K0 : Keep h0 h0 [o0] := Keep.refl _ _
  obtain ⟨T1, X1, e1, st1⟩ := getS2 X0 hx hZ hown (host := "") (Or.inl (ww hw 74 rfl)) Via.refl e0 (S_StringUTF16__assertionsDisabled.ext O0.2) (g := (mkF m 0 #[va o0, vi 3, vi p6] [])) rfl (hb hby d16_0)
  obtain ⟨T2, X2, e2, st2⟩ := getS2 X1 hx hZ hown (host := "") (Or.inl (ww hw 75 rfl)) Via.refl e1 (S_StringUTF16_HI_BYTE_SHIFT.ext O0.2) (g := (mkF m 38 #[va o0, vi 7, vi p6] [(.int p6), (.int 6), (.ref o0)])) rfl (hb hby d16_38)
  obtain ⟨cl3, Ar3, qk3, Sz3, Ng3, Hh3, Gg3⟩ := id V_o0
  have hin3_6 : ¬ ((6 : Int32) < 0 ∨ cl3.slots.size ≤ ((6 : Int32)).toNatClampNeg) := inb_of Sz3 ⟨by decide, by decide⟩
  obtain ⟨T4, h4, X4, e4, W4, st4⟩ := stB X2 hx hZ e2 Ar3 (j := (6 : Int32)) hin3_6 (g := (mkF m 43 #[va o0, vi 7, vi p6] [(.int (bb (p6 >>> ((0 : Int32) &&& 31)))), (.int 6), (.ref o0)])) rfl rfl (hb hby d16_43)
  have V4 : Arv Z h4 o0 kk_o0 .byte (8 : Int32) [(.int p0), (.int p1), (.int p2), (.int p3), (.int p4), (.int p5), (.int (bb (bb (p6 >>> ((0 : Int32) &&& 31))))), (.int 0)] (.int 0) := Arv.set Ar3 qk3 Sz3 Ng3 Hh3 Gg3 (fits_nar_byte _) W4 6 rfl (Nat.le_of_ble_eq_true rfl)
  have O4 := O0.wr W4 g_o0
  have K4 : Keep h0 h4 [o0] := K0.wr W4 (Or.inl (List.mem_of_getElem? (i := 0) rfl))
  have N4 := Fr.snoc X4 N0 g_o0
  obtain ⟨T5, X5, e5, st5⟩ := getS2 X4 hx hZ hown (host := "") (Or.inl (ww hw 76 rfl)) Via.refl e4 (S_StringUTF16_LO_BYTE_SHIFT.ext O4.2) (g := (mkF m 47 #[va o0, vi 7, vi p6] [(.int p6), (.int 7), (.ref o0)])) rfl (hb hby d16_47)
  obtain ⟨cl6, Ar6, qk6, Sz6, Ng6, Hh6, Gg6⟩ := id V4
  have hin6_7 : ¬ ((7 : Int32) < 0 ∨ cl6.slots.size ≤ ((7 : Int32)).toNatClampNeg) := inb_of Sz6 ⟨by decide, by decide⟩
  obtain ⟨T7, h7, X7, e7, W7, st7⟩ := stB X5 hx hZ e5 Ar6 (j := (7 : Int32)) hin6_7 (g := (mkF m 52 #[va o0, vi 7, vi p6] [(.int (bb (p6 >>> ((8 : Int32) &&& 31)))), (.int 7), (.ref o0)])) rfl rfl (hb hby d16_52)
  have V7 : Arv Z h7 o0 kk_o0 .byte (8 : Int32) [(.int p0), (.int p1), (.int p2), (.int p3), (.int p4), (.int p5), (.int (bb (bb (p6 >>> ((0 : Int32) &&& 31))))), (.int (bb (bb (p6 >>> ((8 : Int32) &&& 31)))))] (.int 0) := Arv.set Ar6 qk6 Sz6 Ng6 Hh6 Gg6 (fits_nar_byte _) W7 7 rfl (Nat.le_of_ble_eq_true rfl)
  have O7 := O4.wr W7 g_o0
  have K7 : Keep h0 h7 [o0] := K4.wr W7 (Or.inl (List.mem_of_getElem? (i := 0) rfl))
  have N7 := Fr.snoc X7 N4 g_o0
  obtain ⟨fs, hr, hrun, hended, hW, hsame⟩ := X7.leave (v := none) (fun _ => rfl)
  refine ⟨_, _, ?_, hrun, hended, _, _, rfl, ?_, ⟨_, rfl⟩, hW, hsame.mono (by decide) (by decide)⟩
  · show Steps p.tables e below (s₁.setTop (mkF m 0 #[va o0, vi 3, vi p6] [])) _
    refine st1 _ ?_
    refine XS.ifYes X1.here hx rfl (pc0 := 3) (pc' := 28) rfl (hb hby d16_3) rfl ((if0 _ _).trans (feq (by decide : ¬ ((1 : Int32) = (0 : Int32)))).2) (by decide) (by decide) ?_
    refine XS.iloadN X1.here hx rfl (hb hby d16_28) rfl ?_
    refine XS.iconst X1.here hx rfl (hb hby d16_29) ?_
    refine XS.ishl X1.here hx rfl (hb hby d16_30) rfl ?_
    show Steps p.tables e below (T1.setTop (mkF m 31 #[va o0, vi 3, vi p6] [(.int ((3 : Int32) <<< ((1 : Int32) &&& 31)))])) _
    rw [show (((3 : Int32) <<< ((1 : Int32) &&& 31)) : Int32) = (6 : Int32) from by decide]
    refine XS.istoreN X1.here hx rfl (hb hby d16_31) rfl (l' := #[va o0, vi 6, vi p6]) rfl ?_
    refine XS.aloadN X1.here hx rfl (hb hby d16_32) rfl rfl ?_
    refine XS.iloadN X1.here hx rfl (hb hby d16_33) rfl ?_
    refine XS.iinc X1.here hx rfl (hb hby d16_34) rfl (l' := #[va o0, vi ((6 : Int32) + (1 : Int32)), vi p6]) rfl ?_
    show Steps p.tables e below (T1.setTop (mkF m 37 #[va o0, vi ((6 : Int32) + (1 : Int32)), vi p6] [(.int 6), (.ref o0)])) _
    rw [show (((6 : Int32) + (1 : Int32)) : Int32) = (7 : Int32) from by decide]
    refine XS.iloadN X1.here hx rfl (hb hby d16_37) rfl ?_
    refine st2 _ ?_
    refine XS.ishr X2.here hx rfl (hb hby d16_41) rfl ?_
    refine XS.i2b X2.here hx rfl (hb hby d16_42) rfl ?_
    refine st4 _ ?_
    refine XS.aloadN X4.here hx rfl (hb hby d16_44) rfl rfl ?_
    refine XS.iloadN X4.here hx rfl (hb hby d16_45) rfl ?_
    show Steps p.tables e below (T4.setTop (mkF m 46 #[va o0, vi 7, vi p6] [(.int 7), (.ref o0)])) _
    refine XS.iloadN X4.here hx rfl (hb hby d16_46) rfl ?_
    refine st5 _ ?_
    refine XS.ishr X5.here hx rfl (hb hby d16_50) rfl ?_
    refine XS.i2b X5.here hx rfl (hb hby d16_51) rfl ?_
    refine st7 _ ?_
    exact X7.returnOut hx hrt (hb hby d16_53) hr
  · show Q16_3 Z z_COMPACT_STRINGS o0 kk_o0 p6 p0 p1 p2 p3 p4 p5 h0 n0 none T7.heap _
    rw [e7]; exact ⟨rfl, N7, K7, V7⟩
theorem d13_32 : decode jdk_52_method_14_code 32 = .ok (.aload_n 3, 1) := by decide +kernel
theorem d13_33 : decode jdk_52_method_14_code 33 = .ok (.areturn, 1) := by decide +kernel
def Q13_0 (Z : State) (z_COMPACT_STRINGS : Int32) (o0 : Addr) (kk_o0 : ClassId) (p0 : Int32) (p1 : Int32) (p2 : Int32) (p3 : Int32) (h0 : Heap) (n0 : Nat) (v : Option Value) (h : Heap) (L : List Loc) : Prop := ∃ (b2_1 : Addr), ∃ (k2_1 : ClassId), v = (some (.ref b2_1)) ∧ Fr n0 L ∧ Keep h0 h [] ∧ Arv Z h b2_1 k2_1 .byte (8 : Int32) [(.int (bb (bb (p0 >>> ((0 : Int32) &&& 31))))), (.int (bb (bb (p0 >>> ((8 : Int32) &&& 31))))), (.int (bb (bb (p1 >>> ((0 : Int32) &&& 31))))), (.int (bb (bb (p1 >>> ((8 : Int32) &&& 31))))), (.int (bb (bb (p2 >>> ((0 : Int32) &&& 31))))), (.int (bb (bb (p2 >>> ((8 : Int32) &&& 31))))), (.int (bb (bb (p3 >>> ((0 : Int32) &&& 31))))), (.int (bb (bb (p3 >>> ((8 : Int32) &&& 31)))))] (.int 0) ∧ h0.size ≤ b2_1
theorem rm13_0 (l : Launch) (Z : State) (a0 : Array Value) (hw : HW Z a0) (ws : List Jvm.Cond) (z_COMPACT_STRINGS : Int32) (o0 : Addr) (kk_o0 : ClassId) (p0 : Int32) (p1 : Int32) (p2 : Int32) (p3 : Int32) (h0 : Heap) (n0 : Nat) (O0 : Old Z n0 h0) (S : SF Z z_COMPACT_STRINGS) (V_o0 : Arv Z h0 o0 kk_o0 .char (4 : Int32) [(.int p0), (.int p1), (.int p2), (.int p3)] (.int 0)) :
    Pay l Z My13 ws jdk_52_method_14_code 5 (some (.array .byte)) #[(.ref o0), (.int 0), (.int 4)] h0 ({ frames := 2, cells := 1, slots := 8, locals := 24 } : Room) (Q13_0 Z z_COMPACT_STRINGS o0 kk_o0 p0 p1 p2 p3 h0 n0) := by
  refine own_body (plainFor_of_name pn_2) (L0 := #[va o0, vi 0, vi 4, uu, uu]) (fun _ => by first | rfl | (simp [entryFrame, mkF, argsToLocals, Value.category]; done)) ?_
  intro p e s m below meth c s₁ hrt hlk hx hby hml hZ hown0 hnm X0 e0
  have hown : s.vm.findClass sC1 = some m.cls := hown0
  have N0 := Fr.nil n0
  have K0 : Keep h0 h0 [] := Keep.refl _ _
  obtain ⟨_, _, ⟨T1, L1, k1, n1⟩, -, X1, ⟨Lc1, hQ1, l1, y1, z1⟩, st1⟩ := Jvm.LawKit.callS X0 hx (y := My14) hown (mvT hZ (ww hw 64 rfl)) (mvT hZ (ww hw 65 rfl)) (mvT hZ (ww hw 22 rfl)) (mvT hZ (ww hw 66 rfl)) (by decide) (backOf (W := 0) (rm14_0 l Z a0 hw [] z_COMPACT_STRINGS h0 n0 O0 S) hZ (ww hw 66 rfl) (ww hw 22 rfl) (by decide) (by decide)) (g := (mkF m 1 #[va o0, vi 0, vi 4, uu, uu] [(.int 4)])) rfl (by rw [hml]; rfl) (argsL := [(.int 4)]) (rest := []) (lenOf pd_2 rfl) rfl (by show 2 * 0 + _ ≤ _; exact Nat.le_of_eq rfl) (hb hby d13_1) (fun _ _ => ⟨rfl, e0, (by decide : 0 + 1 ≤ _), (by decide : 0 + 8 ≤ _)⟩)
  dsimp only [Pt.U, Pt.locs, Pt.cells, Pt.slots] at X1 l1 y1 z1 st1 hQ1
  subst l1 y1 z1
  obtain ⟨b2_1, k2_1, rfl, Nq1, Kc1, P0_1, P1_1⟩ := hQ1
  have N1 := Fr.app N0 Nq1
  have ne_o0_b2_1 : o0 ≠ b2_1 := Nat.ne_of_lt (Nat.lt_of_lt_of_le V_o0.lt P1_1)
  have g_b2_1 : n0 ≤ b2_1 := Nat.le_trans (own_old O0) P1_1
  have sz_b2_1 : h0.size ≤ b2_1 := Nat.le_trans K0.1 P1_1
  have O1 := O0.keep Kc1 all0
  have K1 : Keep h0 T1.heap [] := K0.trans Kc1 all0
  have fc2 := (V_o0.keep Kc1 nin0)
  obtain ⟨cl3, Ar3, qk3, Sz3, Ng3, Hh3, Gg3⟩ := id fc2
  have hin3_0 : ¬ ((0 : Int32) < 0 ∨ cl3.slots.size ≤ ((0 : Int32)).toNatClampNeg) := inb_of Sz3 ⟨by decide, by decide⟩
  obtain ⟨_, _, ⟨T4, L4, k4, n4⟩, -, X4, ⟨Lc4, hQ4, l4, y4, z4⟩, st4⟩ := Jvm.LawKit.callS X1 hx (y := My16) hown (mvT hZ (ww hw 71 rfl)) (mvT hZ (ww hw 72 rfl)) (mvT hZ (ww hw 22 rfl)) (mvT hZ (ww hw 73 rfl)) (by decide) (backOf (W := 0) (rm16_0 l Z a0 hw [] z_COMPACT_STRINGS b2_1 k2_1 p0 T1.heap n0 O1 S P0_1 g_b2_1) hZ (ww hw 73 rfl) (ww hw 22 rfl) (by decide) (by decide)) (g := (mkF m 20 #[va o0, vi 0, vi 4, va b2_1, vi 0] [(.int p0), (.int 0), (.ref b2_1)])) rfl (by rw [hml]; rfl) (argsL := [(.ref b2_1), (.int 0), (.int p0)]) (rest := []) (lenOf pd_3 rfl) rfl (by show 2 * 0 + _ ≤ _; exact Nat.le_of_eq rfl) (hb hby d13_20) (fun _ _ => ⟨rfl, rfl, (by decide : 1 + 0 ≤ _), (by decide : 8 + 0 ≤ _)⟩)
  dsimp only [Pt.U, Pt.locs, Pt.cells, Pt.slots] at X4 l4 y4 z4 st4 hQ4
  subst l4 y4 z4
  obtain ⟨rfl, Nq4, Kc4, P0_4⟩ := hQ4
  have N4 := Fr.app N1 Nq4
  have O4 := O1.keep Kc4 (allS g_b2_1 all0)
  have K4 : Keep h0 T4.heap [] := K1.trans Kc4 (allS (Or.inr sz_b2_1) all0)
  have fc5 := (fc2.keep Kc4 (ninS ne_o0_b2_1 nin0))
  obtain ⟨cl6, Ar6, qk6, Sz6, Ng6, Hh6, Gg6⟩ := id fc5
  have hin6_1 : ¬ ((1 : Int32) < 0 ∨ cl6.slots.size ≤ ((1 : Int32)).toNatClampNeg) := inb_of Sz6 ⟨by decide, by decide⟩
  obtain ⟨_, _, ⟨T7, L7, k7, n7⟩, -, X7, ⟨Lc7, hQ7, l7, y7, z7⟩, st7⟩ := Jvm.LawKit.callS X4 hx (y := My16) hown (mvT hZ (ww hw 71 rfl)) (mvT hZ (ww hw 72 rfl)) (mvT hZ (ww hw 22 rfl)) (mvT hZ (ww hw 73 rfl)) (by decide) (backOf (W := 0) (rm16_1 l Z a0 hw [] z_COMPACT_STRINGS b2_1 k2_1 p1 (bb (bb (p0 >>> ((0 : Int32) &&& 31)))) (bb (bb (p0 >>> ((8 : Int32) &&& 31)))) T4.heap n0 O4 S P0_4 g_b2_1) hZ (ww hw 73 rfl) (ww hw 22 rfl) (by decide) (by decide)) (g := (mkF m 20 #[va o0, vi 1, vi 4, va b2_1, vi 1] [(.int p1), (.int 1), (.ref b2_1)])) rfl (by rw [hml]; rfl) (argsL := [(.ref b2_1), (.int 1), (.int p1)]) (rest := []) (lenOf pd_3 rfl) rfl (by show 2 * 0 + _ ≤ _; exact Nat.le_of_eq rfl) (hb hby d13_20) (fun _ _ => ⟨rfl, rfl, (by decide : 1 + 0 ≤ _), (by decide : 8 + 0 ≤ _)⟩)
  dsimp only [Pt.U, Pt.locs, Pt.cells, Pt.slots] at X7 l7 y7 z7 st7 hQ7
  subst l7 y7 z7
  obtain ⟨rfl, Nq7, Kc7, P0_7⟩ := hQ7
  have N7 := Fr.app N4 Nq7
  have O7 := O4.keep Kc7 (allS g_b2_1 all0)
  have K7 : Keep h0 T7.heap [] := K4.trans Kc7 (allS (Or.inr sz_b2_1) all0)
  have fc8 := (fc5.keep Kc7 (ninS ne_o0_b2_1 nin0))
  obtain ⟨cl9, Ar9, qk9, Sz9, Ng9, Hh9, Gg9⟩ := id fc8
  have hin9_2 : ¬ ((2 : Int32) < 0 ∨ cl9.slots.size ≤ ((2 : Int32)).toNatClampNeg) := inb_of Sz9 ⟨by decide, by decide⟩
  obtain ⟨_, _, ⟨T10, L10, k10, n10⟩, -, X10, ⟨Lc10, hQ10, l10, y10, z10⟩, st10⟩ := Jvm.LawKit.callS X7 hx (y := My16) hown (mvT hZ (ww hw 71 rfl)) (mvT hZ (ww hw 72 rfl)) (mvT hZ (ww hw 22 rfl)) (mvT hZ (ww hw 73 rfl)) (by decide) (backOf (W := 0) (rm16_2 l Z a0 hw [] z_COMPACT_STRINGS b2_1 k2_1 p2 (bb (bb (p0 >>> ((0 : Int32) &&& 31)))) (bb (bb (p0 >>> ((8 : Int32) &&& 31)))) (bb (bb (p1 >>> ((0 : Int32) &&& 31)))) (bb (bb (p1 >>> ((8 : Int32) &&& 31)))) T7.heap n0 O7 S P0_7 g_b2_1) hZ (ww hw 73 rfl) (ww hw 22 rfl) (by decide) (by decide)) (g := (mkF m 20 #[va o0, vi 2, vi 4, va b2_1, vi 2] [(.int p2), (.int 2), (.ref b2_1)])) rfl (by rw [hml]; rfl) (argsL := [(.ref b2_1), (.int 2), (.int p2)]) (rest := []) (lenOf pd_3 rfl) rfl (by show 2 * 0 + _ ≤ _; exact Nat.le_of_eq rfl) (hb hby d13_20) (fun _ _ => ⟨rfl, rfl, (by decide : 1 + 0 ≤ _), (by decide : 8 + 0 ≤ _)⟩)
  dsimp only [Pt.U, Pt.locs, Pt.cells, Pt.slots] at X10 l10 y10 z10 st10 hQ10
  subst l10 y10 z10
  obtain ⟨rfl, Nq10, Kc10, P0_10⟩ := hQ10
  have N10 := Fr.app N7 Nq10
  have O10 := O7.keep Kc10 (allS g_b2_1 all0)
  have K10 : Keep h0 T10.heap [] := K7.trans Kc10 (allS (Or.inr sz_b2_1) all0)
  have fc11 := (fc8.keep Kc10 (ninS ne_o0_b2_1 nin0))
  obtain ⟨cl12, Ar12, qk12, Sz12, Ng12, Hh12, Gg12⟩ := id fc11
  have hin12_3 : ¬ ((3 : Int32) < 0 ∨ cl12.slots.size ≤ ((3 : Int32)).toNatClampNeg) := inb_of Sz12 ⟨by decide, by decide⟩
  obtain ⟨_, _, ⟨T13, L13, k13, n13⟩, -, X13, ⟨Lc13, hQ13, l13, y13, z13⟩, st13⟩ := Jvm.LawKit.callS X10 hx (y := My16) hown (mvT hZ (ww hw 71 rfl)) (mvT hZ (ww hw 72 rfl)) (mvT hZ (ww hw 22 rfl)) (mvT hZ (ww hw 73 rfl)) (by decide) (backOf (W := 0) (rm16_3 l Z a0 hw [] z_COMPACT_STRINGS b2_1 k2_1 p3 (bb (bb (p0 >>> ((0 : Int32) &&& 31)))) (bb (bb (p0 >>> ((8 : Int32) &&& 31)))) (bb (bb (p1 >>> ((0 : Int32) &&& 31)))) (bb (bb (p1 >>> ((8 : Int32) &&& 31)))) (bb (bb (p2 >>> ((0 : Int32) &&& 31)))) (bb (bb (p2 >>> ((8 : Int32) &&& 31)))) T10.heap n0 O10 S P0_10 g_b2_1) hZ (ww hw 73 rfl) (ww hw 22 rfl) (by decide) (by decide)) (g := (mkF m 20 #[va o0, vi 3, vi 4, va b2_1, vi 3] [(.int p3), (.int 3), (.ref b2_1)])) rfl (by rw [hml]; rfl) (argsL := [(.ref b2_1), (.int 3), (.int p3)]) (rest := []) (lenOf pd_3 rfl) rfl (by show 2 * 0 + _ ≤ _; exact Nat.le_of_eq rfl) (hb hby d13_20) (fun _ _ => ⟨rfl, rfl, (by decide : 1 + 0 ≤ _), (by decide : 8 + 0 ≤ _)⟩)
  dsimp only [Pt.U, Pt.locs, Pt.cells, Pt.slots] at X13 l13 y13 z13 st13 hQ13
  subst l13 y13 z13
  obtain ⟨rfl, Nq13, Kc13, P0_13⟩ := hQ13
  have N13 := Fr.app N10 Nq13
  have O13 := O10.keep Kc13 (allS g_b2_1 all0)
  have K13 : Keep h0 T13.heap [] := K10.trans Kc13 (allS (Or.inr sz_b2_1) all0)
  obtain ⟨fs, hr, hrun, hended, hW, hsame⟩ := X13.leave (v := (some (.ref b2_1))) (fun h => by rw [hrt] at h; cases h)
  refine ⟨_, _, ?_, hrun, hended, _, _, rfl, ?_, ⟨_, rfl⟩, hW, hsame.mono (by decide) (by decide)⟩
  · show Steps p.tables e below (s₁.setTop (mkF m 0 #[va o0, vi 0, vi 4, uu, uu] [])) _
    refine XS.iloadN X0.here hx rfl (hb hby d13_0) rfl ?_
    refine st1 _ ?_
    refine XS.astoreN X1.here hx rfl (hb hby d13_4) rfl rfl (l' := #[va o0, vi 0, vi 4, va b2_1, uu]) rfl ?_
    refine XS.iconst X1.here hx rfl (hb hby d13_5) ?_
    refine XS.istore X1.here hx rfl (hb hby d13_6) rfl (l' := #[va o0, vi 0, vi 4, va b2_1, vi 0]) rfl ?_
    refine XS.iload X1.here hx rfl (hb hby d13_8) rfl ?_
    refine XS.iloadN X1.here hx rfl (hb hby d13_10) rfl ?_
    refine XS.icmpNo X1.here hx rfl (hb hby d13_11) rfl (tlt (by decide : (0 : Int32) < (4 : Int32))).2.1 ?_
    show Steps p.tables e below (T1.setTop (mkF m 14 #[va o0, vi 0, vi 4, va b2_1, vi 0] [])) _
    refine XS.aloadN X1.here hx rfl (hb hby d13_14) rfl rfl ?_
    refine XS.iload X1.here hx rfl (hb hby d13_15) rfl ?_
    refine XS.aloadN X1.here hx rfl (hb hby d13_17) rfl rfl ?_
    refine XS.iloadN X1.here hx rfl (hb hby d13_18) rfl ?_
    refine X1.caload hx (j := (0 : Int32)) (v := (.int p0)) Ar3.1 (State.isArrayOf_alike hZ.alike Ar3.2.1) Ar3.2.2 hin3_0 (Has.at Hh3 hin3_0 rfl) (g := (mkF m 19 #[va o0, vi 0, vi 4, va b2_1, vi 0] [(.int 0), (.ref o0), (.int 0), (.ref b2_1)])) rfl rfl (hb hby d13_19) _ ?_
    refine st4 _ ?_
    refine XS.iinc X4.here hx rfl (hb hby d13_23) rfl (l' := #[va o0, vi ((0 : Int32) + (1 : Int32)), vi 4, va b2_1, vi 0]) rfl ?_
    show Steps p.tables e below (T4.setTop (mkF m 26 #[va o0, vi ((0 : Int32) + (1 : Int32)), vi 4, va b2_1, vi 0] [])) _
    rw [show (((0 : Int32) + (1 : Int32)) : Int32) = (1 : Int32) from by decide]
    refine XS.iinc X4.here hx rfl (hb hby d13_26) rfl (l' := #[va o0, vi 1, vi 4, va b2_1, vi ((0 : Int32) + (1 : Int32))]) rfl ?_
    show Steps p.tables e below (T4.setTop (mkF m 29 #[va o0, vi 1, vi 4, va b2_1, vi ((0 : Int32) + (1 : Int32))] [])) _
    rw [show (((0 : Int32) + (1 : Int32)) : Int32) = (1 : Int32) from by decide]
    refine XS.goto X4.here hx rfl (pc0 := 29) (pc' := 8) rfl (hb hby d13_29) (by decide) (by decide) ?_
    refine XS.iload X4.here hx rfl (hb hby d13_8) rfl ?_
    refine XS.iloadN X4.here hx rfl (hb hby d13_10) rfl ?_
    refine XS.icmpNo X4.here hx rfl (hb hby d13_11) rfl (tlt (by decide : (1 : Int32) < (4 : Int32))).2.1 ?_
    refine XS.aloadN X4.here hx rfl (hb hby d13_14) rfl rfl ?_
    refine XS.iload X4.here hx rfl (hb hby d13_15) rfl ?_
    refine XS.aloadN X4.here hx rfl (hb hby d13_17) rfl rfl ?_
    show Steps p.tables e below (T4.setTop (mkF m 18 #[va o0, vi 1, vi 4, va b2_1, vi 1] [(.ref o0), (.int 1), (.ref b2_1)])) _
    refine XS.iloadN X4.here hx rfl (hb hby d13_18) rfl ?_
    refine X4.caload hx (j := (1 : Int32)) (v := (.int p1)) Ar6.1 (State.isArrayOf_alike hZ.alike Ar6.2.1) Ar6.2.2 hin6_1 (Has.at Hh6 hin6_1 rfl) (g := (mkF m 19 #[va o0, vi 1, vi 4, va b2_1, vi 1] [(.int 1), (.ref o0), (.int 1), (.ref b2_1)])) rfl rfl (hb hby d13_19) _ ?_
    refine st7 _ ?_
    refine XS.iinc X7.here hx rfl (hb hby d13_23) rfl (l' := #[va o0, vi ((1 : Int32) + (1 : Int32)), vi 4, va b2_1, vi 1]) rfl ?_
    show Steps p.tables e below (T7.setTop (mkF m 26 #[va o0, vi ((1 : Int32) + (1 : Int32)), vi 4, va b2_1, vi 1] [])) _
    rw [show (((1 : Int32) + (1 : Int32)) : Int32) = (2 : Int32) from by decide]
    refine XS.iinc X7.here hx rfl (hb hby d13_26) rfl (l' := #[va o0, vi 2, vi 4, va b2_1, vi ((1 : Int32) + (1 : Int32))]) rfl ?_
    show Steps p.tables e below (T7.setTop (mkF m 29 #[va o0, vi 2, vi 4, va b2_1, vi ((1 : Int32) + (1 : Int32))] [])) _
    rw [show (((1 : Int32) + (1 : Int32)) : Int32) = (2 : Int32) from by decide]
    refine XS.goto X7.here hx rfl (pc0 := 29) (pc' := 8) rfl (hb hby d13_29) (by decide) (by decide) ?_
    refine XS.iload X7.here hx rfl (hb hby d13_8) rfl ?_
    refine XS.iloadN X7.here hx rfl (hb hby d13_10) rfl ?_
    refine XS.icmpNo X7.here hx rfl (hb hby d13_11) rfl (tlt (by decide : (2 : Int32) < (4 : Int32))).2.1 ?_
    refine XS.aloadN X7.here hx rfl (hb hby d13_14) rfl rfl ?_
    refine XS.iload X7.here hx rfl (hb hby d13_15) rfl ?_
    refine XS.aloadN X7.here hx rfl (hb hby d13_17) rfl rfl ?_
    show Steps p.tables e below (T7.setTop (mkF m 18 #[va o0, vi 2, vi 4, va b2_1, vi 2] [(.ref o0), (.int 2), (.ref b2_1)])) _
    refine XS.iloadN X7.here hx rfl (hb hby d13_18) rfl ?_
    refine X7.caload hx (j := (2 : Int32)) (v := (.int p2)) Ar9.1 (State.isArrayOf_alike hZ.alike Ar9.2.1) Ar9.2.2 hin9_2 (Has.at Hh9 hin9_2 rfl) (g := (mkF m 19 #[va o0, vi 2, vi 4, va b2_1, vi 2] [(.int 2), (.ref o0), (.int 2), (.ref b2_1)])) rfl rfl (hb hby d13_19) _ ?_
    refine st10 _ ?_
    refine XS.iinc X10.here hx rfl (hb hby d13_23) rfl (l' := #[va o0, vi ((2 : Int32) + (1 : Int32)), vi 4, va b2_1, vi 2]) rfl ?_
    show Steps p.tables e below (T10.setTop (mkF m 26 #[va o0, vi ((2 : Int32) + (1 : Int32)), vi 4, va b2_1, vi 2] [])) _
    rw [show (((2 : Int32) + (1 : Int32)) : Int32) = (3 : Int32) from by decide]
    refine XS.iinc X10.here hx rfl (hb hby d13_26) rfl (l' := #[va o0, vi 3, vi 4, va b2_1, vi ((2 : Int32) + (1 : Int32))]) rfl ?_
    show Steps p.tables e below (T10.setTop (mkF m 29 #[va o0, vi 3, vi 4, va b2_1, vi ((2 : Int32) + (1 : Int32))] [])) _
    rw [show (((2 : Int32) + (1 : Int32)) : Int32) = (3 : Int32) from by decide]
    refine XS.goto X10.here hx rfl (pc0 := 29) (pc' := 8) rfl (hb hby d13_29) (by decide) (by decide) ?_
    refine XS.iload X10.here hx rfl (hb hby d13_8) rfl ?_
    refine XS.iloadN X10.here hx rfl (hb hby d13_10) rfl ?_
    refine XS.icmpNo X10.here hx rfl (hb hby d13_11) rfl (tlt (by decide : (3 : Int32) < (4 : Int32))).2.1 ?_
    refine XS.aloadN X10.here hx rfl (hb hby d13_14) rfl rfl ?_
    refine XS.iload X10.here hx rfl (hb hby d13_15) rfl ?_
    refine XS.aloadN X10.here hx rfl (hb hby d13_17) rfl rfl ?_
    show Steps p.tables e below (T10.setTop (mkF m 18 #[va o0, vi 3, vi 4, va b2_1, vi 3] [(.ref o0), (.int 3), (.ref b2_1)])) _
    refine XS.iloadN X10.here hx rfl (hb hby d13_18) rfl ?_
    refine X10.caload hx (j := (3 : Int32)) (v := (.int p3)) Ar12.1 (State.isArrayOf_alike hZ.alike Ar12.2.1) Ar12.2.2 hin12_3 (Has.at Hh12 hin12_3 rfl) (g := (mkF m 19 #[va o0, vi 3, vi 4, va b2_1, vi 3] [(.int 3), (.ref o0), (.int 3), (.ref b2_1)])) rfl rfl (hb hby d13_19) _ ?_
    refine st13 _ ?_
    refine XS.iinc X13.here hx rfl (hb hby d13_23) rfl (l' := #[va o0, vi ((3 : Int32) + (1 : Int32)), vi 4, va b2_1, vi 3]) rfl ?_
    show Steps p.tables e below (T13.setTop (mkF m 26 #[va o0, vi ((3 : Int32) + (1 : Int32)), vi 4, va b2_1, vi 3] [])) _
    rw [show (((3 : Int32) + (1 : Int32)) : Int32) = (4 : Int32) from by decide]
    refine XS.iinc X13.here hx rfl (hb hby d13_26) rfl (l' := #[va o0, vi 4, vi 4, va b2_1, vi ((3 : Int32) + (1 : Int32))]) rfl ?_
    show Steps p.tables e below (T13.setTop (mkF m 29 #[va o0, vi 4, vi 4, va b2_1, vi ((3 : Int32) + (1 : Int32))] [])) _
    rw [show (((3 : Int32) + (1 : Int32)) : Int32) = (4 : Int32) from by decide]
    refine XS.goto X13.here hx rfl (pc0 := 29) (pc' := 8) rfl (hb hby d13_29) (by decide) (by decide) ?_
    refine XS.iload X13.here hx rfl (hb hby d13_8) rfl ?_
    refine XS.iloadN X13.here hx rfl (hb hby d13_10) rfl ?_
    refine XS.icmpYes X13.here hx rfl (pc0 := 11) (pc' := 32) rfl (hb hby d13_11) rfl (flt (by decide : ¬ ((4 : Int32) < (4 : Int32)))).2.1 (by decide) (by decide) ?_
    refine XS.aloadN X13.here hx rfl (hb hby d13_32) rfl rfl ?_
    exact retOut X13 hx (t := (.array .byte)) (i := .areturn) hrt rfl (Or.inr (Or.inr (Or.inr (Or.inr ⟨rfl, rfl, rfl⟩)))) (hb hby d13_33) hr
  · show Q13_0 Z z_COMPACT_STRINGS o0 kk_o0 p0 p1 p2 p3 h0 n0 (some (.ref b2_1)) T13.heap _
    exact (⟨b2_1, k2_1, rfl, N13, K13, P0_13, sz_b2_1⟩)
theorem pd_4 : parseMethodDescriptor "([CII)[B" = some ⟨[(.array .char), .int, .int], some (.array .byte)⟩ := by decide +kernel
theorem d5_26 : decode jdk_52_method_16_code 26 = .ok (.astore 5, 2) := by decide +kernel
theorem d5_28 : decode jdk_52_method_16_code 28 = .ok (.aload 5, 2) := by decide +kernel
theorem d5_30 : decode jdk_52_method_16_code 30 = .ok (.iload 4, 2) := by decide +kernel
theorem d5_32 : decode jdk_52_method_16_code 32 = .ok (.invokestatic 71, 3) := by decide +kernel
theorem d17_0 : decode jdk_52_method_5_code 0 = .ok (.getstatic 44, 3) := by decide +kernel
theorem d17_3 : decode jdk_52_method_5_code 3 = .ok (.ifCond .ne 25, 3) := by decide +kernel
theorem d17_28 : decode jdk_52_method_5_code 28 = .ok (.iload_n 1, 1) := by decide +kernel
theorem d17_29 : decode jdk_52_method_5_code 29 = .ok (.iconst 1, 1) := by decide +kernel
theorem d17_30 : decode jdk_52_method_5_code 30 = .ok (.ishl, 1) := by decide +kernel
theorem d17_31 : decode jdk_52_method_5_code 31 = .ok (.istore_n 1, 1) := by decide +kernel
theorem d17_32 : decode jdk_52_method_5_code 32 = .ok (.aload_n 0, 1) := by decide +kernel
theorem d17_33 : decode jdk_52_method_5_code 33 = .ok (.iload_n 1, 1) := by decide +kernel
theorem d17_34 : decode jdk_52_method_5_code 34 = .ok (.iinc 1 1, 3) := by decide +kernel
theorem d17_37 : decode jdk_52_method_5_code 37 = .ok (.baload, 1) := by decide +kernel
theorem d17_38 : decode jdk_52_method_5_code 38 = .ok (.sipush 255, 3) := by decide +kernel
theorem d17_41 : decode jdk_52_method_5_code 41 = .ok (.iand, 1) := by decide +kernel
theorem d17_42 : decode jdk_52_method_5_code 42 = .ok (.getstatic 59, 3) := by decide +kernel
theorem d17_45 : decode jdk_52_method_5_code 45 = .ok (.ishl, 1) := by decide +kernel
theorem d17_46 : decode jdk_52_method_5_code 46 = .ok (.aload_n 0, 1) := by decide +kernel
theorem d17_47 : decode jdk_52_method_5_code 47 = .ok (.iload_n 1, 1) := by decide +kernel
theorem d17_48 : decode jdk_52_method_5_code 48 = .ok (.baload, 1) := by decide +kernel
theorem d17_49 : decode jdk_52_method_5_code 49 = .ok (.sipush 255, 3) := by decide +kernel
theorem d17_52 : decode jdk_52_method_5_code 52 = .ok (.iand, 1) := by decide +kernel
theorem d17_53 : decode jdk_52_method_5_code 53 = .ok (.getstatic 63, 3) := by decide +kernel
theorem d17_56 : decode jdk_52_method_5_code 56 = .ok (.ishl, 1) := by decide +kernel
theorem d17_57 : decode jdk_52_method_5_code 57 = .ok (.ior, 1) := by decide +kernel
theorem d17_58 : decode jdk_52_method_5_code 58 = .ok (.i2c, 1) := by decide +kernel
theorem d17_59 : decode jdk_52_method_5_code 59 = .ok (.ireturn, 1) := by decide +kernel
def Q17_0 (Z : State) (z_COMPACT_STRINGS : Int32) (o0 : Addr) (kk_o0 : ClassId) (p0 : Int32) (p1 : Int32) (p2 : Int32) (p3 : Int32) (p4 : Int32) (p5 : Int32) (p6 : Int32) (p7 : Int32) (h0 : Heap) (n0 : Nat) (v : Option Value) (h : Heap) (L : List Loc) : Prop := v = (some (.int (cc (cc (((p6 &&& (255 : Int32)) <<< ((0 : Int32) &&& 31)) ||| ((p7 &&& (255 : Int32)) <<< ((8 : Int32) &&& 31))))))) ∧ Fr n0 L ∧ h = h0
theorem rm17_0 (l : Launch) (Z : State) (a0 : Array Value) (hw : HW Z a0) (ws : List Jvm.Cond) (z_COMPACT_STRINGS : Int32) (o0 : Addr) (kk_o0 : ClassId) (p0 : Int32) (p1 : Int32) (p2 : Int32) (p3 : Int32) (p4 : Int32) (p5 : Int32) (p6 : Int32) (p7 : Int32) (h0 : Heap) (n0 : Nat) (O0 : Old Z n0 h0) (S : SF Z z_COMPACT_STRINGS) (V_o0 : Arv Z h0 o0 kk_o0 .byte (8 : Int32) [(.int p0), (.int p1), (.int p2), (.int p3), (.int p4), (.int p5), (.int p6), (.int p7)] (.int 0)) :
    Pay l Z My17 ws jdk_52_method_5_code 2 (some .char) #[(.ref o0), (.int 3)] h0 ({ frames := 0, cells := 0, slots := 0, locals := 0 } : Room) (Q17_0 Z z_COMPACT_STRINGS o0 kk_o0 p0 p1 p2 p3 p4 p5 p6 p7 h0 n0) := by
  obtain ⟨-, -, S_StringUTF16__assertionsDisabled, S_StringUTF16_HI_BYTE_SHIFT, S_StringUTF16_LO_BYTE_SHIFT, -⟩ := id S
  refine own_body (plainFor_of_name pn_2) (L0 := #[va o0, vi 3]) (fun _ => by first | rfl | (simp [entryFrame, mkF, argsToLocals, Value.category]; done)) ?_
  intro p e s m below meth c s₁ hrt hlk hx hby hml hZ hown0 hnm X0 e0
  have hown : s.vm.findClass sC1 = some m.cls := hown0
  have N0 := Fr.nil n0
  have K0 : Keep h0 h0 [] := Keep.refl _ _
  obtain ⟨T1, X1, e1, st1⟩ := getS2 X0 hx hZ hown (host := "") (Or.inl (ww hw 74 rfl)) Via.refl e0 (S_StringUTF16__assertionsDisabled.ext O0.2) (g := (mkF m 0 #[va o0, vi 3] [])) rfl (hb hby d17_0)
  obtain ⟨cl2, Ar2, qk2, Sz2, Ng2, Hh2, Gg2⟩ := id V_o0
  have hin2_6 : ¬ ((6 : Int32) < 0 ∨ cl2.slots.size ≤ ((6 : Int32)).toNatClampNeg) := inb_of Sz2 ⟨by decide, by decide⟩
  obtain ⟨T3, X3, e3, st3⟩ := getS2 X1 hx hZ hown (host := "") (Or.inl (ww hw 75 rfl)) Via.refl e1 (S_StringUTF16_HI_BYTE_SHIFT.ext O0.2) (g := (mkF m 42 #[va o0, vi 7] [(.int (p6 &&& (255 : Int32)))])) rfl (hb hby d17_42)
  have hin2_7 : ¬ ((7 : Int32) < 0 ∨ cl2.slots.size ≤ ((7 : Int32)).toNatClampNeg) := inb_of Sz2 ⟨by decide, by decide⟩
  obtain ⟨T4, X4, e4, st4⟩ := getS2 X3 hx hZ hown (host := "") (Or.inl (ww hw 76 rfl)) Via.refl e3 (S_StringUTF16_LO_BYTE_SHIFT.ext O0.2) (g := (mkF m 53 #[va o0, vi 7] [(.int (p7 &&& (255 : Int32))), (.int ((p6 &&& (255 : Int32)) <<< ((0 : Int32) &&& 31)))])) rfl (hb hby d17_53)
  obtain ⟨fs, hr, hrun, hended, hW, hsame⟩ := X4.leave (v := (some (.int (cc (cc (((p6 &&& (255 : Int32)) <<< ((0 : Int32) &&& 31)) ||| ((p7 &&& (255 : Int32)) <<< ((8 : Int32) &&& 31)))))))) (fun h => by rw [hrt] at h; cases h)
  refine ⟨_, _, ?_, hrun, hended, _, _, rfl, ?_, ⟨_, rfl⟩, hW, hsame.mono (by decide) (by decide)⟩
  · show Steps p.tables e below (s₁.setTop (mkF m 0 #[va o0, vi 3] [])) _
    refine st1 _ ?_
    refine XS.ifYes X1.here hx rfl (pc0 := 3) (pc' := 28) rfl (hb hby d17_3) rfl ((if0 _ _).trans (feq (by decide : ¬ ((1 : Int32) = (0 : Int32)))).2) (by decide) (by decide) ?_
    refine XS.iloadN X1.here hx rfl (hb hby d17_28) rfl ?_
    refine XS.iconst X1.here hx rfl (hb hby d17_29) ?_
    refine XS.ishl X1.here hx rfl (hb hby d17_30) rfl ?_
    show Steps p.tables e below (T1.setTop (mkF m 31 #[va o0, vi 3] [(.int ((3 : Int32) <<< ((1 : Int32) &&& 31)))])) _
    rw [show (((3 : Int32) <<< ((1 : Int32) &&& 31)) : Int32) = (6 : Int32) from by decide]
    refine XS.istoreN X1.here hx rfl (hb hby d17_31) rfl (l' := #[va o0, vi 6]) rfl ?_
    refine XS.aloadN X1.here hx rfl (hb hby d17_32) rfl rfl ?_
    refine XS.iloadN X1.here hx rfl (hb hby d17_33) rfl ?_
    refine XS.iinc X1.here hx rfl (hb hby d17_34) rfl (l' := #[va o0, vi ((6 : Int32) + (1 : Int32))]) rfl ?_
    show Steps p.tables e below (T1.setTop (mkF m 37 #[va o0, vi ((6 : Int32) + (1 : Int32))] [(.int 6), (.ref o0)])) _
    rw [show (((6 : Int32) + (1 : Int32)) : Int32) = (7 : Int32) from by decide]
    refine X1.baloadBytes hx (j := (6 : Int32)) (v := (.int p6)) (by rw [e1]; exact Ar2.1) (State.isArrayOf_alike hZ.alike Ar2.2.1) Ar2.2.2 hin2_6 (Has.at Hh2 hin2_6 rfl) (g := (mkF m 37 #[va o0, vi 7] [(.int 6), (.ref o0)])) rfl rfl (hb hby d17_37) _ ?_
    refine XS.sipush X1.here hx rfl (hb hby d17_38) ?_
    refine XS.iand X1.here hx rfl (hb hby d17_41) rfl ?_
    refine st3 _ ?_
    refine XS.ishl X3.here hx rfl (hb hby d17_45) rfl ?_
    refine XS.aloadN X3.here hx rfl (hb hby d17_46) rfl rfl ?_
    refine XS.iloadN X3.here hx rfl (hb hby d17_47) rfl ?_
    show Steps p.tables e below (T3.setTop (mkF m 48 #[va o0, vi 7] [(.int 7), (.ref o0), (.int ((p6 &&& (255 : Int32)) <<< ((0 : Int32) &&& 31)))])) _
    refine X3.baloadBytes hx (j := (7 : Int32)) (v := (.int p7)) (by rw [e3]; exact Ar2.1) (State.isArrayOf_alike hZ.alike Ar2.2.1) Ar2.2.2 hin2_7 (Has.at Hh2 hin2_7 rfl) (g := (mkF m 48 #[va o0, vi 7] [(.int 7), (.ref o0), (.int ((p6 &&& (255 : Int32)) <<< ((0 : Int32) &&& 31)))])) rfl rfl (hb hby d17_48) _ ?_
    refine XS.sipush X3.here hx rfl (hb hby d17_49) ?_
    refine XS.iand X3.here hx rfl (hb hby d17_52) rfl ?_
    refine st4 _ ?_
    refine XS.ishl X4.here hx rfl (hb hby d17_56) rfl ?_
    refine XS.ior X4.here hx rfl (hb hby d17_57) rfl ?_
    refine XS.i2c X4.here hx rfl (hb hby d17_58) rfl ?_
    exact retN X4 hx (t := .char) hrt (by simp) (hb hby d17_59) hr
  · show Q17_0 Z z_COMPACT_STRINGS o0 kk_o0 p0 p1 p2 p3 p4 p5 p6 p7 h0 n0 (some (.int (cc (cc (((p6 &&& (255 : Int32)) <<< ((0 : Int32) &&& 31)) ||| ((p7 &&& (255 : Int32)) <<< ((8 : Int32) &&& 31))))))) T4.heap _
    exact (⟨rfl, N0, e4⟩)
theorem pd_5 : parseMethodDescriptor "([BI)C" = some ⟨[(.array .byte), .int], some .char⟩ := by decide +kernel
theorem d5_35 : decode jdk_52_method_16_code 35 = .ok (.sipush 255, 3) := by decide +kernel
theorem d5_38 : decode jdk_52_method_16_code 38 = .ok (.if_icmp .gt 16, 3) := by decide +kernel
theorem d5_54 : decode jdk_52_method_16_code 54 = .ok (.aload 5, 2) := by decide +kernel
theorem d5_56 : decode jdk_52_method_16_code 56 = .ok (.areturn, 1) := by decide +kernel
def Q5_1 (Z : State) (z_COMPACT_STRINGS : Int32) (o0 : Addr) (kk_o0 : ClassId) (p0 : Int32) (p1 : Int32) (p2 : Int32) (p3 : Int32) (h0 : Heap) (n0 : Nat) (v : Option Value) (h : Heap) (L : List Loc) : Prop := ∃ (b2_1_5 : Addr), ∃ (k2_1_5 : ClassId), v = (some (.ref b2_1_5)) ∧ Fr n0 L ∧ Keep h0 h [] ∧ Arv Z h b2_1_5 k2_1_5 .byte (8 : Int32) [(.int (bb (bb (p0 >>> ((0 : Int32) &&& 31))))), (.int (bb (bb (p0 >>> ((8 : Int32) &&& 31))))), (.int (bb (bb (p1 >>> ((0 : Int32) &&& 31))))), (.int (bb (bb (p1 >>> ((8 : Int32) &&& 31))))), (.int (bb (bb (p2 >>> ((0 : Int32) &&& 31))))), (.int (bb (bb (p2 >>> ((8 : Int32) &&& 31))))), (.int (bb (bb (p3 >>> ((0 : Int32) &&& 31))))), (.int (bb (bb (p3 >>> ((8 : Int32) &&& 31)))))] (.int 0) ∧ h0.size ≤ b2_1_5
theorem rm5_1 (l : Launch) (Z : State) (a0 : Array Value) (hw : HW Z a0) (ws : List Jvm.Cond) (z_COMPACT_STRINGS : Int32) (o0 : Addr) (kk_o0 : ClassId) (p0 : Int32) (p1 : Int32) (p2 : Int32) (p3 : Int32) (h0 : Heap) (n0 : Nat) (O0 : Old Z n0 h0) (S : SF Z z_COMPACT_STRINGS) (V_o0 : Arv Z h0 o0 kk_o0 .char (4 : Int32) [(.int p0), (.int p1), (.int p2), (.int p3)] (.int 0)) (hc0 : ¬ ((255 : Int32) < p0)) (hc1 : ¬ ((255 : Int32) < p1)) (hc2 : ¬ ((255 : Int32) < p2)) (hc3 : (255 : Int32) < p3) :
    Pay l Z My5 ws jdk_52_method_16_code 6 (some (.array .byte)) #[(.ref o0), (.int 0), (.int 4)] h0 ({ frames := 3, cells := 2, slots := 12, locals := 40 } : Room) (Q5_1 Z z_COMPACT_STRINGS o0 kk_o0 p0 p1 p2 p3 h0 n0) := by
  refine own_body (plainFor_of_name pn_2) (L0 := #[va o0, vi 0, vi 4, uu, uu, uu]) (fun _ => by first | rfl | (simp [entryFrame, mkF, argsToLocals, Value.category]; done)) ?_
  intro p e s m below meth c s₁ hrt hlk hx hby hml hZ hown0 hnm X0 e0
  have hown : s.vm.findClass sC1 = some m.cls := hown0
  have N0 := Fr.nil n0
  have K0 : Keep h0 h0 [] := Keep.refl _ _
  obtain ⟨T1, h1, k1, X1, e1, E1, A1, st1⟩ := newP X0 hx hZ (ww hw 24 rfl) e0 (g := (mkF m 1 #[va o0, vi 0, vi 4, uu, uu, uu] [(.int 4)])) rfl (hb hby d5_1) rfl (by decide) (cap := 4) (by decide) (by decide) (by decide) (by decide)
  obtain ⟨b1, qs1⟩ : ∃ z, z = h0.size := ⟨_, rfl⟩
  rw [← qs1] at A1 st1
  have ne_o0_b1 : o0 ≠ b1 := Nat.ne_of_lt (Nat.lt_of_lt_of_le V_o0.lt (Nat.le_of_eq qs1.symm))
  have g_b1 : n0 ≤ b1 := Nat.le_trans (own_old O0) (Nat.le_of_eq qs1.symm)
  have sz_b1 : h0.size ≤ b1 := Nat.le_trans K0.1 (Nat.le_of_eq qs1.symm)
  have O1 := O0.ext E1
  have K1 : Keep h0 h1 [] := K0.ext E1
  have V_b1 : Arv Z h1 b1 k1 .byte (4 : Int32) [(.int 0), (.int 0), (.int 0), (.int 0)] (.int 0) := (Arv.new A1 (by decide)).pad (pad_rep [] (.int 0) 4)
  have fc2 := (V_o0.ext E1)
  obtain ⟨_, _, ⟨T3, L3, k3, n3⟩, -, X3, ⟨Lc3, hQ3, l3, y3, z3⟩, st3⟩ := Jvm.LawKit.callS X1 hx (y := My6) hown (mvT hZ (ww hw 25 rfl)) (mvT hZ (ww hw 26 rfl)) (mvT hZ (ww hw 22 rfl)) (mvT hZ (ww hw 27 rfl)) (by decide) (backOf (W := 0) (rm6_1 l Z a0 hw [] z_COMPACT_STRINGS o0 b1 kk_o0 k1 p0 p1 p2 p3 h1 n0 O1 S fc2 V_b1 ne_o0_b1 g_b1 hc0 hc1 hc2 hc3) hZ (ww hw 27 rfl) (ww hw 22 rfl) (by decide) (by decide)) (g := (mkF m 9 #[va o0, vi 0, vi 4, va b1, uu, uu] [(.int 4), (.int 0), (.ref b1), (.int 0), (.ref o0)])) rfl (by rw [hml]; rfl) (argsL := [(.ref o0), (.int 0), (.ref b1), (.int 0), (.int 4)]) (rest := []) (lenOf pd_0 rfl) rfl (by show 2 * 0 + _ ≤ _; exact Nat.le_of_eq rfl) (hb hby d5_9) (fun _ _ => ⟨rfl, e1, (by decide : 1 + 0 ≤ _), (by decide : 4 + 0 ≤ _)⟩)
  dsimp only [Pt.U, Pt.locs, Pt.cells, Pt.slots] at X3 l3 y3 z3 st3 hQ3
  subst l3 y3 z3
  obtain ⟨rfl, Nq3, Kc3, P0_3⟩ := hQ3
  have N3 := Fr.app N0 Nq3
  have O3 := O1.keep Kc3 (allS g_b1 all0)
  have K3 : Keep h0 T3.heap [] := K1.trans Kc3 (allS (Or.inr sz_b1) all0)
  have fc4 := (fc2.keep Kc3 (ninS ne_o0_b1 nin0))
  obtain ⟨_, _, ⟨T5, L5, k5, n5⟩, -, X5, ⟨Lc5, hQ5, l5, y5, z5⟩, st5⟩ := Jvm.LawKit.callS X3 hx (y := My13) hown (mvT hZ (ww hw 61 rfl)) (mvT hZ (ww hw 62 rfl)) (mvT hZ (ww hw 22 rfl)) (mvT hZ (ww hw 63 rfl)) (by decide) (backOf (W := 0) (rm13_0 l Z a0 hw [] z_COMPACT_STRINGS o0 kk_o0 p0 p1 p2 p3 T3.heap n0 O3 S fc4) hZ (ww hw 63 rfl) (ww hw 22 rfl) (by decide) (by decide)) (g := (mkF m 23 #[va o0, vi 0, vi 4, va b1, vi 3, uu] [(.int 4), (.int 0), (.ref o0)])) rfl (by rw [hml]; rfl) (argsL := [(.ref o0), (.int 0), (.int 4)]) (rest := []) (lenOf pd_4 rfl) rfl (by show 2 * 0 + _ ≤ _; exact Nat.le_of_eq rfl) (hb hby d5_23) (fun _ _ => ⟨rfl, rfl, (by decide : 1 + 1 ≤ _), (by decide : 4 + 8 ≤ _)⟩)
  dsimp only [Pt.U, Pt.locs, Pt.cells, Pt.slots] at X5 l5 y5 z5 st5 hQ5
  subst l5 y5 z5
  obtain ⟨b2_1_5, k2_1_5, rfl, Nq5, Kc5, P0_5, P1_5⟩ := hQ5
  have N5 := Fr.app N3 Nq5
  have ne_o0_b2_1_5 : o0 ≠ b2_1_5 := Nat.ne_of_lt (Nat.lt_of_lt_of_le fc4.lt P1_5)
  have ne_b1_b2_1_5 : b1 ≠ b2_1_5 := Nat.ne_of_lt (Nat.lt_of_lt_of_le P0_3.lt P1_5)
  have g_b2_1_5 : n0 ≤ b2_1_5 := Nat.le_trans (own_old O3) P1_5
  have sz_b2_1_5 : h0.size ≤ b2_1_5 := Nat.le_trans K3.1 P1_5
  have O5 := O3.keep Kc5 all0
  have K5 : Keep h0 T5.heap [] := K3.trans Kc5 all0
  obtain ⟨_, _, ⟨T6, L6, k6, n6⟩, -, X6, ⟨Lc6, hQ6, l6, y6, z6⟩, st6⟩ := Jvm.LawKit.callS X5 hx (y := My17) hown (mvT hZ (ww hw 77 rfl)) (mvT hZ (ww hw 78 rfl)) (mvT hZ (ww hw 22 rfl)) (mvT hZ (ww hw 79 rfl)) (by decide) (backOf (W := 0) (rm17_0 l Z a0 hw [] z_COMPACT_STRINGS b2_1_5 k2_1_5 (bb (bb (p0 >>> ((0 : Int32) &&& 31)))) (bb (bb (p0 >>> ((8 : Int32) &&& 31)))) (bb (bb (p1 >>> ((0 : Int32) &&& 31)))) (bb (bb (p1 >>> ((8 : Int32) &&& 31)))) (bb (bb (p2 >>> ((0 : Int32) &&& 31)))) (bb (bb (p2 >>> ((8 : Int32) &&& 31)))) (bb (bb (p3 >>> ((0 : Int32) &&& 31)))) (bb (bb (p3 >>> ((8 : Int32) &&& 31)))) T5.heap n0 O5 S P0_5) hZ (ww hw 79 rfl) (ww hw 22 rfl) (by decide) (by decide)) (g := (mkF m 32 #[va o0, vi 0, vi 4, va b1, vi 3, va b2_1_5] [(.int 3), (.ref b2_1_5)])) rfl (by rw [hml]; rfl) (argsL := [(.ref b2_1_5), (.int 3)]) (rest := []) (lenOf pd_5 rfl) rfl (by show 2 * 0 + _ ≤ _; exact Nat.le_of_eq rfl) (hb hby d5_32) (fun _ _ => ⟨rfl, rfl, (by decide : 2 + 0 ≤ _), (by decide : 12 + 0 ≤ _)⟩)
  dsimp only [Pt.U, Pt.locs, Pt.cells, Pt.slots] at X6 l6 y6 z6 st6 hQ6
  subst l6 y6 z6
  obtain ⟨rfl, Nq6, e6⟩ := hQ6
  have N6 := Fr.app N5 Nq6
  obtain ⟨fs, hr, hrun, hended, hW, hsame⟩ := X6.leave (v := (some (.ref b2_1_5))) (fun h => by rw [hrt] at h; cases h)
  refine ⟨_, _, ?_, hrun, hended, _, _, rfl, ?_, ⟨_, rfl⟩, hW, hsame.mono (by decide) (by decide)⟩
  · show Steps p.tables e below (s₁.setTop (mkF m 0 #[va o0, vi 0, vi 4, uu, uu, uu] [])) _
    refine XS.iloadN X0.here hx rfl (hb hby d5_0) rfl ?_
    refine st1 _ ?_
    refine XS.astoreN X1.here hx rfl (hb hby d5_3) rfl rfl (l' := #[va o0, vi 0, vi 4, va b1, uu, uu]) rfl ?_
    refine XS.aloadN X1.here hx rfl (hb hby d5_4) rfl rfl ?_
    refine XS.iloadN X1.here hx rfl (hb hby d5_5) rfl ?_
    refine XS.aloadN X1.here hx rfl (hb hby d5_6) rfl rfl ?_
    refine XS.iconst X1.here hx rfl (hb hby d5_7) ?_
    refine XS.iloadN X1.here hx rfl (hb hby d5_8) rfl ?_
    show Steps p.tables e below (T1.setTop (mkF m 9 #[va o0, vi 0, vi 4, va b1, uu, uu] [(.int 4), (.int 0), (.ref b1), (.int 0), (.ref o0)])) _
    refine st3 _ ?_
    refine XS.istore X3.here hx rfl (hb hby d5_12) rfl (l' := #[va o0, vi 0, vi 4, va b1, vi 3, uu]) rfl ?_
    refine XS.iload X3.here hx rfl (hb hby d5_14) rfl ?_
    refine XS.iloadN X3.here hx rfl (hb hby d5_16) rfl ?_
    refine XS.icmpNo X3.here hx rfl (hb hby d5_17) rfl (feq (by decide : ¬ ((3 : Int32) = (4 : Int32)))).1 ?_
    refine XS.aloadN X3.here hx rfl (hb hby d5_20) rfl rfl ?_
    refine XS.iloadN X3.here hx rfl (hb hby d5_21) rfl ?_
    refine XS.iloadN X3.here hx rfl (hb hby d5_22) rfl ?_
    show Steps p.tables e below (T3.setTop (mkF m 23 #[va o0, vi 0, vi 4, va b1, vi 3, uu] [(.int 4), (.int 0), (.ref o0)])) _
    refine st5 _ ?_
    refine XS.astore X5.here hx rfl (hb hby d5_26) rfl rfl (l' := #[va o0, vi 0, vi 4, va b1, vi 3, va b2_1_5]) rfl ?_
    refine XS.aload X5.here hx rfl (hb hby d5_28) rfl rfl ?_
    refine XS.iload X5.here hx rfl (hb hby d5_30) rfl ?_
    refine st6 _ ?_
    refine XS.sipush X6.here hx rfl (hb hby d5_35) ?_
    refine XS.icmpYes X6.here hx rfl (pc0 := 38) (pc' := 54) rfl (hb hby d5_38) rfl (tlt (own_getChar (own_fitsC V_o0 3 (by decide)) hc3)).2.2.1 (by decide) (by decide) ?_
    refine XS.aload X6.here hx rfl (hb hby d5_54) rfl rfl ?_
    show Steps p.tables e below (T6.setTop (mkF m 56 #[va o0, vi 0, vi 4, va b1, vi 3, va b2_1_5] [(.ref b2_1_5)])) _
    exact retOut X6 hx (t := (.array .byte)) (i := .areturn) hrt rfl (Or.inr (Or.inr (Or.inr (Or.inr ⟨rfl, rfl, rfl⟩)))) (hb hby d5_56) hr
  · show Q5_1 Z z_COMPACT_STRINGS o0 kk_o0 p0 p1 p2 p3 h0 n0 (some (.ref b2_1_5)) T6.heap _
    rw [e6]; exact ⟨b2_1_5, k2_1_5, rfl, N6, K5, P0_5, sz_b2_1_5⟩
def Q6_2 (Z : State) (z_COMPACT_STRINGS : Int32) (o0 : Addr) (o1 : Addr) (kk_o0 : ClassId) (kk_o1 : ClassId) (p0 : Int32) (p1 : Int32) (p2 : Int32) (p3 : Int32) (h0 : Heap) (n0 : Nat) (v : Option Value) (h : Heap) (L : List Loc) : Prop := v = (some (.int 2)) ∧ Fr n0 L ∧ Keep h0 h [o1] ∧ Arv Z h o1 kk_o1 .byte (4 : Int32) [(.int (bb (bb p0))), (.int (bb (bb p1))), (.int 0), (.int 0)] (.int 0)
theorem rm6_2 (l : Launch) (Z : State) (a0 : Array Value) (hw : HW Z a0) (ws : List Jvm.Cond) (z_COMPACT_STRINGS : Int32) (o0 : Addr) (o1 : Addr) (kk_o0 : ClassId) (kk_o1 : ClassId) (p0 : Int32) (p1 : Int32) (p2 : Int32) (p3 : Int32) (h0 : Heap) (n0 : Nat) (O0 : Old Z n0 h0) (S : SF Z z_COMPACT_STRINGS) (V_o0 : Arv Z h0 o0 kk_o0 .char (4 : Int32) [(.int p0), (.int p1), (.int p2), (.int p3)] (.int 0)) (V_o1 : Arv Z h0 o1 kk_o1 .byte (4 : Int32) [(.int 0), (.int 0), (.int 0), (.int 0)] (.int 0)) (ne_o0_o1 : o0 ≠ o1) (g_o1 : n0 ≤ o1) (hc0 : ¬ ((255 : Int32) < p0)) (hc1 : ¬ ((255 : Int32) < p1)) (hc2 : (255 : Int32) < p2) :
    Pay l Z My6 ws jdk_52_method_21_code 7 (some .int) #[(.ref o0), (.int 0), (.ref o1), (.int 0), (.int 4)] h0 ({ frames := 0, cells := 0, slots := 0, locals := 0 } : Room) (Q6_2 Z z_COMPACT_STRINGS o0 o1 kk_o0 kk_o1 p0 p1 p2 p3 h0 n0) := by
  refine own_body (plainFor_of_name pn_2) (L0 := #[va o0, vi 0, va o1, vi 0, vi 4, uu, uu]) (fun _ => by first | rfl | (simp [entryFrame, mkF, argsToLocals, Value.category]; done)) ?_
  intro p e s m below meth c s₁ hrt hlk hx hby hml hZ hown0 hnm X0 e0
  have hown : s.vm.findClass sC1 = some m.cls := hown0
  have N0 := Fr.nil n0
  have K0 : Keep h0 h0 [o1] := Keep.refl _ _
  obtain ⟨cl1, Ar1, qk1, Sz1, Ng1, Hh1, Gg1⟩ := id V_o0
  have hin1_0 : ¬ ((0 : Int32) < 0 ∨ cl1.slots.size ≤ ((0 : Int32)).toNatClampNeg) := inb_of Sz1 ⟨by decide, by decide⟩
  obtain ⟨cl2, Ar2, qk2, Sz2, Ng2, Hh2, Gg2⟩ := id V_o1
  have hin2_0 : ¬ ((0 : Int32) < 0 ∨ cl2.slots.size ≤ ((0 : Int32)).toNatClampNeg) := inb_of Sz2 ⟨by decide, by decide⟩
  obtain ⟨T3, h3, X3, e3, W3, st3⟩ := stB X0 hx hZ e0 Ar2 (j := (0 : Int32)) hin2_0 (g := (mkF m 31 #[va o0, vi 0, va o1, vi 0, vi 4, vi 0, vi p0] [(.int (bb p0)), (.int 0), (.ref o1)])) rfl rfl (hb hby d6_31)
  have V3 : Arv Z h3 o1 kk_o1 .byte (4 : Int32) [(.int (bb (bb p0))), (.int 0), (.int 0), (.int 0)] (.int 0) := Arv.set Ar2 qk2 Sz2 Ng2 Hh2 Gg2 (fits_nar_byte _) W3 0 rfl (Nat.le_of_ble_eq_true rfl)
  have O3 := O0.wr W3 g_o1
  have K3 : Keep h0 h3 [o1] := K0.wr W3 (Or.inl (List.mem_of_getElem? (i := 0) rfl))
  have N3 := Fr.snoc X3 N0 g_o1
  have fc4 := (V_o0.other W3 ne_o0_o1)
  obtain ⟨cl5, Ar5, qk5, Sz5, Ng5, Hh5, Gg5⟩ := id fc4
  have hin5_1 : ¬ ((1 : Int32) < 0 ∨ cl5.slots.size ≤ ((1 : Int32)).toNatClampNeg) := inb_of Sz5 ⟨by decide, by decide⟩
  obtain ⟨cl6, Ar6, qk6, Sz6, Ng6, Hh6, Gg6⟩ := id V3
  have hin6_1 : ¬ ((1 : Int32) < 0 ∨ cl6.slots.size ≤ ((1 : Int32)).toNatClampNeg) := inb_of Sz6 ⟨by decide, by decide⟩
  obtain ⟨T7, h7, X7, e7, W7, st7⟩ := stB X3 hx hZ e3 Ar6 (j := (1 : Int32)) hin6_1 (g := (mkF m 31 #[va o0, vi 1, va o1, vi 1, vi 4, vi 1, vi p1] [(.int (bb p1)), (.int 1), (.ref o1)])) rfl rfl (hb hby d6_31)
  have V7 : Arv Z h7 o1 kk_o1 .byte (4 : Int32) [(.int (bb (bb p0))), (.int (bb (bb p1))), (.int 0), (.int 0)] (.int 0) := Arv.set Ar6 qk6 Sz6 Ng6 Hh6 Gg6 (fits_nar_byte _) W7 1 rfl (Nat.le_of_ble_eq_true rfl)
  have O7 := O3.wr W7 g_o1
  have K7 : Keep h0 h7 [o1] := K3.wr W7 (Or.inl (List.mem_of_getElem? (i := 0) rfl))
  have N7 := Fr.snoc X7 N3 g_o1
  have fc8 := (fc4.other W7 ne_o0_o1)
  obtain ⟨cl9, Ar9, qk9, Sz9, Ng9, Hh9, Gg9⟩ := id fc8
  have hin9_2 : ¬ ((2 : Int32) < 0 ∨ cl9.slots.size ≤ ((2 : Int32)).toNatClampNeg) := inb_of Sz9 ⟨by decide, by decide⟩
  obtain ⟨fs, hr, hrun, hended, hW, hsame⟩ := X7.leave (v := (some (.int 2))) (fun h => by rw [hrt] at h; cases h)
  refine ⟨_, _, ?_, hrun, hended, _, _, rfl, ?_, ⟨_, rfl⟩, hW, hsame.mono (by decide) (by decide)⟩
  · show Steps p.tables e below (s₁.setTop (mkF m 0 #[va o0, vi 0, va o1, vi 0, vi 4, uu, uu] [])) _
    refine XS.iconst X0.here hx rfl (hb hby d6_0) ?_
    refine XS.istore X0.here hx rfl (hb hby d6_1) rfl (l' := #[va o0, vi 0, va o1, vi 0, vi 4, vi 0, uu]) rfl ?_
    refine XS.iload X0.here hx rfl (hb hby d6_3) rfl ?_
    refine XS.iload X0.here hx rfl (hb hby d6_5) rfl ?_
    refine XS.icmpNo X0.here hx rfl (hb hby d6_7) rfl (tlt (by decide : (0 : Int32) < (4 : Int32))).2.1 ?_
    refine XS.aloadN X0.here hx rfl (hb hby d6_10) rfl rfl ?_
    refine XS.iloadN X0.here hx rfl (hb hby d6_11) rfl ?_
    refine X0.caload hx (j := (0 : Int32)) (v := (.int p0)) (by rw [e0]; exact Ar1.1) (State.isArrayOf_alike hZ.alike Ar1.2.1) Ar1.2.2 hin1_0 (Has.at Hh1 hin1_0 rfl) (g := (mkF m 12 #[va o0, vi 0, va o1, vi 0, vi 4, vi 0, uu] [(.int 0), (.ref o0)])) rfl rfl (hb hby d6_12) _ ?_
    show Steps p.tables e below (s₁.setTop (mkF m 13 #[va o0, vi 0, va o1, vi 0, vi 4, vi 0, uu] [(.int p0)])) _
    refine XS.istore X0.here hx rfl (hb hby d6_13) rfl (l' := #[va o0, vi 0, va o1, vi 0, vi 4, vi 0, vi p0]) rfl ?_
    refine XS.iload X0.here hx rfl (hb hby d6_15) rfl ?_
    refine XS.sipush X0.here hx rfl (hb hby d6_17) ?_
    refine XS.icmpYes X0.here hx rfl (pc0 := 20) (pc' := 26) rfl (hb hby d6_20) rfl (flt hc0).2.2.2 (by decide) (by decide) ?_
    refine XS.aloadN X0.here hx rfl (hb hby d6_26) rfl rfl ?_
    refine XS.iloadN X0.here hx rfl (hb hby d6_27) rfl ?_
    refine XS.iload X0.here hx rfl (hb hby d6_28) rfl ?_
    refine XS.i2b X0.here hx rfl (hb hby d6_30) rfl ?_
    show Steps p.tables e below (s₁.setTop (mkF m 31 #[va o0, vi 0, va o1, vi 0, vi 4, vi 0, vi p0] [(.int (bb p0)), (.int 0), (.ref o1)])) _
    refine st3 _ ?_
    refine XS.iinc X3.here hx rfl (hb hby d6_32) rfl (l' := #[va o0, vi ((0 : Int32) + (1 : Int32)), va o1, vi 0, vi 4, vi 0, vi p0]) rfl ?_
    show Steps p.tables e below (T3.setTop (mkF m 35 #[va o0, vi ((0 : Int32) + (1 : Int32)), va o1, vi 0, vi 4, vi 0, vi p0] [])) _
    rw [show (((0 : Int32) + (1 : Int32)) : Int32) = (1 : Int32) from by decide]
    refine XS.iinc X3.here hx rfl (hb hby d6_35) rfl (l' := #[va o0, vi 1, va o1, vi ((0 : Int32) + (1 : Int32)), vi 4, vi 0, vi p0]) rfl ?_
    show Steps p.tables e below (T3.setTop (mkF m 38 #[va o0, vi 1, va o1, vi ((0 : Int32) + (1 : Int32)), vi 4, vi 0, vi p0] [])) _
    rw [show (((0 : Int32) + (1 : Int32)) : Int32) = (1 : Int32) from by decide]
    refine XS.iinc X3.here hx rfl (hb hby d6_38) rfl (l' := #[va o0, vi 1, va o1, vi 1, vi 4, vi ((0 : Int32) + (1 : Int32)), vi p0]) rfl ?_
    show Steps p.tables e below (T3.setTop (mkF m 41 #[va o0, vi 1, va o1, vi 1, vi 4, vi ((0 : Int32) + (1 : Int32)), vi p0] [])) _
    rw [show (((0 : Int32) + (1 : Int32)) : Int32) = (1 : Int32) from by decide]
    refine XS.goto X3.here hx rfl (pc0 := 41) (pc' := 3) rfl (hb hby d6_41) (by decide) (by decide) ?_
    refine XS.iload X3.here hx rfl (hb hby d6_3) rfl ?_
    refine XS.iload X3.here hx rfl (hb hby d6_5) rfl ?_
    refine XS.icmpNo X3.here hx rfl (hb hby d6_7) rfl (tlt (by decide : (1 : Int32) < (4 : Int32))).2.1 ?_
    refine XS.aloadN X3.here hx rfl (hb hby d6_10) rfl rfl ?_
    refine XS.iloadN X3.here hx rfl (hb hby d6_11) rfl ?_
    refine X3.caload hx (j := (1 : Int32)) (v := (.int p1)) (by rw [e3]; exact Ar5.1) (State.isArrayOf_alike hZ.alike Ar5.2.1) Ar5.2.2 hin5_1 (Has.at Hh5 hin5_1 rfl) (g := (mkF m 12 #[va o0, vi 1, va o1, vi 1, vi 4, vi 1, vi p0] [(.int 1), (.ref o0)])) rfl rfl (hb hby d6_12) _ ?_
    show Steps p.tables e below (T3.setTop (mkF m 13 #[va o0, vi 1, va o1, vi 1, vi 4, vi 1, vi p0] [(.int p1)])) _
    refine XS.istore X3.here hx rfl (hb hby d6_13) rfl (l' := #[va o0, vi 1, va o1, vi 1, vi 4, vi 1, vi p1]) rfl ?_
    refine XS.iload X3.here hx rfl (hb hby d6_15) rfl ?_
    refine XS.sipush X3.here hx rfl (hb hby d6_17) ?_
    refine XS.icmpYes X3.here hx rfl (pc0 := 20) (pc' := 26) rfl (hb hby d6_20) rfl (flt hc1).2.2.2 (by decide) (by decide) ?_
    refine XS.aloadN X3.here hx rfl (hb hby d6_26) rfl rfl ?_
    refine XS.iloadN X3.here hx rfl (hb hby d6_27) rfl ?_
    refine XS.iload X3.here hx rfl (hb hby d6_28) rfl ?_
    refine XS.i2b X3.here hx rfl (hb hby d6_30) rfl ?_
    show Steps p.tables e below (T3.setTop (mkF m 31 #[va o0, vi 1, va o1, vi 1, vi 4, vi 1, vi p1] [(.int (bb p1)), (.int 1), (.ref o1)])) _
    refine st7 _ ?_
    refine XS.iinc X7.here hx rfl (hb hby d6_32) rfl (l' := #[va o0, vi ((1 : Int32) + (1 : Int32)), va o1, vi 1, vi 4, vi 1, vi p1]) rfl ?_
    show Steps p.tables e below (T7.setTop (mkF m 35 #[va o0, vi ((1 : Int32) + (1 : Int32)), va o1, vi 1, vi 4, vi 1, vi p1] [])) _
    rw [show (((1 : Int32) + (1 : Int32)) : Int32) = (2 : Int32) from by decide]
    refine XS.iinc X7.here hx rfl (hb hby d6_35) rfl (l' := #[va o0, vi 2, va o1, vi ((1 : Int32) + (1 : Int32)), vi 4, vi 1, vi p1]) rfl ?_
    show Steps p.tables e below (T7.setTop (mkF m 38 #[va o0, vi 2, va o1, vi ((1 : Int32) + (1 : Int32)), vi 4, vi 1, vi p1] [])) _
    rw [show (((1 : Int32) + (1 : Int32)) : Int32) = (2 : Int32) from by decide]
    refine XS.iinc X7.here hx rfl (hb hby d6_38) rfl (l' := #[va o0, vi 2, va o1, vi 2, vi 4, vi ((1 : Int32) + (1 : Int32)), vi p1]) rfl ?_
    show Steps p.tables e below (T7.setTop (mkF m 41 #[va o0, vi 2, va o1, vi 2, vi 4, vi ((1 : Int32) + (1 : Int32)), vi p1] [])) _
    rw [show (((1 : Int32) + (1 : Int32)) : Int32) = (2 : Int32) from by decide]
    refine XS.goto X7.here hx rfl (pc0 := 41) (pc' := 3) rfl (hb hby d6_41) (by decide) (by decide) ?_
    refine XS.iload X7.here hx rfl (hb hby d6_3) rfl ?_
    refine XS.iload X7.here hx rfl (hb hby d6_5) rfl ?_
    refine XS.icmpNo X7.here hx rfl (hb hby d6_7) rfl (tlt (by decide : (2 : Int32) < (4 : Int32))).2.1 ?_
    refine XS.aloadN X7.here hx rfl (hb hby d6_10) rfl rfl ?_
    refine XS.iloadN X7.here hx rfl (hb hby d6_11) rfl ?_
    refine X7.caload hx (j := (2 : Int32)) (v := (.int p2)) (by rw [e7]; exact Ar9.1) (State.isArrayOf_alike hZ.alike Ar9.2.1) Ar9.2.2 hin9_2 (Has.at Hh9 hin9_2 rfl) (g := (mkF m 12 #[va o0, vi 2, va o1, vi 2, vi 4, vi 2, vi p1] [(.int 2), (.ref o0)])) rfl rfl (hb hby d6_12) _ ?_
    show Steps p.tables e below (T7.setTop (mkF m 13 #[va o0, vi 2, va o1, vi 2, vi 4, vi 2, vi p1] [(.int p2)])) _
    refine XS.istore X7.here hx rfl (hb hby d6_13) rfl (l' := #[va o0, vi 2, va o1, vi 2, vi 4, vi 2, vi p2]) rfl ?_
    refine XS.iload X7.here hx rfl (hb hby d6_15) rfl ?_
    refine XS.sipush X7.here hx rfl (hb hby d6_17) ?_
    refine XS.icmpNo X7.here hx rfl (hb hby d6_20) rfl (tlt hc2).2.2.2 ?_
    refine XS.iload X7.here hx rfl (hb hby d6_23) rfl ?_
    exact retOut X7 hx (t := .int) (i := .ireturn) hrt rfl (Or.inl ⟨rfl, Or.inl rfl, _, rfl⟩) (hb hby d6_25) hr
  · show Q6_2 Z z_COMPACT_STRINGS o0 o1 kk_o0 kk_o1 p0 p1 p2 p3 h0 n0 (some (.int 2)) T7.heap _
    rw [e7]; exact ⟨rfl, N7, K7, V7⟩
def Q17_1 (Z : State) (z_COMPACT_STRINGS : Int32) (o0 : Addr) (kk_o0 : ClassId) (p0 : Int32) (p1 : Int32) (p2 : Int32) (p3 : Int32) (p4 : Int32) (p5 : Int32) (p6 : Int32) (p7 : Int32) (h0 : Heap) (n0 : Nat) (v : Option Value) (h : Heap) (L : List Loc) : Prop := v = (some (.int (cc (cc (((p4 &&& (255 : Int32)) <<< ((0 : Int32) &&& 31)) ||| ((p5 &&& (255 : Int32)) <<< ((8 : Int32) &&& 31))))))) ∧ Fr n0 L ∧ h = h0
theorem rm17_1 (l : Launch) (Z : State) (a0 : Array Value) (hw : HW Z a0) (ws : List Jvm.Cond) (z_COMPACT_STRINGS : Int32) (o0 : Addr) (kk_o0 : ClassId) (p0 : Int32) (p1 : Int32) (p2 : Int32) (p3 : Int32) (p4 : Int32) (p5 : Int32) (p6 : Int32) (p7 : Int32) (h0 : Heap) (n0 : Nat) (O0 : Old Z n0 h0) (S : SF Z z_COMPACT_STRINGS) (V_o0 : Arv Z h0 o0 kk_o0 .byte (8 : Int32) [(.int p0), (.int p1), (.int p2), (.int p3), (.int p4), (.int p5), (.int p6), (.int p7)] (.int 0)) :
    Pay l Z My17 ws jdk_52_method_5_code 2 (some .char) #[(.ref o0), (.int 2)] h0 ({ frames := 0, cells := 0, slots := 0, locals := 0 } : Room) (Q17_1 Z z_COMPACT_STRINGS o0 kk_o0 p0 p1 p2 p3 p4 p5 p6 p7 h0 n0) := by
  obtain ⟨-, -, S_StringUTF16__assertionsDisabled, S_StringUTF16_HI_BYTE_SHIFT, S_StringUTF16_LO_BYTE_SHIFT, -⟩ := id S
  refine own_body (plainFor_of_name pn_2) (L0 := #[va o0, vi 2]) (fun _ => by first | rfl | (simp [entryFrame, mkF, argsToLocals, Value.category]; done)) ?_
  intro p e s m below meth c s₁ hrt hlk hx hby hml hZ hown0 hnm X0 e0
  have hown : s.vm.findClass sC1 = some m.cls := hown0
  have N0 := Fr.nil n0
  have K0 : Keep h0 h0 [] := Keep.refl _ _
  obtain ⟨T1, X1, e1, st1⟩ := getS2 X0 hx hZ hown (host := "") (Or.inl (ww hw 74 rfl)) Via.refl e0 (S_StringUTF16__assertionsDisabled.ext O0.2) (g := (mkF m 0 #[va o0, vi 2] [])) rfl (hb hby d17_0)
  obtain ⟨cl2, Ar2, qk2, Sz2, Ng2, Hh2, Gg2⟩ := id V_o0
  have hin2_4 : ¬ ((4 : Int32) < 0 ∨ cl2.slots.size ≤ ((4 : Int32)).toNatClampNeg) := inb_of Sz2 ⟨by decide, by decide⟩
  obtain ⟨T3, X3, e3, st3⟩ := getS2 X1 hx hZ hown (host := "") (Or.inl (ww hw 75 rfl)) Via.refl e1 (S_StringUTF16_HI_BYTE_SHIFT.ext O0.2) (g := (mkF m 42 #[va o0, vi 5] [(.int (p4 &&& (255 : Int32)))])) rfl (hb hby d17_42)
  have hin2_5 : ¬ ((5 : Int32) < 0 ∨ cl2.slots.size ≤ ((5 : Int32)).toNatClampNeg) := inb_of Sz2 ⟨by decide, by decide⟩
  obtain ⟨T4, X4, e4, st4⟩ := getS2 X3 hx hZ hown (host := "") (Or.inl (ww hw 76 rfl)) Via.refl e3 (S_StringUTF16_LO_BYTE_SHIFT.ext O0.2) (g := (mkF m 53 #[va o0, vi 5] [(.int (p5 &&& (255 : Int32))), (.int ((p4 &&& (255 : Int32)) <<< ((0 : Int32) &&& 31)))])) rfl (hb hby d17_53)
  obtain ⟨fs, hr, hrun, hended, hW, hsame⟩ := X4.leave (v := (some (.int (cc (cc (((p4 &&& (255 : Int32)) <<< ((0 : Int32) &&& 31)) ||| ((p5 &&& (255 : Int32)) <<< ((8 : Int32) &&& 31)))))))) (fun h => by rw [hrt] at h; cases h)
  refine ⟨_, _, ?_, hrun, hended, _, _, rfl, ?_, ⟨_, rfl⟩, hW, hsame.mono (by decide) (by decide)⟩
  · show Steps p.tables e below (s₁.setTop (mkF m 0 #[va o0, vi 2] [])) _
    refine st1 _ ?_
    refine XS.ifYes X1.here hx rfl (pc0 := 3) (pc' := 28) rfl (hb hby d17_3) rfl ((if0 _ _).trans (feq (by decide : ¬ ((1 : Int32) = (0 : Int32)))).2) (by decide) (by decide) ?_
    refine XS.iloadN X1.here hx rfl (hb hby d17_28) rfl ?_
    refine XS.iconst X1.here hx rfl (hb hby d17_29) ?_
    refine XS.ishl X1.here hx rfl (hb hby d17_30) rfl ?_
    show Steps p.tables e below (T1.setTop (mkF m 31 #[va o0, vi 2] [(.int ((2 : Int32) <<< ((1 : Int32) &&& 31)))])) _
    rw [show (((2 : Int32) <<< ((1 : Int32) &&& 31)) : Int32) = (4 : Int32) from by decide]
    refine XS.istoreN X1.here hx rfl (hb hby d17_31) rfl (l' := #[va o0, vi 4]) rfl ?_
    refine XS.aloadN X1.here hx rfl (hb hby d17_32) rfl rfl ?_
    refine XS.iloadN X1.here hx rfl (hb hby d17_33) rfl ?_
    refine XS.iinc X1.here hx rfl (hb hby d17_34) rfl (l' := #[va o0, vi ((4 : Int32) + (1 : Int32))]) rfl ?_
    show Steps p.tables e below (T1.setTop (mkF m 37 #[va o0, vi ((4 : Int32) + (1 : Int32))] [(.int 4), (.ref o0)])) _
    rw [show (((4 : Int32) + (1 : Int32)) : Int32) = (5 : Int32) from by decide]
    refine X1.baloadBytes hx (j := (4 : Int32)) (v := (.int p4)) (by rw [e1]; exact Ar2.1) (State.isArrayOf_alike hZ.alike Ar2.2.1) Ar2.2.2 hin2_4 (Has.at Hh2 hin2_4 rfl) (g := (mkF m 37 #[va o0, vi 5] [(.int 4), (.ref o0)])) rfl rfl (hb hby d17_37) _ ?_
    refine XS.sipush X1.here hx rfl (hb hby d17_38) ?_
    refine XS.iand X1.here hx rfl (hb hby d17_41) rfl ?_
    refine st3 _ ?_
    refine XS.ishl X3.here hx rfl (hb hby d17_45) rfl ?_
    refine XS.aloadN X3.here hx rfl (hb hby d17_46) rfl rfl ?_
    refine XS.iloadN X3.here hx rfl (hb hby d17_47) rfl ?_
    show Steps p.tables e below (T3.setTop (mkF m 48 #[va o0, vi 5] [(.int 5), (.ref o0), (.int ((p4 &&& (255 : Int32)) <<< ((0 : Int32) &&& 31)))])) _
    refine X3.baloadBytes hx (j := (5 : Int32)) (v := (.int p5)) (by rw [e3]; exact Ar2.1) (State.isArrayOf_alike hZ.alike Ar2.2.1) Ar2.2.2 hin2_5 (Has.at Hh2 hin2_5 rfl) (g := (mkF m 48 #[va o0, vi 5] [(.int 5), (.ref o0), (.int ((p4 &&& (255 : Int32)) <<< ((0 : Int32) &&& 31)))])) rfl rfl (hb hby d17_48) _ ?_
    refine XS.sipush X3.here hx rfl (hb hby d17_49) ?_
    refine XS.iand X3.here hx rfl (hb hby d17_52) rfl ?_
    refine st4 _ ?_
    refine XS.ishl X4.here hx rfl (hb hby d17_56) rfl ?_
    refine XS.ior X4.here hx rfl (hb hby d17_57) rfl ?_
    refine XS.i2c X4.here hx rfl (hb hby d17_58) rfl ?_
    exact retN X4 hx (t := .char) hrt (by simp) (hb hby d17_59) hr
  · show Q17_1 Z z_COMPACT_STRINGS o0 kk_o0 p0 p1 p2 p3 p4 p5 p6 p7 h0 n0 (some (.int (cc (cc (((p4 &&& (255 : Int32)) <<< ((0 : Int32) &&& 31)) ||| ((p5 &&& (255 : Int32)) <<< ((8 : Int32) &&& 31))))))) T4.heap _
    exact (⟨rfl, N0, e4⟩)
def Q5_2 (Z : State) (z_COMPACT_STRINGS : Int32) (o0 : Addr) (kk_o0 : ClassId) (p0 : Int32) (p1 : Int32) (p2 : Int32) (p3 : Int32) (h0 : Heap) (n0 : Nat) (v : Option Value) (h : Heap) (L : List Loc) : Prop := ∃ (b2_1_5 : Addr), ∃ (k2_1_5 : ClassId), v = (some (.ref b2_1_5)) ∧ Fr n0 L ∧ Keep h0 h [] ∧ Arv Z h b2_1_5 k2_1_5 .byte (8 : Int32) [(.int (bb (bb (p0 >>> ((0 : Int32) &&& 31))))), (.int (bb (bb (p0 >>> ((8 : Int32) &&& 31))))), (.int (bb (bb (p1 >>> ((0 : Int32) &&& 31))))), (.int (bb (bb (p1 >>> ((8 : Int32) &&& 31))))), (.int (bb (bb (p2 >>> ((0 : Int32) &&& 31))))), (.int (bb (bb (p2 >>> ((8 : Int32) &&& 31))))), (.int (bb (bb (p3 >>> ((0 : Int32) &&& 31))))), (.int (bb (bb (p3 >>> ((8 : Int32) &&& 31)))))] (.int 0) ∧ h0.size ≤ b2_1_5
theorem rm5_2 (l : Launch) (Z : State) (a0 : Array Value) (hw : HW Z a0) (ws : List Jvm.Cond) (z_COMPACT_STRINGS : Int32) (o0 : Addr) (kk_o0 : ClassId) (p0 : Int32) (p1 : Int32) (p2 : Int32) (p3 : Int32) (h0 : Heap) (n0 : Nat) (O0 : Old Z n0 h0) (S : SF Z z_COMPACT_STRINGS) (V_o0 : Arv Z h0 o0 kk_o0 .char (4 : Int32) [(.int p0), (.int p1), (.int p2), (.int p3)] (.int 0)) (hc0 : ¬ ((255 : Int32) < p0)) (hc1 : ¬ ((255 : Int32) < p1)) (hc2 : (255 : Int32) < p2) :
    Pay l Z My5 ws jdk_52_method_16_code 6 (some (.array .byte)) #[(.ref o0), (.int 0), (.int 4)] h0 ({ frames := 3, cells := 2, slots := 12, locals := 40 } : Room) (Q5_2 Z z_COMPACT_STRINGS o0 kk_o0 p0 p1 p2 p3 h0 n0) := by
  refine own_body (plainFor_of_name pn_2) (L0 := #[va o0, vi 0, vi 4, uu, uu, uu]) (fun _ => by first | rfl | (simp [entryFrame, mkF, argsToLocals, Value.category]; done)) ?_
  intro p e s m below meth c s₁ hrt hlk hx hby hml hZ hown0 hnm X0 e0
  have hown : s.vm.findClass sC1 = some m.cls := hown0
  have N0 := Fr.nil n0
  have K0 : Keep h0 h0 [] := Keep.refl _ _
  obtain ⟨T1, h1, k1, X1, e1, E1, A1, st1⟩ := newP X0 hx hZ (ww hw 24 rfl) e0 (g := (mkF m 1 #[va o0, vi 0, vi 4, uu, uu, uu] [(.int 4)])) rfl (hb hby d5_1) rfl (by decide) (cap := 4) (by decide) (by decide) (by decide) (by decide)
  obtain ⟨b1, qs1⟩ : ∃ z, z = h0.size := ⟨_, rfl⟩
  rw [← qs1] at A1 st1
  have ne_o0_b1 : o0 ≠ b1 := Nat.ne_of_lt (Nat.lt_of_lt_of_le V_o0.lt (Nat.le_of_eq qs1.symm))
  have g_b1 : n0 ≤ b1 := Nat.le_trans (own_old O0) (Nat.le_of_eq qs1.symm)
  have sz_b1 : h0.size ≤ b1 := Nat.le_trans K0.1 (Nat.le_of_eq qs1.symm)
  have O1 := O0.ext E1
  have K1 : Keep h0 h1 [] := K0.ext E1
  have V_b1 : Arv Z h1 b1 k1 .byte (4 : Int32) [(.int 0), (.int 0), (.int 0), (.int 0)] (.int 0) := (Arv.new A1 (by decide)).pad (pad_rep [] (.int 0) 4)
  have fc2 := (V_o0.ext E1)
  obtain ⟨_, _, ⟨T3, L3, k3, n3⟩, -, X3, ⟨Lc3, hQ3, l3, y3, z3⟩, st3⟩ := Jvm.LawKit.callS X1 hx (y := My6) hown (mvT hZ (ww hw 25 rfl)) (mvT hZ (ww hw 26 rfl)) (mvT hZ (ww hw 22 rfl)) (mvT hZ (ww hw 27 rfl)) (by decide) (backOf (W := 0) (rm6_2 l Z a0 hw [] z_COMPACT_STRINGS o0 b1 kk_o0 k1 p0 p1 p2 p3 h1 n0 O1 S fc2 V_b1 ne_o0_b1 g_b1 hc0 hc1 hc2) hZ (ww hw 27 rfl) (ww hw 22 rfl) (by decide) (by decide)) (g := (mkF m 9 #[va o0, vi 0, vi 4, va b1, uu, uu] [(.int 4), (.int 0), (.ref b1), (.int 0), (.ref o0)])) rfl (by rw [hml]; rfl) (argsL := [(.ref o0), (.int 0), (.ref b1), (.int 0), (.int 4)]) (rest := []) (lenOf pd_0 rfl) rfl (by show 2 * 0 + _ ≤ _; exact Nat.le_of_eq rfl) (hb hby d5_9) (fun _ _ => ⟨rfl, e1, (by decide : 1 + 0 ≤ _), (by decide : 4 + 0 ≤ _)⟩)
  dsimp only [Pt.U, Pt.locs, Pt.cells, Pt.slots] at X3 l3 y3 z3 st3 hQ3
  subst l3 y3 z3
  obtain ⟨rfl, Nq3, Kc3, P0_3⟩ := hQ3
  have N3 := Fr.app N0 Nq3
  have O3 := O1.keep Kc3 (allS g_b1 all0)
  have K3 : Keep h0 T3.heap [] := K1.trans Kc3 (allS (Or.inr sz_b1) all0)
  have fc4 := (fc2.keep Kc3 (ninS ne_o0_b1 nin0))
  obtain ⟨_, _, ⟨T5, L5, k5, n5⟩, -, X5, ⟨Lc5, hQ5, l5, y5, z5⟩, st5⟩ := Jvm.LawKit.callS X3 hx (y := My13) hown (mvT hZ (ww hw 61 rfl)) (mvT hZ (ww hw 62 rfl)) (mvT hZ (ww hw 22 rfl)) (mvT hZ (ww hw 63 rfl)) (by decide) (backOf (W := 0) (rm13_0 l Z a0 hw [] z_COMPACT_STRINGS o0 kk_o0 p0 p1 p2 p3 T3.heap n0 O3 S fc4) hZ (ww hw 63 rfl) (ww hw 22 rfl) (by decide) (by decide)) (g := (mkF m 23 #[va o0, vi 0, vi 4, va b1, vi 2, uu] [(.int 4), (.int 0), (.ref o0)])) rfl (by rw [hml]; rfl) (argsL := [(.ref o0), (.int 0), (.int 4)]) (rest := []) (lenOf pd_4 rfl) rfl (by show 2 * 0 + _ ≤ _; exact Nat.le_of_eq rfl) (hb hby d5_23) (fun _ _ => ⟨rfl, rfl, (by decide : 1 + 1 ≤ _), (by decide : 4 + 8 ≤ _)⟩)
  dsimp only [Pt.U, Pt.locs, Pt.cells, Pt.slots] at X5 l5 y5 z5 st5 hQ5
  subst l5 y5 z5
  obtain ⟨b2_1_5, k2_1_5, rfl, Nq5, Kc5, P0_5, P1_5⟩ := hQ5
  have N5 := Fr.app N3 Nq5
  have ne_o0_b2_1_5 : o0 ≠ b2_1_5 := Nat.ne_of_lt (Nat.lt_of_lt_of_le fc4.lt P1_5)
  have ne_b1_b2_1_5 : b1 ≠ b2_1_5 := Nat.ne_of_lt (Nat.lt_of_lt_of_le P0_3.lt P1_5)
  have g_b2_1_5 : n0 ≤ b2_1_5 := Nat.le_trans (own_old O3) P1_5
  have sz_b2_1_5 : h0.size ≤ b2_1_5 := Nat.le_trans K3.1 P1_5
  have O5 := O3.keep Kc5 all0
  have K5 : Keep h0 T5.heap [] := K3.trans Kc5 all0
  obtain ⟨_, _, ⟨T6, L6, k6, n6⟩, -, X6, ⟨Lc6, hQ6, l6, y6, z6⟩, st6⟩ := Jvm.LawKit.callS X5 hx (y := My17) hown (mvT hZ (ww hw 77 rfl)) (mvT hZ (ww hw 78 rfl)) (mvT hZ (ww hw 22 rfl)) (mvT hZ (ww hw 79 rfl)) (by decide) (backOf (W := 0) (rm17_1 l Z a0 hw [] z_COMPACT_STRINGS b2_1_5 k2_1_5 (bb (bb (p0 >>> ((0 : Int32) &&& 31)))) (bb (bb (p0 >>> ((8 : Int32) &&& 31)))) (bb (bb (p1 >>> ((0 : Int32) &&& 31)))) (bb (bb (p1 >>> ((8 : Int32) &&& 31)))) (bb (bb (p2 >>> ((0 : Int32) &&& 31)))) (bb (bb (p2 >>> ((8 : Int32) &&& 31)))) (bb (bb (p3 >>> ((0 : Int32) &&& 31)))) (bb (bb (p3 >>> ((8 : Int32) &&& 31)))) T5.heap n0 O5 S P0_5) hZ (ww hw 79 rfl) (ww hw 22 rfl) (by decide) (by decide)) (g := (mkF m 32 #[va o0, vi 0, vi 4, va b1, vi 2, va b2_1_5] [(.int 2), (.ref b2_1_5)])) rfl (by rw [hml]; rfl) (argsL := [(.ref b2_1_5), (.int 2)]) (rest := []) (lenOf pd_5 rfl) rfl (by show 2 * 0 + _ ≤ _; exact Nat.le_of_eq rfl) (hb hby d5_32) (fun _ _ => ⟨rfl, rfl, (by decide : 2 + 0 ≤ _), (by decide : 12 + 0 ≤ _)⟩)
  dsimp only [Pt.U, Pt.locs, Pt.cells, Pt.slots] at X6 l6 y6 z6 st6 hQ6
  subst l6 y6 z6
  obtain ⟨rfl, Nq6, e6⟩ := hQ6
  have N6 := Fr.app N5 Nq6
  obtain ⟨fs, hr, hrun, hended, hW, hsame⟩ := X6.leave (v := (some (.ref b2_1_5))) (fun h => by rw [hrt] at h; cases h)
  refine ⟨_, _, ?_, hrun, hended, _, _, rfl, ?_, ⟨_, rfl⟩, hW, hsame.mono (by decide) (by decide)⟩
  · show Steps p.tables e below (s₁.setTop (mkF m 0 #[va o0, vi 0, vi 4, uu, uu, uu] [])) _
    refine XS.iloadN X0.here hx rfl (hb hby d5_0) rfl ?_
    refine st1 _ ?_
    refine XS.astoreN X1.here hx rfl (hb hby d5_3) rfl rfl (l' := #[va o0, vi 0, vi 4, va b1, uu, uu]) rfl ?_
    refine XS.aloadN X1.here hx rfl (hb hby d5_4) rfl rfl ?_
    refine XS.iloadN X1.here hx rfl (hb hby d5_5) rfl ?_
    refine XS.aloadN X1.here hx rfl (hb hby d5_6) rfl rfl ?_
    refine XS.iconst X1.here hx rfl (hb hby d5_7) ?_
    refine XS.iloadN X1.here hx rfl (hb hby d5_8) rfl ?_
    show Steps p.tables e below (T1.setTop (mkF m 9 #[va o0, vi 0, vi 4, va b1, uu, uu] [(.int 4), (.int 0), (.ref b1), (.int 0), (.ref o0)])) _
    refine st3 _ ?_
    refine XS.istore X3.here hx rfl (hb hby d5_12) rfl (l' := #[va o0, vi 0, vi 4, va b1, vi 2, uu]) rfl ?_
    refine XS.iload X3.here hx rfl (hb hby d5_14) rfl ?_
    refine XS.iloadN X3.here hx rfl (hb hby d5_16) rfl ?_
    refine XS.icmpNo X3.here hx rfl (hb hby d5_17) rfl (feq (by decide : ¬ ((2 : Int32) = (4 : Int32)))).1 ?_
    refine XS.aloadN X3.here hx rfl (hb hby d5_20) rfl rfl ?_
    refine XS.iloadN X3.here hx rfl (hb hby d5_21) rfl ?_
    refine XS.iloadN X3.here hx rfl (hb hby d5_22) rfl ?_
    show Steps p.tables e below (T3.setTop (mkF m 23 #[va o0, vi 0, vi 4, va b1, vi 2, uu] [(.int 4), (.int 0), (.ref o0)])) _
    refine st5 _ ?_
    refine XS.astore X5.here hx rfl (hb hby d5_26) rfl rfl (l' := #[va o0, vi 0, vi 4, va b1, vi 2, va b2_1_5]) rfl ?_
    refine XS.aload X5.here hx rfl (hb hby d5_28) rfl rfl ?_
    refine XS.iload X5.here hx rfl (hb hby d5_30) rfl ?_
    refine st6 _ ?_
    refine XS.sipush X6.here hx rfl (hb hby d5_35) ?_
    refine XS.icmpYes X6.here hx rfl (pc0 := 38) (pc' := 54) rfl (hb hby d5_38) rfl (tlt (own_getChar (own_fitsC V_o0 2 (by decide)) hc2)).2.2.1 (by decide) (by decide) ?_
    refine XS.aload X6.here hx rfl (hb hby d5_54) rfl rfl ?_
    show Steps p.tables e below (T6.setTop (mkF m 56 #[va o0, vi 0, vi 4, va b1, vi 2, va b2_1_5] [(.ref b2_1_5)])) _
    exact retOut X6 hx (t := (.array .byte)) (i := .areturn) hrt rfl (Or.inr (Or.inr (Or.inr (Or.inr ⟨rfl, rfl, rfl⟩)))) (hb hby d5_56) hr
  · show Q5_2 Z z_COMPACT_STRINGS o0 kk_o0 p0 p1 p2 p3 h0 n0 (some (.ref b2_1_5)) T6.heap _
    rw [e6]; exact ⟨b2_1_5, k2_1_5, rfl, N6, K5, P0_5, sz_b2_1_5⟩
def Q6_3 (Z : State) (z_COMPACT_STRINGS : Int32) (o0 : Addr) (o1 : Addr) (kk_o0 : ClassId) (kk_o1 : ClassId) (p0 : Int32) (p1 : Int32) (p2 : Int32) (p3 : Int32) (h0 : Heap) (n0 : Nat) (v : Option Value) (h : Heap) (L : List Loc) : Prop := v = (some (.int 1)) ∧ Fr n0 L ∧ Keep h0 h [o1] ∧ Arv Z h o1 kk_o1 .byte (4 : Int32) [(.int (bb (bb p0))), (.int 0), (.int 0), (.int 0)] (.int 0)
theorem rm6_3 (l : Launch) (Z : State) (a0 : Array Value) (hw : HW Z a0) (ws : List Jvm.Cond) (z_COMPACT_STRINGS : Int32) (o0 : Addr) (o1 : Addr) (kk_o0 : ClassId) (kk_o1 : ClassId) (p0 : Int32) (p1 : Int32) (p2 : Int32) (p3 : Int32) (h0 : Heap) (n0 : Nat) (O0 : Old Z n0 h0) (S : SF Z z_COMPACT_STRINGS) (V_o0 : Arv Z h0 o0 kk_o0 .char (4 : Int32) [(.int p0), (.int p1), (.int p2), (.int p3)] (.int 0)) (V_o1 : Arv Z h0 o1 kk_o1 .byte (4 : Int32) [(.int 0), (.int 0), (.int 0), (.int 0)] (.int 0)) (ne_o0_o1 : o0 ≠ o1) (g_o1 : n0 ≤ o1) (hc0 : ¬ ((255 : Int32) < p0)) (hc1 : (255 : Int32) < p1) :
    Pay l Z My6 ws jdk_52_method_21_code 7 (some .int) #[(.ref o0), (.int 0), (.ref o1), (.int 0), (.int 4)] h0 ({ frames := 0, cells := 0, slots := 0, locals := 0 } : Room) (Q6_3 Z z_COMPACT_STRINGS o0 o1 kk_o0 kk_o1 p0 p1 p2 p3 h0 n0) := by
  refine own_body (plainFor_of_name pn_2) (L0 := #[va o0, vi 0, va o1, vi 0, vi 4, uu, uu]) (fun _ => by first | rfl | (simp [entryFrame, mkF, argsToLocals, Value.category]; done)) ?_
  intro p e s m below meth c s₁ hrt hlk hx hby hml hZ hown0 hnm X0 e0
  have hown : s.vm.findClass sC1 = some m.cls := hown0
  have N0 := Fr.nil n0
  have K0 : Keep h0 h0 [o1] := Keep.refl _ _
  obtain ⟨cl1, Ar1, qk1, Sz1, Ng1, Hh1, Gg1⟩ := id V_o0
  have hin1_0 : ¬ ((0 : Int32) < 0 ∨ cl1.slots.size ≤ ((0 : Int32)).toNatClampNeg) := inb_of Sz1 ⟨by decide, by decide⟩
  obtain ⟨cl2, Ar2, qk2, Sz2, Ng2, Hh2, Gg2⟩ := id V_o1
  have hin2_0 : ¬ ((0 : Int32) < 0 ∨ cl2.slots.size ≤ ((0 : Int32)).toNatClampNeg) := inb_of Sz2 ⟨by decide, by decide⟩
  obtain ⟨T3, h3, X3, e3, W3, st3⟩ := stB X0 hx hZ e0 Ar2 (j := (0 : Int32)) hin2_0 (g := (mkF m 31 #[va o0, vi 0, va o1, vi 0, vi 4, vi 0, vi p0] [(.int (bb p0)), (.int 0), (.ref o1)])) rfl rfl (hb hby d6_31)
  have V3 : Arv Z h3 o1 kk_o1 .byte (4 : Int32) [(.int (bb (bb p0))), (.int 0), (.int 0), (.int 0)] (.int 0) := Arv.set Ar2 qk2 Sz2 Ng2 Hh2 Gg2 (fits_nar_byte _) W3 0 rfl (Nat.le_of_ble_eq_true rfl)
  have O3 := O0.wr W3 g_o1
  have K3 : Keep h0 h3 [o1] := K0.wr W3 (Or.inl (List.mem_of_getElem? (i := 0) rfl))
  have N3 := Fr.snoc X3 N0 g_o1
  have fc4 := (V_o0.other W3 ne_o0_o1)
  obtain ⟨cl5, Ar5, qk5, Sz5, Ng5, Hh5, Gg5⟩ := id fc4
  have hin5_1 : ¬ ((1 : Int32) < 0 ∨ cl5.slots.size ≤ ((1 : Int32)).toNatClampNeg) := inb_of Sz5 ⟨by decide, by decide⟩
  obtain ⟨fs, hr, hrun, hended, hW, hsame⟩ := X3.leave (v := (some (.int 1))) (fun h => by rw [hrt] at h; cases h)
  refine ⟨_, _, ?_, hrun, hended, _, _, rfl, ?_, ⟨_, rfl⟩, hW, hsame.mono (by decide) (by decide)⟩
  · show Steps p.tables e below (s₁.setTop (mkF m 0 #[va o0, vi 0, va o1, vi 0, vi 4, uu, uu] [])) _
    refine XS.iconst X0.here hx rfl (hb hby d6_0) ?_
    refine XS.istore X0.here hx rfl (hb hby d6_1) rfl (l' := #[va o0, vi 0, va o1, vi 0, vi 4, vi 0, uu]) rfl ?_
    refine XS.iload X0.here hx rfl (hb hby d6_3) rfl ?_
    refine XS.iload X0.here hx rfl (hb hby d6_5) rfl ?_
    refine XS.icmpNo X0.here hx rfl (hb hby d6_7) rfl (tlt (by decide : (0 : Int32) < (4 : Int32))).2.1 ?_
    refine XS.aloadN X0.here hx rfl (hb hby d6_10) rfl rfl ?_
    refine XS.iloadN X0.here hx rfl (hb hby d6_11) rfl ?_
    refine X0.caload hx (j := (0 : Int32)) (v := (.int p0)) (by rw [e0]; exact Ar1.1) (State.isArrayOf_alike hZ.alike Ar1.2.1) Ar1.2.2 hin1_0 (Has.at Hh1 hin1_0 rfl) (g := (mkF m 12 #[va o0, vi 0, va o1, vi 0, vi 4, vi 0, uu] [(.int 0), (.ref o0)])) rfl rfl (hb hby d6_12) _ ?_
    show Steps p.tables e below (s₁.setTop (mkF m 13 #[va o0, vi 0, va o1, vi 0, vi 4, vi 0, uu] [(.int p0)])) _
    refine XS.istore X0.here hx rfl (hb hby d6_13) rfl (l' := #[va o0, vi 0, va o1, vi 0, vi 4, vi 0, vi p0]) rfl ?_
    refine XS.iload X0.here hx rfl (hb hby d6_15) rfl ?_
    refine XS.sipush X0.here hx rfl (hb hby d6_17) ?_
    refine XS.icmpYes X0.here hx rfl (pc0 := 20) (pc' := 26) rfl (hb hby d6_20) rfl (flt hc0).2.2.2 (by decide) (by decide) ?_
    refine XS.aloadN X0.here hx rfl (hb hby d6_26) rfl rfl ?_
    refine XS.iloadN X0.here hx rfl (hb hby d6_27) rfl ?_
    refine XS.iload X0.here hx rfl (hb hby d6_28) rfl ?_
    refine XS.i2b X0.here hx rfl (hb hby d6_30) rfl ?_
    show Steps p.tables e below (s₁.setTop (mkF m 31 #[va o0, vi 0, va o1, vi 0, vi 4, vi 0, vi p0] [(.int (bb p0)), (.int 0), (.ref o1)])) _
    refine st3 _ ?_
    refine XS.iinc X3.here hx rfl (hb hby d6_32) rfl (l' := #[va o0, vi ((0 : Int32) + (1 : Int32)), va o1, vi 0, vi 4, vi 0, vi p0]) rfl ?_
    show Steps p.tables e below (T3.setTop (mkF m 35 #[va o0, vi ((0 : Int32) + (1 : Int32)), va o1, vi 0, vi 4, vi 0, vi p0] [])) _
    rw [show (((0 : Int32) + (1 : Int32)) : Int32) = (1 : Int32) from by decide]
    refine XS.iinc X3.here hx rfl (hb hby d6_35) rfl (l' := #[va o0, vi 1, va o1, vi ((0 : Int32) + (1 : Int32)), vi 4, vi 0, vi p0]) rfl ?_
    show Steps p.tables e below (T3.setTop (mkF m 38 #[va o0, vi 1, va o1, vi ((0 : Int32) + (1 : Int32)), vi 4, vi 0, vi p0] [])) _
    rw [show (((0 : Int32) + (1 : Int32)) : Int32) = (1 : Int32) from by decide]
    refine XS.iinc X3.here hx rfl (hb hby d6_38) rfl (l' := #[va o0, vi 1, va o1, vi 1, vi 4, vi ((0 : Int32) + (1 : Int32)), vi p0]) rfl ?_
    show Steps p.tables e below (T3.setTop (mkF m 41 #[va o0, vi 1, va o1, vi 1, vi 4, vi ((0 : Int32) + (1 : Int32)), vi p0] [])) _
    rw [show (((0 : Int32) + (1 : Int32)) : Int32) = (1 : Int32) from by decide]
    refine XS.goto X3.here hx rfl (pc0 := 41) (pc' := 3) rfl (hb hby d6_41) (by decide) (by decide) ?_
    refine XS.iload X3.here hx rfl (hb hby d6_3) rfl ?_
    refine XS.iload X3.here hx rfl (hb hby d6_5) rfl ?_
    refine XS.icmpNo X3.here hx rfl (hb hby d6_7) rfl (tlt (by decide : (1 : Int32) < (4 : Int32))).2.1 ?_
    refine XS.aloadN X3.here hx rfl (hb hby d6_10) rfl rfl ?_
    refine XS.iloadN X3.here hx rfl (hb hby d6_11) rfl ?_
    refine X3.caload hx (j := (1 : Int32)) (v := (.int p1)) (by rw [e3]; exact Ar5.1) (State.isArrayOf_alike hZ.alike Ar5.2.1) Ar5.2.2 hin5_1 (Has.at Hh5 hin5_1 rfl) (g := (mkF m 12 #[va o0, vi 1, va o1, vi 1, vi 4, vi 1, vi p0] [(.int 1), (.ref o0)])) rfl rfl (hb hby d6_12) _ ?_
    show Steps p.tables e below (T3.setTop (mkF m 13 #[va o0, vi 1, va o1, vi 1, vi 4, vi 1, vi p0] [(.int p1)])) _
    refine XS.istore X3.here hx rfl (hb hby d6_13) rfl (l' := #[va o0, vi 1, va o1, vi 1, vi 4, vi 1, vi p1]) rfl ?_
    refine XS.iload X3.here hx rfl (hb hby d6_15) rfl ?_
    refine XS.sipush X3.here hx rfl (hb hby d6_17) ?_
    refine XS.icmpNo X3.here hx rfl (hb hby d6_20) rfl (tlt hc1).2.2.2 ?_
    refine XS.iload X3.here hx rfl (hb hby d6_23) rfl ?_
    exact retOut X3 hx (t := .int) (i := .ireturn) hrt rfl (Or.inl ⟨rfl, Or.inl rfl, _, rfl⟩) (hb hby d6_25) hr
  · show Q6_3 Z z_COMPACT_STRINGS o0 o1 kk_o0 kk_o1 p0 p1 p2 p3 h0 n0 (some (.int 1)) T3.heap _
    rw [e3]; exact ⟨rfl, N3, K3, V3⟩
def Q17_2 (Z : State) (z_COMPACT_STRINGS : Int32) (o0 : Addr) (kk_o0 : ClassId) (p0 : Int32) (p1 : Int32) (p2 : Int32) (p3 : Int32) (p4 : Int32) (p5 : Int32) (p6 : Int32) (p7 : Int32) (h0 : Heap) (n0 : Nat) (v : Option Value) (h : Heap) (L : List Loc) : Prop := v = (some (.int (cc (cc (((p2 &&& (255 : Int32)) <<< ((0 : Int32) &&& 31)) ||| ((p3 &&& (255 : Int32)) <<< ((8 : Int32) &&& 31))))))) ∧ Fr n0 L ∧ h = h0
theorem rm17_2 (l : Launch) (Z : State) (a0 : Array Value) (hw : HW Z a0) (ws : List Jvm.Cond) (z_COMPACT_STRINGS : Int32) (o0 : Addr) (kk_o0 : ClassId) (p0 : Int32) (p1 : Int32) (p2 : Int32) (p3 : Int32) (p4 : Int32) (p5 : Int32) (p6 : Int32) (p7 : Int32) (h0 : Heap) (n0 : Nat) (O0 : Old Z n0 h0) (S : SF Z z_COMPACT_STRINGS) (V_o0 : Arv Z h0 o0 kk_o0 .byte (8 : Int32) [(.int p0), (.int p1), (.int p2), (.int p3), (.int p4), (.int p5), (.int p6), (.int p7)] (.int 0)) :
    Pay l Z My17 ws jdk_52_method_5_code 2 (some .char) #[(.ref o0), (.int 1)] h0 ({ frames := 0, cells := 0, slots := 0, locals := 0 } : Room) (Q17_2 Z z_COMPACT_STRINGS o0 kk_o0 p0 p1 p2 p3 p4 p5 p6 p7 h0 n0) := by
  obtain ⟨-, -, S_StringUTF16__assertionsDisabled, S_StringUTF16_HI_BYTE_SHIFT, S_StringUTF16_LO_BYTE_SHIFT, -⟩ := id S
  refine own_body (plainFor_of_name pn_2) (L0 := #[va o0, vi 1]) (fun _ => by first | rfl | (simp [entryFrame, mkF, argsToLocals, Value.category]; done)) ?_
  intro p e s m below meth c s₁ hrt hlk hx hby hml hZ hown0 hnm X0 e0
  have hown : s.vm.findClass sC1 = some m.cls := hown0
  have N0 := Fr.nil n0
  have K0 : Keep h0 h0 [] := Keep.refl _ _
  obtain ⟨T1, X1, e1, st1⟩ := getS2 X0 hx hZ hown (host := "") (Or.inl (ww hw 74 rfl)) Via.refl e0 (S_StringUTF16__assertionsDisabled.ext O0.2) (g := (mkF m 0 #[va o0, vi 1] [])) rfl (hb hby d17_0)
  obtain ⟨cl2, Ar2, qk2, Sz2, Ng2, Hh2, Gg2⟩ := id V_o0
  have hin2_2 : ¬ ((2 : Int32) < 0 ∨ cl2.slots.size ≤ ((2 : Int32)).toNatClampNeg) := inb_of Sz2 ⟨by decide, by decide⟩
  obtain ⟨T3, X3, e3, st3⟩ := getS2 X1 hx hZ hown (host := "") (Or.inl (ww hw 75 rfl)) Via.refl e1 (S_StringUTF16_HI_BYTE_SHIFT.ext O0.2) (g := (mkF m 42 #[va o0, vi 3] [(.int (p2 &&& (255 : Int32)))])) rfl (hb hby d17_42)
  have hin2_3 : ¬ ((3 : Int32) < 0 ∨ cl2.slots.size ≤ ((3 : Int32)).toNatClampNeg) := inb_of Sz2 ⟨by decide, by decide⟩
  obtain ⟨T4, X4, e4, st4⟩ := getS2 X3 hx hZ hown (host := "") (Or.inl (ww hw 76 rfl)) Via.refl e3 (S_StringUTF16_LO_BYTE_SHIFT.ext O0.2) (g := (mkF m 53 #[va o0, vi 3] [(.int (p3 &&& (255 : Int32))), (.int ((p2 &&& (255 : Int32)) <<< ((0 : Int32) &&& 31)))])) rfl (hb hby d17_53)
  obtain ⟨fs, hr, hrun, hended, hW, hsame⟩ := X4.leave (v := (some (.int (cc (cc (((p2 &&& (255 : Int32)) <<< ((0 : Int32) &&& 31)) ||| ((p3 &&& (255 : Int32)) <<< ((8 : Int32) &&& 31)))))))) (fun h => by rw [hrt] at h; cases h)
  refine ⟨_, _, ?_, hrun, hended, _, _, rfl, ?_, ⟨_, rfl⟩, hW, hsame.mono (by decide) (by decide)⟩
  · show Steps p.tables e below (s₁.setTop (mkF m 0 #[va o0, vi 1] [])) _
    refine st1 _ ?_
    refine XS.ifYes X1.here hx rfl (pc0 := 3) (pc' := 28) rfl (hb hby d17_3) rfl ((if0 _ _).trans (feq (by decide : ¬ ((1 : Int32) = (0 : Int32)))).2) (by decide) (by decide) ?_
    refine XS.iloadN X1.here hx rfl (hb hby d17_28) rfl ?_
    refine XS.iconst X1.here hx rfl (hb hby d17_29) ?_
    refine XS.ishl X1.here hx rfl (hb hby d17_30) rfl ?_
    show Steps p.tables e below (T1.setTop (mkF m 31 #[va o0, vi 1] [(.int ((1 : Int32) <<< ((1 : Int32) &&& 31)))])) _
    rw [show (((1 : Int32) <<< ((1 : Int32) &&& 31)) : Int32) = (2 : Int32) from by decide]
    refine XS.istoreN X1.here hx rfl (hb hby d17_31) rfl (l' := #[va o0, vi 2]) rfl ?_
    refine XS.aloadN X1.here hx rfl (hb hby d17_32) rfl rfl ?_
    refine XS.iloadN X1.here hx rfl (hb hby d17_33) rfl ?_
    refine XS.iinc X1.here hx rfl (hb hby d17_34) rfl (l' := #[va o0, vi ((2 : Int32) + (1 : Int32))]) rfl ?_
    show Steps p.tables e below (T1.setTop (mkF m 37 #[va o0, vi ((2 : Int32) + (1 : Int32))] [(.int 2), (.ref o0)])) _
    rw [show (((2 : Int32) + (1 : Int32)) : Int32) = (3 : Int32) from by decide]
    refine X1.baloadBytes hx (j := (2 : Int32)) (v := (.int p2)) (by rw [e1]; exact Ar2.1) (State.isArrayOf_alike hZ.alike Ar2.2.1) Ar2.2.2 hin2_2 (Has.at Hh2 hin2_2 rfl) (g := (mkF m 37 #[va o0, vi 3] [(.int 2), (.ref o0)])) rfl rfl (hb hby d17_37) _ ?_
    refine XS.sipush X1.here hx rfl (hb hby d17_38) ?_
    refine XS.iand X1.here hx rfl (hb hby d17_41) rfl ?_
    refine st3 _ ?_
    refine XS.ishl X3.here hx rfl (hb hby d17_45) rfl ?_
    refine XS.aloadN X3.here hx rfl (hb hby d17_46) rfl rfl ?_
    refine XS.iloadN X3.here hx rfl (hb hby d17_47) rfl ?_
    show Steps p.tables e below (T3.setTop (mkF m 48 #[va o0, vi 3] [(.int 3), (.ref o0), (.int ((p2 &&& (255 : Int32)) <<< ((0 : Int32) &&& 31)))])) _
    refine X3.baloadBytes hx (j := (3 : Int32)) (v := (.int p3)) (by rw [e3]; exact Ar2.1) (State.isArrayOf_alike hZ.alike Ar2.2.1) Ar2.2.2 hin2_3 (Has.at Hh2 hin2_3 rfl) (g := (mkF m 48 #[va o0, vi 3] [(.int 3), (.ref o0), (.int ((p2 &&& (255 : Int32)) <<< ((0 : Int32) &&& 31)))])) rfl rfl (hb hby d17_48) _ ?_
    refine XS.sipush X3.here hx rfl (hb hby d17_49) ?_
    refine XS.iand X3.here hx rfl (hb hby d17_52) rfl ?_
    refine st4 _ ?_
    refine XS.ishl X4.here hx rfl (hb hby d17_56) rfl ?_
    refine XS.ior X4.here hx rfl (hb hby d17_57) rfl ?_
    refine XS.i2c X4.here hx rfl (hb hby d17_58) rfl ?_
    exact retN X4 hx (t := .char) hrt (by simp) (hb hby d17_59) hr
  · show Q17_2 Z z_COMPACT_STRINGS o0 kk_o0 p0 p1 p2 p3 p4 p5 p6 p7 h0 n0 (some (.int (cc (cc (((p2 &&& (255 : Int32)) <<< ((0 : Int32) &&& 31)) ||| ((p3 &&& (255 : Int32)) <<< ((8 : Int32) &&& 31))))))) T4.heap _
    exact (⟨rfl, N0, e4⟩)
def Q5_3 (Z : State) (z_COMPACT_STRINGS : Int32) (o0 : Addr) (kk_o0 : ClassId) (p0 : Int32) (p1 : Int32) (p2 : Int32) (p3 : Int32) (h0 : Heap) (n0 : Nat) (v : Option Value) (h : Heap) (L : List Loc) : Prop := ∃ (b2_1_5 : Addr), ∃ (k2_1_5 : ClassId), v = (some (.ref b2_1_5)) ∧ Fr n0 L ∧ Keep h0 h [] ∧ Arv Z h b2_1_5 k2_1_5 .byte (8 : Int32) [(.int (bb (bb (p0 >>> ((0 : Int32) &&& 31))))), (.int (bb (bb (p0 >>> ((8 : Int32) &&& 31))))), (.int (bb (bb (p1 >>> ((0 : Int32) &&& 31))))), (.int (bb (bb (p1 >>> ((8 : Int32) &&& 31))))), (.int (bb (bb (p2 >>> ((0 : Int32) &&& 31))))), (.int (bb (bb (p2 >>> ((8 : Int32) &&& 31))))), (.int (bb (bb (p3 >>> ((0 : Int32) &&& 31))))), (.int (bb (bb (p3 >>> ((8 : Int32) &&& 31)))))] (.int 0) ∧ h0.size ≤ b2_1_5
theorem rm5_3 (l : Launch) (Z : State) (a0 : Array Value) (hw : HW Z a0) (ws : List Jvm.Cond) (z_COMPACT_STRINGS : Int32) (o0 : Addr) (kk_o0 : ClassId) (p0 : Int32) (p1 : Int32) (p2 : Int32) (p3 : Int32) (h0 : Heap) (n0 : Nat) (O0 : Old Z n0 h0) (S : SF Z z_COMPACT_STRINGS) (V_o0 : Arv Z h0 o0 kk_o0 .char (4 : Int32) [(.int p0), (.int p1), (.int p2), (.int p3)] (.int 0)) (hc0 : ¬ ((255 : Int32) < p0)) (hc1 : (255 : Int32) < p1) :
    Pay l Z My5 ws jdk_52_method_16_code 6 (some (.array .byte)) #[(.ref o0), (.int 0), (.int 4)] h0 ({ frames := 3, cells := 2, slots := 12, locals := 40 } : Room) (Q5_3 Z z_COMPACT_STRINGS o0 kk_o0 p0 p1 p2 p3 h0 n0) := by
  refine own_body (plainFor_of_name pn_2) (L0 := #[va o0, vi 0, vi 4, uu, uu, uu]) (fun _ => by first | rfl | (simp [entryFrame, mkF, argsToLocals, Value.category]; done)) ?_
  intro p e s m below meth c s₁ hrt hlk hx hby hml hZ hown0 hnm X0 e0
  have hown : s.vm.findClass sC1 = some m.cls := hown0
  have N0 := Fr.nil n0
  have K0 : Keep h0 h0 [] := Keep.refl _ _
  obtain ⟨T1, h1, k1, X1, e1, E1, A1, st1⟩ := newP X0 hx hZ (ww hw 24 rfl) e0 (g := (mkF m 1 #[va o0, vi 0, vi 4, uu, uu, uu] [(.int 4)])) rfl (hb hby d5_1) rfl (by decide) (cap := 4) (by decide) (by decide) (by decide) (by decide)
  obtain ⟨b1, qs1⟩ : ∃ z, z = h0.size := ⟨_, rfl⟩
  rw [← qs1] at A1 st1
  have ne_o0_b1 : o0 ≠ b1 := Nat.ne_of_lt (Nat.lt_of_lt_of_le V_o0.lt (Nat.le_of_eq qs1.symm))
  have g_b1 : n0 ≤ b1 := Nat.le_trans (own_old O0) (Nat.le_of_eq qs1.symm)
  have sz_b1 : h0.size ≤ b1 := Nat.le_trans K0.1 (Nat.le_of_eq qs1.symm)
  have O1 := O0.ext E1
  have K1 : Keep h0 h1 [] := K0.ext E1
  have V_b1 : Arv Z h1 b1 k1 .byte (4 : Int32) [(.int 0), (.int 0), (.int 0), (.int 0)] (.int 0) := (Arv.new A1 (by decide)).pad (pad_rep [] (.int 0) 4)
  have fc2 := (V_o0.ext E1)
  obtain ⟨_, _, ⟨T3, L3, k3, n3⟩, -, X3, ⟨Lc3, hQ3, l3, y3, z3⟩, st3⟩ := Jvm.LawKit.callS X1 hx (y := My6) hown (mvT hZ (ww hw 25 rfl)) (mvT hZ (ww hw 26 rfl)) (mvT hZ (ww hw 22 rfl)) (mvT hZ (ww hw 27 rfl)) (by decide) (backOf (W := 0) (rm6_3 l Z a0 hw [] z_COMPACT_STRINGS o0 b1 kk_o0 k1 p0 p1 p2 p3 h1 n0 O1 S fc2 V_b1 ne_o0_b1 g_b1 hc0 hc1) hZ (ww hw 27 rfl) (ww hw 22 rfl) (by decide) (by decide)) (g := (mkF m 9 #[va o0, vi 0, vi 4, va b1, uu, uu] [(.int 4), (.int 0), (.ref b1), (.int 0), (.ref o0)])) rfl (by rw [hml]; rfl) (argsL := [(.ref o0), (.int 0), (.ref b1), (.int 0), (.int 4)]) (rest := []) (lenOf pd_0 rfl) rfl (by show 2 * 0 + _ ≤ _; exact Nat.le_of_eq rfl) (hb hby d5_9) (fun _ _ => ⟨rfl, e1, (by decide : 1 + 0 ≤ _), (by decide : 4 + 0 ≤ _)⟩)
  dsimp only [Pt.U, Pt.locs, Pt.cells, Pt.slots] at X3 l3 y3 z3 st3 hQ3
  subst l3 y3 z3
  obtain ⟨rfl, Nq3, Kc3, P0_3⟩ := hQ3
  have N3 := Fr.app N0 Nq3
  have O3 := O1.keep Kc3 (allS g_b1 all0)
  have K3 : Keep h0 T3.heap [] := K1.trans Kc3 (allS (Or.inr sz_b1) all0)
  have fc4 := (fc2.keep Kc3 (ninS ne_o0_b1 nin0))
  obtain ⟨_, _, ⟨T5, L5, k5, n5⟩, -, X5, ⟨Lc5, hQ5, l5, y5, z5⟩, st5⟩ := Jvm.LawKit.callS X3 hx (y := My13) hown (mvT hZ (ww hw 61 rfl)) (mvT hZ (ww hw 62 rfl)) (mvT hZ (ww hw 22 rfl)) (mvT hZ (ww hw 63 rfl)) (by decide) (backOf (W := 0) (rm13_0 l Z a0 hw [] z_COMPACT_STRINGS o0 kk_o0 p0 p1 p2 p3 T3.heap n0 O3 S fc4) hZ (ww hw 63 rfl) (ww hw 22 rfl) (by decide) (by decide)) (g := (mkF m 23 #[va o0, vi 0, vi 4, va b1, vi 1, uu] [(.int 4), (.int 0), (.ref o0)])) rfl (by rw [hml]; rfl) (argsL := [(.ref o0), (.int 0), (.int 4)]) (rest := []) (lenOf pd_4 rfl) rfl (by show 2 * 0 + _ ≤ _; exact Nat.le_of_eq rfl) (hb hby d5_23) (fun _ _ => ⟨rfl, rfl, (by decide : 1 + 1 ≤ _), (by decide : 4 + 8 ≤ _)⟩)
  dsimp only [Pt.U, Pt.locs, Pt.cells, Pt.slots] at X5 l5 y5 z5 st5 hQ5
  subst l5 y5 z5
  obtain ⟨b2_1_5, k2_1_5, rfl, Nq5, Kc5, P0_5, P1_5⟩ := hQ5
  have N5 := Fr.app N3 Nq5
  have ne_o0_b2_1_5 : o0 ≠ b2_1_5 := Nat.ne_of_lt (Nat.lt_of_lt_of_le fc4.lt P1_5)
  have ne_b1_b2_1_5 : b1 ≠ b2_1_5 := Nat.ne_of_lt (Nat.lt_of_lt_of_le P0_3.lt P1_5)
  have g_b2_1_5 : n0 ≤ b2_1_5 := Nat.le_trans (own_old O3) P1_5
  have sz_b2_1_5 : h0.size ≤ b2_1_5 := Nat.le_trans K3.1 P1_5
  have O5 := O3.keep Kc5 all0
  have K5 : Keep h0 T5.heap [] := K3.trans Kc5 all0
  obtain ⟨_, _, ⟨T6, L6, k6, n6⟩, -, X6, ⟨Lc6, hQ6, l6, y6, z6⟩, st6⟩ := Jvm.LawKit.callS X5 hx (y := My17) hown (mvT hZ (ww hw 77 rfl)) (mvT hZ (ww hw 78 rfl)) (mvT hZ (ww hw 22 rfl)) (mvT hZ (ww hw 79 rfl)) (by decide) (backOf (W := 0) (rm17_2 l Z a0 hw [] z_COMPACT_STRINGS b2_1_5 k2_1_5 (bb (bb (p0 >>> ((0 : Int32) &&& 31)))) (bb (bb (p0 >>> ((8 : Int32) &&& 31)))) (bb (bb (p1 >>> ((0 : Int32) &&& 31)))) (bb (bb (p1 >>> ((8 : Int32) &&& 31)))) (bb (bb (p2 >>> ((0 : Int32) &&& 31)))) (bb (bb (p2 >>> ((8 : Int32) &&& 31)))) (bb (bb (p3 >>> ((0 : Int32) &&& 31)))) (bb (bb (p3 >>> ((8 : Int32) &&& 31)))) T5.heap n0 O5 S P0_5) hZ (ww hw 79 rfl) (ww hw 22 rfl) (by decide) (by decide)) (g := (mkF m 32 #[va o0, vi 0, vi 4, va b1, vi 1, va b2_1_5] [(.int 1), (.ref b2_1_5)])) rfl (by rw [hml]; rfl) (argsL := [(.ref b2_1_5), (.int 1)]) (rest := []) (lenOf pd_5 rfl) rfl (by show 2 * 0 + _ ≤ _; exact Nat.le_of_eq rfl) (hb hby d5_32) (fun _ _ => ⟨rfl, rfl, (by decide : 2 + 0 ≤ _), (by decide : 12 + 0 ≤ _)⟩)
  dsimp only [Pt.U, Pt.locs, Pt.cells, Pt.slots] at X6 l6 y6 z6 st6 hQ6
  subst l6 y6 z6
  obtain ⟨rfl, Nq6, e6⟩ := hQ6
  have N6 := Fr.app N5 Nq6
  obtain ⟨fs, hr, hrun, hended, hW, hsame⟩ := X6.leave (v := (some (.ref b2_1_5))) (fun h => by rw [hrt] at h; cases h)
  refine ⟨_, _, ?_, hrun, hended, _, _, rfl, ?_, ⟨_, rfl⟩, hW, hsame.mono (by decide) (by decide)⟩
  · show Steps p.tables e below (s₁.setTop (mkF m 0 #[va o0, vi 0, vi 4, uu, uu, uu] [])) _
    refine XS.iloadN X0.here hx rfl (hb hby d5_0) rfl ?_
    refine st1 _ ?_
    refine XS.astoreN X1.here hx rfl (hb hby d5_3) rfl rfl (l' := #[va o0, vi 0, vi 4, va b1, uu, uu]) rfl ?_
    refine XS.aloadN X1.here hx rfl (hb hby d5_4) rfl rfl ?_
    refine XS.iloadN X1.here hx rfl (hb hby d5_5) rfl ?_
    refine XS.aloadN X1.here hx rfl (hb hby d5_6) rfl rfl ?_
    refine XS.iconst X1.here hx rfl (hb hby d5_7) ?_
    refine XS.iloadN X1.here hx rfl (hb hby d5_8) rfl ?_
    show Steps p.tables e below (T1.setTop (mkF m 9 #[va o0, vi 0, vi 4, va b1, uu, uu] [(.int 4), (.int 0), (.ref b1), (.int 0), (.ref o0)])) _
    refine st3 _ ?_
    refine XS.istore X3.here hx rfl (hb hby d5_12) rfl (l' := #[va o0, vi 0, vi 4, va b1, vi 1, uu]) rfl ?_
    refine XS.iload X3.here hx rfl (hb hby d5_14) rfl ?_
    refine XS.iloadN X3.here hx rfl (hb hby d5_16) rfl ?_
    refine XS.icmpNo X3.here hx rfl (hb hby d5_17) rfl (feq (by decide : ¬ ((1 : Int32) = (4 : Int32)))).1 ?_
    refine XS.aloadN X3.here hx rfl (hb hby d5_20) rfl rfl ?_
    refine XS.iloadN X3.here hx rfl (hb hby d5_21) rfl ?_
    refine XS.iloadN X3.here hx rfl (hb hby d5_22) rfl ?_
    show Steps p.tables e below (T3.setTop (mkF m 23 #[va o0, vi 0, vi 4, va b1, vi 1, uu] [(.int 4), (.int 0), (.ref o0)])) _
    refine st5 _ ?_
    refine XS.astore X5.here hx rfl (hb hby d5_26) rfl rfl (l' := #[va o0, vi 0, vi 4, va b1, vi 1, va b2_1_5]) rfl ?_
    refine XS.aload X5.here hx rfl (hb hby d5_28) rfl rfl ?_
    refine XS.iload X5.here hx rfl (hb hby d5_30) rfl ?_
    refine st6 _ ?_
    refine XS.sipush X6.here hx rfl (hb hby d5_35) ?_
    refine XS.icmpYes X6.here hx rfl (pc0 := 38) (pc' := 54) rfl (hb hby d5_38) rfl (tlt (own_getChar (own_fitsC V_o0 1 (by decide)) hc1)).2.2.1 (by decide) (by decide) ?_
    refine XS.aload X6.here hx rfl (hb hby d5_54) rfl rfl ?_
    show Steps p.tables e below (T6.setTop (mkF m 56 #[va o0, vi 0, vi 4, va b1, vi 1, va b2_1_5] [(.ref b2_1_5)])) _
    exact retOut X6 hx (t := (.array .byte)) (i := .areturn) hrt rfl (Or.inr (Or.inr (Or.inr (Or.inr ⟨rfl, rfl, rfl⟩)))) (hb hby d5_56) hr
  · show Q5_3 Z z_COMPACT_STRINGS o0 kk_o0 p0 p1 p2 p3 h0 n0 (some (.ref b2_1_5)) T6.heap _
    rw [e6]; exact ⟨b2_1_5, k2_1_5, rfl, N6, K5, P0_5, sz_b2_1_5⟩
def Q6_4 (Z : State) (z_COMPACT_STRINGS : Int32) (o0 : Addr) (o1 : Addr) (kk_o0 : ClassId) (kk_o1 : ClassId) (p0 : Int32) (p1 : Int32) (p2 : Int32) (p3 : Int32) (h0 : Heap) (n0 : Nat) (v : Option Value) (h : Heap) (L : List Loc) : Prop := v = (some (.int 0)) ∧ Fr n0 L ∧ h = h0
theorem rm6_4 (l : Launch) (Z : State) (a0 : Array Value) (hw : HW Z a0) (ws : List Jvm.Cond) (z_COMPACT_STRINGS : Int32) (o0 : Addr) (o1 : Addr) (kk_o0 : ClassId) (kk_o1 : ClassId) (p0 : Int32) (p1 : Int32) (p2 : Int32) (p3 : Int32) (h0 : Heap) (n0 : Nat) (O0 : Old Z n0 h0) (S : SF Z z_COMPACT_STRINGS) (V_o0 : Arv Z h0 o0 kk_o0 .char (4 : Int32) [(.int p0), (.int p1), (.int p2), (.int p3)] (.int 0)) (hc0 : (255 : Int32) < p0) :
    Pay l Z My6 ws jdk_52_method_21_code 7 (some .int) #[(.ref o0), (.int 0), (.ref o1), (.int 0), (.int 4)] h0 ({ frames := 0, cells := 0, slots := 0, locals := 0 } : Room) (Q6_4 Z z_COMPACT_STRINGS o0 o1 kk_o0 kk_o1 p0 p1 p2 p3 h0 n0) := by
  refine own_body (plainFor_of_name pn_2) (L0 := #[va o0, vi 0, va o1, vi 0, vi 4, uu, uu]) (fun _ => by first | rfl | (simp [entryFrame, mkF, argsToLocals, Value.category]; done)) ?_
  intro p e s m below meth c s₁ hrt hlk hx hby hml hZ hown0 hnm X0 e0
  have hown : s.vm.findClass sC1 = some m.cls := hown0
  have N0 := Fr.nil n0
  have K0 : Keep h0 h0 [] := Keep.refl _ _
  obtain ⟨cl1, Ar1, qk1, Sz1, Ng1, Hh1, Gg1⟩ := id V_o0
  have hin1_0 : ¬ ((0 : Int32) < 0 ∨ cl1.slots.size ≤ ((0 : Int32)).toNatClampNeg) := inb_of Sz1 ⟨by decide, by decide⟩
  obtain ⟨fs, hr, hrun, hended, hW, hsame⟩ := X0.leave (v := (some (.int 0))) (fun h => by rw [hrt] at h; cases h)
  refine ⟨_, _, ?_, hrun, hended, _, _, rfl, ?_, ⟨_, rfl⟩, hW, hsame.mono (by decide) (by decide)⟩
  · show Steps p.tables e below (s₁.setTop (mkF m 0 #[va o0, vi 0, va o1, vi 0, vi 4, uu, uu] [])) _
    refine XS.iconst X0.here hx rfl (hb hby d6_0) ?_
    refine XS.istore X0.here hx rfl (hb hby d6_1) rfl (l' := #[va o0, vi 0, va o1, vi 0, vi 4, vi 0, uu]) rfl ?_
    refine XS.iload X0.here hx rfl (hb hby d6_3) rfl ?_
    refine XS.iload X0.here hx rfl (hb hby d6_5) rfl ?_
    refine XS.icmpNo X0.here hx rfl (hb hby d6_7) rfl (tlt (by decide : (0 : Int32) < (4 : Int32))).2.1 ?_
    refine XS.aloadN X0.here hx rfl (hb hby d6_10) rfl rfl ?_
    refine XS.iloadN X0.here hx rfl (hb hby d6_11) rfl ?_
    refine X0.caload hx (j := (0 : Int32)) (v := (.int p0)) (by rw [e0]; exact Ar1.1) (State.isArrayOf_alike hZ.alike Ar1.2.1) Ar1.2.2 hin1_0 (Has.at Hh1 hin1_0 rfl) (g := (mkF m 12 #[va o0, vi 0, va o1, vi 0, vi 4, vi 0, uu] [(.int 0), (.ref o0)])) rfl rfl (hb hby d6_12) _ ?_
    show Steps p.tables e below (s₁.setTop (mkF m 13 #[va o0, vi 0, va o1, vi 0, vi 4, vi 0, uu] [(.int p0)])) _
    refine XS.istore X0.here hx rfl (hb hby d6_13) rfl (l' := #[va o0, vi 0, va o1, vi 0, vi 4, vi 0, vi p0]) rfl ?_
    refine XS.iload X0.here hx rfl (hb hby d6_15) rfl ?_
    refine XS.sipush X0.here hx rfl (hb hby d6_17) ?_
    refine XS.icmpNo X0.here hx rfl (hb hby d6_20) rfl (tlt hc0).2.2.2 ?_
    refine XS.iload X0.here hx rfl (hb hby d6_23) rfl ?_
    exact retOut X0 hx (t := .int) (i := .ireturn) hrt rfl (Or.inl ⟨rfl, Or.inl rfl, _, rfl⟩) (hb hby d6_25) hr
  · show Q6_4 Z z_COMPACT_STRINGS o0 o1 kk_o0 kk_o1 p0 p1 p2 p3 h0 n0 (some (.int 0)) s₁.heap _
    exact (⟨rfl, N0, e0⟩)
def Q17_3 (Z : State) (z_COMPACT_STRINGS : Int32) (o0 : Addr) (kk_o0 : ClassId) (p0 : Int32) (p1 : Int32) (p2 : Int32) (p3 : Int32) (p4 : Int32) (p5 : Int32) (p6 : Int32) (p7 : Int32) (h0 : Heap) (n0 : Nat) (v : Option Value) (h : Heap) (L : List Loc) : Prop := v = (some (.int (cc (cc (((p0 &&& (255 : Int32)) <<< ((0 : Int32) &&& 31)) ||| ((p1 &&& (255 : Int32)) <<< ((8 : Int32) &&& 31))))))) ∧ Fr n0 L ∧ h = h0
theorem rm17_3 (l : Launch) (Z : State) (a0 : Array Value) (hw : HW Z a0) (ws : List Jvm.Cond) (z_COMPACT_STRINGS : Int32) (o0 : Addr) (kk_o0 : ClassId) (p0 : Int32) (p1 : Int32) (p2 : Int32) (p3 : Int32) (p4 : Int32) (p5 : Int32) (p6 : Int32) (p7 : Int32) (h0 : Heap) (n0 : Nat) (O0 : Old Z n0 h0) (S : SF Z z_COMPACT_STRINGS) (V_o0 : Arv Z h0 o0 kk_o0 .byte (8 : Int32) [(.int p0), (.int p1), (.int p2), (.int p3), (.int p4), (.int p5), (.int p6), (.int p7)] (.int 0)) :
    Pay l Z My17 ws jdk_52_method_5_code 2 (some .char) #[(.ref o0), (.int 0)] h0 ({ frames := 0, cells := 0, slots := 0, locals := 0 } : Room) (Q17_3 Z z_COMPACT_STRINGS o0 kk_o0 p0 p1 p2 p3 p4 p5 p6 p7 h0 n0) := by
  obtain ⟨-, -, S_StringUTF16__assertionsDisabled, S_StringUTF16_HI_BYTE_SHIFT, S_StringUTF16_LO_BYTE_SHIFT, -⟩ := id S
  refine own_body (plainFor_of_name pn_2) (L0 := #[va o0, vi 0]) (fun _ => by first | rfl | (simp [entryFrame, mkF, argsToLocals, Value.category]; done)) ?_
  intro p e s m below meth c s₁ hrt hlk hx hby hml hZ hown0 hnm X0 e0
  have hown : s.vm.findClass sC1 = some m.cls := hown0
  have N0 := Fr.nil n0
  have K0 : Keep h0 h0 [] := Keep.refl _ _
  obtain ⟨T1, X1, e1, st1⟩ := getS2 X0 hx hZ hown (host := "") (Or.inl (ww hw 74 rfl)) Via.refl e0 (S_StringUTF16__assertionsDisabled.ext O0.2) (g := (mkF m 0 #[va o0, vi 0] [])) rfl (hb hby d17_0)
  obtain ⟨cl2, Ar2, qk2, Sz2, Ng2, Hh2, Gg2⟩ := id V_o0
  have hin2_0 : ¬ ((0 : Int32) < 0 ∨ cl2.slots.size ≤ ((0 : Int32)).toNatClampNeg) := inb_of Sz2 ⟨by decide, by decide⟩
  obtain ⟨T3, X3, e3, st3⟩ := getS2 X1 hx hZ hown (host := "") (Or.inl (ww hw 75 rfl)) Via.refl e1 (S_StringUTF16_HI_BYTE_SHIFT.ext O0.2) (g := (mkF m 42 #[va o0, vi 1] [(.int (p0 &&& (255 : Int32)))])) rfl (hb hby d17_42)
  have hin2_1 : ¬ ((1 : Int32) < 0 ∨ cl2.slots.size ≤ ((1 : Int32)).toNatClampNeg) := inb_of Sz2 ⟨by decide, by decide⟩
  obtain ⟨T4, X4, e4, st4⟩ := getS2 X3 hx hZ hown (host := "") (Or.inl (ww hw 76 rfl)) Via.refl e3 (S_StringUTF16_LO_BYTE_SHIFT.ext O0.2) (g := (mkF m 53 #[va o0, vi 1] [(.int (p1 &&& (255 : Int32))), (.int ((p0 &&& (255 : Int32)) <<< ((0 : Int32) &&& 31)))])) rfl (hb hby d17_53)
  obtain ⟨fs, hr, hrun, hended, hW, hsame⟩ := X4.leave (v := (some (.int (cc (cc (((p0 &&& (255 : Int32)) <<< ((0 : Int32) &&& 31)) ||| ((p1 &&& (255 : Int32)) <<< ((8 : Int32) &&& 31)))))))) (fun h => by rw [hrt] at h; cases h)
  refine ⟨_, _, ?_, hrun, hended, _, _, rfl, ?_, ⟨_, rfl⟩, hW, hsame.mono (by decide) (by decide)⟩
  · show Steps p.tables e below (s₁.setTop (mkF m 0 #[va o0, vi 0] [])) _
    refine st1 _ ?_
    refine XS.ifYes X1.here hx rfl (pc0 := 3) (pc' := 28) rfl (hb hby d17_3) rfl ((if0 _ _).trans (feq (by decide : ¬ ((1 : Int32) = (0 : Int32)))).2) (by decide) (by decide) ?_
    refine XS.iloadN X1.here hx rfl (hb hby d17_28) rfl ?_
    refine XS.iconst X1.here hx rfl (hb hby d17_29) ?_
    refine XS.ishl X1.here hx rfl (hb hby d17_30) rfl ?_
    show Steps p.tables e below (T1.setTop (mkF m 31 #[va o0, vi 0] [(.int ((0 : Int32) <<< ((1 : Int32) &&& 31)))])) _
    rw [show (((0 : Int32) <<< ((1 : Int32) &&& 31)) : Int32) = (0 : Int32) from by decide]
    refine XS.istoreN X1.here hx rfl (hb hby d17_31) rfl (l' := #[va o0, vi 0]) rfl ?_
    refine XS.aloadN X1.here hx rfl (hb hby d17_32) rfl rfl ?_
    refine XS.iloadN X1.here hx rfl (hb hby d17_33) rfl ?_
    refine XS.iinc X1.here hx rfl (hb hby d17_34) rfl (l' := #[va o0, vi ((0 : Int32) + (1 : Int32))]) rfl ?_
    show Steps p.tables e below (T1.setTop (mkF m 37 #[va o0, vi ((0 : Int32) + (1 : Int32))] [(.int 0), (.ref o0)])) _
    rw [show (((0 : Int32) + (1 : Int32)) : Int32) = (1 : Int32) from by decide]
    refine X1.baloadBytes hx (j := (0 : Int32)) (v := (.int p0)) (by rw [e1]; exact Ar2.1) (State.isArrayOf_alike hZ.alike Ar2.2.1) Ar2.2.2 hin2_0 (Has.at Hh2 hin2_0 rfl) (g := (mkF m 37 #[va o0, vi 1] [(.int 0), (.ref o0)])) rfl rfl (hb hby d17_37) _ ?_
    refine XS.sipush X1.here hx rfl (hb hby d17_38) ?_
    refine XS.iand X1.here hx rfl (hb hby d17_41) rfl ?_
    refine st3 _ ?_
    refine XS.ishl X3.here hx rfl (hb hby d17_45) rfl ?_
    refine XS.aloadN X3.here hx rfl (hb hby d17_46) rfl rfl ?_
    refine XS.iloadN X3.here hx rfl (hb hby d17_47) rfl ?_
    show Steps p.tables e below (T3.setTop (mkF m 48 #[va o0, vi 1] [(.int 1), (.ref o0), (.int ((p0 &&& (255 : Int32)) <<< ((0 : Int32) &&& 31)))])) _
    refine X3.baloadBytes hx (j := (1 : Int32)) (v := (.int p1)) (by rw [e3]; exact Ar2.1) (State.isArrayOf_alike hZ.alike Ar2.2.1) Ar2.2.2 hin2_1 (Has.at Hh2 hin2_1 rfl) (g := (mkF m 48 #[va o0, vi 1] [(.int 1), (.ref o0), (.int ((p0 &&& (255 : Int32)) <<< ((0 : Int32) &&& 31)))])) rfl rfl (hb hby d17_48) _ ?_
    refine XS.sipush X3.here hx rfl (hb hby d17_49) ?_
    refine XS.iand X3.here hx rfl (hb hby d17_52) rfl ?_
    refine st4 _ ?_
    refine XS.ishl X4.here hx rfl (hb hby d17_56) rfl ?_
    refine XS.ior X4.here hx rfl (hb hby d17_57) rfl ?_
    refine XS.i2c X4.here hx rfl (hb hby d17_58) rfl ?_
    exact retN X4 hx (t := .char) hrt (by simp) (hb hby d17_59) hr
  · show Q17_3 Z z_COMPACT_STRINGS o0 kk_o0 p0 p1 p2 p3 p4 p5 p6 p7 h0 n0 (some (.int (cc (cc (((p0 &&& (255 : Int32)) <<< ((0 : Int32) &&& 31)) ||| ((p1 &&& (255 : Int32)) <<< ((8 : Int32) &&& 31))))))) T4.heap _
    exact (⟨rfl, N0, e4⟩)
def Q5_4 (Z : State) (z_COMPACT_STRINGS : Int32) (o0 : Addr) (kk_o0 : ClassId) (p0 : Int32) (p1 : Int32) (p2 : Int32) (p3 : Int32) (h0 : Heap) (n0 : Nat) (v : Option Value) (h : Heap) (L : List Loc) : Prop := ∃ (b2_1_4 : Addr), ∃ (k2_1_4 : ClassId), v = (some (.ref b2_1_4)) ∧ Fr n0 L ∧ Keep h0 h [] ∧ Arv Z h b2_1_4 k2_1_4 .byte (8 : Int32) [(.int (bb (bb (p0 >>> ((0 : Int32) &&& 31))))), (.int (bb (bb (p0 >>> ((8 : Int32) &&& 31))))), (.int (bb (bb (p1 >>> ((0 : Int32) &&& 31))))), (.int (bb (bb (p1 >>> ((8 : Int32) &&& 31))))), (.int (bb (bb (p2 >>> ((0 : Int32) &&& 31))))), (.int (bb (bb (p2 >>> ((8 : Int32) &&& 31))))), (.int (bb (bb (p3 >>> ((0 : Int32) &&& 31))))), (.int (bb (bb (p3 >>> ((8 : Int32) &&& 31)))))] (.int 0) ∧ h0.size ≤ b2_1_4
theorem rm5_4 (l : Launch) (Z : State) (a0 : Array Value) (hw : HW Z a0) (ws : List Jvm.Cond) (z_COMPACT_STRINGS : Int32) (o0 : Addr) (kk_o0 : ClassId) (p0 : Int32) (p1 : Int32) (p2 : Int32) (p3 : Int32) (h0 : Heap) (n0 : Nat) (O0 : Old Z n0 h0) (S : SF Z z_COMPACT_STRINGS) (V_o0 : Arv Z h0 o0 kk_o0 .char (4 : Int32) [(.int p0), (.int p1), (.int p2), (.int p3)] (.int 0)) (hc0 : (255 : Int32) < p0) :
    Pay l Z My5 ws jdk_52_method_16_code 6 (some (.array .byte)) #[(.ref o0), (.int 0), (.int 4)] h0 ({ frames := 3, cells := 2, slots := 12, locals := 40 } : Room) (Q5_4 Z z_COMPACT_STRINGS o0 kk_o0 p0 p1 p2 p3 h0 n0) := by
  refine own_body (plainFor_of_name pn_2) (L0 := #[va o0, vi 0, vi 4, uu, uu, uu]) (fun _ => by first | rfl | (simp [entryFrame, mkF, argsToLocals, Value.category]; done)) ?_
  intro p e s m below meth c s₁ hrt hlk hx hby hml hZ hown0 hnm X0 e0
  have hown : s.vm.findClass sC1 = some m.cls := hown0
  have N0 := Fr.nil n0
  have K0 : Keep h0 h0 [] := Keep.refl _ _
  obtain ⟨T1, h1, k1, X1, e1, E1, A1, st1⟩ := newP X0 hx hZ (ww hw 24 rfl) e0 (g := (mkF m 1 #[va o0, vi 0, vi 4, uu, uu, uu] [(.int 4)])) rfl (hb hby d5_1) rfl (by decide) (cap := 4) (by decide) (by decide) (by decide) (by decide)
  obtain ⟨b1, qs1⟩ : ∃ z, z = h0.size := ⟨_, rfl⟩
  rw [← qs1] at A1 st1
  have ne_o0_b1 : o0 ≠ b1 := Nat.ne_of_lt (Nat.lt_of_lt_of_le V_o0.lt (Nat.le_of_eq qs1.symm))
  have g_b1 : n0 ≤ b1 := Nat.le_trans (own_old O0) (Nat.le_of_eq qs1.symm)
  have sz_b1 : h0.size ≤ b1 := Nat.le_trans K0.1 (Nat.le_of_eq qs1.symm)
  have O1 := O0.ext E1
  have K1 : Keep h0 h1 [] := K0.ext E1
  have V_b1 : Arv Z h1 b1 k1 .byte (4 : Int32) [(.int 0), (.int 0), (.int 0), (.int 0)] (.int 0) := (Arv.new A1 (by decide)).pad (pad_rep [] (.int 0) 4)
  have fc2 := (V_o0.ext E1)
  obtain ⟨_, _, ⟨T3, L3, k3, n3⟩, -, X3, ⟨Lc3, hQ3, l3, y3, z3⟩, st3⟩ := Jvm.LawKit.callS X1 hx (y := My6) hown (mvT hZ (ww hw 25 rfl)) (mvT hZ (ww hw 26 rfl)) (mvT hZ (ww hw 22 rfl)) (mvT hZ (ww hw 27 rfl)) (by decide) (backOf (W := 0) (rm6_4 l Z a0 hw [] z_COMPACT_STRINGS o0 b1 kk_o0 k1 p0 p1 p2 p3 h1 n0 O1 S fc2 hc0) hZ (ww hw 27 rfl) (ww hw 22 rfl) (by decide) (by decide)) (g := (mkF m 9 #[va o0, vi 0, vi 4, va b1, uu, uu] [(.int 4), (.int 0), (.ref b1), (.int 0), (.ref o0)])) rfl (by rw [hml]; rfl) (argsL := [(.ref o0), (.int 0), (.ref b1), (.int 0), (.int 4)]) (rest := []) (lenOf pd_0 rfl) rfl (by show 2 * 0 + _ ≤ _; exact Nat.le_of_eq rfl) (hb hby d5_9) (fun _ _ => ⟨rfl, e1, (by decide : 1 + 0 ≤ _), (by decide : 4 + 0 ≤ _)⟩)
  dsimp only [Pt.U, Pt.locs, Pt.cells, Pt.slots] at X3 l3 y3 z3 st3 hQ3
  subst l3 y3 z3
  obtain ⟨rfl, Nq3, e3⟩ := hQ3
  have N3 := Fr.app N0 Nq3
  obtain ⟨_, _, ⟨T4, L4, k4, n4⟩, -, X4, ⟨Lc4, hQ4, l4, y4, z4⟩, st4⟩ := Jvm.LawKit.callS X3 hx (y := My13) hown (mvT hZ (ww hw 61 rfl)) (mvT hZ (ww hw 62 rfl)) (mvT hZ (ww hw 22 rfl)) (mvT hZ (ww hw 63 rfl)) (by decide) (backOf (W := 0) (rm13_0 l Z a0 hw [] z_COMPACT_STRINGS o0 kk_o0 p0 p1 p2 p3 h1 n0 O1 S fc2) hZ (ww hw 63 rfl) (ww hw 22 rfl) (by decide) (by decide)) (g := (mkF m 23 #[va o0, vi 0, vi 4, va b1, vi 0, uu] [(.int 4), (.int 0), (.ref o0)])) rfl (by rw [hml]; rfl) (argsL := [(.ref o0), (.int 0), (.int 4)]) (rest := []) (lenOf pd_4 rfl) rfl (by show 2 * 0 + _ ≤ _; exact Nat.le_of_eq rfl) (hb hby d5_23) (fun _ _ => ⟨rfl, e3, (by decide : 1 + 1 ≤ _), (by decide : 4 + 8 ≤ _)⟩)
  dsimp only [Pt.U, Pt.locs, Pt.cells, Pt.slots] at X4 l4 y4 z4 st4 hQ4
  subst l4 y4 z4
  obtain ⟨b2_1_4, k2_1_4, rfl, Nq4, Kc4, P0_4, P1_4⟩ := hQ4
  have N4 := Fr.app N3 Nq4
  have ne_o0_b2_1_4 : o0 ≠ b2_1_4 := Nat.ne_of_lt (Nat.lt_of_lt_of_le fc2.lt P1_4)
  have ne_b1_b2_1_4 : b1 ≠ b2_1_4 := Nat.ne_of_lt (Nat.lt_of_lt_of_le V_b1.lt P1_4)
  have g_b2_1_4 : n0 ≤ b2_1_4 := Nat.le_trans (own_old O1) P1_4
  have sz_b2_1_4 : h0.size ≤ b2_1_4 := Nat.le_trans K1.1 P1_4
  have O4 := O1.keep Kc4 all0
  have K4 : Keep h0 T4.heap [] := K1.trans Kc4 all0
  obtain ⟨_, _, ⟨T5, L5, k5, n5⟩, -, X5, ⟨Lc5, hQ5, l5, y5, z5⟩, st5⟩ := Jvm.LawKit.callS X4 hx (y := My17) hown (mvT hZ (ww hw 77 rfl)) (mvT hZ (ww hw 78 rfl)) (mvT hZ (ww hw 22 rfl)) (mvT hZ (ww hw 79 rfl)) (by decide) (backOf (W := 0) (rm17_3 l Z a0 hw [] z_COMPACT_STRINGS b2_1_4 k2_1_4 (bb (bb (p0 >>> ((0 : Int32) &&& 31)))) (bb (bb (p0 >>> ((8 : Int32) &&& 31)))) (bb (bb (p1 >>> ((0 : Int32) &&& 31)))) (bb (bb (p1 >>> ((8 : Int32) &&& 31)))) (bb (bb (p2 >>> ((0 : Int32) &&& 31)))) (bb (bb (p2 >>> ((8 : Int32) &&& 31)))) (bb (bb (p3 >>> ((0 : Int32) &&& 31)))) (bb (bb (p3 >>> ((8 : Int32) &&& 31)))) T4.heap n0 O4 S P0_4) hZ (ww hw 79 rfl) (ww hw 22 rfl) (by decide) (by decide)) (g := (mkF m 32 #[va o0, vi 0, vi 4, va b1, vi 0, va b2_1_4] [(.int 0), (.ref b2_1_4)])) rfl (by rw [hml]; rfl) (argsL := [(.ref b2_1_4), (.int 0)]) (rest := []) (lenOf pd_5 rfl) rfl (by show 2 * 0 + _ ≤ _; exact Nat.le_of_eq rfl) (hb hby d5_32) (fun _ _ => ⟨rfl, rfl, (by decide : 2 + 0 ≤ _), (by decide : 12 + 0 ≤ _)⟩)
  dsimp only [Pt.U, Pt.locs, Pt.cells, Pt.slots] at X5 l5 y5 z5 st5 hQ5
  subst l5 y5 z5
  obtain ⟨rfl, Nq5, e5⟩ := hQ5
  have N5 := Fr.app N4 Nq5
  obtain ⟨fs, hr, hrun, hended, hW, hsame⟩ := X5.leave (v := (some (.ref b2_1_4))) (fun h => by rw [hrt] at h; cases h)
  refine ⟨_, _, ?_, hrun, hended, _, _, rfl, ?_, ⟨_, rfl⟩, hW, hsame.mono (by decide) (by decide)⟩
  · show Steps p.tables e below (s₁.setTop (mkF m 0 #[va o0, vi 0, vi 4, uu, uu, uu] [])) _
    refine XS.iloadN X0.here hx rfl (hb hby d5_0) rfl ?_
    refine st1 _ ?_
    refine XS.astoreN X1.here hx rfl (hb hby d5_3) rfl rfl (l' := #[va o0, vi 0, vi 4, va b1, uu, uu]) rfl ?_
    refine XS.aloadN X1.here hx rfl (hb hby d5_4) rfl rfl ?_
    refine XS.iloadN X1.here hx rfl (hb hby d5_5) rfl ?_
    refine XS.aloadN X1.here hx rfl (hb hby d5_6) rfl rfl ?_
    refine XS.iconst X1.here hx rfl (hb hby d5_7) ?_
    refine XS.iloadN X1.here hx rfl (hb hby d5_8) rfl ?_
    show Steps p.tables e below (T1.setTop (mkF m 9 #[va o0, vi 0, vi 4, va b1, uu, uu] [(.int 4), (.int 0), (.ref b1), (.int 0), (.ref o0)])) _
    refine st3 _ ?_
    refine XS.istore X3.here hx rfl (hb hby d5_12) rfl (l' := #[va o0, vi 0, vi 4, va b1, vi 0, uu]) rfl ?_
    refine XS.iload X3.here hx rfl (hb hby d5_14) rfl ?_
    refine XS.iloadN X3.here hx rfl (hb hby d5_16) rfl ?_
    refine XS.icmpNo X3.here hx rfl (hb hby d5_17) rfl (feq (by decide : ¬ ((0 : Int32) = (4 : Int32)))).1 ?_
    refine XS.aloadN X3.here hx rfl (hb hby d5_20) rfl rfl ?_
    refine XS.iloadN X3.here hx rfl (hb hby d5_21) rfl ?_
    refine XS.iloadN X3.here hx rfl (hb hby d5_22) rfl ?_
    show Steps p.tables e below (T3.setTop (mkF m 23 #[va o0, vi 0, vi 4, va b1, vi 0, uu] [(.int 4), (.int 0), (.ref o0)])) _
    refine st4 _ ?_
    refine XS.astore X4.here hx rfl (hb hby d5_26) rfl rfl (l' := #[va o0, vi 0, vi 4, va b1, vi 0, va b2_1_4]) rfl ?_
    refine XS.aload X4.here hx rfl (hb hby d5_28) rfl rfl ?_
    refine XS.iload X4.here hx rfl (hb hby d5_30) rfl ?_
    refine st5 _ ?_
    refine XS.sipush X5.here hx rfl (hb hby d5_35) ?_
    refine XS.icmpYes X5.here hx rfl (pc0 := 38) (pc' := 54) rfl (hb hby d5_38) rfl (tlt (own_getChar (own_fitsC V_o0 0 (by decide)) hc0)).2.2.1 (by decide) (by decide) ?_
    refine XS.aload X5.here hx rfl (hb hby d5_54) rfl rfl ?_
    show Steps p.tables e below (T5.setTop (mkF m 56 #[va o0, vi 0, vi 4, va b1, vi 0, va b2_1_4] [(.ref b2_1_4)])) _
    exact retOut X5 hx (t := (.array .byte)) (i := .areturn) hrt rfl (Or.inr (Or.inr (Or.inr (Or.inr ⟨rfl, rfl, rfl⟩)))) (hb hby d5_56) hr
  · show Q5_4 Z z_COMPACT_STRINGS o0 kk_o0 p0 p1 p2 p3 h0 n0 (some (.ref b2_1_4)) T5.heap _
    rw [e5]; exact ⟨b2_1_4, k2_1_4, rfl, N5, K4, P0_4, sz_b2_1_4⟩
def gp0 (p0 : Int32) (p1 : Int32) (p2 : Int32) (p3 : Int32) : Prop := ((¬ ((255 : Int32) < p0)) ∧ (¬ ((255 : Int32) < p1)) ∧ (¬ ((255 : Int32) < p2)) ∧ (¬ ((255 : Int32) < p3)))
def Qg0_0 (Z : State) (z_COMPACT_STRINGS : Int32) (o0 : Addr) (kk_o0 : ClassId) (p0 : Int32) (p1 : Int32) (p2 : Int32) (p3 : Int32) (h0 : Heap) (n0 : Nat) (v : Option Value) (h : Heap) (L : List Loc) : Prop := ∃ (b1 : Addr), ∃ (k1 : ClassId), ∃ (ce0 : Int32), ∃ (ce1 : Int32), ∃ (ce2 : Int32), ∃ (ce3 : Int32), v = (some (.ref b1)) ∧ Fr n0 L ∧ Keep h0 h [] ∧ Arv Z h b1 k1 .byte (4 : Int32) [(.int ce0), (.int ce1), (.int ce2), (.int ce3)] (.int 0) ∧ h0.size ≤ b1
theorem gm0_0 (l : Launch) (Z : State) (a0 : Array Value) (hw : HW Z a0) (ws : List Jvm.Cond) (z_COMPACT_STRINGS : Int32) (o0 : Addr) (kk_o0 : ClassId) (p0 : Int32) (p1 : Int32) (p2 : Int32) (p3 : Int32) (h0 : Heap) (n0 : Nat) (O0 : Old Z n0 h0) (S : SF Z z_COMPACT_STRINGS) (V_o0 : Arv Z h0 o0 kk_o0 .char (4 : Int32) [(.int p0), (.int p1), (.int p2), (.int p3)] (.int 0)) (hP : gp0 p0 p1 p2 p3) :
    Pay l Z My5 ws jdk_52_method_16_code 6 (some (.array .byte)) #[(.ref o0), (.int 0), (.int 4)] h0 ({ frames := 1, cells := 1, slots := 4, locals := 18 } : Room) (Qg0_0 Z z_COMPACT_STRINGS o0 kk_o0 p0 p1 p2 p3 h0 n0) := by
  by_cases hm0 : (255 : Int32) < p0
  · exact absurd hP (by simp [gp0, hm0])
  · by_cases hm1 : (255 : Int32) < p1
    · exact absurd hP (by simp [gp0, hm0, hm1])
    · by_cases hm2 : (255 : Int32) < p2
      · exact absurd hP (by simp [gp0, hm0, hm1, hm2])
      · by_cases hm3 : (255 : Int32) < p3
        · exact absurd hP (by simp [gp0, hm0, hm1, hm2, hm3])
        · refine MetFree.mono (rm5_0 l Z a0 hw ws z_COMPACT_STRINGS o0 kk_o0 p0 p1 p2 p3 h0 n0 O0 S V_o0 hm0 hm1 hm2 hm3) (fun _ _ q => q) (fun _ _ _ _ _ q => q) ?_
          rintro _ U o U' - ⟨v, L, rfl, ⟨f0, k0, rfl, N, K, r0, r1⟩, fe⟩
          exact ⟨_, L, rfl, ⟨f0, k0, _, _, _, _, rfl, N, K, r0, r1⟩, fe⟩
def Qg0_1 (Z : State) (z_COMPACT_STRINGS : Int32) (o0 : Addr) (kk_o0 : ClassId) (p0 : Int32) (p1 : Int32) (p2 : Int32) (p3 : Int32) (h0 : Heap) (n0 : Nat) (v : Option Value) (h : Heap) (L : List Loc) : Prop := ∃ (b2_1_5 : Addr), ∃ (k2_1_5 : ClassId), ∃ (ce0 : Int32), ∃ (ce1 : Int32), ∃ (ce2 : Int32), ∃ (ce3 : Int32), ∃ (ce4 : Int32), ∃ (ce5 : Int32), ∃ (ce6 : Int32), ∃ (ce7 : Int32), v = (some (.ref b2_1_5)) ∧ Fr n0 L ∧ Keep h0 h [] ∧ Arv Z h b2_1_5 k2_1_5 .byte (8 : Int32) [(.int ce0), (.int ce1), (.int ce2), (.int ce3), (.int ce4), (.int ce5), (.int ce6), (.int ce7)] (.int 0) ∧ h0.size ≤ b2_1_5
theorem gm0_1 (l : Launch) (Z : State) (a0 : Array Value) (hw : HW Z a0) (ws : List Jvm.Cond) (z_COMPACT_STRINGS : Int32) (o0 : Addr) (kk_o0 : ClassId) (p0 : Int32) (p1 : Int32) (p2 : Int32) (p3 : Int32) (h0 : Heap) (n0 : Nat) (O0 : Old Z n0 h0) (S : SF Z z_COMPACT_STRINGS) (V_o0 : Arv Z h0 o0 kk_o0 .char (4 : Int32) [(.int p0), (.int p1), (.int p2), (.int p3)] (.int 0)) (hP : ¬ (gp0 p0 p1 p2 p3)) :
    Pay l Z My5 ws jdk_52_method_16_code 6 (some (.array .byte)) #[(.ref o0), (.int 0), (.int 4)] h0 ({ frames := 3, cells := 2, slots := 12, locals := 40 } : Room) (Qg0_1 Z z_COMPACT_STRINGS o0 kk_o0 p0 p1 p2 p3 h0 n0) := by
  by_cases hm0 : (255 : Int32) < p0
  · refine MetFree.mono (rm5_4 l Z a0 hw ws z_COMPACT_STRINGS o0 kk_o0 p0 p1 p2 p3 h0 n0 O0 S V_o0 hm0) (fun _ _ q => q) (fun _ _ _ _ _ q => q) ?_
    rintro _ U o U' - ⟨v, L, rfl, ⟨f0, k0, rfl, N, K, r0, r1⟩, fe⟩
    exact ⟨_, L, rfl, ⟨f0, k0, _, _, _, _, _, _, _, _, rfl, N, K, r0, r1⟩, fe⟩
  · by_cases hm1 : (255 : Int32) < p1
    · refine MetFree.mono (rm5_3 l Z a0 hw ws z_COMPACT_STRINGS o0 kk_o0 p0 p1 p2 p3 h0 n0 O0 S V_o0 hm0 hm1) (fun _ _ q => q) (fun _ _ _ _ _ q => q) ?_
      rintro _ U o U' - ⟨v, L, rfl, ⟨f0, k0, rfl, N, K, r0, r1⟩, fe⟩
      exact ⟨_, L, rfl, ⟨f0, k0, _, _, _, _, _, _, _, _, rfl, N, K, r0, r1⟩, fe⟩
    · by_cases hm2 : (255 : Int32) < p2
      · refine MetFree.mono (rm5_2 l Z a0 hw ws z_COMPACT_STRINGS o0 kk_o0 p0 p1 p2 p3 h0 n0 O0 S V_o0 hm0 hm1 hm2) (fun _ _ q => q) (fun _ _ _ _ _ q => q) ?_
        rintro _ U o U' - ⟨v, L, rfl, ⟨f0, k0, rfl, N, K, r0, r1⟩, fe⟩
        exact ⟨_, L, rfl, ⟨f0, k0, _, _, _, _, _, _, _, _, rfl, N, K, r0, r1⟩, fe⟩
      · by_cases hm3 : (255 : Int32) < p3
        · refine MetFree.mono (rm5_1 l Z a0 hw ws z_COMPACT_STRINGS o0 kk_o0 p0 p1 p2 p3 h0 n0 O0 S V_o0 hm0 hm1 hm2 hm3) (fun _ _ q => q) (fun _ _ _ _ _ q => q) ?_
          rintro _ U o U' - ⟨v, L, rfl, ⟨f0, k0, rfl, N, K, r0, r1⟩, fe⟩
          exact ⟨_, L, rfl, ⟨f0, k0, _, _, _, _, _, _, _, _, rfl, N, K, r0, r1⟩, fe⟩
        · exact absurd (by simp [gp0, hm0, hm1, hm2, hm3]) hP
theorem d3_39 : decode jdk_42_method_149_code 39 = .ok (.astore 5, 2) := by decide +kernel
theorem d3_41 : decode jdk_42_method_149_code 41 = .ok (.aload_n 0, 1) := by decide +kernel
theorem d3_42 : decode jdk_42_method_149_code 42 = .ok (.aload 5, 2) := by decide +kernel
theorem d3_44 : decode jdk_42_method_149_code 44 = .ok (.iload_n 3, 1) := by decide +kernel
theorem d3_45 : decode jdk_42_method_149_code 45 = .ok (.invokestatic 47, 3) := by decide +kernel
theorem d7_0 : decode jdk_52_method_15_code 0 = .ok (.iload_n 1, 1) := by decide +kernel
theorem d7_1 : decode jdk_52_method_15_code 1 = .ok (.aload_n 0, 1) := by decide +kernel
theorem d7_2 : decode jdk_52_method_15_code 2 = .ok (.arraylength, 1) := by decide +kernel
theorem d7_3 : decode jdk_52_method_15_code 3 = .ok (.isub, 1) := by decide +kernel
theorem d7_4 : decode jdk_52_method_15_code 4 = .ok (.bipush 31, 2) := by decide +kernel
theorem d7_6 : decode jdk_52_method_15_code 6 = .ok (.iushr, 1) := by decide +kernel
theorem d7_7 : decode jdk_52_method_15_code 7 = .ok (.i2b, 1) := by decide +kernel
theorem d7_8 : decode jdk_52_method_15_code 8 = .ok (.ireturn, 1) := by decide +kernel
def Q7_0 (Z : State) (z_COMPACT_STRINGS : Int32) (o0 : Addr) (kk_o0 : ClassId) (p0 : Int32) (p1 : Int32) (p2 : Int32) (p3 : Int32) (p4 : Int32) (p5 : Int32) (p6 : Int32) (p7 : Int32) (h0 : Heap) (n0 : Nat) (v : Option Value) (h : Heap) (L : List Loc) : Prop := v = (some (.int 1)) ∧ Fr n0 L ∧ h = h0
theorem rm7_0 (l : Launch) (Z : State) (a0 : Array Value) (hw : HW Z a0) (ws : List Jvm.Cond) (z_COMPACT_STRINGS : Int32) (o0 : Addr) (kk_o0 : ClassId) (p0 : Int32) (p1 : Int32) (p2 : Int32) (p3 : Int32) (p4 : Int32) (p5 : Int32) (p6 : Int32) (p7 : Int32) (h0 : Heap) (n0 : Nat) (O0 : Old Z n0 h0) (S : SF Z z_COMPACT_STRINGS) (V_o0 : Arv Z h0 o0 kk_o0 .byte (8 : Int32) [(.int p0), (.int p1), (.int p2), (.int p3), (.int p4), (.int p5), (.int p6), (.int p7)] (.int 0)) :
    Pay l Z My7 ws jdk_52_method_15_code 2 (some .byte) #[(.ref o0), (.int 4)] h0 ({ frames := 0, cells := 0, slots := 0, locals := 0 } : Room) (Q7_0 Z z_COMPACT_STRINGS o0 kk_o0 p0 p1 p2 p3 p4 p5 p6 p7 h0 n0) := by
  refine own_body (plainFor_of_name pn_2) (L0 := #[va o0, vi 4]) (fun _ => by first | rfl | (simp [entryFrame, mkF, argsToLocals, Value.category]; done)) ?_
  intro p e s m below meth c s₁ hrt hlk hx hby hml hZ hown0 hnm X0 e0
  have hown : s.vm.findClass sC1 = some m.cls := hown0
  have N0 := Fr.nil n0
  have K0 : Keep h0 h0 [] := Keep.refl _ _
  obtain ⟨cl1, Ar1, qk1, Sz1, Ng1, Hh1, Gg1⟩ := id V_o0
  obtain ⟨fs, hr, hrun, hended, hW, hsame⟩ := X0.leave (v := (some (.int 1))) (fun h => by rw [hrt] at h; cases h)
  refine ⟨_, _, ?_, hrun, hended, _, _, rfl, ?_, ⟨_, rfl⟩, hW, hsame.mono (by decide) (by decide)⟩
  · show Steps p.tables e below (s₁.setTop (mkF m 0 #[va o0, vi 4] [])) _
    refine XS.iloadN X0.here hx rfl (hb hby d7_0) rfl ?_
    refine XS.aloadN X0.here hx rfl (hb hby d7_1) rfl rfl ?_
    refine X0.arraylength hx (by rw [e0]; exact Ar1.1) (State.isArrayOf_alike hZ.alike Ar1.2.1) (g := (mkF m 2 #[va o0, vi 4] [(.ref o0), (.int 4)])) rfl rfl (hb hby d7_2) _ ?_
    rw [len_of Sz1 Ng1]
    refine XS.isub X0.here hx rfl (hb hby d7_3) rfl ?_
    show Steps p.tables e below (s₁.setTop (mkF m 4 #[va o0, vi 4] [(.int ((4 : Int32) - (8 : Int32)))])) _
    rw [show (((4 : Int32) - (8 : Int32)) : Int32) = (-4 : Int32) from by decide]
    refine XS.bipush X0.here hx rfl (hb hby d7_4) ?_
    refine XS.iushr X0.here hx rfl (hb hby d7_6) rfl ?_
    show Steps p.tables e below (s₁.setTop (mkF m 7 #[va o0, vi 4] [(.int (((-4 : Int32).toUInt32 >>> ((31 : Int32) &&& 31).toUInt32).toInt32))])) _
    rw [show ((((-4 : Int32).toUInt32 >>> ((31 : Int32) &&& 31).toUInt32).toInt32) : Int32) = (1 : Int32) from by decide]
    refine XS.i2b X0.here hx rfl (hb hby d7_7) rfl ?_
    show Steps p.tables e below (s₁.setTop (mkF m 8 #[va o0, vi 4] [(.int (bb (1 : Int32)))])) _
    rw [show ((bb (1 : Int32)) : Int32) = (1 : Int32) from by decide]
    exact retN X0 hx (t := .byte) hrt (by simp) (hb hby d7_8) hr
  · show Q7_0 Z z_COMPACT_STRINGS o0 kk_o0 p0 p1 p2 p3 p4 p5 p6 p7 h0 n0 (some (.int 1)) s₁.heap _
    exact (⟨rfl, N0, e0⟩)
theorem pd_6 : parseMethodDescriptor "([BI)B" = some ⟨[(.array .byte), .int], some .byte⟩ := by decide +kernel
theorem d3_48 : decode jdk_42_method_149_code 48 = .ok (.putfield 15, 3) := by decide +kernel
theorem d3_51 : decode jdk_42_method_149_code 51 = .ok (.aload_n 0, 1) := by decide +kernel
theorem d3_52 : decode jdk_42_method_149_code 52 = .ok (.aload 5, 2) := by decide +kernel
theorem d3_54 : decode jdk_42_method_149_code 54 = .ok (.putfield 9, 3) := by decide +kernel
theorem d3_57 : decode jdk_42_method_149_code 57 = .ok (.return_, 1) := by decide +kernel
def Q3_0 (Z : State) (z_COMPACT_STRINGS : Int32) (o0 : Addr) (o1 : Addr) (kk_o1 : ClassId) (p0 : Int32) (p1 : Int32) (p2 : Int32) (p3 : Int32) (h0 : Heap) (n0 : Nat) (v : Option Value) (h : Heap) (L : List Loc) : Prop := ∃ (b2_1_5_3 : Addr), ∃ (k2_1_5_3 : ClassId), ∃ (ce0_3 : Int32), ∃ (ce1_3 : Int32), ∃ (ce2_3 : Int32), ∃ (ce3_3 : Int32), ∃ (ce4_3 : Int32), ∃ (ce5_3 : Int32), ∃ (ce6_3 : Int32), ∃ (ce7_3 : Int32), v = none ∧ Fr n0 L ∧ Keep h0 h [o0] ∧ Exa Z h o0 sC0 ∧ Fld Z h o0 sC0 "coder" "B" (.int 1) ∧ Fld Z h o0 sC0 "value" "[B" (.ref b2_1_5_3) ∧ Arv Z h b2_1_5_3 k2_1_5_3 .byte (8 : Int32) [(.int ce0_3), (.int ce1_3), (.int ce2_3), (.int ce3_3), (.int ce4_3), (.int ce5_3), (.int ce6_3), (.int ce7_3)] (.int 0) ∧ h0.size ≤ b2_1_5_3
theorem rm3_0 (l : Launch) (Z : State) (a0 : Array Value) (hw : HW Z a0) (ws : List Jvm.Cond) (z_COMPACT_STRINGS : Int32) (o0 : Addr) (o1 : Addr) (kk_o1 : ClassId) (p0 : Int32) (p1 : Int32) (p2 : Int32) (p3 : Int32) (h0 : Heap) (n0 : Nat) (O0 : Old Z n0 h0) (S : SF Z z_COMPACT_STRINGS) (E_o0 : Exa Z h0 o0 sC0) (F_coder_o0 : Fld Z h0 o0 sC0 "coder" "B" (.int 0)) (F_value_o0 : Fld Z h0 o0 sC0 "value" "[B" .null) (V_o1 : Arv Z h0 o1 kk_o1 .char (4 : Int32) [(.int p0), (.int p1), (.int p2), (.int p3)] (.int 0)) (g_o0 : n0 ≤ o0) (hc0 : ¬ (gp0 p0 p1 p2 p3)) :
    Pay l Z My3 ws jdk_42_method_149_code 6 none #[(.ref o0), (.ref o1), (.int 0), (.int 4), .null] h0 ({ frames := 4, cells := 2, slots := 12, locals := 57 } : Room) (Q3_0 Z z_COMPACT_STRINGS o0 o1 kk_o1 p0 p1 p2 p3 h0 n0) := by
  obtain ⟨S_z_COMPACT_STRINGS, hz_z_COMPACT_STRINGS, -⟩ := id S
  refine own_body (plainFor_of_name pn_1) (L0 := #[va o0, va o1, vi 0, vi 4, .val .null, uu]) (fun _ => by first | rfl | (simp [entryFrame, mkF, argsToLocals, Value.category]; done)) ?_
  intro p e s m below meth c s₁ hrt hlk hx hby hml hZ hown0 hnm X0 e0
  have hown : s.vm.findClass sC0 = some m.cls := hown0
  have N0 := Fr.nil n0
  have K0 : Keep h0 h0 [o0] := Keep.refl _ _
  obtain ⟨T1, X1, e1, st1⟩ := initO X0 hx hZ hown (ww hw 16 rfl) (ww hw 17 rfl) (ww hw 18 rfl) e0 (g := (mkF m 1 #[va o0, va o1, vi 0, vi 4, .val .null, uu] [(.ref o0)])) rfl (by rw [hml]; rfl) rfl (hb hby d3_1) (by decide) (W := 0) (by show 2 * 0 + _ ≤ _; exact Nat.le_of_eq rfl) (by decide)
  obtain ⟨T2, X2, e2, st2⟩ := getS2 X1 hx hZ hown (host := "") (Or.inl (ww hw 19 rfl)) Via.refl e1 (S_z_COMPACT_STRINGS.ext O0.2) (g := (mkF m 27 #[va o0, va o1, vi 0, vi 4, .val .null, uu] [])) rfl (hb hby d3_27)
  obtain ⟨_, _, ⟨T3, L3, k3, n3⟩, -, X3, ⟨Lc3, hQ3, l3, y3, z3⟩, st3⟩ := Jvm.LawKit.callS X2 hx (y := My5) hown (mvT hZ (ww hw 20 rfl)) (mvT hZ (ww hw 21 rfl)) (mvT hZ (ww hw 22 rfl)) (mvT hZ (ww hw 23 rfl)) (by decide) (backOf (W := 0) (gm0_1 l Z a0 hw [] z_COMPACT_STRINGS o1 kk_o1 p0 p1 p2 p3 h0 n0 O0 S V_o1 hc0) hZ (ww hw 23 rfl) (ww hw 22 rfl) (by decide) (by decide)) (g := (mkF m 36 #[va o0, va o1, vi 0, vi 4, .val .null, uu] [(.int 4), (.int 0), (.ref o1)])) rfl (by rw [hml]; rfl) (argsL := [(.ref o1), (.int 0), (.int 4)]) (rest := []) (lenOf pd_4 rfl) rfl (by show 2 * 0 + _ ≤ _; exact Nat.le_of_eq rfl) (hb hby d3_36) (fun _ _ => ⟨rfl, e2, (by decide : 0 + 2 ≤ _), (by decide : 0 + 12 ≤ _)⟩)
  dsimp only [Pt.U, Pt.locs, Pt.cells, Pt.slots] at X3 l3 y3 z3 st3 hQ3
  subst l3 y3 z3
  obtain ⟨b2_1_5_3, k2_1_5_3, ce0_3, ce1_3, ce2_3, ce3_3, ce4_3, ce5_3, ce6_3, ce7_3, rfl, Nq3, Kc3, P0_3, P1_3⟩ := hQ3
  have N3 := Fr.app N0 Nq3
  have ne_o0_b2_1_5_3 : o0 ≠ b2_1_5_3 := Nat.ne_of_lt (Nat.lt_of_lt_of_le E_o0.lt P1_3)
  have ne_o1_b2_1_5_3 : o1 ≠ b2_1_5_3 := Nat.ne_of_lt (Nat.lt_of_lt_of_le V_o1.lt P1_3)
  have g_b2_1_5_3 : n0 ≤ b2_1_5_3 := Nat.le_trans (own_old O0) P1_3
  have sz_b2_1_5_3 : h0.size ≤ b2_1_5_3 := Nat.le_trans K0.1 P1_3
  have O3 := O0.keep Kc3 all0
  have K3 : Keep h0 T3.heap [o0] := K0.trans Kc3 all0
  obtain ⟨_, _, ⟨T4, L4, k4, n4⟩, -, X4, ⟨Lc4, hQ4, l4, y4, z4⟩, st4⟩ := Jvm.LawKit.callS X3 hx (y := My7) hown (mvT hZ (ww hw 28 rfl)) (mvT hZ (ww hw 29 rfl)) (mvT hZ (ww hw 22 rfl)) (mvT hZ (ww hw 30 rfl)) (by decide) (backOf (W := 1) (rm7_0 l Z a0 hw [] z_COMPACT_STRINGS b2_1_5_3 k2_1_5_3 ce0_3 ce1_3 ce2_3 ce3_3 ce4_3 ce5_3 ce6_3 ce7_3 T3.heap n0 O3 S P0_3) hZ (ww hw 30 rfl) (ww hw 22 rfl) (by decide) (by decide)) (g := (mkF m 45 #[va o0, va o1, vi 0, vi 4, .val .null, va b2_1_5_3] [(.int 4), (.ref b2_1_5_3), (.ref o0)])) rfl (by rw [hml]; rfl) (argsL := [(.ref b2_1_5_3), (.int 4)]) (rest := [(.ref o0)]) (lenOf pd_6 rfl) rfl (by show 2 * 0 + _ ≤ _; exact Nat.le_of_eq rfl) (hb hby d3_45) (fun _ _ => ⟨rfl, rfl, (by decide : 2 + 0 ≤ _), (by decide : 12 + 0 ≤ _)⟩)
  dsimp only [Pt.U, Pt.locs, Pt.cells, Pt.slots] at X4 l4 y4 z4 st4 hQ4
  subst l4 y4 z4
  obtain ⟨rfl, Nq4, e4⟩ := hQ4
  have N4 := Fr.app N3 Nq4
  have fc5 := (F_coder_o0.keep Kc3 nin0)
  have fc6 := (E_o0.keep Kc3)
  obtain ⟨T7, h7, X7, e7, W7, st7⟩ := putFN X4 hx hZ hown (ww hw 31 rfl) Via.refl e4 fc5 fc6 (Or.inr ⟨(ww hw 32 rfl), rfl, hnm⟩) (ww hw 7 rfl) (ty := .byte) (v' := (.int 1)) (by decide) rfl (by decide) (g := (mkF m 48 #[va o0, va o1, vi 0, vi 4, .val .null, va b2_1_5_3] [(.int 1), (.ref o0)])) rfl rfl (hb hby d3_48)
  have Fw7 := fc5.same W7
  have O7 := O3.wr W7 g_o0
  have K7 : Keep h0 h7 [o0] := K3.wr W7 (Or.inl (List.mem_of_getElem? (i := 0) rfl))
  have N7 := Fr.snoc X7 N4 g_o0
  have fc8 := ((F_value_o0.keep Kc3 nin0).other W7 (Or.inr (slot_ne (Or.inr (ww hw 34 rfl)) (Or.inr (ww hw 32 rfl)) (by decide) (t := (.array .byte)) (t' := .byte) (by decide) (by decide))))
  have fc9 := (fc6.wr W7)
  obtain ⟨T10, h10, X10, e10, W10, st10⟩ := putF X7 hx hZ hown (host := "") (Or.inl (ww hw 33 rfl)) Via.refl e7 fc8 fc9 (Or.inr ⟨(ww hw 34 rfl), rfl, hnm⟩) (ww hw 7 rfl) (ty := (.array .byte)) (by decide) rfl rfl (g := (mkF m 54 #[va o0, va o1, vi 0, vi 4, .val .null, va b2_1_5_3] [(.ref b2_1_5_3), (.ref o0)])) rfl rfl (hb hby d3_54)
  have Fw10 := fc8.same W10
  have O10 := O7.wr W10 g_o0
  have K10 : Keep h0 h10 [o0] := K7.wr W10 (Or.inl (List.mem_of_getElem? (i := 0) rfl))
  have N10 := Fr.snoc X10 N7 g_o0
  obtain ⟨fs, hr, hrun, hended, hW, hsame⟩ := X10.leave (v := none) (fun _ => rfl)
  have fc11 := (fc9.wr W10)
  have fc12 := (Fw7.other W10 (Or.inr (slot_ne (Or.inr (ww hw 32 rfl)) (Or.inr (ww hw 34 rfl)) (by decide) (t := .byte) (t' := (.array .byte)) (by decide) (by decide))))
  have fc13 := ((P0_3.other W7 (Ne.symm ne_o0_b2_1_5_3)).other W10 (Ne.symm ne_o0_b2_1_5_3))
  refine ⟨_, _, ?_, hrun, hended, _, _, rfl, ?_, ⟨_, rfl⟩, hW, hsame.mono (by decide) (by decide)⟩
  · show Steps p.tables e below (s₁.setTop (mkF m 0 #[va o0, va o1, vi 0, vi 4, .val .null, uu] [])) _
    refine XS.aloadN X0.here hx rfl (hb hby d3_0) rfl rfl ?_
    refine st1 _ ?_
    refine XS.iloadN X1.here hx rfl (hb hby d3_4) rfl ?_
    refine XS.ifYes X1.here hx rfl (pc0 := 5) (pc' := 27) rfl (hb hby d3_5) rfl ((if0 _ _).trans (feq (by decide : ¬ ((4 : Int32) = (0 : Int32)))).2) (by decide) (by decide) ?_
    refine st2 _ ?_
    refine XS.ifNo X2.here hx rfl (hb hby d3_30) rfl ((if0 _ _).trans (feq hz_z_COMPACT_STRINGS).1) ?_
    refine XS.aloadN X2.here hx rfl (hb hby d3_33) rfl rfl ?_
    refine XS.iloadN X2.here hx rfl (hb hby d3_34) rfl ?_
    show Steps p.tables e below (T2.setTop (mkF m 35 #[va o0, va o1, vi 0, vi 4, .val .null, uu] [(.int 0), (.ref o1)])) _
    refine XS.iloadN X2.here hx rfl (hb hby d3_35) rfl ?_
    refine st3 _ ?_
    refine XS.astore X3.here hx rfl (hb hby d3_39) rfl rfl (l' := #[va o0, va o1, vi 0, vi 4, .val .null, va b2_1_5_3]) rfl ?_
    refine XS.aloadN X3.here hx rfl (hb hby d3_41) rfl rfl ?_
    refine XS.aload X3.here hx rfl (hb hby d3_42) rfl rfl ?_
    refine XS.iloadN X3.here hx rfl (hb hby d3_44) rfl ?_
    refine st4 _ ?_
    refine st7 _ ?_
    show Steps p.tables e below (T7.setTop (mkF m 51 #[va o0, va o1, vi 0, vi 4, .val .null, va b2_1_5_3] [])) _
    refine XS.aloadN X7.here hx rfl (hb hby d3_51) rfl rfl ?_
    refine XS.aload X7.here hx rfl (hb hby d3_52) rfl rfl ?_
    refine st10 _ ?_
    exact X10.returnOut hx hrt (hb hby d3_57) hr
  · show Q3_0 Z z_COMPACT_STRINGS o0 o1 kk_o1 p0 p1 p2 p3 h0 n0 none T10.heap _
    rw [e10]; exact ⟨b2_1_5_3, k2_1_5_3, ce0_3, ce1_3, ce2_3, ce3_3, ce4_3, ce5_3, ce6_3, ce7_3, rfl, N10, K10, fc11, fc12, Fw10, fc13, sz_b2_1_5_3⟩
theorem pd_7 : parseMethodDescriptor "([CIILjava/lang/Void;)V" = some ⟨[(.array .char), .int, .int, (.object "java/lang/Void")], none⟩ := by decide +kernel
theorem d2_9 : decode jdk_42_method_3_code 9 = .ok (.return_, 1) := by decide +kernel
def Q2_0 (Z : State) (z_COMPACT_STRINGS : Int32) (o0 : Addr) (o1 : Addr) (kk_o1 : ClassId) (p0 : Int32) (p1 : Int32) (p2 : Int32) (p3 : Int32) (h0 : Heap) (n0 : Nat) (v : Option Value) (h : Heap) (L : List Loc) : Prop := ∃ (b2_1_5_3_2 : Addr), ∃ (k2_1_5_3_2 : ClassId), ∃ (ce0_3_2 : Int32), ∃ (ce1_3_2 : Int32), ∃ (ce2_3_2 : Int32), ∃ (ce3_3_2 : Int32), ∃ (ce4_3_2 : Int32), ∃ (ce5_3_2 : Int32), ∃ (ce6_3_2 : Int32), ∃ (ce7_3_2 : Int32), v = none ∧ Fr n0 L ∧ Keep h0 h [o0] ∧ Exa Z h o0 sC0 ∧ Fld Z h o0 sC0 "coder" "B" (.int 1) ∧ Fld Z h o0 sC0 "value" "[B" (.ref b2_1_5_3_2) ∧ Arv Z h b2_1_5_3_2 k2_1_5_3_2 .byte (8 : Int32) [(.int ce0_3_2), (.int ce1_3_2), (.int ce2_3_2), (.int ce3_3_2), (.int ce4_3_2), (.int ce5_3_2), (.int ce6_3_2), (.int ce7_3_2)] (.int 0) ∧ h0.size ≤ b2_1_5_3_2
theorem rm2_0 (l : Launch) (Z : State) (a0 : Array Value) (hw : HW Z a0) (ws : List Jvm.Cond) (z_COMPACT_STRINGS : Int32) (o0 : Addr) (o1 : Addr) (kk_o1 : ClassId) (p0 : Int32) (p1 : Int32) (p2 : Int32) (p3 : Int32) (h0 : Heap) (n0 : Nat) (O0 : Old Z n0 h0) (S : SF Z z_COMPACT_STRINGS) (E_o0 : Exa Z h0 o0 sC0) (F_coder_o0 : Fld Z h0 o0 sC0 "coder" "B" (.int 0)) (F_value_o0 : Fld Z h0 o0 sC0 "value" "[B" .null) (V_o1 : Arv Z h0 o1 kk_o1 .char (4 : Int32) [(.int p0), (.int p1), (.int p2), (.int p3)] (.int 0)) (g_o0 : n0 ≤ o0) (hc0 : ¬ (gp0 p0 p1 p2 p3)) :
    Pay l Z My2 ws jdk_42_method_3_code 2 none #[(.ref o0), (.ref o1)] h0 ({ frames := 5, cells := 2, slots := 12, locals := 74 } : Room) (Q2_0 Z z_COMPACT_STRINGS o0 o1 kk_o1 p0 p1 p2 p3 h0 n0) := by
  refine own_body (plainFor_of_name pn_1) (L0 := #[va o0, va o1]) (fun _ => by first | rfl | (simp [entryFrame, mkF, argsToLocals, Value.category]; done)) ?_
  intro p e s m below meth c s₁ hrt hlk hx hby hml hZ hown0 hnm X0 e0
  have hown : s.vm.findClass sC0 = some m.cls := hown0
  have N0 := Fr.nil n0
  have K0 : Keep h0 h0 [o0] := Keep.refl _ _
  obtain ⟨cl1, Ar1, qk1, Sz1, Ng1, Hh1, Gg1⟩ := id V_o1
  obtain ⟨_, _, ⟨T2, L2, k2, n2⟩, -, X2, ⟨Lc2, hQ2, l2, y2, z2⟩, st2⟩ := X0.specialBack hx (y := My3) rfl hown (mvT hZ (ww hw 12 rfl)) (mvT hZ (ww hw 13 rfl)) (mvT hZ (ww hw 15 rfl)) (by decide) (backOf (W := 0) (rm3_0 l Z a0 hw [] z_COMPACT_STRINGS o0 o1 kk_o1 p0 p1 p2 p3 h0 n0 O0 S E_o0 F_coder_o0 F_value_o0 V_o1 g_o0 hc0) hZ (ww hw 15 rfl) (ww hw 8 rfl) (by decide) (by decide)) (g := (mkF m 6 #[va o0, va o1] [.null, (.int 4), (.int 0), (.ref o1), (.ref o0)])) rfl (by rw [hml]; rfl) (Steps.refl _) (a := o0) (argsL := [(.ref o1), (.int 0), (.int 4), .null]) (rest := []) (lenOf pd_7 rfl) rfl (by show 2 * 0 + _ ≤ _; exact Nat.le_of_eq rfl) (hb hby d2_6) (fun _ _ => ⟨rfl, e0, (by decide : 0 + 2 ≤ _), (by decide : 0 + 12 ≤ _)⟩)
  dsimp only [Pt.U, Pt.locs, Pt.cells, Pt.slots] at X2 l2 y2 z2 st2 hQ2
  subst l2 y2 z2
  obtain ⟨b2_1_5_3_2, k2_1_5_3_2, ce0_3_2, ce1_3_2, ce2_3_2, ce3_3_2, ce4_3_2, ce5_3_2, ce6_3_2, ce7_3_2, rfl, Nq2, Kc2, P0_2, P1_2, P2_2, P3_2, P4_2⟩ := hQ2
  have N2 := Fr.app N0 Nq2
  have ne_o0_b2_1_5_3_2 : o0 ≠ b2_1_5_3_2 := Nat.ne_of_lt (Nat.lt_of_lt_of_le E_o0.lt P4_2)
  have ne_o1_b2_1_5_3_2 : o1 ≠ b2_1_5_3_2 := Nat.ne_of_lt (Nat.lt_of_lt_of_le V_o1.lt P4_2)
  have g_b2_1_5_3_2 : n0 ≤ b2_1_5_3_2 := Nat.le_trans (own_old O0) P4_2
  have sz_b2_1_5_3_2 : h0.size ≤ b2_1_5_3_2 := Nat.le_trans K0.1 P4_2
  have O2 := O0.keep Kc2 (allS g_o0 all0)
  have K2 : Keep h0 T2.heap [o0] := K0.trans Kc2 (allS (Or.inl (List.mem_of_getElem? (i := 0) rfl)) all0)
  obtain ⟨fs, hr, hrun, hended, hW, hsame⟩ := X2.leave (v := none) (fun _ => rfl)
  refine ⟨_, _, ?_, hrun, hended, _, _, rfl, ?_, ⟨_, rfl⟩, hW, hsame.mono (by decide) (by decide)⟩
  · show Steps p.tables e below (s₁.setTop (mkF m 0 #[va o0, va o1] [])) _
    refine XS.aloadN X0.here hx rfl (hb hby d2_0) rfl rfl ?_
    refine XS.aloadN X0.here hx rfl (hb hby d2_1) rfl rfl ?_
    refine XS.iconst X0.here hx rfl (hb hby d2_2) ?_
    refine XS.aloadN X0.here hx rfl (hb hby d2_3) rfl rfl ?_
    refine X0.arraylength hx (by rw [e0]; exact Ar1.1) (State.isArrayOf_alike hZ.alike Ar1.2.1) (g := (mkF m 4 #[va o0, va o1] [(.ref o1), (.int 0), (.ref o1), (.ref o0)])) rfl rfl (hb hby d2_4) _ ?_
    rw [len_of Sz1 Ng1]
    refine XS.aconstNull X0.here hx rfl (hb hby d2_5) ?_
    refine st2.trans ?_
    exact X2.returnOut hx hrt (hb hby d2_9) hr
  · show Q2_0 Z z_COMPACT_STRINGS o0 o1 kk_o1 p0 p1 p2 p3 h0 n0 none T2.heap _
    exact (⟨b2_1_5_3_2, k2_1_5_3_2, ce0_3_2, ce1_3_2, ce2_3_2, ce3_3_2, ce4_3_2, ce5_3_2, ce6_3_2, ce7_3_2, rfl, N2, K2, P0_2, P1_2, P2_2, P3_2, sz_b2_1_5_3_2⟩)
theorem pd_8 : parseMethodDescriptor "([C)V" = some ⟨[(.array .char)], none⟩ := by decide +kernel
theorem d1_124 : decode method_3_code 124 = .ok (.areturn, 1) := by decide +kernel
def Q1_0 (Z : State) (z_COMPACT_STRINGS : Int32) (p0 : Int32) (p1 : Int32) (p2 : Int32) (p3 : Int32) (p4 : Int32) (h0 : Heap) (n0 : Nat) (v : Option Value) (h : Heap) (L : List Loc) : Prop := ∃ (b10 : Addr), ∃ (b2_1_5_3_2_12 : Addr), ∃ (k2_1_5_3_2_12 : ClassId), ∃ (ce0_3_2_12 : Int32), ∃ (ce1_3_2_12 : Int32), ∃ (ce2_3_2_12 : Int32), ∃ (ce3_3_2_12 : Int32), ∃ (ce4_3_2_12 : Int32), ∃ (ce5_3_2_12 : Int32), ∃ (ce6_3_2_12 : Int32), ∃ (ce7_3_2_12 : Int32), v = (some (.ref b10)) ∧ Fr n0 L ∧ Keep h0 h [] ∧ Exa Z h b10 sC0 ∧ Fld Z h b10 sC0 "coder" "B" (.int 1) ∧ Fld Z h b10 sC0 "value" "[B" (.ref b2_1_5_3_2_12) ∧ Arv Z h b2_1_5_3_2_12 k2_1_5_3_2_12 .byte (8 : Int32) [(.int ce0_3_2_12), (.int ce1_3_2_12), (.int ce2_3_2_12), (.int ce3_3_2_12), (.int ce4_3_2_12), (.int ce5_3_2_12), (.int ce6_3_2_12), (.int ce7_3_2_12)] (.int 0) ∧ h0.size ≤ b10 ∧ h0.size ≤ b2_1_5_3_2_12 ∧ b10 ≠ b2_1_5_3_2_12
theorem rm1_0 (l : Launch) (Z : State) (a0 : Array Value) (hw : HW Z a0) (ws : List Jvm.Cond) (z_COMPACT_STRINGS : Int32) (p0 : Int32) (p1 : Int32) (p2 : Int32) (p3 : Int32) (p4 : Int32) (h0 : Heap) (n0 : Nat) (O0 : Old Z n0 h0) (S : SF Z z_COMPACT_STRINGS) (hc0 : ¬ (p0 = (0 : Int32))) (hc1 : ¬ (p0 = (1 : Int32))) (hc2 : ¬ (p0 = (2 : Int32))) (hc3 : ¬ (gp0 (cc p1) (cc p2) (cc p3) (cc p4))) :
    Pay l Z My1 ws method_3_code 6 (some (.object sC0)) #[(.int p0), (.int p1), (.int p2), (.int p3), (.int p4)] h0 ({ frames := 6, cells := 4, slots := 20, locals := 88 } : Room) (Q1_0 Z z_COMPACT_STRINGS p0 p1 p2 p3 p4 h0 n0) := by
  refine own_body (plainFor_of_name pn_0) (L0 := #[vi p0, vi p1, vi p2, vi p3, vi p4, uu]) (fun _ => by first | rfl | (simp [entryFrame, mkF, argsToLocals, Value.category]; done)) ?_
  intro p e s m below meth c s₁ hrt hlk hx hby hml hZ hown0 hnm X0 e0
  have hown : s.vm.findClass sC3 = some m.cls := hown0
  have N0 := Fr.nil n0
  have K0 : Keep h0 h0 [] := Keep.refl _ _
  obtain ⟨T1, h1, k1, X1, e1, E1, A1, st1⟩ := newP X0 hx hZ (ww hw 5 rfl) e0 (g := (mkF m 90 #[vi p0, vi p1, vi p2, vi p3, vi p4, uu] [(.int 4)])) rfl (hb hby d1_90) rfl (by decide) (cap := 4) (by decide) (by decide) (by decide) (by decide)
  obtain ⟨b1, qs1⟩ : ∃ z, z = h0.size := ⟨_, rfl⟩
  rw [← qs1] at A1 st1
  have g_b1 : n0 ≤ b1 := Nat.le_trans (own_old O0) (Nat.le_of_eq qs1.symm)
  have sz_b1 : h0.size ≤ b1 := Nat.le_trans K0.1 (Nat.le_of_eq qs1.symm)
  have O1 := O0.ext E1
  have K1 : Keep h0 h1 [] := K0.ext E1
  have V_b1 : Arv Z h1 b1 k1 .char (4 : Int32) [(.int 0), (.int 0), (.int 0), (.int 0)] (.int 0) := (Arv.new A1 (by decide)).pad (pad_rep [] (.int 0) 4)
  obtain ⟨cl2, Ar2, qk2, Sz2, Ng2, Hh2, Gg2⟩ := id V_b1
  have hin2_0 : ¬ ((0 : Int32) < 0 ∨ cl2.slots.size ≤ ((0 : Int32)).toNatClampNeg) := inb_of Sz2 ⟨by decide, by decide⟩
  obtain ⟨T3, h3, X3, e3, W3, st3⟩ := stC X1 hx hZ e1 Ar2 (j := (0 : Int32)) hin2_0 (g := (mkF m 98 #[vi p0, vi p1, vi p2, vi p3, vi p4, va b1] [(.int p1), (.int 0), (.ref b1)])) rfl rfl (hb hby d1_98)
  have V3 : Arv Z h3 b1 k1 .char (4 : Int32) [(.int (cc p1)), (.int 0), (.int 0), (.int 0)] (.int 0) := Arv.set Ar2 qk2 Sz2 Ng2 Hh2 Gg2 (fits_nar_char _) W3 0 rfl (Nat.le_of_ble_eq_true rfl)
  have O3 := O1.wr W3 g_b1
  have K3 : Keep h0 h3 [] := K1.wr W3 (Or.inr sz_b1)
  have N3 := Fr.snoc X3 N0 g_b1
  obtain ⟨cl4, Ar4, qk4, Sz4, Ng4, Hh4, Gg4⟩ := id V3
  have hin4_1 : ¬ ((1 : Int32) < 0 ∨ cl4.slots.size ≤ ((1 : Int32)).toNatClampNeg) := inb_of Sz4 ⟨by decide, by decide⟩
  obtain ⟨T5, h5, X5, e5, W5, st5⟩ := stC X3 hx hZ e3 Ar4 (j := (1 : Int32)) hin4_1 (g := (mkF m 103 #[vi p0, vi p1, vi p2, vi p3, vi p4, va b1] [(.int p2), (.int 1), (.ref b1)])) rfl rfl (hb hby d1_103)
  have V5 : Arv Z h5 b1 k1 .char (4 : Int32) [(.int (cc p1)), (.int (cc p2)), (.int 0), (.int 0)] (.int 0) := Arv.set Ar4 qk4 Sz4 Ng4 Hh4 Gg4 (fits_nar_char _) W5 1 rfl (Nat.le_of_ble_eq_true rfl)
  have O5 := O3.wr W5 g_b1
  have K5 : Keep h0 h5 [] := K3.wr W5 (Or.inr sz_b1)
  have N5 := Fr.snoc X5 N3 g_b1
  obtain ⟨cl6, Ar6, qk6, Sz6, Ng6, Hh6, Gg6⟩ := id V5
  have hin6_2 : ¬ ((2 : Int32) < 0 ∨ cl6.slots.size ≤ ((2 : Int32)).toNatClampNeg) := inb_of Sz6 ⟨by decide, by decide⟩
  obtain ⟨T7, h7, X7, e7, W7, st7⟩ := stC X5 hx hZ e5 Ar6 (j := (2 : Int32)) hin6_2 (g := (mkF m 108 #[vi p0, vi p1, vi p2, vi p3, vi p4, va b1] [(.int p3), (.int 2), (.ref b1)])) rfl rfl (hb hby d1_108)
  have V7 : Arv Z h7 b1 k1 .char (4 : Int32) [(.int (cc p1)), (.int (cc p2)), (.int (cc p3)), (.int 0)] (.int 0) := Arv.set Ar6 qk6 Sz6 Ng6 Hh6 Gg6 (fits_nar_char _) W7 2 rfl (Nat.le_of_ble_eq_true rfl)
  have O7 := O5.wr W7 g_b1
  have K7 : Keep h0 h7 [] := K5.wr W7 (Or.inr sz_b1)
  have N7 := Fr.snoc X7 N5 g_b1
  obtain ⟨cl8, Ar8, qk8, Sz8, Ng8, Hh8, Gg8⟩ := id V7
  have hin8_3 : ¬ ((3 : Int32) < 0 ∨ cl8.slots.size ≤ ((3 : Int32)).toNatClampNeg) := inb_of Sz8 ⟨by decide, by decide⟩
  obtain ⟨T9, h9, X9, e9, W9, st9⟩ := stC X7 hx hZ e7 Ar8 (j := (3 : Int32)) hin8_3 (g := (mkF m 114 #[vi p0, vi p1, vi p2, vi p3, vi p4, va b1] [(.int p4), (.int 3), (.ref b1)])) rfl rfl (hb hby d1_114)
  have V9 : Arv Z h9 b1 k1 .char (4 : Int32) [(.int (cc p1)), (.int (cc p2)), (.int (cc p3)), (.int (cc p4))] (.int 0) := Arv.set Ar8 qk8 Sz8 Ng8 Hh8 Gg8 (fits_nar_char _) W9 3 rfl (Nat.le_of_ble_eq_true rfl)
  have O9 := O7.wr W9 g_b1
  have K9 : Keep h0 h9 [] := K7.wr W9 (Or.inr sz_b1)
  have N9 := Fr.snoc X9 N7 g_b1
  obtain ⟨T10, h10, X10, e10, E10, A10, D10, -, st10⟩ := newO X9 hx hZ hown (ww hw 6 rfl) (ww hw 7 rfl) (ww hw 8 rfl) e9 (g := (mkF m 115 #[vi p0, vi p1, vi p2, vi p3, vi p4, va b1] [])) rfl (hb hby d1_115) (by decide) (by decide)
  obtain ⟨b10, qs10⟩ : ∃ z, z = h9.size := ⟨_, rfl⟩
  rw [← qs10] at A10 D10 st10
  have ne_b1_b10 : b1 ≠ b10 := Nat.ne_of_lt (Nat.lt_of_lt_of_le V9.lt (Nat.le_of_eq qs10.symm))
  have g_b10 : n0 ≤ b10 := Nat.le_trans (own_old O9) (Nat.le_of_eq qs10.symm)
  have sz_b10 : h0.size ≤ b10 := Nat.le_trans K9.1 (Nat.le_of_eq qs10.symm)
  have O10 := O9.ext E10
  have K10 : Keep h0 h10 [] := K9.ext E10
  have F_coder_b10 : Fld Z h10 b10 sC0 "coder" "B" (.int 0) := D10 (Or.inr (ww hw 32 rfl)) (ty := .byte) (by decide)
  have F_value_b10 : Fld Z h10 b10 sC0 "value" "[B" .null := D10 (Or.inr (ww hw 34 rfl)) (ty := (.array .byte)) (by decide)
  have fc11 := (V9.ext E10)
  obtain ⟨_, _, ⟨T12, L12, k12, n12⟩, -, X12, ⟨Lc12, hQ12, l12, y12, z12⟩, st12⟩ := X10.specialBack hx (y := My2) rfl hown (mvT hZ (ww hw 9 rfl)) (mvT hZ (ww hw 10 rfl)) (mvT hZ (ww hw 11 rfl)) (by decide) (backOf (W := 1) (rm2_0 l Z a0 hw [] z_COMPACT_STRINGS b10 b1 k1 (cc p1) (cc p2) (cc p3) (cc p4) h10 n0 O10 S A10 F_coder_b10 F_value_b10 fc11 g_b10 hc3) hZ (ww hw 11 rfl) (ww hw 8 rfl) (by decide) (by decide)) (g := (mkF m 121 #[vi p0, vi p1, vi p2, vi p3, vi p4, va b1] [(.ref b1), (.ref b10), (.ref b10)])) rfl (by rw [hml]; rfl) (Steps.refl _) (a := b10) (argsL := [(.ref b1)]) (rest := [(.ref b10)]) (lenOf pd_8 rfl) rfl (by show 2 * 0 + _ ≤ _; exact Nat.le_of_eq rfl) (hb hby d1_121) (fun _ _ => ⟨rfl, e10, (by decide : 2 + 2 ≤ _), (by decide : 8 + 12 ≤ _)⟩)
  dsimp only [Pt.U, Pt.locs, Pt.cells, Pt.slots] at X12 l12 y12 z12 st12 hQ12
  subst l12 y12 z12
  obtain ⟨b2_1_5_3_2_12, k2_1_5_3_2_12, ce0_3_2_12, ce1_3_2_12, ce2_3_2_12, ce3_3_2_12, ce4_3_2_12, ce5_3_2_12, ce6_3_2_12, ce7_3_2_12, rfl, Nq12, Kc12, P0_12, P1_12, P2_12, P3_12, P4_12⟩ := hQ12
  have N12 := Fr.app N9 Nq12
  have ne_b1_b2_1_5_3_2_12 : b1 ≠ b2_1_5_3_2_12 := Nat.ne_of_lt (Nat.lt_of_lt_of_le fc11.lt P4_12)
  have ne_b10_b2_1_5_3_2_12 : b10 ≠ b2_1_5_3_2_12 := Nat.ne_of_lt (Nat.lt_of_lt_of_le A10.lt P4_12)
  have g_b2_1_5_3_2_12 : n0 ≤ b2_1_5_3_2_12 := Nat.le_trans (own_old O10) P4_12
  have sz_b2_1_5_3_2_12 : h0.size ≤ b2_1_5_3_2_12 := Nat.le_trans K10.1 P4_12
  have O12 := O10.keep Kc12 (allS g_b10 all0)
  have K12 : Keep h0 T12.heap [] := K10.trans Kc12 (allS (Or.inr sz_b10) all0)
  obtain ⟨fs, hr, hrun, hended, hW, hsame⟩ := X12.leave (v := (some (.ref b10))) (fun h => by rw [hrt] at h; cases h)
  refine ⟨_, _, ?_, hrun, hended, _, _, rfl, ?_, ⟨_, rfl⟩, hW, hsame.mono (by decide) (by decide)⟩
  · show Steps p.tables e below (s₁.setTop (mkF m 0 #[vi p0, vi p1, vi p2, vi p3, vi p4, uu] [])) _
    refine XS.iloadN X0.here hx rfl (hb hby d1_0) rfl ?_
    refine XS.ifYes X0.here hx rfl (pc0 := 1) (pc' := 24) rfl (hb hby d1_1) rfl ((if0 _ _).trans (feq hc0).2) (by decide) (by decide) ?_
    refine XS.iloadN X0.here hx rfl (hb hby d1_24) rfl ?_
    refine XS.iconst X0.here hx rfl (hb hby d1_25) ?_
    refine XS.icmpYes X0.here hx rfl (pc0 := 26) (pc' := 54) rfl (hb hby d1_26) rfl (feq hc1).2 (by decide) (by decide) ?_
    refine XS.iloadN X0.here hx rfl (hb hby d1_54) rfl ?_
    refine XS.iconst X0.here hx rfl (hb hby d1_55) ?_
    refine XS.icmpYes X0.here hx rfl (pc0 := 56) (pc' := 89) rfl (hb hby d1_56) rfl (feq hc2).2 (by decide) (by decide) ?_
    show Steps p.tables e below (s₁.setTop (mkF m 89 #[vi p0, vi p1, vi p2, vi p3, vi p4, uu] [])) _
    refine XS.iconst X0.here hx rfl (hb hby d1_89) ?_
    refine st1 _ ?_
    refine XS.astore X1.here hx rfl (hb hby d1_92) rfl rfl (l' := #[vi p0, vi p1, vi p2, vi p3, vi p4, va b1]) rfl ?_
    refine XS.aload X1.here hx rfl (hb hby d1_94) rfl rfl ?_
    refine XS.iconst X1.here hx rfl (hb hby d1_96) ?_
    refine XS.iloadN X1.here hx rfl (hb hby d1_97) rfl ?_
    refine st3 _ ?_
    refine XS.aload X3.here hx rfl (hb hby d1_99) rfl rfl ?_
    show Steps p.tables e below (T3.setTop (mkF m 101 #[vi p0, vi p1, vi p2, vi p3, vi p4, va b1] [(.ref b1)])) _
    refine XS.iconst X3.here hx rfl (hb hby d1_101) ?_
    refine XS.iloadN X3.here hx rfl (hb hby d1_102) rfl ?_
    refine st5 _ ?_
    refine XS.aload X5.here hx rfl (hb hby d1_104) rfl rfl ?_
    refine XS.iconst X5.here hx rfl (hb hby d1_106) ?_
    refine XS.iloadN X5.here hx rfl (hb hby d1_107) rfl ?_
    refine st7 _ ?_
    refine XS.aload X7.here hx rfl (hb hby d1_109) rfl rfl ?_
    show Steps p.tables e below (T7.setTop (mkF m 111 #[vi p0, vi p1, vi p2, vi p3, vi p4, va b1] [(.ref b1)])) _
    refine XS.iconst X7.here hx rfl (hb hby d1_111) ?_
    refine XS.iload X7.here hx rfl (hb hby d1_112) rfl ?_
    refine st9 _ ?_
    refine st10 _ ?_
    refine XS.dup X10.here hx rfl (hb hby d1_118) rfl rfl ?_
    refine XS.aload X10.here hx rfl (hb hby d1_119) rfl rfl ?_
    refine st12.trans ?_
    exact retOut X12 hx (t := (.object sC0)) (i := .areturn) hrt rfl (Or.inr (Or.inr (Or.inr (Or.inr ⟨rfl, rfl, rfl⟩)))) (hb hby d1_124) hr
  · show Q1_0 Z z_COMPACT_STRINGS p0 p1 p2 p3 p4 h0 n0 (some (.ref b10)) T12.heap _
    exact (⟨b10, b2_1_5_3_2_12, k2_1_5_3_2_12, ce0_3_2_12, ce1_3_2_12, ce2_3_2_12, ce3_3_2_12, ce4_3_2_12, ce5_3_2_12, ce6_3_2_12, ce7_3_2_12, rfl, N12, K12, P0_12, P1_12, P2_12, P3_12, sz_b10, sz_b2_1_5_3_2_12, ne_b10_b2_1_5_3_2_12⟩)
theorem d1_4 : decode method_3_code 4 = .ok (.iconst 1, 1) := by decide +kernel
theorem d1_5 : decode method_3_code 5 = .ok (.newarray .char, 2) := by decide +kernel
theorem d1_7 : decode method_3_code 7 = .ok (.astore 5, 2) := by decide +kernel
theorem d1_9 : decode method_3_code 9 = .ok (.aload 5, 2) := by decide +kernel
theorem d1_11 : decode method_3_code 11 = .ok (.iconst 0, 1) := by decide +kernel
theorem d1_12 : decode method_3_code 12 = .ok (.iload_n 1, 1) := by decide +kernel
theorem d1_13 : decode method_3_code 13 = .ok (.castore, 1) := by decide +kernel
theorem d1_14 : decode method_3_code 14 = .ok (.new 21, 3) := by decide +kernel
theorem d1_17 : decode method_3_code 17 = .ok (.dup, 1) := by decide +kernel
theorem d1_18 : decode method_3_code 18 = .ok (.aload 5, 2) := by decide +kernel
theorem d1_20 : decode method_3_code 20 = .ok (.invokespecial 26, 3) := by decide +kernel
def Q6_5 (Z : State) (z_COMPACT_STRINGS : Int32) (o0 : Addr) (o1 : Addr) (kk_o0 : ClassId) (kk_o1 : ClassId) (p0 : Int32) (h0 : Heap) (n0 : Nat) (v : Option Value) (h : Heap) (L : List Loc) : Prop := v = (some (.int 1)) ∧ Fr n0 L ∧ Keep h0 h [o1] ∧ Arv Z h o1 kk_o1 .byte (1 : Int32) [(.int (bb (bb p0)))] (.int 0)
theorem rm6_5 (l : Launch) (Z : State) (a0 : Array Value) (hw : HW Z a0) (ws : List Jvm.Cond) (z_COMPACT_STRINGS : Int32) (o0 : Addr) (o1 : Addr) (kk_o0 : ClassId) (kk_o1 : ClassId) (p0 : Int32) (h0 : Heap) (n0 : Nat) (O0 : Old Z n0 h0) (S : SF Z z_COMPACT_STRINGS) (V_o0 : Arv Z h0 o0 kk_o0 .char (1 : Int32) [(.int p0)] (.int 0)) (V_o1 : Arv Z h0 o1 kk_o1 .byte (1 : Int32) [(.int 0)] (.int 0)) (g_o1 : n0 ≤ o1) (hc0 : ¬ ((255 : Int32) < p0)) :
    Pay l Z My6 ws jdk_52_method_21_code 7 (some .int) #[(.ref o0), (.int 0), (.ref o1), (.int 0), (.int 1)] h0 ({ frames := 0, cells := 0, slots := 0, locals := 0 } : Room) (Q6_5 Z z_COMPACT_STRINGS o0 o1 kk_o0 kk_o1 p0 h0 n0) := by
  refine own_body (plainFor_of_name pn_2) (L0 := #[va o0, vi 0, va o1, vi 0, vi 1, uu, uu]) (fun _ => by first | rfl | (simp [entryFrame, mkF, argsToLocals, Value.category]; done)) ?_
  intro p e s m below meth c s₁ hrt hlk hx hby hml hZ hown0 hnm X0 e0
  have hown : s.vm.findClass sC1 = some m.cls := hown0
  have N0 := Fr.nil n0
  have K0 : Keep h0 h0 [o1] := Keep.refl _ _
  obtain ⟨cl1, Ar1, qk1, Sz1, Ng1, Hh1, Gg1⟩ := id V_o0
  have hin1_0 : ¬ ((0 : Int32) < 0 ∨ cl1.slots.size ≤ ((0 : Int32)).toNatClampNeg) := inb_of Sz1 ⟨by decide, by decide⟩
  obtain ⟨cl2, Ar2, qk2, Sz2, Ng2, Hh2, Gg2⟩ := id V_o1
  have hin2_0 : ¬ ((0 : Int32) < 0 ∨ cl2.slots.size ≤ ((0 : Int32)).toNatClampNeg) := inb_of Sz2 ⟨by decide, by decide⟩
  obtain ⟨T3, h3, X3, e3, W3, st3⟩ := stB X0 hx hZ e0 Ar2 (j := (0 : Int32)) hin2_0 (g := (mkF m 31 #[va o0, vi 0, va o1, vi 0, vi 1, vi 0, vi p0] [(.int (bb p0)), (.int 0), (.ref o1)])) rfl rfl (hb hby d6_31)
  have V3 : Arv Z h3 o1 kk_o1 .byte (1 : Int32) [(.int (bb (bb p0)))] (.int 0) := Arv.set Ar2 qk2 Sz2 Ng2 Hh2 Gg2 (fits_nar_byte _) W3 0 rfl (Nat.le_of_ble_eq_true rfl)
  have O3 := O0.wr W3 g_o1
  have K3 : Keep h0 h3 [o1] := K0.wr W3 (Or.inl (List.mem_of_getElem? (i := 0) rfl))
  have N3 := Fr.snoc X3 N0 g_o1
  obtain ⟨fs, hr, hrun, hended, hW, hsame⟩ := X3.leave (v := (some (.int 1))) (fun h => by rw [hrt] at h; cases h)
  refine ⟨_, _, ?_, hrun, hended, _, _, rfl, ?_, ⟨_, rfl⟩, hW, hsame.mono (by decide) (by decide)⟩
  · show Steps p.tables e below (s₁.setTop (mkF m 0 #[va o0, vi 0, va o1, vi 0, vi 1, uu, uu] [])) _
    refine XS.iconst X0.here hx rfl (hb hby d6_0) ?_
    refine XS.istore X0.here hx rfl (hb hby d6_1) rfl (l' := #[va o0, vi 0, va o1, vi 0, vi 1, vi 0, uu]) rfl ?_
    refine XS.iload X0.here hx rfl (hb hby d6_3) rfl ?_
    refine XS.iload X0.here hx rfl (hb hby d6_5) rfl ?_
    refine XS.icmpNo X0.here hx rfl (hb hby d6_7) rfl (tlt (by decide : (0 : Int32) < (1 : Int32))).2.1 ?_
    refine XS.aloadN X0.here hx rfl (hb hby d6_10) rfl rfl ?_
    refine XS.iloadN X0.here hx rfl (hb hby d6_11) rfl ?_
    refine X0.caload hx (j := (0 : Int32)) (v := (.int p0)) (by rw [e0]; exact Ar1.1) (State.isArrayOf_alike hZ.alike Ar1.2.1) Ar1.2.2 hin1_0 (Has.at Hh1 hin1_0 rfl) (g := (mkF m 12 #[va o0, vi 0, va o1, vi 0, vi 1, vi 0, uu] [(.int 0), (.ref o0)])) rfl rfl (hb hby d6_12) _ ?_
    show Steps p.tables e below (s₁.setTop (mkF m 13 #[va o0, vi 0, va o1, vi 0, vi 1, vi 0, uu] [(.int p0)])) _
    refine XS.istore X0.here hx rfl (hb hby d6_13) rfl (l' := #[va o0, vi 0, va o1, vi 0, vi 1, vi 0, vi p0]) rfl ?_
    refine XS.iload X0.here hx rfl (hb hby d6_15) rfl ?_
    refine XS.sipush X0.here hx rfl (hb hby d6_17) ?_
    refine XS.icmpYes X0.here hx rfl (pc0 := 20) (pc' := 26) rfl (hb hby d6_20) rfl (flt hc0).2.2.2 (by decide) (by decide) ?_
    refine XS.aloadN X0.here hx rfl (hb hby d6_26) rfl rfl ?_
    refine XS.iloadN X0.here hx rfl (hb hby d6_27) rfl ?_
    refine XS.iload X0.here hx rfl (hb hby d6_28) rfl ?_
    refine XS.i2b X0.here hx rfl (hb hby d6_30) rfl ?_
    show Steps p.tables e below (s₁.setTop (mkF m 31 #[va o0, vi 0, va o1, vi 0, vi 1, vi 0, vi p0] [(.int (bb p0)), (.int 0), (.ref o1)])) _
    refine st3 _ ?_
    refine XS.iinc X3.here hx rfl (hb hby d6_32) rfl (l' := #[va o0, vi ((0 : Int32) + (1 : Int32)), va o1, vi 0, vi 1, vi 0, vi p0]) rfl ?_
    show Steps p.tables e below (T3.setTop (mkF m 35 #[va o0, vi ((0 : Int32) + (1 : Int32)), va o1, vi 0, vi 1, vi 0, vi p0] [])) _
    rw [show (((0 : Int32) + (1 : Int32)) : Int32) = (1 : Int32) from by decide]
    refine XS.iinc X3.here hx rfl (hb hby d6_35) rfl (l' := #[va o0, vi 1, va o1, vi ((0 : Int32) + (1 : Int32)), vi 1, vi 0, vi p0]) rfl ?_
    show Steps p.tables e below (T3.setTop (mkF m 38 #[va o0, vi 1, va o1, vi ((0 : Int32) + (1 : Int32)), vi 1, vi 0, vi p0] [])) _
    rw [show (((0 : Int32) + (1 : Int32)) : Int32) = (1 : Int32) from by decide]
    refine XS.iinc X3.here hx rfl (hb hby d6_38) rfl (l' := #[va o0, vi 1, va o1, vi 1, vi 1, vi ((0 : Int32) + (1 : Int32)), vi p0]) rfl ?_
    show Steps p.tables e below (T3.setTop (mkF m 41 #[va o0, vi 1, va o1, vi 1, vi 1, vi ((0 : Int32) + (1 : Int32)), vi p0] [])) _
    rw [show (((0 : Int32) + (1 : Int32)) : Int32) = (1 : Int32) from by decide]
    refine XS.goto X3.here hx rfl (pc0 := 41) (pc' := 3) rfl (hb hby d6_41) (by decide) (by decide) ?_
    refine XS.iload X3.here hx rfl (hb hby d6_3) rfl ?_
    refine XS.iload X3.here hx rfl (hb hby d6_5) rfl ?_
    refine XS.icmpYes X3.here hx rfl (pc0 := 7) (pc' := 44) rfl (hb hby d6_7) rfl (flt (by decide : ¬ ((1 : Int32) < (1 : Int32)))).2.1 (by decide) (by decide) ?_
    refine XS.iload X3.here hx rfl (hb hby d6_44) rfl ?_
    exact retOut X3 hx (t := .int) (i := .ireturn) hrt rfl (Or.inl ⟨rfl, Or.inl rfl, _, rfl⟩) (hb hby d6_46) hr
  · show Q6_5 Z z_COMPACT_STRINGS o0 o1 kk_o0 kk_o1 p0 h0 n0 (some (.int 1)) T3.heap _
    rw [e3]; exact ⟨rfl, N3, K3, V3⟩
def Q5_5 (Z : State) (z_COMPACT_STRINGS : Int32) (o0 : Addr) (kk_o0 : ClassId) (p0 : Int32) (h0 : Heap) (n0 : Nat) (v : Option Value) (h : Heap) (L : List Loc) : Prop := ∃ (b1 : Addr), ∃ (k1 : ClassId), v = (some (.ref b1)) ∧ Fr n0 L ∧ Keep h0 h [] ∧ Arv Z h b1 k1 .byte (1 : Int32) [(.int (bb (bb p0)))] (.int 0) ∧ h0.size ≤ b1
theorem rm5_5 (l : Launch) (Z : State) (a0 : Array Value) (hw : HW Z a0) (ws : List Jvm.Cond) (z_COMPACT_STRINGS : Int32) (o0 : Addr) (kk_o0 : ClassId) (p0 : Int32) (h0 : Heap) (n0 : Nat) (O0 : Old Z n0 h0) (S : SF Z z_COMPACT_STRINGS) (V_o0 : Arv Z h0 o0 kk_o0 .char (1 : Int32) [(.int p0)] (.int 0)) (hc0 : ¬ ((255 : Int32) < p0)) :
    Pay l Z My5 ws jdk_52_method_16_code 6 (some (.array .byte)) #[(.ref o0), (.int 0), (.int 1)] h0 ({ frames := 1, cells := 1, slots := 1, locals := 18 } : Room) (Q5_5 Z z_COMPACT_STRINGS o0 kk_o0 p0 h0 n0) := by
  refine own_body (plainFor_of_name pn_2) (L0 := #[va o0, vi 0, vi 1, uu, uu, uu]) (fun _ => by first | rfl | (simp [entryFrame, mkF, argsToLocals, Value.category]; done)) ?_
  intro p e s m below meth c s₁ hrt hlk hx hby hml hZ hown0 hnm X0 e0
  have hown : s.vm.findClass sC1 = some m.cls := hown0
  have N0 := Fr.nil n0
  have K0 : Keep h0 h0 [] := Keep.refl _ _
  obtain ⟨T1, h1, k1, X1, e1, E1, A1, st1⟩ := newP X0 hx hZ (ww hw 24 rfl) e0 (g := (mkF m 1 #[va o0, vi 0, vi 1, uu, uu, uu] [(.int 1)])) rfl (hb hby d5_1) rfl (by decide) (cap := 1) (by decide) (by decide) (by decide) (by decide)
  obtain ⟨b1, qs1⟩ : ∃ z, z = h0.size := ⟨_, rfl⟩
  rw [← qs1] at A1 st1
  have ne_o0_b1 : o0 ≠ b1 := Nat.ne_of_lt (Nat.lt_of_lt_of_le V_o0.lt (Nat.le_of_eq qs1.symm))
  have g_b1 : n0 ≤ b1 := Nat.le_trans (own_old O0) (Nat.le_of_eq qs1.symm)
  have sz_b1 : h0.size ≤ b1 := Nat.le_trans K0.1 (Nat.le_of_eq qs1.symm)
  have O1 := O0.ext E1
  have K1 : Keep h0 h1 [] := K0.ext E1
  have V_b1 : Arv Z h1 b1 k1 .byte (1 : Int32) [(.int 0)] (.int 0) := (Arv.new A1 (by decide)).pad (pad_rep [] (.int 0) 1)
  have fc2 := (V_o0.ext E1)
  obtain ⟨_, _, ⟨T3, L3, k3, n3⟩, -, X3, ⟨Lc3, hQ3, l3, y3, z3⟩, st3⟩ := Jvm.LawKit.callS X1 hx (y := My6) hown (mvT hZ (ww hw 25 rfl)) (mvT hZ (ww hw 26 rfl)) (mvT hZ (ww hw 22 rfl)) (mvT hZ (ww hw 27 rfl)) (by decide) (backOf (W := 0) (rm6_5 l Z a0 hw [] z_COMPACT_STRINGS o0 b1 kk_o0 k1 p0 h1 n0 O1 S fc2 V_b1 g_b1 hc0) hZ (ww hw 27 rfl) (ww hw 22 rfl) (by decide) (by decide)) (g := (mkF m 9 #[va o0, vi 0, vi 1, va b1, uu, uu] [(.int 1), (.int 0), (.ref b1), (.int 0), (.ref o0)])) rfl (by rw [hml]; rfl) (argsL := [(.ref o0), (.int 0), (.ref b1), (.int 0), (.int 1)]) (rest := []) (lenOf pd_0 rfl) rfl (by show 2 * 0 + _ ≤ _; exact Nat.le_of_eq rfl) (hb hby d5_9) (fun _ _ => ⟨rfl, e1, (by decide : 1 + 0 ≤ _), (by decide : 1 + 0 ≤ _)⟩)
  dsimp only [Pt.U, Pt.locs, Pt.cells, Pt.slots] at X3 l3 y3 z3 st3 hQ3
  subst l3 y3 z3
  obtain ⟨rfl, Nq3, Kc3, P0_3⟩ := hQ3
  have N3 := Fr.app N0 Nq3
  have O3 := O1.keep Kc3 (allS g_b1 all0)
  have K3 : Keep h0 T3.heap [] := K1.trans Kc3 (allS (Or.inr sz_b1) all0)
  obtain ⟨fs, hr, hrun, hended, hW, hsame⟩ := X3.leave (v := (some (.ref b1))) (fun h => by rw [hrt] at h; cases h)
  refine ⟨_, _, ?_, hrun, hended, _, _, rfl, ?_, ⟨_, rfl⟩, hW, hsame.mono (by decide) (by decide)⟩
  · show Steps p.tables e below (s₁.setTop (mkF m 0 #[va o0, vi 0, vi 1, uu, uu, uu] [])) _
    refine XS.iloadN X0.here hx rfl (hb hby d5_0) rfl ?_
    refine st1 _ ?_
    refine XS.astoreN X1.here hx rfl (hb hby d5_3) rfl rfl (l' := #[va o0, vi 0, vi 1, va b1, uu, uu]) rfl ?_
    refine XS.aloadN X1.here hx rfl (hb hby d5_4) rfl rfl ?_
    refine XS.iloadN X1.here hx rfl (hb hby d5_5) rfl ?_
    refine XS.aloadN X1.here hx rfl (hb hby d5_6) rfl rfl ?_
    refine XS.iconst X1.here hx rfl (hb hby d5_7) ?_
    refine XS.iloadN X1.here hx rfl (hb hby d5_8) rfl ?_
    show Steps p.tables e below (T1.setTop (mkF m 9 #[va o0, vi 0, vi 1, va b1, uu, uu] [(.int 1), (.int 0), (.ref b1), (.int 0), (.ref o0)])) _
    refine st3 _ ?_
    refine XS.istore X3.here hx rfl (hb hby d5_12) rfl (l' := #[va o0, vi 0, vi 1, va b1, vi 1, uu]) rfl ?_
    refine XS.iload X3.here hx rfl (hb hby d5_14) rfl ?_
    refine XS.iloadN X3.here hx rfl (hb hby d5_16) rfl ?_
    refine XS.icmpYes X3.here hx rfl (pc0 := 17) (pc' := 57) rfl (hb hby d5_17) rfl (teq (by decide : (1 : Int32) = (1 : Int32))).1 (by decide) (by decide) ?_
    refine XS.aloadN X3.here hx rfl (hb hby d5_57) rfl rfl ?_
    exact retOut X3 hx (t := (.array .byte)) (i := .areturn) hrt rfl (Or.inr (Or.inr (Or.inr (Or.inr ⟨rfl, rfl, rfl⟩)))) (hb hby d5_58) hr
  · show Q5_5 Z z_COMPACT_STRINGS o0 kk_o0 p0 h0 n0 (some (.ref b1)) T3.heap _
    exact (⟨b1, k1, rfl, N3, K3, P0_3, sz_b1⟩)
def Q6_6 (Z : State) (z_COMPACT_STRINGS : Int32) (o0 : Addr) (o1 : Addr) (kk_o0 : ClassId) (kk_o1 : ClassId) (p0 : Int32) (h0 : Heap) (n0 : Nat) (v : Option Value) (h : Heap) (L : List Loc) : Prop := v = (some (.int 0)) ∧ Fr n0 L ∧ h = h0
theorem rm6_6 (l : Launch) (Z : State) (a0 : Array Value) (hw : HW Z a0) (ws : List Jvm.Cond) (z_COMPACT_STRINGS : Int32) (o0 : Addr) (o1 : Addr) (kk_o0 : ClassId) (kk_o1 : ClassId) (p0 : Int32) (h0 : Heap) (n0 : Nat) (O0 : Old Z n0 h0) (S : SF Z z_COMPACT_STRINGS) (V_o0 : Arv Z h0 o0 kk_o0 .char (1 : Int32) [(.int p0)] (.int 0)) (hc0 : (255 : Int32) < p0) :
    Pay l Z My6 ws jdk_52_method_21_code 7 (some .int) #[(.ref o0), (.int 0), (.ref o1), (.int 0), (.int 1)] h0 ({ frames := 0, cells := 0, slots := 0, locals := 0 } : Room) (Q6_6 Z z_COMPACT_STRINGS o0 o1 kk_o0 kk_o1 p0 h0 n0) := by
  refine own_body (plainFor_of_name pn_2) (L0 := #[va o0, vi 0, va o1, vi 0, vi 1, uu, uu]) (fun _ => by first | rfl | (simp [entryFrame, mkF, argsToLocals, Value.category]; done)) ?_
  intro p e s m below meth c s₁ hrt hlk hx hby hml hZ hown0 hnm X0 e0
  have hown : s.vm.findClass sC1 = some m.cls := hown0
  have N0 := Fr.nil n0
  have K0 : Keep h0 h0 [] := Keep.refl _ _
  obtain ⟨cl1, Ar1, qk1, Sz1, Ng1, Hh1, Gg1⟩ := id V_o0
  have hin1_0 : ¬ ((0 : Int32) < 0 ∨ cl1.slots.size ≤ ((0 : Int32)).toNatClampNeg) := inb_of Sz1 ⟨by decide, by decide⟩
  obtain ⟨fs, hr, hrun, hended, hW, hsame⟩ := X0.leave (v := (some (.int 0))) (fun h => by rw [hrt] at h; cases h)
  refine ⟨_, _, ?_, hrun, hended, _, _, rfl, ?_, ⟨_, rfl⟩, hW, hsame.mono (by decide) (by decide)⟩
  · show Steps p.tables e below (s₁.setTop (mkF m 0 #[va o0, vi 0, va o1, vi 0, vi 1, uu, uu] [])) _
    refine XS.iconst X0.here hx rfl (hb hby d6_0) ?_
    refine XS.istore X0.here hx rfl (hb hby d6_1) rfl (l' := #[va o0, vi 0, va o1, vi 0, vi 1, vi 0, uu]) rfl ?_
    refine XS.iload X0.here hx rfl (hb hby d6_3) rfl ?_
    refine XS.iload X0.here hx rfl (hb hby d6_5) rfl ?_
    refine XS.icmpNo X0.here hx rfl (hb hby d6_7) rfl (tlt (by decide : (0 : Int32) < (1 : Int32))).2.1 ?_
    refine XS.aloadN X0.here hx rfl (hb hby d6_10) rfl rfl ?_
    refine XS.iloadN X0.here hx rfl (hb hby d6_11) rfl ?_
    refine X0.caload hx (j := (0 : Int32)) (v := (.int p0)) (by rw [e0]; exact Ar1.1) (State.isArrayOf_alike hZ.alike Ar1.2.1) Ar1.2.2 hin1_0 (Has.at Hh1 hin1_0 rfl) (g := (mkF m 12 #[va o0, vi 0, va o1, vi 0, vi 1, vi 0, uu] [(.int 0), (.ref o0)])) rfl rfl (hb hby d6_12) _ ?_
    show Steps p.tables e below (s₁.setTop (mkF m 13 #[va o0, vi 0, va o1, vi 0, vi 1, vi 0, uu] [(.int p0)])) _
    refine XS.istore X0.here hx rfl (hb hby d6_13) rfl (l' := #[va o0, vi 0, va o1, vi 0, vi 1, vi 0, vi p0]) rfl ?_
    refine XS.iload X0.here hx rfl (hb hby d6_15) rfl ?_
    refine XS.sipush X0.here hx rfl (hb hby d6_17) ?_
    refine XS.icmpNo X0.here hx rfl (hb hby d6_20) rfl (tlt hc0).2.2.2 ?_
    refine XS.iload X0.here hx rfl (hb hby d6_23) rfl ?_
    exact retOut X0 hx (t := .int) (i := .ireturn) hrt rfl (Or.inl ⟨rfl, Or.inl rfl, _, rfl⟩) (hb hby d6_25) hr
  · show Q6_6 Z z_COMPACT_STRINGS o0 o1 kk_o0 kk_o1 p0 h0 n0 (some (.int 0)) s₁.heap _
    exact (⟨rfl, N0, e0⟩)
def Q15_1 (Z : State) (z_COMPACT_STRINGS : Int32) (h0 : Heap) (n0 : Nat) (v : Option Value) (h : Heap) (L : List Loc) : Prop := v = (some (.int 2)) ∧ Fr n0 L ∧ h = h0
theorem rm15_1 (l : Launch) (Z : State) (a0 : Array Value) (hw : HW Z a0) (ws : List Jvm.Cond) (z_COMPACT_STRINGS : Int32) (h0 : Heap) (n0 : Nat) (O0 : Old Z n0 h0) (S : SF Z z_COMPACT_STRINGS) :
    Pay l Z My15 ws jdk_52_method_3_code 1 (some .int) #[(.int 1)] h0 ({ frames := 0, cells := 0, slots := 0, locals := 0 } : Room) (Q15_1 Z z_COMPACT_STRINGS  h0 n0) := by
  refine own_body (plainFor_of_name pn_2) (L0 := #[vi 1]) (fun _ => by first | rfl | (simp [entryFrame, mkF, argsToLocals, Value.category]; done)) ?_
  intro p e s m below meth c s₁ hrt hlk hx hby hml hZ hown0 hnm X0 e0
  have hown : s.vm.findClass sC1 = some m.cls := hown0
  have N0 := Fr.nil n0
  have K0 : Keep h0 h0 [] := Keep.refl _ _
  obtain ⟨fs, hr, hrun, hended, hW, hsame⟩ := X0.leave (v := (some (.int 2))) (fun h => by rw [hrt] at h; cases h)
  refine ⟨_, _, ?_, hrun, hended, _, _, rfl, ?_, ⟨_, rfl⟩, hW, hsame.mono (by decide) (by decide)⟩
  · show Steps p.tables e below (s₁.setTop (mkF m 0 #[vi 1] [])) _
    refine XS.iloadN X0.here hx rfl (hb hby d15_0) rfl ?_
    refine XS.ifYes X0.here hx rfl (pc0 := 1) (pc' := 12) rfl (hb hby d15_1) rfl ((if0 _ _).trans (flt (by decide : ¬ ((1 : Int32) < (0 : Int32)))).2.1) (by decide) (by decide) ?_
    refine XS.iloadN X0.here hx rfl (hb hby d15_12) rfl ?_
    refine X0.ldcInt hx hown (mvT hZ (ww hw 70 rfl)) (g := (mkF m 13 #[vi 1] [(.int 1)])) rfl (hb hby d15_13) _ ?_
    refine XS.icmpYes X0.here hx rfl (pc0 := 15) (pc' := 55) rfl (hb hby d15_15) rfl (tlt (by decide : (1 : Int32) < (1073741823 : Int32))).1 (by decide) (by decide) ?_
    refine XS.iloadN X0.here hx rfl (hb hby d15_55) rfl ?_
    refine XS.iconst X0.here hx rfl (hb hby d15_56) ?_
    refine XS.ishl X0.here hx rfl (hb hby d15_57) rfl ?_
    show Steps p.tables e below (s₁.setTop (mkF m 58 #[vi 1] [(.int ((1 : Int32) <<< ((1 : Int32) &&& 31)))])) _
    rw [show (((1 : Int32) <<< ((1 : Int32) &&& 31)) : Int32) = (2 : Int32) from by decide]
    exact retOut X0 hx (t := .int) (i := .ireturn) hrt rfl (Or.inl ⟨rfl, Or.inl rfl, _, rfl⟩) (hb hby d15_58) hr
  · show Q15_1 Z z_COMPACT_STRINGS  h0 n0 (some (.int 2)) s₁.heap _
    exact (⟨rfl, N0, e0⟩)
def Q14_1 (Z : State) (z_COMPACT_STRINGS : Int32) (h0 : Heap) (n0 : Nat) (v : Option Value) (h : Heap) (L : List Loc) : Prop := ∃ (b2 : Addr), ∃ (k2 : ClassId), v = (some (.ref b2)) ∧ Fr n0 L ∧ Keep h0 h [] ∧ Arv Z h b2 k2 .byte (2 : Int32) [(.int 0), (.int 0)] (.int 0) ∧ h0.size ≤ b2
theorem rm14_1 (l : Launch) (Z : State) (a0 : Array Value) (hw : HW Z a0) (ws : List Jvm.Cond) (z_COMPACT_STRINGS : Int32) (h0 : Heap) (n0 : Nat) (O0 : Old Z n0 h0) (S : SF Z z_COMPACT_STRINGS) :
    Pay l Z My14 ws jdk_52_method_2_code 1 (some (.array .byte)) #[(.int 1)] h0 ({ frames := 1, cells := 1, slots := 2, locals := 12 } : Room) (Q14_1 Z z_COMPACT_STRINGS  h0 n0) := by
  refine own_body (plainFor_of_name pn_2) (L0 := #[vi 1]) (fun _ => by first | rfl | (simp [entryFrame, mkF, argsToLocals, Value.category]; done)) ?_
  intro p e s m below meth c s₁ hrt hlk hx hby hml hZ hown0 hnm X0 e0
  have hown : s.vm.findClass sC1 = some m.cls := hown0
  have N0 := Fr.nil n0
  have K0 : Keep h0 h0 [] := Keep.refl _ _
  obtain ⟨_, _, ⟨T1, L1, k1, n1⟩, -, X1, ⟨Lc1, hQ1, l1, y1, z1⟩, st1⟩ := Jvm.LawKit.callS X0 hx (y := My15) hown (mvT hZ (ww hw 67 rfl)) (mvT hZ (ww hw 68 rfl)) (mvT hZ (ww hw 22 rfl)) (mvT hZ (ww hw 69 rfl)) (by decide) (backOf (W := 0) (rm15_1 l Z a0 hw [] z_COMPACT_STRINGS h0 n0 O0 S) hZ (ww hw 69 rfl) (ww hw 22 rfl) (by decide) (by decide)) (g := (mkF m 1 #[vi 1] [(.int 1)])) rfl (by rw [hml]; rfl) (argsL := [(.int 1)]) (rest := []) (lenOf pd_1 rfl) rfl (by show 2 * 0 + _ ≤ _; exact Nat.le_of_eq rfl) (hb hby d14_1) (fun _ _ => ⟨rfl, e0, (by decide : 0 + 0 ≤ _), (by decide : 0 + 0 ≤ _)⟩)
  dsimp only [Pt.U, Pt.locs, Pt.cells, Pt.slots] at X1 l1 y1 z1 st1 hQ1
  subst l1 y1 z1
  obtain ⟨rfl, Nq1, e1⟩ := hQ1
  have N1 := Fr.app N0 Nq1
  obtain ⟨T2, h2, k2, X2, e2, E2, A2, st2⟩ := newP X1 hx hZ (ww hw 24 rfl) e1 (g := (mkF m 4 #[vi 1] [(.int 2)])) rfl (hb hby d14_4) rfl (by decide) (cap := 2) (by decide) (by decide) (by decide) (by decide)
  obtain ⟨b2, qs2⟩ : ∃ z, z = h0.size := ⟨_, rfl⟩
  rw [← qs2] at A2 st2
  have g_b2 : n0 ≤ b2 := Nat.le_trans (own_old O0) (Nat.le_of_eq qs2.symm)
  have sz_b2 : h0.size ≤ b2 := Nat.le_trans K0.1 (Nat.le_of_eq qs2.symm)
  have O2 := O0.ext E2
  have K2 : Keep h0 h2 [] := K0.ext E2
  have V_b2 : Arv Z h2 b2 k2 .byte (2 : Int32) [(.int 0), (.int 0)] (.int 0) := (Arv.new A2 (by decide)).pad (pad_rep [] (.int 0) 2)
  obtain ⟨fs, hr, hrun, hended, hW, hsame⟩ := X2.leave (v := (some (.ref b2))) (fun h => by rw [hrt] at h; cases h)
  refine ⟨_, _, ?_, hrun, hended, _, _, rfl, ?_, ⟨_, rfl⟩, hW, hsame.mono (by decide) (by decide)⟩
  · show Steps p.tables e below (s₁.setTop (mkF m 0 #[vi 1] [])) _
    refine XS.iloadN X0.here hx rfl (hb hby d14_0) rfl ?_
    refine st1 _ ?_
    refine st2 _ ?_
    exact retOut X2 hx (t := (.array .byte)) (i := .areturn) hrt rfl (Or.inr (Or.inr (Or.inr (Or.inr ⟨rfl, rfl, rfl⟩)))) (hb hby d14_6) hr
  · show Q14_1 Z z_COMPACT_STRINGS  h0 n0 (some (.ref b2)) T2.heap _
    rw [e2]; exact ⟨b2, k2, rfl, N1, K2, V_b2, sz_b2⟩
def Q16_4 (Z : State) (z_COMPACT_STRINGS : Int32) (o0 : Addr) (kk_o0 : ClassId) (p0 : Int32) (h0 : Heap) (n0 : Nat) (v : Option Value) (h : Heap) (L : List Loc) : Prop := v = none ∧ Fr n0 L ∧ Keep h0 h [o0] ∧ Arv Z h o0 kk_o0 .byte (2 : Int32) [(.int (bb (bb (p0 >>> ((0 : Int32) &&& 31))))), (.int (bb (bb (p0 >>> ((8 : Int32) &&& 31)))))] (.int 0)
theorem rm16_4 (l : Launch) (Z : State) (a0 : Array Value) (hw : HW Z a0) (ws : List Jvm.Cond) (z_COMPACT_STRINGS : Int32) (o0 : Addr) (kk_o0 : ClassId) (p0 : Int32) (h0 : Heap) (n0 : Nat) (O0 : Old Z n0 h0) (S : SF Z z_COMPACT_STRINGS) (V_o0 : Arv Z h0 o0 kk_o0 .byte (2 : Int32) [(.int 0), (.int 0)] (.int 0)) (g_o0 : n0 ≤ o0) :
    Pay l Z My16 ws jdk_52_method_4_code 3 none #[(.ref o0), (.int 0), (.int p0)] h0 ({ frames := 0, cells := 0, slots := 0, locals := 0 } : Room) (Q16_4 Z z_COMPACT_STRINGS o0 kk_o0 p0 h0 n0) := by
  obtain ⟨-, -, S_StringUTF16__assertionsDisabled, S_StringUTF16_HI_BYTE_SHIFT, S_StringUTF16_LO_BYTE_SHIFT, -⟩ := id S
  refine own_body (plainFor_of_name pn_2) (L0 := #[va o0, vi 0, vi p0]) (fun _ => by first | rfl | (simp [entryFrame, mkF, argsToLocals, Value.category]; done)) ?_
  intro p e s m below meth c s₁ hrt hlk hx hby hml hZ hown0 hnm X0 e0
  have hown : s.vm.findClass sC1 = some m.cls := hown0
  have N0 := Fr.nil n0
  have K0 : Keep h0 h0 [o0] := Keep.refl _ _
  obtain ⟨T1, X1, e1, st1⟩ := getS2 X0 hx hZ hown (host := "") (Or.inl (ww hw 74 rfl)) Via.refl e0 (S_StringUTF16__assertionsDisabled.ext O0.2) (g := (mkF m 0 #[va o0, vi 0, vi p0] [])) rfl (hb hby d16_0)
  obtain ⟨T2, X2, e2, st2⟩ := getS2 X1 hx hZ hown (host := "") (Or.inl (ww hw 75 rfl)) Via.refl e1 (S_StringUTF16_HI_BYTE_SHIFT.ext O0.2) (g := (mkF m 38 #[va o0, vi 1, vi p0] [(.int p0), (.int 0), (.ref o0)])) rfl (hb hby d16_38)
  obtain ⟨cl3, Ar3, qk3, Sz3, Ng3, Hh3, Gg3⟩ := id V_o0
  have hin3_0 : ¬ ((0 : Int32) < 0 ∨ cl3.slots.size ≤ ((0 : Int32)).toNatClampNeg) := inb_of Sz3 ⟨by decide, by decide⟩
  obtain ⟨T4, h4, X4, e4, W4, st4⟩ := stB X2 hx hZ e2 Ar3 (j := (0 : Int32)) hin3_0 (g := (mkF m 43 #[va o0, vi 1, vi p0] [(.int (bb (p0 >>> ((0 : Int32) &&& 31)))), (.int 0), (.ref o0)])) rfl rfl (hb hby d16_43)
  have V4 : Arv Z h4 o0 kk_o0 .byte (2 : Int32) [(.int (bb (bb (p0 >>> ((0 : Int32) &&& 31))))), (.int 0)] (.int 0) := Arv.set Ar3 qk3 Sz3 Ng3 Hh3 Gg3 (fits_nar_byte _) W4 0 rfl (Nat.le_of_ble_eq_true rfl)
  have O4 := O0.wr W4 g_o0
  have K4 : Keep h0 h4 [o0] := K0.wr W4 (Or.inl (List.mem_of_getElem? (i := 0) rfl))
  have N4 := Fr.snoc X4 N0 g_o0
  obtain ⟨T5, X5, e5, st5⟩ := getS2 X4 hx hZ hown (host := "") (Or.inl (ww hw 76 rfl)) Via.refl e4 (S_StringUTF16_LO_BYTE_SHIFT.ext O4.2) (g := (mkF m 47 #[va o0, vi 1, vi p0] [(.int p0), (.int 1), (.ref o0)])) rfl (hb hby d16_47)
  obtain ⟨cl6, Ar6, qk6, Sz6, Ng6, Hh6, Gg6⟩ := id V4
  have hin6_1 : ¬ ((1 : Int32) < 0 ∨ cl6.slots.size ≤ ((1 : Int32)).toNatClampNeg) := inb_of Sz6 ⟨by decide, by decide⟩
  obtain ⟨T7, h7, X7, e7, W7, st7⟩ := stB X5 hx hZ e5 Ar6 (j := (1 : Int32)) hin6_1 (g := (mkF m 52 #[va o0, vi 1, vi p0] [(.int (bb (p0 >>> ((8 : Int32) &&& 31)))), (.int 1), (.ref o0)])) rfl rfl (hb hby d16_52)
  have V7 : Arv Z h7 o0 kk_o0 .byte (2 : Int32) [(.int (bb (bb (p0 >>> ((0 : Int32) &&& 31))))), (.int (bb (bb (p0 >>> ((8 : Int32) &&& 31)))))] (.int 0) := Arv.set Ar6 qk6 Sz6 Ng6 Hh6 Gg6 (fits_nar_byte _) W7 1 rfl (Nat.le_of_ble_eq_true rfl)
  have O7 := O4.wr W7 g_o0
  have K7 : Keep h0 h7 [o0] := K4.wr W7 (Or.inl (List.mem_of_getElem? (i := 0) rfl))
  have N7 := Fr.snoc X7 N4 g_o0
  obtain ⟨fs, hr, hrun, hended, hW, hsame⟩ := X7.leave (v := none) (fun _ => rfl)
  refine ⟨_, _, ?_, hrun, hended, _, _, rfl, ?_, ⟨_, rfl⟩, hW, hsame.mono (by decide) (by decide)⟩
  · show Steps p.tables e below (s₁.setTop (mkF m 0 #[va o0, vi 0, vi p0] [])) _
    refine st1 _ ?_
    refine XS.ifYes X1.here hx rfl (pc0 := 3) (pc' := 28) rfl (hb hby d16_3) rfl ((if0 _ _).trans (feq (by decide : ¬ ((1 : Int32) = (0 : Int32)))).2) (by decide) (by decide) ?_
    refine XS.iloadN X1.here hx rfl (hb hby d16_28) rfl ?_
    refine XS.iconst X1.here hx rfl (hb hby d16_29) ?_
    refine XS.ishl X1.here hx rfl (hb hby d16_30) rfl ?_
    show Steps p.tables e below (T1.setTop (mkF m 31 #[va o0, vi 0, vi p0] [(.int ((0 : Int32) <<< ((1 : Int32) &&& 31)))])) _
    rw [show (((0 : Int32) <<< ((1 : Int32) &&& 31)) : Int32) = (0 : Int32) from by decide]
    refine XS.istoreN X1.here hx rfl (hb hby d16_31) rfl (l' := #[va o0, vi 0, vi p0]) rfl ?_
    refine XS.aloadN X1.here hx rfl (hb hby d16_32) rfl rfl ?_
    refine XS.iloadN X1.here hx rfl (hb hby d16_33) rfl ?_
    refine XS.iinc X1.here hx rfl (hb hby d16_34) rfl (l' := #[va o0, vi ((0 : Int32) + (1 : Int32)), vi p0]) rfl ?_
    show Steps p.tables e below (T1.setTop (mkF m 37 #[va o0, vi ((0 : Int32) + (1 : Int32)), vi p0] [(.int 0), (.ref o0)])) _
    rw [show (((0 : Int32) + (1 : Int32)) : Int32) = (1 : Int32) from by decide]
    refine XS.iloadN X1.here hx rfl (hb hby d16_37) rfl ?_
    refine st2 _ ?_
    refine XS.ishr X2.here hx rfl (hb hby d16_41) rfl ?_
    refine XS.i2b X2.here hx rfl (hb hby d16_42) rfl ?_
    refine st4 _ ?_
    refine XS.aloadN X4.here hx rfl (hb hby d16_44) rfl rfl ?_
    refine XS.iloadN X4.here hx rfl (hb hby d16_45) rfl ?_
    show Steps p.tables e below (T4.setTop (mkF m 46 #[va o0, vi 1, vi p0] [(.int 1), (.ref o0)])) _
    refine XS.iloadN X4.here hx rfl (hb hby d16_46) rfl ?_
    refine st5 _ ?_
    refine XS.ishr X5.here hx rfl (hb hby d16_50) rfl ?_
    refine XS.i2b X5.here hx rfl (hb hby d16_51) rfl ?_
    refine st7 _ ?_
    exact X7.returnOut hx hrt (hb hby d16_53) hr
  · show Q16_4 Z z_COMPACT_STRINGS o0 kk_o0 p0 h0 n0 none T7.heap _
    rw [e7]; exact ⟨rfl, N7, K7, V7⟩
def Q13_1 (Z : State) (z_COMPACT_STRINGS : Int32) (o0 : Addr) (kk_o0 : ClassId) (p0 : Int32) (h0 : Heap) (n0 : Nat) (v : Option Value) (h : Heap) (L : List Loc) : Prop := ∃ (b2_1 : Addr), ∃ (k2_1 : ClassId), v = (some (.ref b2_1)) ∧ Fr n0 L ∧ Keep h0 h [] ∧ Arv Z h b2_1 k2_1 .byte (2 : Int32) [(.int (bb (bb (p0 >>> ((0 : Int32) &&& 31))))), (.int (bb (bb (p0 >>> ((8 : Int32) &&& 31)))))] (.int 0) ∧ h0.size ≤ b2_1
theorem rm13_1 (l : Launch) (Z : State) (a0 : Array Value) (hw : HW Z a0) (ws : List Jvm.Cond) (z_COMPACT_STRINGS : Int32) (o0 : Addr) (kk_o0 : ClassId) (p0 : Int32) (h0 : Heap) (n0 : Nat) (O0 : Old Z n0 h0) (S : SF Z z_COMPACT_STRINGS) (V_o0 : Arv Z h0 o0 kk_o0 .char (1 : Int32) [(.int p0)] (.int 0)) :
    Pay l Z My13 ws jdk_52_method_14_code 5 (some (.array .byte)) #[(.ref o0), (.int 0), (.int 1)] h0 ({ frames := 2, cells := 1, slots := 2, locals := 24 } : Room) (Q13_1 Z z_COMPACT_STRINGS o0 kk_o0 p0 h0 n0) := by
  refine own_body (plainFor_of_name pn_2) (L0 := #[va o0, vi 0, vi 1, uu, uu]) (fun _ => by first | rfl | (simp [entryFrame, mkF, argsToLocals, Value.category]; done)) ?_
  intro p e s m below meth c s₁ hrt hlk hx hby hml hZ hown0 hnm X0 e0
  have hown : s.vm.findClass sC1 = some m.cls := hown0
  have N0 := Fr.nil n0
  have K0 : Keep h0 h0 [] := Keep.refl _ _
  obtain ⟨_, _, ⟨T1, L1, k1, n1⟩, -, X1, ⟨Lc1, hQ1, l1, y1, z1⟩, st1⟩ := Jvm.LawKit.callS X0 hx (y := My14) hown (mvT hZ (ww hw 64 rfl)) (mvT hZ (ww hw 65 rfl)) (mvT hZ (ww hw 22 rfl)) (mvT hZ (ww hw 66 rfl)) (by decide) (backOf (W := 0) (rm14_1 l Z a0 hw [] z_COMPACT_STRINGS h0 n0 O0 S) hZ (ww hw 66 rfl) (ww hw 22 rfl) (by decide) (by decide)) (g := (mkF m 1 #[va o0, vi 0, vi 1, uu, uu] [(.int 1)])) rfl (by rw [hml]; rfl) (argsL := [(.int 1)]) (rest := []) (lenOf pd_2 rfl) rfl (by show 2 * 0 + _ ≤ _; exact Nat.le_of_eq rfl) (hb hby d13_1) (fun _ _ => ⟨rfl, e0, (by decide : 0 + 1 ≤ _), (by decide : 0 + 2 ≤ _)⟩)
  dsimp only [Pt.U, Pt.locs, Pt.cells, Pt.slots] at X1 l1 y1 z1 st1 hQ1
  subst l1 y1 z1
  obtain ⟨b2_1, k2_1, rfl, Nq1, Kc1, P0_1, P1_1⟩ := hQ1
  have N1 := Fr.app N0 Nq1
  have ne_o0_b2_1 : o0 ≠ b2_1 := Nat.ne_of_lt (Nat.lt_of_lt_of_le V_o0.lt P1_1)
  have g_b2_1 : n0 ≤ b2_1 := Nat.le_trans (own_old O0) P1_1
  have sz_b2_1 : h0.size ≤ b2_1 := Nat.le_trans K0.1 P1_1
  have O1 := O0.keep Kc1 all0
  have K1 : Keep h0 T1.heap [] := K0.trans Kc1 all0
  have fc2 := (V_o0.keep Kc1 nin0)
  obtain ⟨cl3, Ar3, qk3, Sz3, Ng3, Hh3, Gg3⟩ := id fc2
  have hin3_0 : ¬ ((0 : Int32) < 0 ∨ cl3.slots.size ≤ ((0 : Int32)).toNatClampNeg) := inb_of Sz3 ⟨by decide, by decide⟩
  obtain ⟨_, _, ⟨T4, L4, k4, n4⟩, -, X4, ⟨Lc4, hQ4, l4, y4, z4⟩, st4⟩ := Jvm.LawKit.callS X1 hx (y := My16) hown (mvT hZ (ww hw 71 rfl)) (mvT hZ (ww hw 72 rfl)) (mvT hZ (ww hw 22 rfl)) (mvT hZ (ww hw 73 rfl)) (by decide) (backOf (W := 0) (rm16_4 l Z a0 hw [] z_COMPACT_STRINGS b2_1 k2_1 p0 T1.heap n0 O1 S P0_1 g_b2_1) hZ (ww hw 73 rfl) (ww hw 22 rfl) (by decide) (by decide)) (g := (mkF m 20 #[va o0, vi 0, vi 1, va b2_1, vi 0] [(.int p0), (.int 0), (.ref b2_1)])) rfl (by rw [hml]; rfl) (argsL := [(.ref b2_1), (.int 0), (.int p0)]) (rest := []) (lenOf pd_3 rfl) rfl (by show 2 * 0 + _ ≤ _; exact Nat.le_of_eq rfl) (hb hby d13_20) (fun _ _ => ⟨rfl, rfl, (by decide : 1 + 0 ≤ _), (by decide : 2 + 0 ≤ _)⟩)
  dsimp only [Pt.U, Pt.locs, Pt.cells, Pt.slots] at X4 l4 y4 z4 st4 hQ4
  subst l4 y4 z4
  obtain ⟨rfl, Nq4, Kc4, P0_4⟩ := hQ4
  have N4 := Fr.app N1 Nq4
  have O4 := O1.keep Kc4 (allS g_b2_1 all0)
  have K4 : Keep h0 T4.heap [] := K1.trans Kc4 (allS (Or.inr sz_b2_1) all0)
  obtain ⟨fs, hr, hrun, hended, hW, hsame⟩ := X4.leave (v := (some (.ref b2_1))) (fun h => by rw [hrt] at h; cases h)
  refine ⟨_, _, ?_, hrun, hended, _, _, rfl, ?_, ⟨_, rfl⟩, hW, hsame.mono (by decide) (by decide)⟩
  · show Steps p.tables e below (s₁.setTop (mkF m 0 #[va o0, vi 0, vi 1, uu, uu] [])) _
    refine XS.iloadN X0.here hx rfl (hb hby d13_0) rfl ?_
    refine st1 _ ?_
    refine XS.astoreN X1.here hx rfl (hb hby d13_4) rfl rfl (l' := #[va o0, vi 0, vi 1, va b2_1, uu]) rfl ?_
    refine XS.iconst X1.here hx rfl (hb hby d13_5) ?_
    refine XS.istore X1.here hx rfl (hb hby d13_6) rfl (l' := #[va o0, vi 0, vi 1, va b2_1, vi 0]) rfl ?_
    refine XS.iload X1.here hx rfl (hb hby d13_8) rfl ?_
    refine XS.iloadN X1.here hx rfl (hb hby d13_10) rfl ?_
    refine XS.icmpNo X1.here hx rfl (hb hby d13_11) rfl (tlt (by decide : (0 : Int32) < (1 : Int32))).2.1 ?_
    show Steps p.tables e below (T1.setTop (mkF m 14 #[va o0, vi 0, vi 1, va b2_1, vi 0] [])) _
    refine XS.aloadN X1.here hx rfl (hb hby d13_14) rfl rfl ?_
    refine XS.iload X1.here hx rfl (hb hby d13_15) rfl ?_
    refine XS.aloadN X1.here hx rfl (hb hby d13_17) rfl rfl ?_
    refine XS.iloadN X1.here hx rfl (hb hby d13_18) rfl ?_
    refine X1.caload hx (j := (0 : Int32)) (v := (.int p0)) Ar3.1 (State.isArrayOf_alike hZ.alike Ar3.2.1) Ar3.2.2 hin3_0 (Has.at Hh3 hin3_0 rfl) (g := (mkF m 19 #[va o0, vi 0, vi 1, va b2_1, vi 0] [(.int 0), (.ref o0), (.int 0), (.ref b2_1)])) rfl rfl (hb hby d13_19) _ ?_
    refine st4 _ ?_
    refine XS.iinc X4.here hx rfl (hb hby d13_23) rfl (l' := #[va o0, vi ((0 : Int32) + (1 : Int32)), vi 1, va b2_1, vi 0]) rfl ?_
    show Steps p.tables e below (T4.setTop (mkF m 26 #[va o0, vi ((0 : Int32) + (1 : Int32)), vi 1, va b2_1, vi 0] [])) _
    rw [show (((0 : Int32) + (1 : Int32)) : Int32) = (1 : Int32) from by decide]
    refine XS.iinc X4.here hx rfl (hb hby d13_26) rfl (l' := #[va o0, vi 1, vi 1, va b2_1, vi ((0 : Int32) + (1 : Int32))]) rfl ?_
    show Steps p.tables e below (T4.setTop (mkF m 29 #[va o0, vi 1, vi 1, va b2_1, vi ((0 : Int32) + (1 : Int32))] [])) _
    rw [show (((0 : Int32) + (1 : Int32)) : Int32) = (1 : Int32) from by decide]
    refine XS.goto X4.here hx rfl (pc0 := 29) (pc' := 8) rfl (hb hby d13_29) (by decide) (by decide) ?_
    refine XS.iload X4.here hx rfl (hb hby d13_8) rfl ?_
    refine XS.iloadN X4.here hx rfl (hb hby d13_10) rfl ?_
    refine XS.icmpYes X4.here hx rfl (pc0 := 11) (pc' := 32) rfl (hb hby d13_11) rfl (flt (by decide : ¬ ((1 : Int32) < (1 : Int32)))).2.1 (by decide) (by decide) ?_
    refine XS.aloadN X4.here hx rfl (hb hby d13_32) rfl rfl ?_
    exact retOut X4 hx (t := (.array .byte)) (i := .areturn) hrt rfl (Or.inr (Or.inr (Or.inr (Or.inr ⟨rfl, rfl, rfl⟩)))) (hb hby d13_33) hr
  · show Q13_1 Z z_COMPACT_STRINGS o0 kk_o0 p0 h0 n0 (some (.ref b2_1)) T4.heap _
    exact (⟨b2_1, k2_1, rfl, N4, K4, P0_4, sz_b2_1⟩)
def Q17_4 (Z : State) (z_COMPACT_STRINGS : Int32) (o0 : Addr) (kk_o0 : ClassId) (p0 : Int32) (p1 : Int32) (h0 : Heap) (n0 : Nat) (v : Option Value) (h : Heap) (L : List Loc) : Prop := v = (some (.int (cc (cc (((p0 &&& (255 : Int32)) <<< ((0 : Int32) &&& 31)) ||| ((p1 &&& (255 : Int32)) <<< ((8 : Int32) &&& 31))))))) ∧ Fr n0 L ∧ h = h0
theorem rm17_4 (l : Launch) (Z : State) (a0 : Array Value) (hw : HW Z a0) (ws : List Jvm.Cond) (z_COMPACT_STRINGS : Int32) (o0 : Addr) (kk_o0 : ClassId) (p0 : Int32) (p1 : Int32) (h0 : Heap) (n0 : Nat) (O0 : Old Z n0 h0) (S : SF Z z_COMPACT_STRINGS) (V_o0 : Arv Z h0 o0 kk_o0 .byte (2 : Int32) [(.int p0), (.int p1)] (.int 0)) :
    Pay l Z My17 ws jdk_52_method_5_code 2 (some .char) #[(.ref o0), (.int 0)] h0 ({ frames := 0, cells := 0, slots := 0, locals := 0 } : Room) (Q17_4 Z z_COMPACT_STRINGS o0 kk_o0 p0 p1 h0 n0) := by
  obtain ⟨-, -, S_StringUTF16__assertionsDisabled, S_StringUTF16_HI_BYTE_SHIFT, S_StringUTF16_LO_BYTE_SHIFT, -⟩ := id S
  refine own_body (plainFor_of_name pn_2) (L0 := #[va o0, vi 0]) (fun _ => by first | rfl | (simp [entryFrame, mkF, argsToLocals, Value.category]; done)) ?_
  intro p e s m below meth c s₁ hrt hlk hx hby hml hZ hown0 hnm X0 e0
  have hown : s.vm.findClass sC1 = some m.cls := hown0
  have N0 := Fr.nil n0
  have K0 : Keep h0 h0 [] := Keep.refl _ _
  obtain ⟨T1, X1, e1, st1⟩ := getS2 X0 hx hZ hown (host := "") (Or.inl (ww hw 74 rfl)) Via.refl e0 (S_StringUTF16__assertionsDisabled.ext O0.2) (g := (mkF m 0 #[va o0, vi 0] [])) rfl (hb hby d17_0)
  obtain ⟨cl2, Ar2, qk2, Sz2, Ng2, Hh2, Gg2⟩ := id V_o0
  have hin2_0 : ¬ ((0 : Int32) < 0 ∨ cl2.slots.size ≤ ((0 : Int32)).toNatClampNeg) := inb_of Sz2 ⟨by decide, by decide⟩
  obtain ⟨T3, X3, e3, st3⟩ := getS2 X1 hx hZ hown (host := "") (Or.inl (ww hw 75 rfl)) Via.refl e1 (S_StringUTF16_HI_BYTE_SHIFT.ext O0.2) (g := (mkF m 42 #[va o0, vi 1] [(.int (p0 &&& (255 : Int32)))])) rfl (hb hby d17_42)
  have hin2_1 : ¬ ((1 : Int32) < 0 ∨ cl2.slots.size ≤ ((1 : Int32)).toNatClampNeg) := inb_of Sz2 ⟨by decide, by decide⟩
  obtain ⟨T4, X4, e4, st4⟩ := getS2 X3 hx hZ hown (host := "") (Or.inl (ww hw 76 rfl)) Via.refl e3 (S_StringUTF16_LO_BYTE_SHIFT.ext O0.2) (g := (mkF m 53 #[va o0, vi 1] [(.int (p1 &&& (255 : Int32))), (.int ((p0 &&& (255 : Int32)) <<< ((0 : Int32) &&& 31)))])) rfl (hb hby d17_53)
  obtain ⟨fs, hr, hrun, hended, hW, hsame⟩ := X4.leave (v := (some (.int (cc (cc (((p0 &&& (255 : Int32)) <<< ((0 : Int32) &&& 31)) ||| ((p1 &&& (255 : Int32)) <<< ((8 : Int32) &&& 31)))))))) (fun h => by rw [hrt] at h; cases h)
  refine ⟨_, _, ?_, hrun, hended, _, _, rfl, ?_, ⟨_, rfl⟩, hW, hsame.mono (by decide) (by decide)⟩
  · show Steps p.tables e below (s₁.setTop (mkF m 0 #[va o0, vi 0] [])) _
    refine st1 _ ?_
    refine XS.ifYes X1.here hx rfl (pc0 := 3) (pc' := 28) rfl (hb hby d17_3) rfl ((if0 _ _).trans (feq (by decide : ¬ ((1 : Int32) = (0 : Int32)))).2) (by decide) (by decide) ?_
    refine XS.iloadN X1.here hx rfl (hb hby d17_28) rfl ?_
    refine XS.iconst X1.here hx rfl (hb hby d17_29) ?_
    refine XS.ishl X1.here hx rfl (hb hby d17_30) rfl ?_
    show Steps p.tables e below (T1.setTop (mkF m 31 #[va o0, vi 0] [(.int ((0 : Int32) <<< ((1 : Int32) &&& 31)))])) _
    rw [show (((0 : Int32) <<< ((1 : Int32) &&& 31)) : Int32) = (0 : Int32) from by decide]
    refine XS.istoreN X1.here hx rfl (hb hby d17_31) rfl (l' := #[va o0, vi 0]) rfl ?_
    refine XS.aloadN X1.here hx rfl (hb hby d17_32) rfl rfl ?_
    refine XS.iloadN X1.here hx rfl (hb hby d17_33) rfl ?_
    refine XS.iinc X1.here hx rfl (hb hby d17_34) rfl (l' := #[va o0, vi ((0 : Int32) + (1 : Int32))]) rfl ?_
    show Steps p.tables e below (T1.setTop (mkF m 37 #[va o0, vi ((0 : Int32) + (1 : Int32))] [(.int 0), (.ref o0)])) _
    rw [show (((0 : Int32) + (1 : Int32)) : Int32) = (1 : Int32) from by decide]
    refine X1.baloadBytes hx (j := (0 : Int32)) (v := (.int p0)) (by rw [e1]; exact Ar2.1) (State.isArrayOf_alike hZ.alike Ar2.2.1) Ar2.2.2 hin2_0 (Has.at Hh2 hin2_0 rfl) (g := (mkF m 37 #[va o0, vi 1] [(.int 0), (.ref o0)])) rfl rfl (hb hby d17_37) _ ?_
    refine XS.sipush X1.here hx rfl (hb hby d17_38) ?_
    refine XS.iand X1.here hx rfl (hb hby d17_41) rfl ?_
    refine st3 _ ?_
    refine XS.ishl X3.here hx rfl (hb hby d17_45) rfl ?_
    refine XS.aloadN X3.here hx rfl (hb hby d17_46) rfl rfl ?_
    refine XS.iloadN X3.here hx rfl (hb hby d17_47) rfl ?_
    show Steps p.tables e below (T3.setTop (mkF m 48 #[va o0, vi 1] [(.int 1), (.ref o0), (.int ((p0 &&& (255 : Int32)) <<< ((0 : Int32) &&& 31)))])) _
    refine X3.baloadBytes hx (j := (1 : Int32)) (v := (.int p1)) (by rw [e3]; exact Ar2.1) (State.isArrayOf_alike hZ.alike Ar2.2.1) Ar2.2.2 hin2_1 (Has.at Hh2 hin2_1 rfl) (g := (mkF m 48 #[va o0, vi 1] [(.int 1), (.ref o0), (.int ((p0 &&& (255 : Int32)) <<< ((0 : Int32) &&& 31)))])) rfl rfl (hb hby d17_48) _ ?_
    refine XS.sipush X3.here hx rfl (hb hby d17_49) ?_
    refine XS.iand X3.here hx rfl (hb hby d17_52) rfl ?_
    refine st4 _ ?_
    refine XS.ishl X4.here hx rfl (hb hby d17_56) rfl ?_
    refine XS.ior X4.here hx rfl (hb hby d17_57) rfl ?_
    refine XS.i2c X4.here hx rfl (hb hby d17_58) rfl ?_
    exact retN X4 hx (t := .char) hrt (by simp) (hb hby d17_59) hr
  · show Q17_4 Z z_COMPACT_STRINGS o0 kk_o0 p0 p1 h0 n0 (some (.int (cc (cc (((p0 &&& (255 : Int32)) <<< ((0 : Int32) &&& 31)) ||| ((p1 &&& (255 : Int32)) <<< ((8 : Int32) &&& 31))))))) T4.heap _
    exact (⟨rfl, N0, e4⟩)
def Q5_6 (Z : State) (z_COMPACT_STRINGS : Int32) (o0 : Addr) (kk_o0 : ClassId) (p0 : Int32) (h0 : Heap) (n0 : Nat) (v : Option Value) (h : Heap) (L : List Loc) : Prop := ∃ (b2_1_4 : Addr), ∃ (k2_1_4 : ClassId), v = (some (.ref b2_1_4)) ∧ Fr n0 L ∧ Keep h0 h [] ∧ Arv Z h b2_1_4 k2_1_4 .byte (2 : Int32) [(.int (bb (bb (p0 >>> ((0 : Int32) &&& 31))))), (.int (bb (bb (p0 >>> ((8 : Int32) &&& 31)))))] (.int 0) ∧ h0.size ≤ b2_1_4
theorem rm5_6 (l : Launch) (Z : State) (a0 : Array Value) (hw : HW Z a0) (ws : List Jvm.Cond) (z_COMPACT_STRINGS : Int32) (o0 : Addr) (kk_o0 : ClassId) (p0 : Int32) (h0 : Heap) (n0 : Nat) (O0 : Old Z n0 h0) (S : SF Z z_COMPACT_STRINGS) (V_o0 : Arv Z h0 o0 kk_o0 .char (1 : Int32) [(.int p0)] (.int 0)) (hc0 : (255 : Int32) < p0) :
    Pay l Z My5 ws jdk_52_method_16_code 6 (some (.array .byte)) #[(.ref o0), (.int 0), (.int 1)] h0 ({ frames := 3, cells := 2, slots := 3, locals := 40 } : Room) (Q5_6 Z z_COMPACT_STRINGS o0 kk_o0 p0 h0 n0) := by
  refine own_body (plainFor_of_name pn_2) (L0 := #[va o0, vi 0, vi 1, uu, uu, uu]) (fun _ => by first | rfl | (simp [entryFrame, mkF, argsToLocals, Value.category]; done)) ?_
  intro p e s m below meth c s₁ hrt hlk hx hby hml hZ hown0 hnm X0 e0
  have hown : s.vm.findClass sC1 = some m.cls := hown0
  have N0 := Fr.nil n0
  have K0 : Keep h0 h0 [] := Keep.refl _ _
  obtain ⟨T1, h1, k1, X1, e1, E1, A1, st1⟩ := newP X0 hx hZ (ww hw 24 rfl) e0 (g := (mkF m 1 #[va o0, vi 0, vi 1, uu, uu, uu] [(.int 1)])) rfl (hb hby d5_1) rfl (by decide) (cap := 1) (by decide) (by decide) (by decide) (by decide)
  obtain ⟨b1, qs1⟩ : ∃ z, z = h0.size := ⟨_, rfl⟩
  rw [← qs1] at A1 st1
  have ne_o0_b1 : o0 ≠ b1 := Nat.ne_of_lt (Nat.lt_of_lt_of_le V_o0.lt (Nat.le_of_eq qs1.symm))
  have g_b1 : n0 ≤ b1 := Nat.le_trans (own_old O0) (Nat.le_of_eq qs1.symm)
  have sz_b1 : h0.size ≤ b1 := Nat.le_trans K0.1 (Nat.le_of_eq qs1.symm)
  have O1 := O0.ext E1
  have K1 : Keep h0 h1 [] := K0.ext E1
  have V_b1 : Arv Z h1 b1 k1 .byte (1 : Int32) [(.int 0)] (.int 0) := (Arv.new A1 (by decide)).pad (pad_rep [] (.int 0) 1)
  have fc2 := (V_o0.ext E1)
  obtain ⟨_, _, ⟨T3, L3, k3, n3⟩, -, X3, ⟨Lc3, hQ3, l3, y3, z3⟩, st3⟩ := Jvm.LawKit.callS X1 hx (y := My6) hown (mvT hZ (ww hw 25 rfl)) (mvT hZ (ww hw 26 rfl)) (mvT hZ (ww hw 22 rfl)) (mvT hZ (ww hw 27 rfl)) (by decide) (backOf (W := 0) (rm6_6 l Z a0 hw [] z_COMPACT_STRINGS o0 b1 kk_o0 k1 p0 h1 n0 O1 S fc2 hc0) hZ (ww hw 27 rfl) (ww hw 22 rfl) (by decide) (by decide)) (g := (mkF m 9 #[va o0, vi 0, vi 1, va b1, uu, uu] [(.int 1), (.int 0), (.ref b1), (.int 0), (.ref o0)])) rfl (by rw [hml]; rfl) (argsL := [(.ref o0), (.int 0), (.ref b1), (.int 0), (.int 1)]) (rest := []) (lenOf pd_0 rfl) rfl (by show 2 * 0 + _ ≤ _; exact Nat.le_of_eq rfl) (hb hby d5_9) (fun _ _ => ⟨rfl, e1, (by decide : 1 + 0 ≤ _), (by decide : 1 + 0 ≤ _)⟩)
  dsimp only [Pt.U, Pt.locs, Pt.cells, Pt.slots] at X3 l3 y3 z3 st3 hQ3
  subst l3 y3 z3
  obtain ⟨rfl, Nq3, e3⟩ := hQ3
  have N3 := Fr.app N0 Nq3
  obtain ⟨_, _, ⟨T4, L4, k4, n4⟩, -, X4, ⟨Lc4, hQ4, l4, y4, z4⟩, st4⟩ := Jvm.LawKit.callS X3 hx (y := My13) hown (mvT hZ (ww hw 61 rfl)) (mvT hZ (ww hw 62 rfl)) (mvT hZ (ww hw 22 rfl)) (mvT hZ (ww hw 63 rfl)) (by decide) (backOf (W := 0) (rm13_1 l Z a0 hw [] z_COMPACT_STRINGS o0 kk_o0 p0 h1 n0 O1 S fc2) hZ (ww hw 63 rfl) (ww hw 22 rfl) (by decide) (by decide)) (g := (mkF m 23 #[va o0, vi 0, vi 1, va b1, vi 0, uu] [(.int 1), (.int 0), (.ref o0)])) rfl (by rw [hml]; rfl) (argsL := [(.ref o0), (.int 0), (.int 1)]) (rest := []) (lenOf pd_4 rfl) rfl (by show 2 * 0 + _ ≤ _; exact Nat.le_of_eq rfl) (hb hby d5_23) (fun _ _ => ⟨rfl, e3, (by decide : 1 + 1 ≤ _), (by decide : 1 + 2 ≤ _)⟩)
  dsimp only [Pt.U, Pt.locs, Pt.cells, Pt.slots] at X4 l4 y4 z4 st4 hQ4
  subst l4 y4 z4
  obtain ⟨b2_1_4, k2_1_4, rfl, Nq4, Kc4, P0_4, P1_4⟩ := hQ4
  have N4 := Fr.app N3 Nq4
  have ne_o0_b2_1_4 : o0 ≠ b2_1_4 := Nat.ne_of_lt (Nat.lt_of_lt_of_le fc2.lt P1_4)
  have ne_b1_b2_1_4 : b1 ≠ b2_1_4 := Nat.ne_of_lt (Nat.lt_of_lt_of_le V_b1.lt P1_4)
  have g_b2_1_4 : n0 ≤ b2_1_4 := Nat.le_trans (own_old O1) P1_4
  have sz_b2_1_4 : h0.size ≤ b2_1_4 := Nat.le_trans K1.1 P1_4
  have O4 := O1.keep Kc4 all0
  have K4 : Keep h0 T4.heap [] := K1.trans Kc4 all0
  obtain ⟨_, _, ⟨T5, L5, k5, n5⟩, -, X5, ⟨Lc5, hQ5, l5, y5, z5⟩, st5⟩ := Jvm.LawKit.callS X4 hx (y := My17) hown (mvT hZ (ww hw 77 rfl)) (mvT hZ (ww hw 78 rfl)) (mvT hZ (ww hw 22 rfl)) (mvT hZ (ww hw 79 rfl)) (by decide) (backOf (W := 0) (rm17_4 l Z a0 hw [] z_COMPACT_STRINGS b2_1_4 k2_1_4 (bb (bb (p0 >>> ((0 : Int32) &&& 31)))) (bb (bb (p0 >>> ((8 : Int32) &&& 31)))) T4.heap n0 O4 S P0_4) hZ (ww hw 79 rfl) (ww hw 22 rfl) (by decide) (by decide)) (g := (mkF m 32 #[va o0, vi 0, vi 1, va b1, vi 0, va b2_1_4] [(.int 0), (.ref b2_1_4)])) rfl (by rw [hml]; rfl) (argsL := [(.ref b2_1_4), (.int 0)]) (rest := []) (lenOf pd_5 rfl) rfl (by show 2 * 0 + _ ≤ _; exact Nat.le_of_eq rfl) (hb hby d5_32) (fun _ _ => ⟨rfl, rfl, (by decide : 2 + 0 ≤ _), (by decide : 3 + 0 ≤ _)⟩)
  dsimp only [Pt.U, Pt.locs, Pt.cells, Pt.slots] at X5 l5 y5 z5 st5 hQ5
  subst l5 y5 z5
  obtain ⟨rfl, Nq5, e5⟩ := hQ5
  have N5 := Fr.app N4 Nq5
  obtain ⟨fs, hr, hrun, hended, hW, hsame⟩ := X5.leave (v := (some (.ref b2_1_4))) (fun h => by rw [hrt] at h; cases h)
  refine ⟨_, _, ?_, hrun, hended, _, _, rfl, ?_, ⟨_, rfl⟩, hW, hsame.mono (by decide) (by decide)⟩
  · show Steps p.tables e below (s₁.setTop (mkF m 0 #[va o0, vi 0, vi 1, uu, uu, uu] [])) _
    refine XS.iloadN X0.here hx rfl (hb hby d5_0) rfl ?_
    refine st1 _ ?_
    refine XS.astoreN X1.here hx rfl (hb hby d5_3) rfl rfl (l' := #[va o0, vi 0, vi 1, va b1, uu, uu]) rfl ?_
    refine XS.aloadN X1.here hx rfl (hb hby d5_4) rfl rfl ?_
    refine XS.iloadN X1.here hx rfl (hb hby d5_5) rfl ?_
    refine XS.aloadN X1.here hx rfl (hb hby d5_6) rfl rfl ?_
    refine XS.iconst X1.here hx rfl (hb hby d5_7) ?_
    refine XS.iloadN X1.here hx rfl (hb hby d5_8) rfl ?_
    show Steps p.tables e below (T1.setTop (mkF m 9 #[va o0, vi 0, vi 1, va b1, uu, uu] [(.int 1), (.int 0), (.ref b1), (.int 0), (.ref o0)])) _
    refine st3 _ ?_
    refine XS.istore X3.here hx rfl (hb hby d5_12) rfl (l' := #[va o0, vi 0, vi 1, va b1, vi 0, uu]) rfl ?_
    refine XS.iload X3.here hx rfl (hb hby d5_14) rfl ?_
    refine XS.iloadN X3.here hx rfl (hb hby d5_16) rfl ?_
    refine XS.icmpNo X3.here hx rfl (hb hby d5_17) rfl (feq (by decide : ¬ ((0 : Int32) = (1 : Int32)))).1 ?_
    refine XS.aloadN X3.here hx rfl (hb hby d5_20) rfl rfl ?_
    refine XS.iloadN X3.here hx rfl (hb hby d5_21) rfl ?_
    refine XS.iloadN X3.here hx rfl (hb hby d5_22) rfl ?_
    show Steps p.tables e below (T3.setTop (mkF m 23 #[va o0, vi 0, vi 1, va b1, vi 0, uu] [(.int 1), (.int 0), (.ref o0)])) _
    refine st4 _ ?_
    refine XS.astore X4.here hx rfl (hb hby d5_26) rfl rfl (l' := #[va o0, vi 0, vi 1, va b1, vi 0, va b2_1_4]) rfl ?_
    refine XS.aload X4.here hx rfl (hb hby d5_28) rfl rfl ?_
    refine XS.iload X4.here hx rfl (hb hby d5_30) rfl ?_
    refine st5 _ ?_
    refine XS.sipush X5.here hx rfl (hb hby d5_35) ?_
    refine XS.icmpYes X5.here hx rfl (pc0 := 38) (pc' := 54) rfl (hb hby d5_38) rfl (tlt (own_getChar (own_fitsC V_o0 0 (by decide)) hc0)).2.2.1 (by decide) (by decide) ?_
    refine XS.aload X5.here hx rfl (hb hby d5_54) rfl rfl ?_
    show Steps p.tables e below (T5.setTop (mkF m 56 #[va o0, vi 0, vi 1, va b1, vi 0, va b2_1_4] [(.ref b2_1_4)])) _
    exact retOut X5 hx (t := (.array .byte)) (i := .areturn) hrt rfl (Or.inr (Or.inr (Or.inr (Or.inr ⟨rfl, rfl, rfl⟩)))) (hb hby d5_56) hr
  · show Q5_6 Z z_COMPACT_STRINGS o0 kk_o0 p0 h0 n0 (some (.ref b2_1_4)) T5.heap _
    rw [e5]; exact ⟨b2_1_4, k2_1_4, rfl, N5, K4, P0_4, sz_b2_1_4⟩
def gp1 (p0 : Int32) : Prop := ((¬ ((255 : Int32) < p0)))
def Qg1_0 (Z : State) (z_COMPACT_STRINGS : Int32) (o0 : Addr) (kk_o0 : ClassId) (p0 : Int32) (h0 : Heap) (n0 : Nat) (v : Option Value) (h : Heap) (L : List Loc) : Prop := ∃ (b1 : Addr), ∃ (k1 : ClassId), ∃ (ce0 : Int32), v = (some (.ref b1)) ∧ Fr n0 L ∧ Keep h0 h [] ∧ Arv Z h b1 k1 .byte (1 : Int32) [(.int ce0)] (.int 0) ∧ h0.size ≤ b1
theorem gm1_0 (l : Launch) (Z : State) (a0 : Array Value) (hw : HW Z a0) (ws : List Jvm.Cond) (z_COMPACT_STRINGS : Int32) (o0 : Addr) (kk_o0 : ClassId) (p0 : Int32) (h0 : Heap) (n0 : Nat) (O0 : Old Z n0 h0) (S : SF Z z_COMPACT_STRINGS) (V_o0 : Arv Z h0 o0 kk_o0 .char (1 : Int32) [(.int p0)] (.int 0)) (hP : gp1 p0) :
    Pay l Z My5 ws jdk_52_method_16_code 6 (some (.array .byte)) #[(.ref o0), (.int 0), (.int 1)] h0 ({ frames := 1, cells := 1, slots := 1, locals := 18 } : Room) (Qg1_0 Z z_COMPACT_STRINGS o0 kk_o0 p0 h0 n0) := by
  by_cases hm0 : (255 : Int32) < p0
  · exact absurd hP (by simp [gp1, hm0])
  · refine MetFree.mono (rm5_5 l Z a0 hw ws z_COMPACT_STRINGS o0 kk_o0 p0 h0 n0 O0 S V_o0 hm0) (fun _ _ q => q) (fun _ _ _ _ _ q => q) ?_
    rintro _ U o U' - ⟨v, L, rfl, ⟨f0, k0, rfl, N, K, r0, r1⟩, fe⟩
    exact ⟨_, L, rfl, ⟨f0, k0, _, rfl, N, K, r0, r1⟩, fe⟩
def Qg1_1 (Z : State) (z_COMPACT_STRINGS : Int32) (o0 : Addr) (kk_o0 : ClassId) (p0 : Int32) (h0 : Heap) (n0 : Nat) (v : Option Value) (h : Heap) (L : List Loc) : Prop := ∃ (b2_1_4 : Addr), ∃ (k2_1_4 : ClassId), ∃ (ce0 : Int32), ∃ (ce1 : Int32), v = (some (.ref b2_1_4)) ∧ Fr n0 L ∧ Keep h0 h [] ∧ Arv Z h b2_1_4 k2_1_4 .byte (2 : Int32) [(.int ce0), (.int ce1)] (.int 0) ∧ h0.size ≤ b2_1_4
theorem gm1_1 (l : Launch) (Z : State) (a0 : Array Value) (hw : HW Z a0) (ws : List Jvm.Cond) (z_COMPACT_STRINGS : Int32) (o0 : Addr) (kk_o0 : ClassId) (p0 : Int32) (h0 : Heap) (n0 : Nat) (O0 : Old Z n0 h0) (S : SF Z z_COMPACT_STRINGS) (V_o0 : Arv Z h0 o0 kk_o0 .char (1 : Int32) [(.int p0)] (.int 0)) (hP : ¬ (gp1 p0)) :
    Pay l Z My5 ws jdk_52_method_16_code 6 (some (.array .byte)) #[(.ref o0), (.int 0), (.int 1)] h0 ({ frames := 3, cells := 2, slots := 3, locals := 40 } : Room) (Qg1_1 Z z_COMPACT_STRINGS o0 kk_o0 p0 h0 n0) := by
  by_cases hm0 : (255 : Int32) < p0
  · refine MetFree.mono (rm5_6 l Z a0 hw ws z_COMPACT_STRINGS o0 kk_o0 p0 h0 n0 O0 S V_o0 hm0) (fun _ _ q => q) (fun _ _ _ _ _ q => q) ?_
    rintro _ U o U' - ⟨v, L, rfl, ⟨f0, k0, rfl, N, K, r0, r1⟩, fe⟩
    exact ⟨_, L, rfl, ⟨f0, k0, _, _, rfl, N, K, r0, r1⟩, fe⟩
  · exact absurd (by simp [gp1, hm0]) hP
def Q7_1 (Z : State) (z_COMPACT_STRINGS : Int32) (o0 : Addr) (kk_o0 : ClassId) (p0 : Int32) (h0 : Heap) (n0 : Nat) (v : Option Value) (h : Heap) (L : List Loc) : Prop := v = (some (.int 0)) ∧ Fr n0 L ∧ h = h0
theorem rm7_1 (l : Launch) (Z : State) (a0 : Array Value) (hw : HW Z a0) (ws : List Jvm.Cond) (z_COMPACT_STRINGS : Int32) (o0 : Addr) (kk_o0 : ClassId) (p0 : Int32) (h0 : Heap) (n0 : Nat) (O0 : Old Z n0 h0) (S : SF Z z_COMPACT_STRINGS) (V_o0 : Arv Z h0 o0 kk_o0 .byte (1 : Int32) [(.int p0)] (.int 0)) :
    Pay l Z My7 ws jdk_52_method_15_code 2 (some .byte) #[(.ref o0), (.int 1)] h0 ({ frames := 0, cells := 0, slots := 0, locals := 0 } : Room) (Q7_1 Z z_COMPACT_STRINGS o0 kk_o0 p0 h0 n0) := by
  refine own_body (plainFor_of_name pn_2) (L0 := #[va o0, vi 1]) (fun _ => by first | rfl | (simp [entryFrame, mkF, argsToLocals, Value.category]; done)) ?_
  intro p e s m below meth c s₁ hrt hlk hx hby hml hZ hown0 hnm X0 e0
  have hown : s.vm.findClass sC1 = some m.cls := hown0
  have N0 := Fr.nil n0
  have K0 : Keep h0 h0 [] := Keep.refl _ _
  obtain ⟨cl1, Ar1, qk1, Sz1, Ng1, Hh1, Gg1⟩ := id V_o0
  obtain ⟨fs, hr, hrun, hended, hW, hsame⟩ := X0.leave (v := (some (.int 0))) (fun h => by rw [hrt] at h; cases h)
  refine ⟨_, _, ?_, hrun, hended, _, _, rfl, ?_, ⟨_, rfl⟩, hW, hsame.mono (by decide) (by decide)⟩
  · show Steps p.tables e below (s₁.setTop (mkF m 0 #[va o0, vi 1] [])) _
    refine XS.iloadN X0.here hx rfl (hb hby d7_0) rfl ?_
    refine XS.aloadN X0.here hx rfl (hb hby d7_1) rfl rfl ?_
    refine X0.arraylength hx (by rw [e0]; exact Ar1.1) (State.isArrayOf_alike hZ.alike Ar1.2.1) (g := (mkF m 2 #[va o0, vi 1] [(.ref o0), (.int 1)])) rfl rfl (hb hby d7_2) _ ?_
    rw [len_of Sz1 Ng1]
    refine XS.isub X0.here hx rfl (hb hby d7_3) rfl ?_
    show Steps p.tables e below (s₁.setTop (mkF m 4 #[va o0, vi 1] [(.int ((1 : Int32) - (1 : Int32)))])) _
    rw [show (((1 : Int32) - (1 : Int32)) : Int32) = (0 : Int32) from by decide]
    refine XS.bipush X0.here hx rfl (hb hby d7_4) ?_
    refine XS.iushr X0.here hx rfl (hb hby d7_6) rfl ?_
    show Steps p.tables e below (s₁.setTop (mkF m 7 #[va o0, vi 1] [(.int (((0 : Int32).toUInt32 >>> ((31 : Int32) &&& 31).toUInt32).toInt32))])) _
    rw [show ((((0 : Int32).toUInt32 >>> ((31 : Int32) &&& 31).toUInt32).toInt32) : Int32) = (0 : Int32) from by decide]
    refine XS.i2b X0.here hx rfl (hb hby d7_7) rfl ?_
    show Steps p.tables e below (s₁.setTop (mkF m 8 #[va o0, vi 1] [(.int (bb (0 : Int32)))])) _
    rw [show ((bb (0 : Int32)) : Int32) = (0 : Int32) from by decide]
    exact retN X0 hx (t := .byte) hrt (by simp) (hb hby d7_8) hr
  · show Q7_1 Z z_COMPACT_STRINGS o0 kk_o0 p0 h0 n0 (some (.int 0)) s₁.heap _
    exact (⟨rfl, N0, e0⟩)
def Q3_1 (Z : State) (z_COMPACT_STRINGS : Int32) (o0 : Addr) (o1 : Addr) (kk_o1 : ClassId) (p0 : Int32) (h0 : Heap) (n0 : Nat) (v : Option Value) (h : Heap) (L : List Loc) : Prop := ∃ (b1_3 : Addr), ∃ (k1_3 : ClassId), ∃ (ce0_3 : Int32), v = none ∧ Fr n0 L ∧ Keep h0 h [o0] ∧ Exa Z h o0 sC0 ∧ Fld Z h o0 sC0 "coder" "B" (.int 0) ∧ Fld Z h o0 sC0 "value" "[B" (.ref b1_3) ∧ Arv Z h b1_3 k1_3 .byte (1 : Int32) [(.int ce0_3)] (.int 0) ∧ h0.size ≤ b1_3
theorem rm3_1 (l : Launch) (Z : State) (a0 : Array Value) (hw : HW Z a0) (ws : List Jvm.Cond) (z_COMPACT_STRINGS : Int32) (o0 : Addr) (o1 : Addr) (kk_o1 : ClassId) (p0 : Int32) (h0 : Heap) (n0 : Nat) (O0 : Old Z n0 h0) (S : SF Z z_COMPACT_STRINGS) (E_o0 : Exa Z h0 o0 sC0) (F_coder_o0 : Fld Z h0 o0 sC0 "coder" "B" (.int 0)) (F_value_o0 : Fld Z h0 o0 sC0 "value" "[B" .null) (V_o1 : Arv Z h0 o1 kk_o1 .char (1 : Int32) [(.int p0)] (.int 0)) (g_o0 : n0 ≤ o0) (hc0 : gp1 p0) :
    Pay l Z My3 ws jdk_42_method_149_code 6 none #[(.ref o0), (.ref o1), (.int 0), (.int 1), .null] h0 ({ frames := 2, cells := 1, slots := 1, locals := 35 } : Room) (Q3_1 Z z_COMPACT_STRINGS o0 o1 kk_o1 p0 h0 n0) := by
  obtain ⟨S_z_COMPACT_STRINGS, hz_z_COMPACT_STRINGS, -⟩ := id S
  refine own_body (plainFor_of_name pn_1) (L0 := #[va o0, va o1, vi 0, vi 1, .val .null, uu]) (fun _ => by first | rfl | (simp [entryFrame, mkF, argsToLocals, Value.category]; done)) ?_
  intro p e s m below meth c s₁ hrt hlk hx hby hml hZ hown0 hnm X0 e0
  have hown : s.vm.findClass sC0 = some m.cls := hown0
  have N0 := Fr.nil n0
  have K0 : Keep h0 h0 [o0] := Keep.refl _ _
  obtain ⟨T1, X1, e1, st1⟩ := initO X0 hx hZ hown (ww hw 16 rfl) (ww hw 17 rfl) (ww hw 18 rfl) e0 (g := (mkF m 1 #[va o0, va o1, vi 0, vi 1, .val .null, uu] [(.ref o0)])) rfl (by rw [hml]; rfl) rfl (hb hby d3_1) (by decide) (W := 0) (by show 2 * 0 + _ ≤ _; exact Nat.le_of_eq rfl) (by decide)
  obtain ⟨T2, X2, e2, st2⟩ := getS2 X1 hx hZ hown (host := "") (Or.inl (ww hw 19 rfl)) Via.refl e1 (S_z_COMPACT_STRINGS.ext O0.2) (g := (mkF m 27 #[va o0, va o1, vi 0, vi 1, .val .null, uu] [])) rfl (hb hby d3_27)
  obtain ⟨_, _, ⟨T3, L3, k3, n3⟩, -, X3, ⟨Lc3, hQ3, l3, y3, z3⟩, st3⟩ := Jvm.LawKit.callS X2 hx (y := My5) hown (mvT hZ (ww hw 20 rfl)) (mvT hZ (ww hw 21 rfl)) (mvT hZ (ww hw 22 rfl)) (mvT hZ (ww hw 23 rfl)) (by decide) (backOf (W := 0) (gm1_0 l Z a0 hw [] z_COMPACT_STRINGS o1 kk_o1 p0 h0 n0 O0 S V_o1 hc0) hZ (ww hw 23 rfl) (ww hw 22 rfl) (by decide) (by decide)) (g := (mkF m 36 #[va o0, va o1, vi 0, vi 1, .val .null, uu] [(.int 1), (.int 0), (.ref o1)])) rfl (by rw [hml]; rfl) (argsL := [(.ref o1), (.int 0), (.int 1)]) (rest := []) (lenOf pd_4 rfl) rfl (by show 2 * 0 + _ ≤ _; exact Nat.le_of_eq rfl) (hb hby d3_36) (fun _ _ => ⟨rfl, e2, (by decide : 0 + 1 ≤ _), (by decide : 0 + 1 ≤ _)⟩)
  dsimp only [Pt.U, Pt.locs, Pt.cells, Pt.slots] at X3 l3 y3 z3 st3 hQ3
  subst l3 y3 z3
  obtain ⟨b1_3, k1_3, ce0_3, rfl, Nq3, Kc3, P0_3, P1_3⟩ := hQ3
  have N3 := Fr.app N0 Nq3
  have ne_o0_b1_3 : o0 ≠ b1_3 := Nat.ne_of_lt (Nat.lt_of_lt_of_le E_o0.lt P1_3)
  have ne_o1_b1_3 : o1 ≠ b1_3 := Nat.ne_of_lt (Nat.lt_of_lt_of_le V_o1.lt P1_3)
  have g_b1_3 : n0 ≤ b1_3 := Nat.le_trans (own_old O0) P1_3
  have sz_b1_3 : h0.size ≤ b1_3 := Nat.le_trans K0.1 P1_3
  have O3 := O0.keep Kc3 all0
  have K3 : Keep h0 T3.heap [o0] := K0.trans Kc3 all0
  obtain ⟨_, _, ⟨T4, L4, k4, n4⟩, -, X4, ⟨Lc4, hQ4, l4, y4, z4⟩, st4⟩ := Jvm.LawKit.callS X3 hx (y := My7) hown (mvT hZ (ww hw 28 rfl)) (mvT hZ (ww hw 29 rfl)) (mvT hZ (ww hw 22 rfl)) (mvT hZ (ww hw 30 rfl)) (by decide) (backOf (W := 1) (rm7_1 l Z a0 hw [] z_COMPACT_STRINGS b1_3 k1_3 ce0_3 T3.heap n0 O3 S P0_3) hZ (ww hw 30 rfl) (ww hw 22 rfl) (by decide) (by decide)) (g := (mkF m 45 #[va o0, va o1, vi 0, vi 1, .val .null, va b1_3] [(.int 1), (.ref b1_3), (.ref o0)])) rfl (by rw [hml]; rfl) (argsL := [(.ref b1_3), (.int 1)]) (rest := [(.ref o0)]) (lenOf pd_6 rfl) rfl (by show 2 * 0 + _ ≤ _; exact Nat.le_of_eq rfl) (hb hby d3_45) (fun _ _ => ⟨rfl, rfl, (by decide : 1 + 0 ≤ _), (by decide : 1 + 0 ≤ _)⟩)
  dsimp only [Pt.U, Pt.locs, Pt.cells, Pt.slots] at X4 l4 y4 z4 st4 hQ4
  subst l4 y4 z4
  obtain ⟨rfl, Nq4, e4⟩ := hQ4
  have N4 := Fr.app N3 Nq4
  have fc5 := (F_coder_o0.keep Kc3 nin0)
  have fc6 := (E_o0.keep Kc3)
  obtain ⟨T7, h7, X7, e7, W7, st7⟩ := putFN X4 hx hZ hown (ww hw 31 rfl) Via.refl e4 fc5 fc6 (Or.inr ⟨(ww hw 32 rfl), rfl, hnm⟩) (ww hw 7 rfl) (ty := .byte) (v' := (.int 0)) (by decide) rfl (by decide) (g := (mkF m 48 #[va o0, va o1, vi 0, vi 1, .val .null, va b1_3] [(.int 0), (.ref o0)])) rfl rfl (hb hby d3_48)
  have Fw7 := fc5.same W7
  have O7 := O3.wr W7 g_o0
  have K7 : Keep h0 h7 [o0] := K3.wr W7 (Or.inl (List.mem_of_getElem? (i := 0) rfl))
  have N7 := Fr.snoc X7 N4 g_o0
  have fc8 := ((F_value_o0.keep Kc3 nin0).other W7 (Or.inr (slot_ne (Or.inr (ww hw 34 rfl)) (Or.inr (ww hw 32 rfl)) (by decide) (t := (.array .byte)) (t' := .byte) (by decide) (by decide))))
  have fc9 := (fc6.wr W7)
  obtain ⟨T10, h10, X10, e10, W10, st10⟩ := putF X7 hx hZ hown (host := "") (Or.inl (ww hw 33 rfl)) Via.refl e7 fc8 fc9 (Or.inr ⟨(ww hw 34 rfl), rfl, hnm⟩) (ww hw 7 rfl) (ty := (.array .byte)) (by decide) rfl rfl (g := (mkF m 54 #[va o0, va o1, vi 0, vi 1, .val .null, va b1_3] [(.ref b1_3), (.ref o0)])) rfl rfl (hb hby d3_54)
  have Fw10 := fc8.same W10
  have O10 := O7.wr W10 g_o0
  have K10 : Keep h0 h10 [o0] := K7.wr W10 (Or.inl (List.mem_of_getElem? (i := 0) rfl))
  have N10 := Fr.snoc X10 N7 g_o0
  obtain ⟨fs, hr, hrun, hended, hW, hsame⟩ := X10.leave (v := none) (fun _ => rfl)
  have fc11 := (fc9.wr W10)
  have fc12 := (Fw7.other W10 (Or.inr (slot_ne (Or.inr (ww hw 32 rfl)) (Or.inr (ww hw 34 rfl)) (by decide) (t := .byte) (t' := (.array .byte)) (by decide) (by decide))))
  have fc13 := ((P0_3.other W7 (Ne.symm ne_o0_b1_3)).other W10 (Ne.symm ne_o0_b1_3))
  refine ⟨_, _, ?_, hrun, hended, _, _, rfl, ?_, ⟨_, rfl⟩, hW, hsame.mono (by decide) (by decide)⟩
  · show Steps p.tables e below (s₁.setTop (mkF m 0 #[va o0, va o1, vi 0, vi 1, .val .null, uu] [])) _
    refine XS.aloadN X0.here hx rfl (hb hby d3_0) rfl rfl ?_
    refine st1 _ ?_
    refine XS.iloadN X1.here hx rfl (hb hby d3_4) rfl ?_
    refine XS.ifYes X1.here hx rfl (pc0 := 5) (pc' := 27) rfl (hb hby d3_5) rfl ((if0 _ _).trans (feq (by decide : ¬ ((1 : Int32) = (0 : Int32)))).2) (by decide) (by decide) ?_
    refine st2 _ ?_
    refine XS.ifNo X2.here hx rfl (hb hby d3_30) rfl ((if0 _ _).trans (feq hz_z_COMPACT_STRINGS).1) ?_
    refine XS.aloadN X2.here hx rfl (hb hby d3_33) rfl rfl ?_
    refine XS.iloadN X2.here hx rfl (hb hby d3_34) rfl ?_
    show Steps p.tables e below (T2.setTop (mkF m 35 #[va o0, va o1, vi 0, vi 1, .val .null, uu] [(.int 0), (.ref o1)])) _
    refine XS.iloadN X2.here hx rfl (hb hby d3_35) rfl ?_
    refine st3 _ ?_
    refine XS.astore X3.here hx rfl (hb hby d3_39) rfl rfl (l' := #[va o0, va o1, vi 0, vi 1, .val .null, va b1_3]) rfl ?_
    refine XS.aloadN X3.here hx rfl (hb hby d3_41) rfl rfl ?_
    refine XS.aload X3.here hx rfl (hb hby d3_42) rfl rfl ?_
    refine XS.iloadN X3.here hx rfl (hb hby d3_44) rfl ?_
    refine st4 _ ?_
    refine st7 _ ?_
    show Steps p.tables e below (T7.setTop (mkF m 51 #[va o0, va o1, vi 0, vi 1, .val .null, va b1_3] [])) _
    refine XS.aloadN X7.here hx rfl (hb hby d3_51) rfl rfl ?_
    refine XS.aload X7.here hx rfl (hb hby d3_52) rfl rfl ?_
    refine st10 _ ?_
    exact X10.returnOut hx hrt (hb hby d3_57) hr
  · show Q3_1 Z z_COMPACT_STRINGS o0 o1 kk_o1 p0 h0 n0 none T10.heap _
    rw [e10]; exact ⟨b1_3, k1_3, ce0_3, rfl, N10, K10, fc11, fc12, Fw10, fc13, sz_b1_3⟩
def Q2_1 (Z : State) (z_COMPACT_STRINGS : Int32) (o0 : Addr) (o1 : Addr) (kk_o1 : ClassId) (p0 : Int32) (h0 : Heap) (n0 : Nat) (v : Option Value) (h : Heap) (L : List Loc) : Prop := ∃ (b1_3_2 : Addr), ∃ (k1_3_2 : ClassId), ∃ (ce0_3_2 : Int32), v = none ∧ Fr n0 L ∧ Keep h0 h [o0] ∧ Exa Z h o0 sC0 ∧ Fld Z h o0 sC0 "coder" "B" (.int 0) ∧ Fld Z h o0 sC0 "value" "[B" (.ref b1_3_2) ∧ Arv Z h b1_3_2 k1_3_2 .byte (1 : Int32) [(.int ce0_3_2)] (.int 0) ∧ h0.size ≤ b1_3_2
theorem rm2_1 (l : Launch) (Z : State) (a0 : Array Value) (hw : HW Z a0) (ws : List Jvm.Cond) (z_COMPACT_STRINGS : Int32) (o0 : Addr) (o1 : Addr) (kk_o1 : ClassId) (p0 : Int32) (h0 : Heap) (n0 : Nat) (O0 : Old Z n0 h0) (S : SF Z z_COMPACT_STRINGS) (E_o0 : Exa Z h0 o0 sC0) (F_coder_o0 : Fld Z h0 o0 sC0 "coder" "B" (.int 0)) (F_value_o0 : Fld Z h0 o0 sC0 "value" "[B" .null) (V_o1 : Arv Z h0 o1 kk_o1 .char (1 : Int32) [(.int p0)] (.int 0)) (g_o0 : n0 ≤ o0) (hc0 : gp1 p0) :
    Pay l Z My2 ws jdk_42_method_3_code 2 none #[(.ref o0), (.ref o1)] h0 ({ frames := 3, cells := 1, slots := 1, locals := 52 } : Room) (Q2_1 Z z_COMPACT_STRINGS o0 o1 kk_o1 p0 h0 n0) := by
  refine own_body (plainFor_of_name pn_1) (L0 := #[va o0, va o1]) (fun _ => by first | rfl | (simp [entryFrame, mkF, argsToLocals, Value.category]; done)) ?_
  intro p e s m below meth c s₁ hrt hlk hx hby hml hZ hown0 hnm X0 e0
  have hown : s.vm.findClass sC0 = some m.cls := hown0
  have N0 := Fr.nil n0
  have K0 : Keep h0 h0 [o0] := Keep.refl _ _
  obtain ⟨cl1, Ar1, qk1, Sz1, Ng1, Hh1, Gg1⟩ := id V_o1
  obtain ⟨_, _, ⟨T2, L2, k2, n2⟩, -, X2, ⟨Lc2, hQ2, l2, y2, z2⟩, st2⟩ := X0.specialBack hx (y := My3) rfl hown (mvT hZ (ww hw 12 rfl)) (mvT hZ (ww hw 13 rfl)) (mvT hZ (ww hw 15 rfl)) (by decide) (backOf (W := 0) (rm3_1 l Z a0 hw [] z_COMPACT_STRINGS o0 o1 kk_o1 p0 h0 n0 O0 S E_o0 F_coder_o0 F_value_o0 V_o1 g_o0 hc0) hZ (ww hw 15 rfl) (ww hw 8 rfl) (by decide) (by decide)) (g := (mkF m 6 #[va o0, va o1] [.null, (.int 1), (.int 0), (.ref o1), (.ref o0)])) rfl (by rw [hml]; rfl) (Steps.refl _) (a := o0) (argsL := [(.ref o1), (.int 0), (.int 1), .null]) (rest := []) (lenOf pd_7 rfl) rfl (by show 2 * 0 + _ ≤ _; exact Nat.le_of_eq rfl) (hb hby d2_6) (fun _ _ => ⟨rfl, e0, (by decide : 0 + 1 ≤ _), (by decide : 0 + 1 ≤ _)⟩)
  dsimp only [Pt.U, Pt.locs, Pt.cells, Pt.slots] at X2 l2 y2 z2 st2 hQ2
  subst l2 y2 z2
  obtain ⟨b1_3_2, k1_3_2, ce0_3_2, rfl, Nq2, Kc2, P0_2, P1_2, P2_2, P3_2, P4_2⟩ := hQ2
  have N2 := Fr.app N0 Nq2
  have ne_o0_b1_3_2 : o0 ≠ b1_3_2 := Nat.ne_of_lt (Nat.lt_of_lt_of_le E_o0.lt P4_2)
  have ne_o1_b1_3_2 : o1 ≠ b1_3_2 := Nat.ne_of_lt (Nat.lt_of_lt_of_le V_o1.lt P4_2)
  have g_b1_3_2 : n0 ≤ b1_3_2 := Nat.le_trans (own_old O0) P4_2
  have sz_b1_3_2 : h0.size ≤ b1_3_2 := Nat.le_trans K0.1 P4_2
  have O2 := O0.keep Kc2 (allS g_o0 all0)
  have K2 : Keep h0 T2.heap [o0] := K0.trans Kc2 (allS (Or.inl (List.mem_of_getElem? (i := 0) rfl)) all0)
  obtain ⟨fs, hr, hrun, hended, hW, hsame⟩ := X2.leave (v := none) (fun _ => rfl)
  refine ⟨_, _, ?_, hrun, hended, _, _, rfl, ?_, ⟨_, rfl⟩, hW, hsame.mono (by decide) (by decide)⟩
  · show Steps p.tables e below (s₁.setTop (mkF m 0 #[va o0, va o1] [])) _
    refine XS.aloadN X0.here hx rfl (hb hby d2_0) rfl rfl ?_
    refine XS.aloadN X0.here hx rfl (hb hby d2_1) rfl rfl ?_
    refine XS.iconst X0.here hx rfl (hb hby d2_2) ?_
    refine XS.aloadN X0.here hx rfl (hb hby d2_3) rfl rfl ?_
    refine X0.arraylength hx (by rw [e0]; exact Ar1.1) (State.isArrayOf_alike hZ.alike Ar1.2.1) (g := (mkF m 4 #[va o0, va o1] [(.ref o1), (.int 0), (.ref o1), (.ref o0)])) rfl rfl (hb hby d2_4) _ ?_
    rw [len_of Sz1 Ng1]
    refine XS.aconstNull X0.here hx rfl (hb hby d2_5) ?_
    refine st2.trans ?_
    exact X2.returnOut hx hrt (hb hby d2_9) hr
  · show Q2_1 Z z_COMPACT_STRINGS o0 o1 kk_o1 p0 h0 n0 none T2.heap _
    exact (⟨b1_3_2, k1_3_2, ce0_3_2, rfl, N2, K2, P0_2, P1_2, P2_2, P3_2, sz_b1_3_2⟩)
theorem d1_23 : decode method_3_code 23 = .ok (.areturn, 1) := by decide +kernel
def Q1_1 (Z : State) (z_COMPACT_STRINGS : Int32) (p0 : Int32) (p1 : Int32) (p2 : Int32) (p3 : Int32) (p4 : Int32) (h0 : Heap) (n0 : Nat) (v : Option Value) (h : Heap) (L : List Loc) : Prop := ∃ (b4 : Addr), ∃ (b1_3_2_6 : Addr), ∃ (k1_3_2_6 : ClassId), ∃ (ce0_3_2_6 : Int32), v = (some (.ref b4)) ∧ Fr n0 L ∧ Keep h0 h [] ∧ Exa Z h b4 sC0 ∧ Fld Z h b4 sC0 "coder" "B" (.int 0) ∧ Fld Z h b4 sC0 "value" "[B" (.ref b1_3_2_6) ∧ Arv Z h b1_3_2_6 k1_3_2_6 .byte (1 : Int32) [(.int ce0_3_2_6)] (.int 0) ∧ h0.size ≤ b4 ∧ h0.size ≤ b1_3_2_6 ∧ b4 ≠ b1_3_2_6
theorem rm1_1 (l : Launch) (Z : State) (a0 : Array Value) (hw : HW Z a0) (ws : List Jvm.Cond) (z_COMPACT_STRINGS : Int32) (p0 : Int32) (p1 : Int32) (p2 : Int32) (p3 : Int32) (p4 : Int32) (h0 : Heap) (n0 : Nat) (O0 : Old Z n0 h0) (S : SF Z z_COMPACT_STRINGS) (hc0 : p0 = (0 : Int32)) (hc1 : gp1 (cc p1)) :
    Pay l Z My1 ws method_3_code 6 (some (.object sC0)) #[(.int p0), (.int p1), (.int p2), (.int p3), (.int p4)] h0 ({ frames := 4, cells := 3, slots := 6, locals := 66 } : Room) (Q1_1 Z z_COMPACT_STRINGS p0 p1 p2 p3 p4 h0 n0) := by
  refine own_body (plainFor_of_name pn_0) (L0 := #[vi p0, vi p1, vi p2, vi p3, vi p4, uu]) (fun _ => by first | rfl | (simp [entryFrame, mkF, argsToLocals, Value.category]; done)) ?_
  intro p e s m below meth c s₁ hrt hlk hx hby hml hZ hown0 hnm X0 e0
  have hown : s.vm.findClass sC3 = some m.cls := hown0
  have N0 := Fr.nil n0
  have K0 : Keep h0 h0 [] := Keep.refl _ _
  obtain ⟨T1, h1, k1, X1, e1, E1, A1, st1⟩ := newP X0 hx hZ (ww hw 5 rfl) e0 (g := (mkF m 5 #[vi p0, vi p1, vi p2, vi p3, vi p4, uu] [(.int 1)])) rfl (hb hby d1_5) rfl (by decide) (cap := 1) (by decide) (by decide) (by decide) (by decide)
  obtain ⟨b1, qs1⟩ : ∃ z, z = h0.size := ⟨_, rfl⟩
  rw [← qs1] at A1 st1
  have g_b1 : n0 ≤ b1 := Nat.le_trans (own_old O0) (Nat.le_of_eq qs1.symm)
  have sz_b1 : h0.size ≤ b1 := Nat.le_trans K0.1 (Nat.le_of_eq qs1.symm)
  have O1 := O0.ext E1
  have K1 : Keep h0 h1 [] := K0.ext E1
  have V_b1 : Arv Z h1 b1 k1 .char (1 : Int32) [(.int 0)] (.int 0) := (Arv.new A1 (by decide)).pad (pad_rep [] (.int 0) 1)
  obtain ⟨cl2, Ar2, qk2, Sz2, Ng2, Hh2, Gg2⟩ := id V_b1
  have hin2_0 : ¬ ((0 : Int32) < 0 ∨ cl2.slots.size ≤ ((0 : Int32)).toNatClampNeg) := inb_of Sz2 ⟨by decide, by decide⟩
  obtain ⟨T3, h3, X3, e3, W3, st3⟩ := stC X1 hx hZ e1 Ar2 (j := (0 : Int32)) hin2_0 (g := (mkF m 13 #[vi p0, vi p1, vi p2, vi p3, vi p4, va b1] [(.int p1), (.int 0), (.ref b1)])) rfl rfl (hb hby d1_13)
  have V3 : Arv Z h3 b1 k1 .char (1 : Int32) [(.int (cc p1))] (.int 0) := Arv.set Ar2 qk2 Sz2 Ng2 Hh2 Gg2 (fits_nar_char _) W3 0 rfl (Nat.le_of_ble_eq_true rfl)
  have O3 := O1.wr W3 g_b1
  have K3 : Keep h0 h3 [] := K1.wr W3 (Or.inr sz_b1)
  have N3 := Fr.snoc X3 N0 g_b1
  obtain ⟨T4, h4, X4, e4, E4, A4, D4, -, st4⟩ := newO X3 hx hZ hown (ww hw 6 rfl) (ww hw 7 rfl) (ww hw 8 rfl) e3 (g := (mkF m 14 #[vi p0, vi p1, vi p2, vi p3, vi p4, va b1] [])) rfl (hb hby d1_14) (by decide) (by decide)
  obtain ⟨b4, qs4⟩ : ∃ z, z = h3.size := ⟨_, rfl⟩
  rw [← qs4] at A4 D4 st4
  have ne_b1_b4 : b1 ≠ b4 := Nat.ne_of_lt (Nat.lt_of_lt_of_le V3.lt (Nat.le_of_eq qs4.symm))
  have g_b4 : n0 ≤ b4 := Nat.le_trans (own_old O3) (Nat.le_of_eq qs4.symm)
  have sz_b4 : h0.size ≤ b4 := Nat.le_trans K3.1 (Nat.le_of_eq qs4.symm)
  have O4 := O3.ext E4
  have K4 : Keep h0 h4 [] := K3.ext E4
  have F_coder_b4 : Fld Z h4 b4 sC0 "coder" "B" (.int 0) := D4 (Or.inr (ww hw 32 rfl)) (ty := .byte) (by decide)
  have F_value_b4 : Fld Z h4 b4 sC0 "value" "[B" .null := D4 (Or.inr (ww hw 34 rfl)) (ty := (.array .byte)) (by decide)
  have fc5 := (V3.ext E4)
  obtain ⟨_, _, ⟨T6, L6, k6, n6⟩, -, X6, ⟨Lc6, hQ6, l6, y6, z6⟩, st6⟩ := X4.specialBack hx (y := My2) rfl hown (mvT hZ (ww hw 9 rfl)) (mvT hZ (ww hw 10 rfl)) (mvT hZ (ww hw 11 rfl)) (by decide) (backOf (W := 1) (rm2_1 l Z a0 hw [] z_COMPACT_STRINGS b4 b1 k1 (cc p1) h4 n0 O4 S A4 F_coder_b4 F_value_b4 fc5 g_b4 hc1) hZ (ww hw 11 rfl) (ww hw 8 rfl) (by decide) (by decide)) (g := (mkF m 20 #[vi p0, vi p1, vi p2, vi p3, vi p4, va b1] [(.ref b1), (.ref b4), (.ref b4)])) rfl (by rw [hml]; rfl) (Steps.refl _) (a := b4) (argsL := [(.ref b1)]) (rest := [(.ref b4)]) (lenOf pd_8 rfl) rfl (by show 2 * 0 + _ ≤ _; exact Nat.le_of_eq rfl) (hb hby d1_20) (fun _ _ => ⟨rfl, e4, (by decide : 2 + 1 ≤ _), (by decide : 5 + 1 ≤ _)⟩)
  dsimp only [Pt.U, Pt.locs, Pt.cells, Pt.slots] at X6 l6 y6 z6 st6 hQ6
  subst l6 y6 z6
  obtain ⟨b1_3_2_6, k1_3_2_6, ce0_3_2_6, rfl, Nq6, Kc6, P0_6, P1_6, P2_6, P3_6, P4_6⟩ := hQ6
  have N6 := Fr.app N3 Nq6
  have ne_b1_b1_3_2_6 : b1 ≠ b1_3_2_6 := Nat.ne_of_lt (Nat.lt_of_lt_of_le fc5.lt P4_6)
  have ne_b4_b1_3_2_6 : b4 ≠ b1_3_2_6 := Nat.ne_of_lt (Nat.lt_of_lt_of_le A4.lt P4_6)
  have g_b1_3_2_6 : n0 ≤ b1_3_2_6 := Nat.le_trans (own_old O4) P4_6
  have sz_b1_3_2_6 : h0.size ≤ b1_3_2_6 := Nat.le_trans K4.1 P4_6
  have O6 := O4.keep Kc6 (allS g_b4 all0)
  have K6 : Keep h0 T6.heap [] := K4.trans Kc6 (allS (Or.inr sz_b4) all0)
  obtain ⟨fs, hr, hrun, hended, hW, hsame⟩ := X6.leave (v := (some (.ref b4))) (fun h => by rw [hrt] at h; cases h)
  refine ⟨_, _, ?_, hrun, hended, _, _, rfl, ?_, ⟨_, rfl⟩, hW, hsame.mono (by decide) (by decide)⟩
  · show Steps p.tables e below (s₁.setTop (mkF m 0 #[vi p0, vi p1, vi p2, vi p3, vi p4, uu] [])) _
    refine XS.iloadN X0.here hx rfl (hb hby d1_0) rfl ?_
    refine XS.ifNo X0.here hx rfl (hb hby d1_1) rfl ((if0 _ _).trans (teq hc0).2) ?_
    refine XS.iconst X0.here hx rfl (hb hby d1_4) ?_
    refine st1 _ ?_
    refine XS.astore X1.here hx rfl (hb hby d1_7) rfl rfl (l' := #[vi p0, vi p1, vi p2, vi p3, vi p4, va b1]) rfl ?_
    refine XS.aload X1.here hx rfl (hb hby d1_9) rfl rfl ?_
    refine XS.iconst X1.here hx rfl (hb hby d1_11) ?_
    refine XS.iloadN X1.here hx rfl (hb hby d1_12) rfl ?_
    show Steps p.tables e below (T1.setTop (mkF m 13 #[vi p0, vi p1, vi p2, vi p3, vi p4, va b1] [(.int p1), (.int 0), (.ref b1)])) _
    refine st3 _ ?_
    refine st4 _ ?_
    refine XS.dup X4.here hx rfl (hb hby d1_17) rfl rfl ?_
    refine XS.aload X4.here hx rfl (hb hby d1_18) rfl rfl ?_
    refine st6.trans ?_
    exact retOut X6 hx (t := (.object sC0)) (i := .areturn) hrt rfl (Or.inr (Or.inr (Or.inr (Or.inr ⟨rfl, rfl, rfl⟩)))) (hb hby d1_23) hr
  · show Q1_1 Z z_COMPACT_STRINGS p0 p1 p2 p3 p4 h0 n0 (some (.ref b4)) T6.heap _
    exact (⟨b4, b1_3_2_6, k1_3_2_6, ce0_3_2_6, rfl, N6, K6, P0_6, P1_6, P2_6, P3_6, sz_b4, sz_b1_3_2_6, ne_b4_b1_3_2_6⟩)
theorem pd_9 : parseMethodDescriptor "(ICCCC)Ljava/lang/String;" = some ⟨[.int, .char, .char, .char, .char], some (.object sC0)⟩ := by decide +kernel
theorem pn_3 : plainName "com/example/leafcutter/leafcutter/RunOptions" = true := by first | (simp [plainName, overriddenIn]; done) | decide +kernel
theorem d8_0 : decode prog_14_method_7_code 0 = .ok (.aload_n 0, 1) := by decide +kernel
theorem d8_1 : decode prog_14_method_7_code 1 = .ok (.ldc 40, 2) := by decide +kernel
theorem d8_3 : decode prog_14_method_7_code 3 = .ok (.invokestatic 41, 3) := by decide +kernel
theorem pn_4 : plainName "java/util/Objects" = true := by first | (simp [plainName, overriddenIn]; done) | decide +kernel
theorem d9_0 : decode jdk_31_method_11_code 0 = .ok (.aload_n 0, 1) := by decide +kernel
theorem d9_1 : decode jdk_31_method_11_code 1 = .ok (.ifnonnull 12, 3) := by decide +kernel
theorem d9_13 : decode jdk_31_method_11_code 13 = .ok (.aload_n 0, 1) := by decide +kernel
theorem d9_14 : decode jdk_31_method_11_code 14 = .ok (.areturn, 1) := by decide +kernel
def Q9_0 (Z : State) (z_COMPACT_STRINGS : Int32) (o0 : Addr) (o1 : Addr) (o2 : Addr) (kk_o1 : ClassId) (p0 : Int32) (h0 : Heap) (n0 : Nat) (v : Option Value) (h : Heap) (L : List Loc) : Prop := v = (some (.ref o0)) ∧ Fr n0 L ∧ h = h0
theorem rm9_0 (l : Launch) (Z : State) (a0 : Array Value) (hw : HW Z a0) (ws : List Jvm.Cond) (z_COMPACT_STRINGS : Int32) (o0 : Addr) (o1 : Addr) (o2 : Addr) (kk_o1 : ClassId) (p0 : Int32) (h0 : Heap) (n0 : Nat) (O0 : Old Z n0 h0) (S : SF Z z_COMPACT_STRINGS) :
    Pay l Z My9 ws jdk_31_method_11_code 2 (some (.object sC4)) #[(.ref o0), (.ref o2)] h0 ({ frames := 0, cells := 0, slots := 0, locals := 0 } : Room) (Q9_0 Z z_COMPACT_STRINGS o0 o1 o2 kk_o1 p0 h0 n0) := by
  refine own_body (plainFor_of_name pn_4) (L0 := #[va o0, va o2]) (fun _ => by first | rfl | (simp [entryFrame, mkF, argsToLocals, Value.category]; done)) ?_
  intro p e s m below meth c s₁ hrt hlk hx hby hml hZ hown0 hnm X0 e0
  have hown : s.vm.findClass sC5 = some m.cls := hown0
  have N0 := Fr.nil n0
  have K0 : Keep h0 h0 [] := Keep.refl _ _
  obtain ⟨fs, hr, hrun, hended, hW, hsame⟩ := X0.leave (v := (some (.ref o0))) (fun h => by rw [hrt] at h; cases h)
  refine ⟨_, _, ?_, hrun, hended, _, _, rfl, ?_, ⟨_, rfl⟩, hW, hsame.mono (by decide) (by decide)⟩
  · show Steps p.tables e below (s₁.setTop (mkF m 0 #[va o0, va o2] [])) _
    refine XS.aloadN X0.here hx rfl (hb hby d9_0) rfl rfl ?_
    refine XS.ifnonnullYes X0.here hx rfl (pc0 := 1) (pc' := 13) rfl (hb hby d9_1) rfl (by decide) (by decide) ?_
    refine XS.aloadN X0.here hx rfl (hb hby d9_13) rfl rfl ?_
    exact retOut X0 hx (t := (.object sC4)) (i := .areturn) hrt rfl (Or.inr (Or.inr (Or.inr (Or.inr ⟨rfl, rfl, rfl⟩)))) (hb hby d9_14) hr
  · show Q9_0 Z z_COMPACT_STRINGS o0 o1 o2 kk_o1 p0 h0 n0 (some (.ref o0)) s₁.heap _
    exact (⟨rfl, N0, e0⟩)
theorem pd_10 : parseMethodDescriptor "(Ljava/lang/Object;Ljava/lang/String;)Ljava/lang/Object;" = some ⟨[(.object sC4), (.object sC0)], some (.object sC4)⟩ := by decide +kernel
theorem d8_6 : decode prog_14_method_7_code 6 = .ok (.pop, 1) := by decide +kernel
theorem d8_7 : decode prog_14_method_7_code 7 = .ok (.aload_n 0, 1) := by decide +kernel
theorem d8_8 : decode prog_14_method_7_code 8 = .ok (.invokevirtual 47, 3) := by decide +kernel
theorem d10_0 : decode jdk_42_method_55_code 0 = .ok (.aload_n 0, 1) := by decide +kernel
theorem d10_1 : decode jdk_42_method_55_code 1 = .ok (.getfield 9, 3) := by decide +kernel
theorem d10_4 : decode jdk_42_method_55_code 4 = .ok (.arraylength, 1) := by decide +kernel
theorem d10_5 : decode jdk_42_method_55_code 5 = .ok (.ifCond .ne 7, 3) := by decide +kernel
theorem d10_12 : decode jdk_42_method_55_code 12 = .ok (.iconst 0, 1) := by decide +kernel
theorem d10_13 : decode jdk_42_method_55_code 13 = .ok (.ireturn, 1) := by decide +kernel
def Q10_0 (Z : State) (z_COMPACT_STRINGS : Int32) (o0 : Addr) (o1 : Addr) (kk_o1 : ClassId) (p0 : Int32) (h0 : Heap) (n0 : Nat) (v : Option Value) (h : Heap) (L : List Loc) : Prop := v = (some (.int 0)) ∧ Fr n0 L ∧ h = h0
theorem rm10_0 (l : Launch) (Z : State) (a0 : Array Value) (hw : HW Z a0) (ws : List Jvm.Cond) (z_COMPACT_STRINGS : Int32) (o0 : Addr) (o1 : Addr) (kk_o1 : ClassId) (p0 : Int32) (h0 : Heap) (n0 : Nat) (O0 : Old Z n0 h0) (S : SF Z z_COMPACT_STRINGS) (F_value_o0 : Fld Z h0 o0 sC0 "value" "[B" (.ref o1)) (V_o1 : Arv Z h0 o1 kk_o1 .byte (1 : Int32) [(.int p0)] (.int 0)) :
    Pay l Z My10 ws jdk_42_method_55_code 1 (some .boolean) #[(.ref o0)] h0 ({ frames := 0, cells := 0, slots := 0, locals := 0 } : Room) (Q10_0 Z z_COMPACT_STRINGS o0 o1 kk_o1 p0 h0 n0) := by
  refine own_body (plainFor_of_name pn_1) (L0 := #[va o0]) (fun _ => by first | rfl | (simp [entryFrame, mkF, argsToLocals, Value.category]; done)) ?_
  intro p e s m below meth c s₁ hrt hlk hx hby hml hZ hown0 hnm X0 e0
  have hown : s.vm.findClass sC0 = some m.cls := hown0
  have N0 := Fr.nil n0
  have K0 : Keep h0 h0 [] := Keep.refl _ _
  obtain ⟨T1, X1, e1, st1⟩ := getF X0 hx hZ hown (host := "") (Or.inl (ww hw 33 rfl)) Via.refl e0 F_value_o0 (g := (mkF m 1 #[va o0] [(.ref o0)])) rfl rfl (hb hby d10_1)
  obtain ⟨cl2, Ar2, qk2, Sz2, Ng2, Hh2, Gg2⟩ := id V_o1
  obtain ⟨fs, hr, hrun, hended, hW, hsame⟩ := X1.leave (v := (some (.int 0))) (fun h => by rw [hrt] at h; cases h)
  refine ⟨_, _, ?_, hrun, hended, _, _, rfl, ?_, ⟨_, rfl⟩, hW, hsame.mono (by decide) (by decide)⟩
  · show Steps p.tables e below (s₁.setTop (mkF m 0 #[va o0] [])) _
    refine XS.aloadN X0.here hx rfl (hb hby d10_0) rfl rfl ?_
    refine st1 _ ?_
    refine X1.arraylength hx (by rw [e1]; exact Ar2.1) (State.isArrayOf_alike hZ.alike Ar2.2.1) (g := (mkF m 4 #[va o0] [(.ref o1)])) rfl rfl (hb hby d10_4) _ ?_
    rw [len_of Sz2 Ng2]
    refine XS.ifYes X1.here hx rfl (pc0 := 5) (pc' := 12) rfl (hb hby d10_5) rfl ((if0 _ _).trans (feq (by decide : ¬ ((1 : Int32) = (0 : Int32)))).2) (by decide) (by decide) ?_
    refine XS.iconst X1.here hx rfl (hb hby d10_12) ?_
    exact retN X1 hx (t := .boolean) hrt (by simp) (hb hby d10_13) hr
  · show Q10_0 Z z_COMPACT_STRINGS o0 o1 kk_o1 p0 h0 n0 (some (.int 0)) T1.heap _
    exact (⟨rfl, N0, e1⟩)
theorem pd_11 : parseMethodDescriptor "()Z" = some ⟨[], some .boolean⟩ := by decide +kernel
theorem d8_11 : decode prog_14_method_7_code 11 = .ok (.ifCond .eq 13, 3) := by decide +kernel
theorem d8_24 : decode prog_14_method_7_code 24 = .ok (.aload_n 0, 1) := by decide +kernel
theorem d8_25 : decode prog_14_method_7_code 25 = .ok (.areturn, 1) := by decide +kernel
def Q8_0 (Z : State) (z_COMPACT_STRINGS : Int32) (o0 : Addr) (o1 : Addr) (kk_o1 : ClassId) (p0 : Int32) (h0 : Heap) (n0 : Nat) (v : Option Value) (h : Heap) (L : List Loc) : Prop := v = (some (.ref o0)) ∧ Fr n0 L ∧ Keep h0 h []
theorem rm8_0 (l : Launch) (Z : State) (a0 : Array Value) (hw : HW Z a0) (ws : List Jvm.Cond) (z_COMPACT_STRINGS : Int32) (o0 : Addr) (o1 : Addr) (kk_o1 : ClassId) (p0 : Int32) (h0 : Heap) (n0 : Nat) (O0 : Old Z n0 h0) (S : SF Z z_COMPACT_STRINGS) (E_o0 : Exa Z h0 o0 sC0) (F_value_o0 : Fld Z h0 o0 sC0 "value" "[B" (.ref o1)) (V_o1 : Arv Z h0 o1 kk_o1 .byte (1 : Int32) [(.int p0)] (.int 0)) :
    PayW l Z My8 ws prog_14_method_7_code 1 (some (.object sC0)) #[(.ref o0)] h0 ({ frames := 1, cells := 2, slots := 60, locals := 13 } : Room) (Q8_0 Z z_COMPACT_STRINGS o0 o1 kk_o1 p0 h0 n0) := by
  refine own_body (plainFor_of_name pn_3) (L0 := #[va o0]) (fun _ => by first | rfl | (simp [entryFrame, mkF, argsToLocals, Value.category]; done)) ?_
  intro p e s m below meth c s₁ hrt hlk hx hby hml hZ hown0 hnm X0 e0
  have hown : s.vm.findClass sC2 = some m.cls := hown0
  have N0 := Fr.nil n0
  have K0 : Keep h0 h0 [] := Keep.refl _ _
  obtain ⟨a1, T1, h1, kk1, X1, e1, E1, hS1, hk1, hZ1, hown1, st1⟩ := ldcS (s := s) (vm0 := s.vm) X0 hx hZ hown (ww hw 39 rfl) (own_wS hw) e0 (k0 := 0) ((State.WarmedH.refl s).since 0) (Nat.zero_le _) (g := (mkF m 1 #[va o0] [(.ref o0)])) rfl (hb hby d8_1) (n := 56) (by decide +kernel) (by decide) (by decide) (by decide)
  have O1 := O0.ext E1
  have K1 : Keep h0 h1 [] := K0.ext E1
  obtain ⟨_, _, ⟨T2, L2, k2, n2⟩, -, X2, ⟨Lc2, hQ2, l2, y2, z2⟩, st2⟩ := Jvm.LawKit.callS X1 hx (y := My9) hown1 (mvT hZ1 (ww hw 42 rfl)) (mvT hZ1 (ww hw 43 rfl)) (mvT hZ1 (ww hw 44 rfl)) (mvT hZ1 (ww hw 45 rfl)) (by decide) (backOf (W := 0) (rm9_0 l Z a0 hw [] z_COMPACT_STRINGS o0 o1 a1 kk_o1 p0 h1 n0 O1 S) hZ1 (ww hw 45 rfl) (ww hw 44 rfl) (by decide) (by decide)) (g := (mkF m 3 #[va o0] [(.ref a1), (.ref o0)])) rfl (by rw [hml]; rfl) (argsL := [(.ref o0), (.ref a1)]) (rest := []) (lenOf pd_10 rfl) rfl (by show 2 * 0 + _ ≤ _; exact Nat.le_of_eq rfl) (hb hby d8_3) (fun _ _ => ⟨rfl, e1, (by decide : 2 + 0 ≤ _), (by decide : 60 + 0 ≤ _)⟩)
  dsimp only [Pt.U, Pt.locs, Pt.cells, Pt.slots] at X2 l2 y2 z2 st2 hQ2
  subst l2 y2 z2
  obtain ⟨rfl, Nq2, e2⟩ := hQ2
  have N2 := Fr.app N0 Nq2
  have fc3 := (F_value_o0.ext E1)
  have fc4 := (V_o1.ext E1)
  have fc6 := (E_o0.ext E1)
  obtain ⟨cq5, kq5, q5a, q5b, q5c⟩ := isOf hZ1 e2 fc6
  obtain ⟨_, _, ⟨T5, L5, k5, n5⟩, -, X5, ⟨Lc5, hQ5, l5, y5, z5⟩, st5⟩ := X2.virtualBack hx (y := My10) (z := My10) hown1 (mvT hZ1 (ww hw 46 rfl)) (mvT hZ1 (ww hw 47 rfl)) (notFace_of_selects (args := #[]) (mvT hZ1 (ww hw 49 rfl))) (mvT hZ1 (ww hw 49 rfl)) (mvT hZ1 (ww hw 48 rfl)) (by decide) (backOf (W := 0) (rm10_0 l Z a0 hw [] z_COMPACT_STRINGS o0 o1 kk_o1 p0 h1 n0 O1 S fc3 fc4) hZ1 (ww hw 50 rfl) (ww hw 8 rfl) (by decide) (by decide)) q5a q5c (g := (mkF m 8 #[va o0] [(.ref o0)])) rfl (by rw [hml]; rfl) (Steps.refl _) (argsL := []) (rest := []) (lenOf pd_11 rfl) rfl (by show 2 * 0 + _ ≤ _; exact Nat.le_of_eq rfl) (hb hby d8_8) (fun _ _ => ⟨rfl, e2, (by decide : 2 + 0 ≤ _), (by decide : 60 + 0 ≤ _)⟩)
  dsimp only [Pt.U, Pt.locs, Pt.cells, Pt.slots] at X5 l5 y5 z5 st5 hQ5
  subst l5 y5 z5
  obtain ⟨rfl, Nq5, e5⟩ := hQ5
  have N5 := Fr.app N2 Nq5
  obtain ⟨fs, hr, hrun, hended, hRE⟩ := X5.leaveW (s := s) hS1 (by rw [e5]; exact hk1) (v := (some (.ref o0))) (fun h => by rw [hrt] at h; cases h)
  refine ⟨_, _, ?_, hrun, hended, _, _, rfl, ?_, hRE.1, hRE.2.1, hRE.2.2.1, hRE.2.2.2.mono (by decide) (by decide)⟩
  · show Steps p.tables e below (s₁.setTop (mkF m 0 #[va o0] [])) _
    refine XS.aloadN X0.here hx rfl (hb hby d8_0) rfl rfl ?_
    refine st1 _ ?_
    refine st2 _ ?_
    refine XS.pop X2.here hx rfl (hb hby d8_6) rfl rfl ?_
    refine XS.aloadN X2.here hx rfl (hb hby d8_7) rfl rfl ?_
    refine st5.trans ?_
    refine XS.ifYes X5.here hx rfl (pc0 := 11) (pc' := 24) rfl (hb hby d8_11) rfl ((if0 _ _).trans (teq (by decide : (0 : Int32) = (0 : Int32))).1) (by decide) (by decide) ?_
    refine XS.aloadN X5.here hx rfl (hb hby d8_24) rfl rfl ?_
    show Steps p.tables e below (T5.setTop (mkF m 25 #[va o0] [(.ref o0)])) _
    exact retOut X5 hx (t := (.object sC0)) (i := .areturn) hrt rfl (Or.inr (Or.inr (Or.inr (Or.inr ⟨rfl, rfl, rfl⟩)))) (hb hby d8_25) hr
  · show Q8_0 Z z_COMPACT_STRINGS o0 o1 kk_o1 p0 h0 n0 (some (.ref o0)) T5.heap _
    rw [e5]; exact ⟨rfl, N5, K1⟩
theorem pd_12 : parseMethodDescriptor "(Ljava/lang/String;)Ljava/lang/String;" = some ⟨[(.object sC0)], some (.object sC0)⟩ := by decide +kernel
theorem d11_0 : decode jdk_42_method_54_code 0 = .ok (.aload_n 0, 1) := by decide +kernel
theorem d11_1 : decode jdk_42_method_54_code 1 = .ok (.getfield 9, 3) := by decide +kernel
theorem d11_4 : decode jdk_42_method_54_code 4 = .ok (.arraylength, 1) := by decide +kernel
theorem d11_5 : decode jdk_42_method_54_code 5 = .ok (.aload_n 0, 1) := by decide +kernel
theorem d11_6 : decode jdk_42_method_54_code 6 = .ok (.invokevirtual 335, 3) := by decide +kernel
theorem d12_0 : decode jdk_42_method_152_code 0 = .ok (.getstatic 38, 3) := by decide +kernel
theorem d12_3 : decode jdk_42_method_152_code 3 = .ok (.ifCond .eq 10, 3) := by decide +kernel
theorem d12_6 : decode jdk_42_method_152_code 6 = .ok (.aload_n 0, 1) := by decide +kernel
theorem d12_7 : decode jdk_42_method_152_code 7 = .ok (.getfield 15, 3) := by decide +kernel
theorem d12_10 : decode jdk_42_method_152_code 10 = .ok (.goto 4, 3) := by decide +kernel
theorem d12_14 : decode jdk_42_method_152_code 14 = .ok (.ireturn, 1) := by decide +kernel
def Q12_0 (Z : State) (z_COMPACT_STRINGS : Int32) (o0 : Addr) (o1 : Addr) (kk_o1 : ClassId) (p0 : Int32) (h0 : Heap) (n0 : Nat) (v : Option Value) (h : Heap) (L : List Loc) : Prop := v = (some (.int 0)) ∧ Fr n0 L ∧ h = h0
theorem rm12_0 (l : Launch) (Z : State) (a0 : Array Value) (hw : HW Z a0) (ws : List Jvm.Cond) (z_COMPACT_STRINGS : Int32) (o0 : Addr) (o1 : Addr) (kk_o1 : ClassId) (p0 : Int32) (h0 : Heap) (n0 : Nat) (O0 : Old Z n0 h0) (S : SF Z z_COMPACT_STRINGS) (F_coder_o0 : Fld Z h0 o0 sC0 "coder" "B" (.int 0)) :
    Pay l Z My12 ws jdk_42_method_152_code 1 (some .byte) #[(.ref o0)] h0 ({ frames := 0, cells := 0, slots := 0, locals := 0 } : Room) (Q12_0 Z z_COMPACT_STRINGS o0 o1 kk_o1 p0 h0 n0) := by
  obtain ⟨S_z_COMPACT_STRINGS, hz_z_COMPACT_STRINGS, -⟩ := id S
  refine own_body (plainFor_of_name pn_1) (L0 := #[va o0]) (fun _ => by first | rfl | (simp [entryFrame, mkF, argsToLocals, Value.category]; done)) ?_
  intro p e s m below meth c s₁ hrt hlk hx hby hml hZ hown0 hnm X0 e0
  have hown : s.vm.findClass sC0 = some m.cls := hown0
  have N0 := Fr.nil n0
  have K0 : Keep h0 h0 [] := Keep.refl _ _
  obtain ⟨T1, X1, e1, st1⟩ := getS2 X0 hx hZ hown (host := "") (Or.inl (ww hw 19 rfl)) Via.refl e0 (S_z_COMPACT_STRINGS.ext O0.2) (g := (mkF m 0 #[va o0] [])) rfl (hb hby d12_0)
  obtain ⟨T2, X2, e2, st2⟩ := getF X1 hx hZ hown (host := "") (Or.inl (ww hw 31 rfl)) Via.refl e1 F_coder_o0 (g := (mkF m 7 #[va o0] [(.ref o0)])) rfl rfl (hb hby d12_7)
  obtain ⟨fs, hr, hrun, hended, hW, hsame⟩ := X2.leave (v := (some (.int 0))) (fun h => by rw [hrt] at h; cases h)
  refine ⟨_, _, ?_, hrun, hended, _, _, rfl, ?_, ⟨_, rfl⟩, hW, hsame.mono (by decide) (by decide)⟩
  · show Steps p.tables e below (s₁.setTop (mkF m 0 #[va o0] [])) _
    refine st1 _ ?_
    refine XS.ifNo X1.here hx rfl (hb hby d12_3) rfl ((if0 _ _).trans (feq hz_z_COMPACT_STRINGS).1) ?_
    refine XS.aloadN X1.here hx rfl (hb hby d12_6) rfl rfl ?_
    refine st2 _ ?_
    refine XS.goto X2.here hx rfl (pc0 := 10) (pc' := 14) rfl (hb hby d12_10) (by decide) (by decide) ?_
    exact retN X2 hx (t := .byte) hrt (by simp) (hb hby d12_14) hr
  · show Q12_0 Z z_COMPACT_STRINGS o0 o1 kk_o1 p0 h0 n0 (some (.int 0)) T2.heap _
    exact (⟨rfl, N0, e2⟩)
theorem pd_13 : parseMethodDescriptor "()B" = some ⟨[], some .byte⟩ := by decide +kernel
theorem d11_9 : decode jdk_42_method_54_code 9 = .ok (.ishr, 1) := by decide +kernel
theorem d11_10 : decode jdk_42_method_54_code 10 = .ok (.ireturn, 1) := by decide +kernel
def Q11_0 (Z : State) (z_COMPACT_STRINGS : Int32) (o0 : Addr) (o1 : Addr) (kk_o1 : ClassId) (p0 : Int32) (h0 : Heap) (n0 : Nat) (v : Option Value) (h : Heap) (L : List Loc) : Prop := v = (some (.int 1)) ∧ Fr n0 L ∧ h = h0
theorem rm11_0 (l : Launch) (Z : State) (a0 : Array Value) (hw : HW Z a0) (ws : List Jvm.Cond) (z_COMPACT_STRINGS : Int32) (o0 : Addr) (o1 : Addr) (kk_o1 : ClassId) (p0 : Int32) (h0 : Heap) (n0 : Nat) (O0 : Old Z n0 h0) (S : SF Z z_COMPACT_STRINGS) (E_o0 : Exa Z h0 o0 sC0) (F_coder_o0 : Fld Z h0 o0 sC0 "coder" "B" (.int 0)) (F_value_o0 : Fld Z h0 o0 sC0 "value" "[B" (.ref o1)) (V_o1 : Arv Z h0 o1 kk_o1 .byte (1 : Int32) [(.int p0)] (.int 0)) :
    Pay l Z My11 ws jdk_42_method_54_code 1 (some .int) #[(.ref o0)] h0 ({ frames := 1, cells := 0, slots := 0, locals := 13 } : Room) (Q11_0 Z z_COMPACT_STRINGS o0 o1 kk_o1 p0 h0 n0) := by
  refine own_body (plainFor_of_name pn_1) (L0 := #[va o0]) (fun _ => by first | rfl | (simp [entryFrame, mkF, argsToLocals, Value.category]; done)) ?_
  intro p e s m below meth c s₁ hrt hlk hx hby hml hZ hown0 hnm X0 e0
  have hown : s.vm.findClass sC0 = some m.cls := hown0
  have N0 := Fr.nil n0
  have K0 : Keep h0 h0 [] := Keep.refl _ _
  obtain ⟨T1, X1, e1, st1⟩ := getF X0 hx hZ hown (host := "") (Or.inl (ww hw 33 rfl)) Via.refl e0 F_value_o0 (g := (mkF m 1 #[va o0] [(.ref o0)])) rfl rfl (hb hby d11_1)
  obtain ⟨cl2, Ar2, qk2, Sz2, Ng2, Hh2, Gg2⟩ := id V_o1
  obtain ⟨cq3, kq3, q3a, q3b, q3c⟩ := isOf hZ e1 E_o0
  obtain ⟨_, _, ⟨T3, L3, k3, n3⟩, -, X3, ⟨Lc3, hQ3, l3, y3, z3⟩, st3⟩ := X1.virtualBack hx (y := My12) (z := My12) hown (mvT hZ (ww hw 56 rfl)) (mvT hZ (ww hw 57 rfl)) (notFace_of_selects (args := #[]) (mvT hZ (ww hw 59 rfl))) (mvT hZ (ww hw 59 rfl)) (mvT hZ (ww hw 58 rfl)) (by decide) (backOf (W := 1) (rm12_0 l Z a0 hw [] z_COMPACT_STRINGS o0 o1 kk_o1 p0 h0 n0 O0 S F_coder_o0) hZ (ww hw 60 rfl) (ww hw 8 rfl) (by decide) (by decide)) q3a q3c (g := (mkF m 6 #[va o0] [(.ref o0), (.int 1)])) rfl (by rw [hml]; rfl) (Steps.refl _) (argsL := []) (rest := [(.int 1)]) (lenOf pd_13 rfl) rfl (by show 2 * 0 + _ ≤ _; exact Nat.le_of_eq rfl) (hb hby d11_6) (fun _ _ => ⟨rfl, e1, (by decide : 0 + 0 ≤ _), (by decide : 0 + 0 ≤ _)⟩)
  dsimp only [Pt.U, Pt.locs, Pt.cells, Pt.slots] at X3 l3 y3 z3 st3 hQ3
  subst l3 y3 z3
  obtain ⟨rfl, Nq3, e3⟩ := hQ3
  have N3 := Fr.app N0 Nq3
  obtain ⟨fs, hr, hrun, hended, hW, hsame⟩ := X3.leave (v := (some (.int 1))) (fun h => by rw [hrt] at h; cases h)
  refine ⟨_, _, ?_, hrun, hended, _, _, rfl, ?_, ⟨_, rfl⟩, hW, hsame.mono (by decide) (by decide)⟩
  · show Steps p.tables e below (s₁.setTop (mkF m 0 #[va o0] [])) _
    refine XS.aloadN X0.here hx rfl (hb hby d11_0) rfl rfl ?_
    refine st1 _ ?_
    refine X1.arraylength hx (by rw [e1]; exact Ar2.1) (State.isArrayOf_alike hZ.alike Ar2.2.1) (g := (mkF m 4 #[va o0] [(.ref o1)])) rfl rfl (hb hby d11_4) _ ?_
    rw [len_of Sz2 Ng2]
    refine XS.aloadN X1.here hx rfl (hb hby d11_5) rfl rfl ?_
    refine st3.trans ?_
    refine XS.ishr X3.here hx rfl (hb hby d11_9) rfl ?_
    show Steps p.tables e below (T3.setTop (mkF m 10 #[va o0] [(.int ((1 : Int32) >>> ((0 : Int32) &&& 31)))])) _
    rw [show (((1 : Int32) >>> ((0 : Int32) &&& 31)) : Int32) = (1 : Int32) from by decide]
    exact retOut X3 hx (t := .int) (i := .ireturn) hrt rfl (Or.inl ⟨rfl, Or.inl rfl, _, rfl⟩) (hb hby d11_10) hr
  · show Q11_0 Z z_COMPACT_STRINGS o0 o1 kk_o1 p0 h0 n0 (some (.int 1)) T3.heap _
    exact (⟨rfl, N3, e3⟩)
theorem pd_14 : parseMethodDescriptor "()I" = some ⟨[], some .int⟩ := by decide +kernel
def Q0 (n0 : Nat) (v : Option Value) (h : Heap) (L : List Loc) : Prop := v = (some (.int (1 : Int32))) ∧ Fr n0 L
theorem jn1 {p : Program} {l : Launch} {e : Env} {s : State} {m : MethodId} {below : List Frame} {meth : Method} {c : Code} {T0 : State} {locs : List Loc} {Z : State} {a0 : Array Value} {h0 : Heap} {n0 : Nat} (hx : p.tables.exec = Jvm.exec) (hZ : Z.Warmed39 s.vm) (hby : c.code = code) (hml : c.maxLocals = 7) (hown : s.vm.findClass sC3 = some m.cls) (hrt : meth.sig.returnType = ret) (hlk : meth.locks = false) (hw : HW Z a0) (z_COMPACT_STRINGS : Int32) (o0 : Addr) (o1 : Addr) (kk_o1 : ClassId) (p0 : Int32) (p1 : Int32) (p2 : Int32) (p3 : Int32) (p4 : Int32) (f0 : Int32) (f1 : Int32) (f2 : Int32) (f3 : Int32) (f4 : Int32) (o1_e0 : Int32) (X0 : Stand p l e room_1 s m #[(.int p0), (.int p1), (.int p2), (.int p3), (.int p4)] below meth c T0 locs 8 64) (e0 : T0.heap = h0) (N0 : Fr n0 locs) (O0 : Old Z n0 h0) (S : SF Z z_COMPACT_STRINGS) (E_o0 : Exa Z h0 o0 sC0) (F_coder_o0 : Fld Z h0 o0 sC0 "coder" "B" (.int 0)) (F_value_o0 : Fld Z h0 o0 sC0 "value" "[B" (.ref o1)) (V_o1 : Arv Z h0 o1 kk_o1 .byte (1 : Int32) [(.int o1_e0)] (.int 0)) :
    ∃ s₂ o, Steps p.tables e below (T0.setTop (mkF m 29 #[vi f0, vi f1, vi f2, vi f3, vi f4, va o0, uu] [])) s₂ ∧ s₂.status = .running ∧ Ended s₂ below o ∧ ∃ v L, o = .returned v ∧ Q0 n0 v s₂.heap L ∧ ReturnedEndW s o s₂ L room_1.cells room_1.slots := by
  have K0 : Keep h0 h0 [] := Keep.refl _ _
  obtain ⟨_, _, ⟨T1, L1, k1, n1⟩, -, X1, hS1, hge1, ⟨Lc1, hQ1, l1, y1, z1⟩, st1⟩ := callSS X0 hx (y := My8) hown (mvT hZ (ww hw 35 rfl)) (mvT hZ (ww hw 36 rfl)) (mvT hZ (ww hw 37 rfl)) (mvT hZ (ww hw 38 rfl)) (by decide) (backOfS (W := 0) (rm8_0 l Z a0 hw [] z_COMPACT_STRINGS o0 o1 kk_o1 o1_e0 h0 n0 O0 S E_o0 F_value_o0 V_o1) hZ (ww hw 38 rfl) (ww hw 37 rfl) (by decide) (by decide)) (g := (mkF m 31 #[vi f0, vi f1, vi f2, vi f3, vi f4, va o0, uu] [(.ref o0)])) rfl (by rw [hml]; rfl) (argsL := [(.ref o0)]) (rest := []) (lenOf pd_12 rfl) rfl (by show 2 * 0 + _ ≤ _; exact Nat.le_of_eq rfl) (hb hby at_31) (fun _ _ => ⟨rfl, e0, (by decide : 8 + 2 ≤ _), (by decide : 64 + 60 ≤ _)⟩)
  dsimp only [Pt.U, Pt.locs, Pt.cells, Pt.slots] at X1 l1 y1 z1 st1 hQ1 hS1 hge1
  subst l1 y1 z1
  have hZ1 : Z.Warmed39 (s.setVm T1.vm).vm := State.Warmed39.trans hZ hS1.1
  have hown1 : (s.setVm T1.vm).vm.findClass sC3 = some m.cls := by rw [show (s.setVm T1.vm).vm = T1.vm from rfl, hS1.1.alike.findClass]; exact hown
  obtain ⟨rfl, Nq1, Kc1⟩ := hQ1
  have N1 := Fr.app N0 Nq1
  have O1 := O0.keep Kc1 all0
  have K1 : Keep h0 T1.heap [] := K0.trans Kc1 all0
  have fc2 := (E_o0.keep Kc1)
  have fc3 := (F_coder_o0.keep Kc1 nin0)
  have fc4 := (F_value_o0.keep Kc1 nin0)
  have fc5 := (V_o1.keep Kc1 nin0)
  obtain ⟨cq6, kq6, q6a, q6b, q6c⟩ := isOf hZ1 rfl fc2
  obtain ⟨_, _, ⟨T6, L6, k6, n6⟩, -, X6, ⟨Lc6, hQ6, l6, y6, z6⟩, st6⟩ := X1.virtualBack hx (y := My11) (z := My11) hown1 (mvT hZ1 (ww hw 51 rfl)) (mvT hZ1 (ww hw 52 rfl)) (notFace_of_selects (args := #[]) (mvT hZ1 (ww hw 54 rfl))) (mvT hZ1 (ww hw 54 rfl)) (mvT hZ1 (ww hw 53 rfl)) (by decide) (backOf (W := 0) (rm11_0 l Z a0 hw [] z_COMPACT_STRINGS o0 o1 kk_o1 o1_e0 T1.heap n0 O1 S fc2 fc3 fc4 fc5) hZ1 (ww hw 55 rfl) (ww hw 8 rfl) (by decide) (by decide)) q6a q6c (g := (mkF m 45 #[vi f0, vi f1, vi f2, vi f3, vi f4, va o0, va o0] [(.ref o0)])) rfl (by rw [hml]; rfl) (Steps.refl _) (argsL := []) (rest := []) (lenOf pd_14 rfl) rfl (by show 2 * 0 + _ ≤ _; exact Nat.le_of_eq rfl) (hb hby at_45) (fun _ _ => ⟨rfl, rfl, (by decide : 10 + 0 ≤ _), (by decide : 124 + 0 ≤ _)⟩)
  dsimp only [Pt.U, Pt.locs, Pt.cells, Pt.slots] at X6 l6 y6 z6 st6 hQ6
  subst l6 y6 z6
  obtain ⟨rfl, Nq6, e6⟩ := hQ6
  have N6 := Fr.app N1 Nq6
  obtain ⟨cq7, kq7, q7a, q7b, q7c⟩ := isOf hZ1 e6 fc2
  obtain ⟨_, _, ⟨T7, L7, k7, n7⟩, -, X7, ⟨Lc7, hQ7, l7, y7, z7⟩, st7⟩ := X6.virtualBack hx (y := My11) (z := My11) hown1 (mvT hZ1 (ww hw 51 rfl)) (mvT hZ1 (ww hw 52 rfl)) (notFace_of_selects (args := #[]) (mvT hZ1 (ww hw 54 rfl))) (mvT hZ1 (ww hw 54 rfl)) (mvT hZ1 (ww hw 53 rfl)) (by decide) (backOf (W := 1) (rm11_0 l Z a0 hw [] z_COMPACT_STRINGS o0 o1 kk_o1 o1_e0 T1.heap n0 O1 S fc2 fc3 fc4 fc5) hZ1 (ww hw 55 rfl) (ww hw 8 rfl) (by decide) (by decide)) q7a q7c (g := (mkF m 50 #[vi f0, vi f1, vi f2, vi f3, vi f4, va o0, va o0] [(.ref o0), (.int 1)])) rfl (by rw [hml]; rfl) (Steps.refl _) (argsL := []) (rest := [(.int 1)]) (lenOf pd_14 rfl) rfl (by show 2 * 0 + _ ≤ _; exact Nat.le_of_eq rfl) (hb hby at_50) (fun _ _ => ⟨rfl, e6, (by decide : 10 + 0 ≤ _), (by decide : 124 + 0 ≤ _)⟩)
  dsimp only [Pt.U, Pt.locs, Pt.cells, Pt.slots] at X7 l7 y7 z7 st7 hQ7
  subst l7 y7 z7
  obtain ⟨rfl, Nq7, e7⟩ := hQ7
  have N7 := Fr.app N6 Nq7
  obtain ⟨fs, hr, hrun, hended, hRE⟩ := X7.leaveW (s := s) hS1 (by rw [e7]; exact (Nat.le_refl _)) (v := (some (.int 1))) (fun h => by rw [hrt] at h; cases h)
  refine ⟨_, _, ?_, hrun, hended, _, _, rfl, ?_, hRE.1, hRE.2.1, hRE.2.2.1, hRE.2.2.2.mono (by decide) (by decide)⟩
  · show Steps p.tables e below (T0.setTop (mkF m 29 #[vi f0, vi f1, vi f2, vi f3, vi f4, va o0, uu] [])) _
    refine XS.aload X0.here hx rfl (hb hby at_29) rfl rfl ?_
    refine st1.trans ?_
    refine XS.astore X1.here hx rfl (hb hby at_34) rfl rfl (l' := #[vi f0, vi f1, vi f2, vi f3, vi f4, va o0, va o0]) rfl ?_
    refine XS.aload X1.here hx rfl (hb hby at_36) rfl rfl ?_
    refine XS.aload X1.here hx rfl (hb hby at_38) rfl rfl ?_
    refine Jvm.RoadKit.acmp (g := (mkF m 40 #[vi f0, vi f1, vi f2, vi f3, vi f4, va o0, va o0] [(.ref o0), (.ref o0)])) X1 hx rfl rfl rfl (pc0 := 40) (pc' := 43) (same := true) rfl (hb hby at_40) rfl (decide_eq_true rfl) (by decide) (by decide) ?_
    refine XS.aload X1.here hx rfl (hb hby at_43) rfl rfl ?_
    refine st6.trans ?_
    show Steps p.tables e below (T6.setTop (mkF m 48 #[vi f0, vi f1, vi f2, vi f3, vi f4, va o0, va o0] [(.int 1)])) _
    refine XS.aload X6.here hx rfl (hb hby at_48) rfl rfl ?_
    refine st7.trans ?_
    refine XS.icmpNo X7.here hx rfl (hb hby at_53) rfl (teq (by decide : (1 : Int32) = (1 : Int32))).2 ?_
    refine XS.iconst X7.here hx rfl (hb hby at_56) ?_
    refine XS.goto X7.here hx rfl (pc0 := 57) (pc' := 61) rfl (hb hby at_57) (by decide) (by decide) ?_
    exact retN X7 hx (t := .boolean) hrt (by simp) (hb hby at_61) hr
  · show Q0 n0 (some (.int 1)) T7.heap _
    exact (⟨rfl, N7⟩)
def Q7_2 (Z : State) (z_COMPACT_STRINGS : Int32) (o0 : Addr) (kk_o0 : ClassId) (p0 : Int32) (p1 : Int32) (h0 : Heap) (n0 : Nat) (v : Option Value) (h : Heap) (L : List Loc) : Prop := v = (some (.int 1)) ∧ Fr n0 L ∧ h = h0
theorem rm7_2 (l : Launch) (Z : State) (a0 : Array Value) (hw : HW Z a0) (ws : List Jvm.Cond) (z_COMPACT_STRINGS : Int32) (o0 : Addr) (kk_o0 : ClassId) (p0 : Int32) (p1 : Int32) (h0 : Heap) (n0 : Nat) (O0 : Old Z n0 h0) (S : SF Z z_COMPACT_STRINGS) (V_o0 : Arv Z h0 o0 kk_o0 .byte (2 : Int32) [(.int p0), (.int p1)] (.int 0)) :
    Pay l Z My7 ws jdk_52_method_15_code 2 (some .byte) #[(.ref o0), (.int 1)] h0 ({ frames := 0, cells := 0, slots := 0, locals := 0 } : Room) (Q7_2 Z z_COMPACT_STRINGS o0 kk_o0 p0 p1 h0 n0) := by
  refine own_body (plainFor_of_name pn_2) (L0 := #[va o0, vi 1]) (fun _ => by first | rfl | (simp [entryFrame, mkF, argsToLocals, Value.category]; done)) ?_
  intro p e s m below meth c s₁ hrt hlk hx hby hml hZ hown0 hnm X0 e0
  have hown : s.vm.findClass sC1 = some m.cls := hown0
  have N0 := Fr.nil n0
  have K0 : Keep h0 h0 [] := Keep.refl _ _
  obtain ⟨cl1, Ar1, qk1, Sz1, Ng1, Hh1, Gg1⟩ := id V_o0
  obtain ⟨fs, hr, hrun, hended, hW, hsame⟩ := X0.leave (v := (some (.int 1))) (fun h => by rw [hrt] at h; cases h)
  refine ⟨_, _, ?_, hrun, hended, _, _, rfl, ?_, ⟨_, rfl⟩, hW, hsame.mono (by decide) (by decide)⟩
  · show Steps p.tables e below (s₁.setTop (mkF m 0 #[va o0, vi 1] [])) _
    refine XS.iloadN X0.here hx rfl (hb hby d7_0) rfl ?_
    refine XS.aloadN X0.here hx rfl (hb hby d7_1) rfl rfl ?_
    refine X0.arraylength hx (by rw [e0]; exact Ar1.1) (State.isArrayOf_alike hZ.alike Ar1.2.1) (g := (mkF m 2 #[va o0, vi 1] [(.ref o0), (.int 1)])) rfl rfl (hb hby d7_2) _ ?_
    rw [len_of Sz1 Ng1]
    refine XS.isub X0.here hx rfl (hb hby d7_3) rfl ?_
    show Steps p.tables e below (s₁.setTop (mkF m 4 #[va o0, vi 1] [(.int ((1 : Int32) - (2 : Int32)))])) _
    rw [show (((1 : Int32) - (2 : Int32)) : Int32) = (-1 : Int32) from by decide]
    refine XS.bipush X0.here hx rfl (hb hby d7_4) ?_
    refine XS.iushr X0.here hx rfl (hb hby d7_6) rfl ?_
    show Steps p.tables e below (s₁.setTop (mkF m 7 #[va o0, vi 1] [(.int (((-1 : Int32).toUInt32 >>> ((31 : Int32) &&& 31).toUInt32).toInt32))])) _
    rw [show ((((-1 : Int32).toUInt32 >>> ((31 : Int32) &&& 31).toUInt32).toInt32) : Int32) = (1 : Int32) from by decide]
    refine XS.i2b X0.here hx rfl (hb hby d7_7) rfl ?_
    show Steps p.tables e below (s₁.setTop (mkF m 8 #[va o0, vi 1] [(.int (bb (1 : Int32)))])) _
    rw [show ((bb (1 : Int32)) : Int32) = (1 : Int32) from by decide]
    exact retN X0 hx (t := .byte) hrt (by simp) (hb hby d7_8) hr
  · show Q7_2 Z z_COMPACT_STRINGS o0 kk_o0 p0 p1 h0 n0 (some (.int 1)) s₁.heap _
    exact (⟨rfl, N0, e0⟩)
def Q3_2 (Z : State) (z_COMPACT_STRINGS : Int32) (o0 : Addr) (o1 : Addr) (kk_o1 : ClassId) (p0 : Int32) (h0 : Heap) (n0 : Nat) (v : Option Value) (h : Heap) (L : List Loc) : Prop := ∃ (b2_1_4_3 : Addr), ∃ (k2_1_4_3 : ClassId), ∃ (ce0_3 : Int32), ∃ (ce1_3 : Int32), v = none ∧ Fr n0 L ∧ Keep h0 h [o0] ∧ Exa Z h o0 sC0 ∧ Fld Z h o0 sC0 "coder" "B" (.int 1) ∧ Fld Z h o0 sC0 "value" "[B" (.ref b2_1_4_3) ∧ Arv Z h b2_1_4_3 k2_1_4_3 .byte (2 : Int32) [(.int ce0_3), (.int ce1_3)] (.int 0) ∧ h0.size ≤ b2_1_4_3
theorem rm3_2 (l : Launch) (Z : State) (a0 : Array Value) (hw : HW Z a0) (ws : List Jvm.Cond) (z_COMPACT_STRINGS : Int32) (o0 : Addr) (o1 : Addr) (kk_o1 : ClassId) (p0 : Int32) (h0 : Heap) (n0 : Nat) (O0 : Old Z n0 h0) (S : SF Z z_COMPACT_STRINGS) (E_o0 : Exa Z h0 o0 sC0) (F_coder_o0 : Fld Z h0 o0 sC0 "coder" "B" (.int 0)) (F_value_o0 : Fld Z h0 o0 sC0 "value" "[B" .null) (V_o1 : Arv Z h0 o1 kk_o1 .char (1 : Int32) [(.int p0)] (.int 0)) (g_o0 : n0 ≤ o0) (hc0 : ¬ (gp1 p0)) :
    Pay l Z My3 ws jdk_42_method_149_code 6 none #[(.ref o0), (.ref o1), (.int 0), (.int 1), .null] h0 ({ frames := 4, cells := 2, slots := 3, locals := 57 } : Room) (Q3_2 Z z_COMPACT_STRINGS o0 o1 kk_o1 p0 h0 n0) := by
  obtain ⟨S_z_COMPACT_STRINGS, hz_z_COMPACT_STRINGS, -⟩ := id S
  refine own_body (plainFor_of_name pn_1) (L0 := #[va o0, va o1, vi 0, vi 1, .val .null, uu]) (fun _ => by first | rfl | (simp [entryFrame, mkF, argsToLocals, Value.category]; done)) ?_
  intro p e s m below meth c s₁ hrt hlk hx hby hml hZ hown0 hnm X0 e0
  have hown : s.vm.findClass sC0 = some m.cls := hown0
  have N0 := Fr.nil n0
  have K0 : Keep h0 h0 [o0] := Keep.refl _ _
  obtain ⟨T1, X1, e1, st1⟩ := initO X0 hx hZ hown (ww hw 16 rfl) (ww hw 17 rfl) (ww hw 18 rfl) e0 (g := (mkF m 1 #[va o0, va o1, vi 0, vi 1, .val .null, uu] [(.ref o0)])) rfl (by rw [hml]; rfl) rfl (hb hby d3_1) (by decide) (W := 0) (by show 2 * 0 + _ ≤ _; exact Nat.le_of_eq rfl) (by decide)
  obtain ⟨T2, X2, e2, st2⟩ := getS2 X1 hx hZ hown (host := "") (Or.inl (ww hw 19 rfl)) Via.refl e1 (S_z_COMPACT_STRINGS.ext O0.2) (g := (mkF m 27 #[va o0, va o1, vi 0, vi 1, .val .null, uu] [])) rfl (hb hby d3_27)
  obtain ⟨_, _, ⟨T3, L3, k3, n3⟩, -, X3, ⟨Lc3, hQ3, l3, y3, z3⟩, st3⟩ := Jvm.LawKit.callS X2 hx (y := My5) hown (mvT hZ (ww hw 20 rfl)) (mvT hZ (ww hw 21 rfl)) (mvT hZ (ww hw 22 rfl)) (mvT hZ (ww hw 23 rfl)) (by decide) (backOf (W := 0) (gm1_1 l Z a0 hw [] z_COMPACT_STRINGS o1 kk_o1 p0 h0 n0 O0 S V_o1 hc0) hZ (ww hw 23 rfl) (ww hw 22 rfl) (by decide) (by decide)) (g := (mkF m 36 #[va o0, va o1, vi 0, vi 1, .val .null, uu] [(.int 1), (.int 0), (.ref o1)])) rfl (by rw [hml]; rfl) (argsL := [(.ref o1), (.int 0), (.int 1)]) (rest := []) (lenOf pd_4 rfl) rfl (by show 2 * 0 + _ ≤ _; exact Nat.le_of_eq rfl) (hb hby d3_36) (fun _ _ => ⟨rfl, e2, (by decide : 0 + 2 ≤ _), (by decide : 0 + 3 ≤ _)⟩)
  dsimp only [Pt.U, Pt.locs, Pt.cells, Pt.slots] at X3 l3 y3 z3 st3 hQ3
  subst l3 y3 z3
  obtain ⟨b2_1_4_3, k2_1_4_3, ce0_3, ce1_3, rfl, Nq3, Kc3, P0_3, P1_3⟩ := hQ3
  have N3 := Fr.app N0 Nq3
  have ne_o0_b2_1_4_3 : o0 ≠ b2_1_4_3 := Nat.ne_of_lt (Nat.lt_of_lt_of_le E_o0.lt P1_3)
  have ne_o1_b2_1_4_3 : o1 ≠ b2_1_4_3 := Nat.ne_of_lt (Nat.lt_of_lt_of_le V_o1.lt P1_3)
  have g_b2_1_4_3 : n0 ≤ b2_1_4_3 := Nat.le_trans (own_old O0) P1_3
  have sz_b2_1_4_3 : h0.size ≤ b2_1_4_3 := Nat.le_trans K0.1 P1_3
  have O3 := O0.keep Kc3 all0
  have K3 : Keep h0 T3.heap [o0] := K0.trans Kc3 all0
  obtain ⟨_, _, ⟨T4, L4, k4, n4⟩, -, X4, ⟨Lc4, hQ4, l4, y4, z4⟩, st4⟩ := Jvm.LawKit.callS X3 hx (y := My7) hown (mvT hZ (ww hw 28 rfl)) (mvT hZ (ww hw 29 rfl)) (mvT hZ (ww hw 22 rfl)) (mvT hZ (ww hw 30 rfl)) (by decide) (backOf (W := 1) (rm7_2 l Z a0 hw [] z_COMPACT_STRINGS b2_1_4_3 k2_1_4_3 ce0_3 ce1_3 T3.heap n0 O3 S P0_3) hZ (ww hw 30 rfl) (ww hw 22 rfl) (by decide) (by decide)) (g := (mkF m 45 #[va o0, va o1, vi 0, vi 1, .val .null, va b2_1_4_3] [(.int 1), (.ref b2_1_4_3), (.ref o0)])) rfl (by rw [hml]; rfl) (argsL := [(.ref b2_1_4_3), (.int 1)]) (rest := [(.ref o0)]) (lenOf pd_6 rfl) rfl (by show 2 * 0 + _ ≤ _; exact Nat.le_of_eq rfl) (hb hby d3_45) (fun _ _ => ⟨rfl, rfl, (by decide : 2 + 0 ≤ _), (by decide : 3 + 0 ≤ _)⟩)
  dsimp only [Pt.U, Pt.locs, Pt.cells, Pt.slots] at X4 l4 y4 z4 st4 hQ4
  subst l4 y4 z4
  obtain ⟨rfl, Nq4, e4⟩ := hQ4
  have N4 := Fr.app N3 Nq4
  have fc5 := (F_coder_o0.keep Kc3 nin0)
  have fc6 := (E_o0.keep Kc3)
  obtain ⟨T7, h7, X7, e7, W7, st7⟩ := putFN X4 hx hZ hown (ww hw 31 rfl) Via.refl e4 fc5 fc6 (Or.inr ⟨(ww hw 32 rfl), rfl, hnm⟩) (ww hw 7 rfl) (ty := .byte) (v' := (.int 1)) (by decide) rfl (by decide) (g := (mkF m 48 #[va o0, va o1, vi 0, vi 1, .val .null, va b2_1_4_3] [(.int 1), (.ref o0)])) rfl rfl (hb hby d3_48)
  have Fw7 := fc5.same W7
  have O7 := O3.wr W7 g_o0
  have K7 : Keep h0 h7 [o0] := K3.wr W7 (Or.inl (List.mem_of_getElem? (i := 0) rfl))
  have N7 := Fr.snoc X7 N4 g_o0
  have fc8 := ((F_value_o0.keep Kc3 nin0).other W7 (Or.inr (slot_ne (Or.inr (ww hw 34 rfl)) (Or.inr (ww hw 32 rfl)) (by decide) (t := (.array .byte)) (t' := .byte) (by decide) (by decide))))
  have fc9 := (fc6.wr W7)
  obtain ⟨T10, h10, X10, e10, W10, st10⟩ := putF X7 hx hZ hown (host := "") (Or.inl (ww hw 33 rfl)) Via.refl e7 fc8 fc9 (Or.inr ⟨(ww hw 34 rfl), rfl, hnm⟩) (ww hw 7 rfl) (ty := (.array .byte)) (by decide) rfl rfl (g := (mkF m 54 #[va o0, va o1, vi 0, vi 1, .val .null, va b2_1_4_3] [(.ref b2_1_4_3), (.ref o0)])) rfl rfl (hb hby d3_54)
  have Fw10 := fc8.same W10
  have O10 := O7.wr W10 g_o0
  have K10 : Keep h0 h10 [o0] := K7.wr W10 (Or.inl (List.mem_of_getElem? (i := 0) rfl))
  have N10 := Fr.snoc X10 N7 g_o0
  obtain ⟨fs, hr, hrun, hended, hW, hsame⟩ := X10.leave (v := none) (fun _ => rfl)
  have fc11 := (fc9.wr W10)
  have fc12 := (Fw7.other W10 (Or.inr (slot_ne (Or.inr (ww hw 32 rfl)) (Or.inr (ww hw 34 rfl)) (by decide) (t := .byte) (t' := (.array .byte)) (by decide) (by decide))))
  have fc13 := ((P0_3.other W7 (Ne.symm ne_o0_b2_1_4_3)).other W10 (Ne.symm ne_o0_b2_1_4_3))
  refine ⟨_, _, ?_, hrun, hended, _, _, rfl, ?_, ⟨_, rfl⟩, hW, hsame.mono (by decide) (by decide)⟩
  · show Steps p.tables e below (s₁.setTop (mkF m 0 #[va o0, va o1, vi 0, vi 1, .val .null, uu] [])) _
    refine XS.aloadN X0.here hx rfl (hb hby d3_0) rfl rfl ?_
    refine st1 _ ?_
    refine XS.iloadN X1.here hx rfl (hb hby d3_4) rfl ?_
    refine XS.ifYes X1.here hx rfl (pc0 := 5) (pc' := 27) rfl (hb hby d3_5) rfl ((if0 _ _).trans (feq (by decide : ¬ ((1 : Int32) = (0 : Int32)))).2) (by decide) (by decide) ?_
    refine st2 _ ?_
    refine XS.ifNo X2.here hx rfl (hb hby d3_30) rfl ((if0 _ _).trans (feq hz_z_COMPACT_STRINGS).1) ?_
    refine XS.aloadN X2.here hx rfl (hb hby d3_33) rfl rfl ?_
    refine XS.iloadN X2.here hx rfl (hb hby d3_34) rfl ?_
    show Steps p.tables e below (T2.setTop (mkF m 35 #[va o0, va o1, vi 0, vi 1, .val .null, uu] [(.int 0), (.ref o1)])) _
    refine XS.iloadN X2.here hx rfl (hb hby d3_35) rfl ?_
    refine st3 _ ?_
    refine XS.astore X3.here hx rfl (hb hby d3_39) rfl rfl (l' := #[va o0, va o1, vi 0, vi 1, .val .null, va b2_1_4_3]) rfl ?_
    refine XS.aloadN X3.here hx rfl (hb hby d3_41) rfl rfl ?_
    refine XS.aload X3.here hx rfl (hb hby d3_42) rfl rfl ?_
    refine XS.iloadN X3.here hx rfl (hb hby d3_44) rfl ?_
    refine st4 _ ?_
    refine st7 _ ?_
    show Steps p.tables e below (T7.setTop (mkF m 51 #[va o0, va o1, vi 0, vi 1, .val .null, va b2_1_4_3] [])) _
    refine XS.aloadN X7.here hx rfl (hb hby d3_51) rfl rfl ?_
    refine XS.aload X7.here hx rfl (hb hby d3_52) rfl rfl ?_
    refine st10 _ ?_
    exact X10.returnOut hx hrt (hb hby d3_57) hr
  · show Q3_2 Z z_COMPACT_STRINGS o0 o1 kk_o1 p0 h0 n0 none T10.heap _
    rw [e10]; exact ⟨b2_1_4_3, k2_1_4_3, ce0_3, ce1_3, rfl, N10, K10, fc11, fc12, Fw10, fc13, sz_b2_1_4_3⟩
def Q2_2 (Z : State) (z_COMPACT_STRINGS : Int32) (o0 : Addr) (o1 : Addr) (kk_o1 : ClassId) (p0 : Int32) (h0 : Heap) (n0 : Nat) (v : Option Value) (h : Heap) (L : List Loc) : Prop := ∃ (b2_1_4_3_2 : Addr), ∃ (k2_1_4_3_2 : ClassId), ∃ (ce0_3_2 : Int32), ∃ (ce1_3_2 : Int32), v = none ∧ Fr n0 L ∧ Keep h0 h [o0] ∧ Exa Z h o0 sC0 ∧ Fld Z h o0 sC0 "coder" "B" (.int 1) ∧ Fld Z h o0 sC0 "value" "[B" (.ref b2_1_4_3_2) ∧ Arv Z h b2_1_4_3_2 k2_1_4_3_2 .byte (2 : Int32) [(.int ce0_3_2), (.int ce1_3_2)] (.int 0) ∧ h0.size ≤ b2_1_4_3_2
theorem rm2_2 (l : Launch) (Z : State) (a0 : Array Value) (hw : HW Z a0) (ws : List Jvm.Cond) (z_COMPACT_STRINGS : Int32) (o0 : Addr) (o1 : Addr) (kk_o1 : ClassId) (p0 : Int32) (h0 : Heap) (n0 : Nat) (O0 : Old Z n0 h0) (S : SF Z z_COMPACT_STRINGS) (E_o0 : Exa Z h0 o0 sC0) (F_coder_o0 : Fld Z h0 o0 sC0 "coder" "B" (.int 0)) (F_value_o0 : Fld Z h0 o0 sC0 "value" "[B" .null) (V_o1 : Arv Z h0 o1 kk_o1 .char (1 : Int32) [(.int p0)] (.int 0)) (g_o0 : n0 ≤ o0) (hc0 : ¬ (gp1 p0)) :
    Pay l Z My2 ws jdk_42_method_3_code 2 none #[(.ref o0), (.ref o1)] h0 ({ frames := 5, cells := 2, slots := 3, locals := 74 } : Room) (Q2_2 Z z_COMPACT_STRINGS o0 o1 kk_o1 p0 h0 n0) := by
  refine own_body (plainFor_of_name pn_1) (L0 := #[va o0, va o1]) (fun _ => by first | rfl | (simp [entryFrame, mkF, argsToLocals, Value.category]; done)) ?_
  intro p e s m below meth c s₁ hrt hlk hx hby hml hZ hown0 hnm X0 e0
  have hown : s.vm.findClass sC0 = some m.cls := hown0
  have N0 := Fr.nil n0
  have K0 : Keep h0 h0 [o0] := Keep.refl _ _
  obtain ⟨cl1, Ar1, qk1, Sz1, Ng1, Hh1, Gg1⟩ := id V_o1
  obtain ⟨_, _, ⟨T2, L2, k2, n2⟩, -, X2, ⟨Lc2, hQ2, l2, y2, z2⟩, st2⟩ := X0.specialBack hx (y := My3) rfl hown (mvT hZ (ww hw 12 rfl)) (mvT hZ (ww hw 13 rfl)) (mvT hZ (ww hw 15 rfl)) (by decide) (backOf (W := 0) (rm3_2 l Z a0 hw [] z_COMPACT_STRINGS o0 o1 kk_o1 p0 h0 n0 O0 S E_o0 F_coder_o0 F_value_o0 V_o1 g_o0 hc0) hZ (ww hw 15 rfl) (ww hw 8 rfl) (by decide) (by decide)) (g := (mkF m 6 #[va o0, va o1] [.null, (.int 1), (.int 0), (.ref o1), (.ref o0)])) rfl (by rw [hml]; rfl) (Steps.refl _) (a := o0) (argsL := [(.ref o1), (.int 0), (.int 1), .null]) (rest := []) (lenOf pd_7 rfl) rfl (by show 2 * 0 + _ ≤ _; exact Nat.le_of_eq rfl) (hb hby d2_6) (fun _ _ => ⟨rfl, e0, (by decide : 0 + 2 ≤ _), (by decide : 0 + 3 ≤ _)⟩)
  dsimp only [Pt.U, Pt.locs, Pt.cells, Pt.slots] at X2 l2 y2 z2 st2 hQ2
  subst l2 y2 z2
  obtain ⟨b2_1_4_3_2, k2_1_4_3_2, ce0_3_2, ce1_3_2, rfl, Nq2, Kc2, P0_2, P1_2, P2_2, P3_2, P4_2⟩ := hQ2
  have N2 := Fr.app N0 Nq2
  have ne_o0_b2_1_4_3_2 : o0 ≠ b2_1_4_3_2 := Nat.ne_of_lt (Nat.lt_of_lt_of_le E_o0.lt P4_2)
  have ne_o1_b2_1_4_3_2 : o1 ≠ b2_1_4_3_2 := Nat.ne_of_lt (Nat.lt_of_lt_of_le V_o1.lt P4_2)
  have g_b2_1_4_3_2 : n0 ≤ b2_1_4_3_2 := Nat.le_trans (own_old O0) P4_2
  have sz_b2_1_4_3_2 : h0.size ≤ b2_1_4_3_2 := Nat.le_trans K0.1 P4_2
  have O2 := O0.keep Kc2 (allS g_o0 all0)
  have K2 : Keep h0 T2.heap [o0] := K0.trans Kc2 (allS (Or.inl (List.mem_of_getElem? (i := 0) rfl)) all0)
  obtain ⟨fs, hr, hrun, hended, hW, hsame⟩ := X2.leave (v := none) (fun _ => rfl)
  refine ⟨_, _, ?_, hrun, hended, _, _, rfl, ?_, ⟨_, rfl⟩, hW, hsame.mono (by decide) (by decide)⟩
  · show Steps p.tables e below (s₁.setTop (mkF m 0 #[va o0, va o1] [])) _
    refine XS.aloadN X0.here hx rfl (hb hby d2_0) rfl rfl ?_
    refine XS.aloadN X0.here hx rfl (hb hby d2_1) rfl rfl ?_
    refine XS.iconst X0.here hx rfl (hb hby d2_2) ?_
    refine XS.aloadN X0.here hx rfl (hb hby d2_3) rfl rfl ?_
    refine X0.arraylength hx (by rw [e0]; exact Ar1.1) (State.isArrayOf_alike hZ.alike Ar1.2.1) (g := (mkF m 4 #[va o0, va o1] [(.ref o1), (.int 0), (.ref o1), (.ref o0)])) rfl rfl (hb hby d2_4) _ ?_
    rw [len_of Sz1 Ng1]
    refine XS.aconstNull X0.here hx rfl (hb hby d2_5) ?_
    refine st2.trans ?_
    exact X2.returnOut hx hrt (hb hby d2_9) hr
  · show Q2_2 Z z_COMPACT_STRINGS o0 o1 kk_o1 p0 h0 n0 none T2.heap _
    exact (⟨b2_1_4_3_2, k2_1_4_3_2, ce0_3_2, ce1_3_2, rfl, N2, K2, P0_2, P1_2, P2_2, P3_2, sz_b2_1_4_3_2⟩)
def Q1_2 (Z : State) (z_COMPACT_STRINGS : Int32) (p0 : Int32) (p1 : Int32) (p2 : Int32) (p3 : Int32) (p4 : Int32) (h0 : Heap) (n0 : Nat) (v : Option Value) (h : Heap) (L : List Loc) : Prop := ∃ (b4 : Addr), ∃ (b2_1_4_3_2_6 : Addr), ∃ (k2_1_4_3_2_6 : ClassId), ∃ (ce0_3_2_6 : Int32), ∃ (ce1_3_2_6 : Int32), v = (some (.ref b4)) ∧ Fr n0 L ∧ Keep h0 h [] ∧ Exa Z h b4 sC0 ∧ Fld Z h b4 sC0 "coder" "B" (.int 1) ∧ Fld Z h b4 sC0 "value" "[B" (.ref b2_1_4_3_2_6) ∧ Arv Z h b2_1_4_3_2_6 k2_1_4_3_2_6 .byte (2 : Int32) [(.int ce0_3_2_6), (.int ce1_3_2_6)] (.int 0) ∧ h0.size ≤ b4 ∧ h0.size ≤ b2_1_4_3_2_6 ∧ b4 ≠ b2_1_4_3_2_6
theorem rm1_2 (l : Launch) (Z : State) (a0 : Array Value) (hw : HW Z a0) (ws : List Jvm.Cond) (z_COMPACT_STRINGS : Int32) (p0 : Int32) (p1 : Int32) (p2 : Int32) (p3 : Int32) (p4 : Int32) (h0 : Heap) (n0 : Nat) (O0 : Old Z n0 h0) (S : SF Z z_COMPACT_STRINGS) (hc0 : p0 = (0 : Int32)) (hc1 : ¬ (gp1 (cc p1))) :
    Pay l Z My1 ws method_3_code 6 (some (.object sC0)) #[(.int p0), (.int p1), (.int p2), (.int p3), (.int p4)] h0 ({ frames := 6, cells := 4, slots := 8, locals := 88 } : Room) (Q1_2 Z z_COMPACT_STRINGS p0 p1 p2 p3 p4 h0 n0) := by
  refine own_body (plainFor_of_name pn_0) (L0 := #[vi p0, vi p1, vi p2, vi p3, vi p4, uu]) (fun _ => by first | rfl | (simp [entryFrame, mkF, argsToLocals, Value.category]; done)) ?_
  intro p e s m below meth c s₁ hrt hlk hx hby hml hZ hown0 hnm X0 e0
  have hown : s.vm.findClass sC3 = some m.cls := hown0
  have N0 := Fr.nil n0
  have K0 : Keep h0 h0 [] := Keep.refl _ _
  obtain ⟨T1, h1, k1, X1, e1, E1, A1, st1⟩ := newP X0 hx hZ (ww hw 5 rfl) e0 (g := (mkF m 5 #[vi p0, vi p1, vi p2, vi p3, vi p4, uu] [(.int 1)])) rfl (hb hby d1_5) rfl (by decide) (cap := 1) (by decide) (by decide) (by decide) (by decide)
  obtain ⟨b1, qs1⟩ : ∃ z, z = h0.size := ⟨_, rfl⟩
  rw [← qs1] at A1 st1
  have g_b1 : n0 ≤ b1 := Nat.le_trans (own_old O0) (Nat.le_of_eq qs1.symm)
  have sz_b1 : h0.size ≤ b1 := Nat.le_trans K0.1 (Nat.le_of_eq qs1.symm)
  have O1 := O0.ext E1
  have K1 : Keep h0 h1 [] := K0.ext E1
  have V_b1 : Arv Z h1 b1 k1 .char (1 : Int32) [(.int 0)] (.int 0) := (Arv.new A1 (by decide)).pad (pad_rep [] (.int 0) 1)
  obtain ⟨cl2, Ar2, qk2, Sz2, Ng2, Hh2, Gg2⟩ := id V_b1
  have hin2_0 : ¬ ((0 : Int32) < 0 ∨ cl2.slots.size ≤ ((0 : Int32)).toNatClampNeg) := inb_of Sz2 ⟨by decide, by decide⟩
  obtain ⟨T3, h3, X3, e3, W3, st3⟩ := stC X1 hx hZ e1 Ar2 (j := (0 : Int32)) hin2_0 (g := (mkF m 13 #[vi p0, vi p1, vi p2, vi p3, vi p4, va b1] [(.int p1), (.int 0), (.ref b1)])) rfl rfl (hb hby d1_13)
  have V3 : Arv Z h3 b1 k1 .char (1 : Int32) [(.int (cc p1))] (.int 0) := Arv.set Ar2 qk2 Sz2 Ng2 Hh2 Gg2 (fits_nar_char _) W3 0 rfl (Nat.le_of_ble_eq_true rfl)
  have O3 := O1.wr W3 g_b1
  have K3 : Keep h0 h3 [] := K1.wr W3 (Or.inr sz_b1)
  have N3 := Fr.snoc X3 N0 g_b1
  obtain ⟨T4, h4, X4, e4, E4, A4, D4, -, st4⟩ := newO X3 hx hZ hown (ww hw 6 rfl) (ww hw 7 rfl) (ww hw 8 rfl) e3 (g := (mkF m 14 #[vi p0, vi p1, vi p2, vi p3, vi p4, va b1] [])) rfl (hb hby d1_14) (by decide) (by decide)
  obtain ⟨b4, qs4⟩ : ∃ z, z = h3.size := ⟨_, rfl⟩
  rw [← qs4] at A4 D4 st4
  have ne_b1_b4 : b1 ≠ b4 := Nat.ne_of_lt (Nat.lt_of_lt_of_le V3.lt (Nat.le_of_eq qs4.symm))
  have g_b4 : n0 ≤ b4 := Nat.le_trans (own_old O3) (Nat.le_of_eq qs4.symm)
  have sz_b4 : h0.size ≤ b4 := Nat.le_trans K3.1 (Nat.le_of_eq qs4.symm)
  have O4 := O3.ext E4
  have K4 : Keep h0 h4 [] := K3.ext E4
  have F_coder_b4 : Fld Z h4 b4 sC0 "coder" "B" (.int 0) := D4 (Or.inr (ww hw 32 rfl)) (ty := .byte) (by decide)
  have F_value_b4 : Fld Z h4 b4 sC0 "value" "[B" .null := D4 (Or.inr (ww hw 34 rfl)) (ty := (.array .byte)) (by decide)
  have fc5 := (V3.ext E4)
  obtain ⟨_, _, ⟨T6, L6, k6, n6⟩, -, X6, ⟨Lc6, hQ6, l6, y6, z6⟩, st6⟩ := X4.specialBack hx (y := My2) rfl hown (mvT hZ (ww hw 9 rfl)) (mvT hZ (ww hw 10 rfl)) (mvT hZ (ww hw 11 rfl)) (by decide) (backOf (W := 1) (rm2_2 l Z a0 hw [] z_COMPACT_STRINGS b4 b1 k1 (cc p1) h4 n0 O4 S A4 F_coder_b4 F_value_b4 fc5 g_b4 hc1) hZ (ww hw 11 rfl) (ww hw 8 rfl) (by decide) (by decide)) (g := (mkF m 20 #[vi p0, vi p1, vi p2, vi p3, vi p4, va b1] [(.ref b1), (.ref b4), (.ref b4)])) rfl (by rw [hml]; rfl) (Steps.refl _) (a := b4) (argsL := [(.ref b1)]) (rest := [(.ref b4)]) (lenOf pd_8 rfl) rfl (by show 2 * 0 + _ ≤ _; exact Nat.le_of_eq rfl) (hb hby d1_20) (fun _ _ => ⟨rfl, e4, (by decide : 2 + 2 ≤ _), (by decide : 5 + 3 ≤ _)⟩)
  dsimp only [Pt.U, Pt.locs, Pt.cells, Pt.slots] at X6 l6 y6 z6 st6 hQ6
  subst l6 y6 z6
  obtain ⟨b2_1_4_3_2_6, k2_1_4_3_2_6, ce0_3_2_6, ce1_3_2_6, rfl, Nq6, Kc6, P0_6, P1_6, P2_6, P3_6, P4_6⟩ := hQ6
  have N6 := Fr.app N3 Nq6
  have ne_b1_b2_1_4_3_2_6 : b1 ≠ b2_1_4_3_2_6 := Nat.ne_of_lt (Nat.lt_of_lt_of_le fc5.lt P4_6)
  have ne_b4_b2_1_4_3_2_6 : b4 ≠ b2_1_4_3_2_6 := Nat.ne_of_lt (Nat.lt_of_lt_of_le A4.lt P4_6)
  have g_b2_1_4_3_2_6 : n0 ≤ b2_1_4_3_2_6 := Nat.le_trans (own_old O4) P4_6
  have sz_b2_1_4_3_2_6 : h0.size ≤ b2_1_4_3_2_6 := Nat.le_trans K4.1 P4_6
  have O6 := O4.keep Kc6 (allS g_b4 all0)
  have K6 : Keep h0 T6.heap [] := K4.trans Kc6 (allS (Or.inr sz_b4) all0)
  obtain ⟨fs, hr, hrun, hended, hW, hsame⟩ := X6.leave (v := (some (.ref b4))) (fun h => by rw [hrt] at h; cases h)
  refine ⟨_, _, ?_, hrun, hended, _, _, rfl, ?_, ⟨_, rfl⟩, hW, hsame.mono (by decide) (by decide)⟩
  · show Steps p.tables e below (s₁.setTop (mkF m 0 #[vi p0, vi p1, vi p2, vi p3, vi p4, uu] [])) _
    refine XS.iloadN X0.here hx rfl (hb hby d1_0) rfl ?_
    refine XS.ifNo X0.here hx rfl (hb hby d1_1) rfl ((if0 _ _).trans (teq hc0).2) ?_
    refine XS.iconst X0.here hx rfl (hb hby d1_4) ?_
    refine st1 _ ?_
    refine XS.astore X1.here hx rfl (hb hby d1_7) rfl rfl (l' := #[vi p0, vi p1, vi p2, vi p3, vi p4, va b1]) rfl ?_
    refine XS.aload X1.here hx rfl (hb hby d1_9) rfl rfl ?_
    refine XS.iconst X1.here hx rfl (hb hby d1_11) ?_
    refine XS.iloadN X1.here hx rfl (hb hby d1_12) rfl ?_
    show Steps p.tables e below (T1.setTop (mkF m 13 #[vi p0, vi p1, vi p2, vi p3, vi p4, va b1] [(.int p1), (.int 0), (.ref b1)])) _
    refine st3 _ ?_
    refine st4 _ ?_
    refine XS.dup X4.here hx rfl (hb hby d1_17) rfl rfl ?_
    refine XS.aload X4.here hx rfl (hb hby d1_18) rfl rfl ?_
    refine st6.trans ?_
    exact retOut X6 hx (t := (.object sC0)) (i := .areturn) hrt rfl (Or.inr (Or.inr (Or.inr (Or.inr ⟨rfl, rfl, rfl⟩)))) (hb hby d1_23) hr
  · show Q1_2 Z z_COMPACT_STRINGS p0 p1 p2 p3 p4 h0 n0 (some (.ref b4)) T6.heap _
    exact (⟨b4, b2_1_4_3_2_6, k2_1_4_3_2_6, ce0_3_2_6, ce1_3_2_6, rfl, N6, K6, P0_6, P1_6, P2_6, P3_6, sz_b4, sz_b2_1_4_3_2_6, ne_b4_b2_1_4_3_2_6⟩)
def Q9_1 (Z : State) (z_COMPACT_STRINGS : Int32) (o0 : Addr) (o1 : Addr) (o2 : Addr) (kk_o1 : ClassId) (p0 : Int32) (p1 : Int32) (h0 : Heap) (n0 : Nat) (v : Option Value) (h : Heap) (L : List Loc) : Prop := v = (some (.ref o0)) ∧ Fr n0 L ∧ h = h0
theorem rm9_1 (l : Launch) (Z : State) (a0 : Array Value) (hw : HW Z a0) (ws : List Jvm.Cond) (z_COMPACT_STRINGS : Int32) (o0 : Addr) (o1 : Addr) (o2 : Addr) (kk_o1 : ClassId) (p0 : Int32) (p1 : Int32) (h0 : Heap) (n0 : Nat) (O0 : Old Z n0 h0) (S : SF Z z_COMPACT_STRINGS) :
    Pay l Z My9 ws jdk_31_method_11_code 2 (some (.object sC4)) #[(.ref o0), (.ref o2)] h0 ({ frames := 0, cells := 0, slots := 0, locals := 0 } : Room) (Q9_1 Z z_COMPACT_STRINGS o0 o1 o2 kk_o1 p0 p1 h0 n0) := by
  refine own_body (plainFor_of_name pn_4) (L0 := #[va o0, va o2]) (fun _ => by first | rfl | (simp [entryFrame, mkF, argsToLocals, Value.category]; done)) ?_
  intro p e s m below meth c s₁ hrt hlk hx hby hml hZ hown0 hnm X0 e0
  have hown : s.vm.findClass sC5 = some m.cls := hown0
  have N0 := Fr.nil n0
  have K0 : Keep h0 h0 [] := Keep.refl _ _
  obtain ⟨fs, hr, hrun, hended, hW, hsame⟩ := X0.leave (v := (some (.ref o0))) (fun h => by rw [hrt] at h; cases h)
  refine ⟨_, _, ?_, hrun, hended, _, _, rfl, ?_, ⟨_, rfl⟩, hW, hsame.mono (by decide) (by decide)⟩
  · show Steps p.tables e below (s₁.setTop (mkF m 0 #[va o0, va o2] [])) _
    refine XS.aloadN X0.here hx rfl (hb hby d9_0) rfl rfl ?_
    refine XS.ifnonnullYes X0.here hx rfl (pc0 := 1) (pc' := 13) rfl (hb hby d9_1) rfl (by decide) (by decide) ?_
    refine XS.aloadN X0.here hx rfl (hb hby d9_13) rfl rfl ?_
    exact retOut X0 hx (t := (.object sC4)) (i := .areturn) hrt rfl (Or.inr (Or.inr (Or.inr (Or.inr ⟨rfl, rfl, rfl⟩)))) (hb hby d9_14) hr
  · show Q9_1 Z z_COMPACT_STRINGS o0 o1 o2 kk_o1 p0 p1 h0 n0 (some (.ref o0)) s₁.heap _
    exact (⟨rfl, N0, e0⟩)
def Q10_1 (Z : State) (z_COMPACT_STRINGS : Int32) (o0 : Addr) (o1 : Addr) (kk_o1 : ClassId) (p0 : Int32) (p1 : Int32) (h0 : Heap) (n0 : Nat) (v : Option Value) (h : Heap) (L : List Loc) : Prop := v = (some (.int 0)) ∧ Fr n0 L ∧ h = h0
theorem rm10_1 (l : Launch) (Z : State) (a0 : Array Value) (hw : HW Z a0) (ws : List Jvm.Cond) (z_COMPACT_STRINGS : Int32) (o0 : Addr) (o1 : Addr) (kk_o1 : ClassId) (p0 : Int32) (p1 : Int32) (h0 : Heap) (n0 : Nat) (O0 : Old Z n0 h0) (S : SF Z z_COMPACT_STRINGS) (F_value_o0 : Fld Z h0 o0 sC0 "value" "[B" (.ref o1)) (V_o1 : Arv Z h0 o1 kk_o1 .byte (2 : Int32) [(.int p0), (.int p1)] (.int 0)) :
    Pay l Z My10 ws jdk_42_method_55_code 1 (some .boolean) #[(.ref o0)] h0 ({ frames := 0, cells := 0, slots := 0, locals := 0 } : Room) (Q10_1 Z z_COMPACT_STRINGS o0 o1 kk_o1 p0 p1 h0 n0) := by
  refine own_body (plainFor_of_name pn_1) (L0 := #[va o0]) (fun _ => by first | rfl | (simp [entryFrame, mkF, argsToLocals, Value.category]; done)) ?_
  intro p e s m below meth c s₁ hrt hlk hx hby hml hZ hown0 hnm X0 e0
  have hown : s.vm.findClass sC0 = some m.cls := hown0
  have N0 := Fr.nil n0
  have K0 : Keep h0 h0 [] := Keep.refl _ _
  obtain ⟨T1, X1, e1, st1⟩ := getF X0 hx hZ hown (host := "") (Or.inl (ww hw 33 rfl)) Via.refl e0 F_value_o0 (g := (mkF m 1 #[va o0] [(.ref o0)])) rfl rfl (hb hby d10_1)
  obtain ⟨cl2, Ar2, qk2, Sz2, Ng2, Hh2, Gg2⟩ := id V_o1
  obtain ⟨fs, hr, hrun, hended, hW, hsame⟩ := X1.leave (v := (some (.int 0))) (fun h => by rw [hrt] at h; cases h)
  refine ⟨_, _, ?_, hrun, hended, _, _, rfl, ?_, ⟨_, rfl⟩, hW, hsame.mono (by decide) (by decide)⟩
  · show Steps p.tables e below (s₁.setTop (mkF m 0 #[va o0] [])) _
    refine XS.aloadN X0.here hx rfl (hb hby d10_0) rfl rfl ?_
    refine st1 _ ?_
    refine X1.arraylength hx (by rw [e1]; exact Ar2.1) (State.isArrayOf_alike hZ.alike Ar2.2.1) (g := (mkF m 4 #[va o0] [(.ref o1)])) rfl rfl (hb hby d10_4) _ ?_
    rw [len_of Sz2 Ng2]
    refine XS.ifYes X1.here hx rfl (pc0 := 5) (pc' := 12) rfl (hb hby d10_5) rfl ((if0 _ _).trans (feq (by decide : ¬ ((2 : Int32) = (0 : Int32)))).2) (by decide) (by decide) ?_
    refine XS.iconst X1.here hx rfl (hb hby d10_12) ?_
    exact retN X1 hx (t := .boolean) hrt (by simp) (hb hby d10_13) hr
  · show Q10_1 Z z_COMPACT_STRINGS o0 o1 kk_o1 p0 p1 h0 n0 (some (.int 0)) T1.heap _
    exact (⟨rfl, N0, e1⟩)
def Q8_1 (Z : State) (z_COMPACT_STRINGS : Int32) (o0 : Addr) (o1 : Addr) (kk_o1 : ClassId) (p0 : Int32) (p1 : Int32) (h0 : Heap) (n0 : Nat) (v : Option Value) (h : Heap) (L : List Loc) : Prop := v = (some (.ref o0)) ∧ Fr n0 L ∧ Keep h0 h []
theorem rm8_1 (l : Launch) (Z : State) (a0 : Array Value) (hw : HW Z a0) (ws : List Jvm.Cond) (z_COMPACT_STRINGS : Int32) (o0 : Addr) (o1 : Addr) (kk_o1 : ClassId) (p0 : Int32) (p1 : Int32) (h0 : Heap) (n0 : Nat) (O0 : Old Z n0 h0) (S : SF Z z_COMPACT_STRINGS) (E_o0 : Exa Z h0 o0 sC0) (F_value_o0 : Fld Z h0 o0 sC0 "value" "[B" (.ref o1)) (V_o1 : Arv Z h0 o1 kk_o1 .byte (2 : Int32) [(.int p0), (.int p1)] (.int 0)) :
    PayW l Z My8 ws prog_14_method_7_code 1 (some (.object sC0)) #[(.ref o0)] h0 ({ frames := 1, cells := 2, slots := 60, locals := 13 } : Room) (Q8_1 Z z_COMPACT_STRINGS o0 o1 kk_o1 p0 p1 h0 n0) := by
  refine own_body (plainFor_of_name pn_3) (L0 := #[va o0]) (fun _ => by first | rfl | (simp [entryFrame, mkF, argsToLocals, Value.category]; done)) ?_
  intro p e s m below meth c s₁ hrt hlk hx hby hml hZ hown0 hnm X0 e0
  have hown : s.vm.findClass sC2 = some m.cls := hown0
  have N0 := Fr.nil n0
  have K0 : Keep h0 h0 [] := Keep.refl _ _
  obtain ⟨a1, T1, h1, kk1, X1, e1, E1, hS1, hk1, hZ1, hown1, st1⟩ := ldcS (s := s) (vm0 := s.vm) X0 hx hZ hown (ww hw 39 rfl) (own_wS hw) e0 (k0 := 0) ((State.WarmedH.refl s).since 0) (Nat.zero_le _) (g := (mkF m 1 #[va o0] [(.ref o0)])) rfl (hb hby d8_1) (n := 56) (by decide +kernel) (by decide) (by decide) (by decide)
  have O1 := O0.ext E1
  have K1 : Keep h0 h1 [] := K0.ext E1
  obtain ⟨_, _, ⟨T2, L2, k2, n2⟩, -, X2, ⟨Lc2, hQ2, l2, y2, z2⟩, st2⟩ := Jvm.LawKit.callS X1 hx (y := My9) hown1 (mvT hZ1 (ww hw 42 rfl)) (mvT hZ1 (ww hw 43 rfl)) (mvT hZ1 (ww hw 44 rfl)) (mvT hZ1 (ww hw 45 rfl)) (by decide) (backOf (W := 0) (rm9_1 l Z a0 hw [] z_COMPACT_STRINGS o0 o1 a1 kk_o1 p0 p1 h1 n0 O1 S) hZ1 (ww hw 45 rfl) (ww hw 44 rfl) (by decide) (by decide)) (g := (mkF m 3 #[va o0] [(.ref a1), (.ref o0)])) rfl (by rw [hml]; rfl) (argsL := [(.ref o0), (.ref a1)]) (rest := []) (lenOf pd_10 rfl) rfl (by show 2 * 0 + _ ≤ _; exact Nat.le_of_eq rfl) (hb hby d8_3) (fun _ _ => ⟨rfl, e1, (by decide : 2 + 0 ≤ _), (by decide : 60 + 0 ≤ _)⟩)
  dsimp only [Pt.U, Pt.locs, Pt.cells, Pt.slots] at X2 l2 y2 z2 st2 hQ2
  subst l2 y2 z2
  obtain ⟨rfl, Nq2, e2⟩ := hQ2
  have N2 := Fr.app N0 Nq2
  have fc3 := (F_value_o0.ext E1)
  have fc4 := (V_o1.ext E1)
  have fc6 := (E_o0.ext E1)
  obtain ⟨cq5, kq5, q5a, q5b, q5c⟩ := isOf hZ1 e2 fc6
  obtain ⟨_, _, ⟨T5, L5, k5, n5⟩, -, X5, ⟨Lc5, hQ5, l5, y5, z5⟩, st5⟩ := X2.virtualBack hx (y := My10) (z := My10) hown1 (mvT hZ1 (ww hw 46 rfl)) (mvT hZ1 (ww hw 47 rfl)) (notFace_of_selects (args := #[]) (mvT hZ1 (ww hw 49 rfl))) (mvT hZ1 (ww hw 49 rfl)) (mvT hZ1 (ww hw 48 rfl)) (by decide) (backOf (W := 0) (rm10_1 l Z a0 hw [] z_COMPACT_STRINGS o0 o1 kk_o1 p0 p1 h1 n0 O1 S fc3 fc4) hZ1 (ww hw 50 rfl) (ww hw 8 rfl) (by decide) (by decide)) q5a q5c (g := (mkF m 8 #[va o0] [(.ref o0)])) rfl (by rw [hml]; rfl) (Steps.refl _) (argsL := []) (rest := []) (lenOf pd_11 rfl) rfl (by show 2 * 0 + _ ≤ _; exact Nat.le_of_eq rfl) (hb hby d8_8) (fun _ _ => ⟨rfl, e2, (by decide : 2 + 0 ≤ _), (by decide : 60 + 0 ≤ _)⟩)
  dsimp only [Pt.U, Pt.locs, Pt.cells, Pt.slots] at X5 l5 y5 z5 st5 hQ5
  subst l5 y5 z5
  obtain ⟨rfl, Nq5, e5⟩ := hQ5
  have N5 := Fr.app N2 Nq5
  obtain ⟨fs, hr, hrun, hended, hRE⟩ := X5.leaveW (s := s) hS1 (by rw [e5]; exact hk1) (v := (some (.ref o0))) (fun h => by rw [hrt] at h; cases h)
  refine ⟨_, _, ?_, hrun, hended, _, _, rfl, ?_, hRE.1, hRE.2.1, hRE.2.2.1, hRE.2.2.2.mono (by decide) (by decide)⟩
  · show Steps p.tables e below (s₁.setTop (mkF m 0 #[va o0] [])) _
    refine XS.aloadN X0.here hx rfl (hb hby d8_0) rfl rfl ?_
    refine st1 _ ?_
    refine st2 _ ?_
    refine XS.pop X2.here hx rfl (hb hby d8_6) rfl rfl ?_
    refine XS.aloadN X2.here hx rfl (hb hby d8_7) rfl rfl ?_
    refine st5.trans ?_
    refine XS.ifYes X5.here hx rfl (pc0 := 11) (pc' := 24) rfl (hb hby d8_11) rfl ((if0 _ _).trans (teq (by decide : (0 : Int32) = (0 : Int32))).1) (by decide) (by decide) ?_
    refine XS.aloadN X5.here hx rfl (hb hby d8_24) rfl rfl ?_
    show Steps p.tables e below (T5.setTop (mkF m 25 #[va o0] [(.ref o0)])) _
    exact retOut X5 hx (t := (.object sC0)) (i := .areturn) hrt rfl (Or.inr (Or.inr (Or.inr (Or.inr ⟨rfl, rfl, rfl⟩)))) (hb hby d8_25) hr
  · show Q8_1 Z z_COMPACT_STRINGS o0 o1 kk_o1 p0 p1 h0 n0 (some (.ref o0)) T5.heap _
    rw [e5]; exact ⟨rfl, N5, K1⟩
def Q12_1 (Z : State) (z_COMPACT_STRINGS : Int32) (o0 : Addr) (o1 : Addr) (kk_o1 : ClassId) (p0 : Int32) (p1 : Int32) (h0 : Heap) (n0 : Nat) (v : Option Value) (h : Heap) (L : List Loc) : Prop := v = (some (.int 1)) ∧ Fr n0 L ∧ h = h0
theorem rm12_1 (l : Launch) (Z : State) (a0 : Array Value) (hw : HW Z a0) (ws : List Jvm.Cond) (z_COMPACT_STRINGS : Int32) (o0 : Addr) (o1 : Addr) (kk_o1 : ClassId) (p0 : Int32) (p1 : Int32) (h0 : Heap) (n0 : Nat) (O0 : Old Z n0 h0) (S : SF Z z_COMPACT_STRINGS) (F_coder_o0 : Fld Z h0 o0 sC0 "coder" "B" (.int 1)) :
    Pay l Z My12 ws jdk_42_method_152_code 1 (some .byte) #[(.ref o0)] h0 ({ frames := 0, cells := 0, slots := 0, locals := 0 } : Room) (Q12_1 Z z_COMPACT_STRINGS o0 o1 kk_o1 p0 p1 h0 n0) := by
  obtain ⟨S_z_COMPACT_STRINGS, hz_z_COMPACT_STRINGS, -⟩ := id S
  refine own_body (plainFor_of_name pn_1) (L0 := #[va o0]) (fun _ => by first | rfl | (simp [entryFrame, mkF, argsToLocals, Value.category]; done)) ?_
  intro p e s m below meth c s₁ hrt hlk hx hby hml hZ hown0 hnm X0 e0
  have hown : s.vm.findClass sC0 = some m.cls := hown0
  have N0 := Fr.nil n0
  have K0 : Keep h0 h0 [] := Keep.refl _ _
  obtain ⟨T1, X1, e1, st1⟩ := getS2 X0 hx hZ hown (host := "") (Or.inl (ww hw 19 rfl)) Via.refl e0 (S_z_COMPACT_STRINGS.ext O0.2) (g := (mkF m 0 #[va o0] [])) rfl (hb hby d12_0)
  obtain ⟨T2, X2, e2, st2⟩ := getF X1 hx hZ hown (host := "") (Or.inl (ww hw 31 rfl)) Via.refl e1 F_coder_o0 (g := (mkF m 7 #[va o0] [(.ref o0)])) rfl rfl (hb hby d12_7)
  obtain ⟨fs, hr, hrun, hended, hW, hsame⟩ := X2.leave (v := (some (.int 1))) (fun h => by rw [hrt] at h; cases h)
  refine ⟨_, _, ?_, hrun, hended, _, _, rfl, ?_, ⟨_, rfl⟩, hW, hsame.mono (by decide) (by decide)⟩
  · show Steps p.tables e below (s₁.setTop (mkF m 0 #[va o0] [])) _
    refine st1 _ ?_
    refine XS.ifNo X1.here hx rfl (hb hby d12_3) rfl ((if0 _ _).trans (feq hz_z_COMPACT_STRINGS).1) ?_
    refine XS.aloadN X1.here hx rfl (hb hby d12_6) rfl rfl ?_
    refine st2 _ ?_
    refine XS.goto X2.here hx rfl (pc0 := 10) (pc' := 14) rfl (hb hby d12_10) (by decide) (by decide) ?_
    exact retN X2 hx (t := .byte) hrt (by simp) (hb hby d12_14) hr
  · show Q12_1 Z z_COMPACT_STRINGS o0 o1 kk_o1 p0 p1 h0 n0 (some (.int 1)) T2.heap _
    exact (⟨rfl, N0, e2⟩)
def Q11_1 (Z : State) (z_COMPACT_STRINGS : Int32) (o0 : Addr) (o1 : Addr) (kk_o1 : ClassId) (p0 : Int32) (p1 : Int32) (h0 : Heap) (n0 : Nat) (v : Option Value) (h : Heap) (L : List Loc) : Prop := v = (some (.int 1)) ∧ Fr n0 L ∧ h = h0
theorem rm11_1 (l : Launch) (Z : State) (a0 : Array Value) (hw : HW Z a0) (ws : List Jvm.Cond) (z_COMPACT_STRINGS : Int32) (o0 : Addr) (o1 : Addr) (kk_o1 : ClassId) (p0 : Int32) (p1 : Int32) (h0 : Heap) (n0 : Nat) (O0 : Old Z n0 h0) (S : SF Z z_COMPACT_STRINGS) (E_o0 : Exa Z h0 o0 sC0) (F_coder_o0 : Fld Z h0 o0 sC0 "coder" "B" (.int 1)) (F_value_o0 : Fld Z h0 o0 sC0 "value" "[B" (.ref o1)) (V_o1 : Arv Z h0 o1 kk_o1 .byte (2 : Int32) [(.int p0), (.int p1)] (.int 0)) :
    Pay l Z My11 ws jdk_42_method_54_code 1 (some .int) #[(.ref o0)] h0 ({ frames := 1, cells := 0, slots := 0, locals := 13 } : Room) (Q11_1 Z z_COMPACT_STRINGS o0 o1 kk_o1 p0 p1 h0 n0) := by
  refine own_body (plainFor_of_name pn_1) (L0 := #[va o0]) (fun _ => by first | rfl | (simp [entryFrame, mkF, argsToLocals, Value.category]; done)) ?_
  intro p e s m below meth c s₁ hrt hlk hx hby hml hZ hown0 hnm X0 e0
  have hown : s.vm.findClass sC0 = some m.cls := hown0
  have N0 := Fr.nil n0
  have K0 : Keep h0 h0 [] := Keep.refl _ _
  obtain ⟨T1, X1, e1, st1⟩ := getF X0 hx hZ hown (host := "") (Or.inl (ww hw 33 rfl)) Via.refl e0 F_value_o0 (g := (mkF m 1 #[va o0] [(.ref o0)])) rfl rfl (hb hby d11_1)
  obtain ⟨cl2, Ar2, qk2, Sz2, Ng2, Hh2, Gg2⟩ := id V_o1
  obtain ⟨cq3, kq3, q3a, q3b, q3c⟩ := isOf hZ e1 E_o0
  obtain ⟨_, _, ⟨T3, L3, k3, n3⟩, -, X3, ⟨Lc3, hQ3, l3, y3, z3⟩, st3⟩ := X1.virtualBack hx (y := My12) (z := My12) hown (mvT hZ (ww hw 56 rfl)) (mvT hZ (ww hw 57 rfl)) (notFace_of_selects (args := #[]) (mvT hZ (ww hw 59 rfl))) (mvT hZ (ww hw 59 rfl)) (mvT hZ (ww hw 58 rfl)) (by decide) (backOf (W := 1) (rm12_1 l Z a0 hw [] z_COMPACT_STRINGS o0 o1 kk_o1 p0 p1 h0 n0 O0 S F_coder_o0) hZ (ww hw 60 rfl) (ww hw 8 rfl) (by decide) (by decide)) q3a q3c (g := (mkF m 6 #[va o0] [(.ref o0), (.int 2)])) rfl (by rw [hml]; rfl) (Steps.refl _) (argsL := []) (rest := [(.int 2)]) (lenOf pd_13 rfl) rfl (by show 2 * 0 + _ ≤ _; exact Nat.le_of_eq rfl) (hb hby d11_6) (fun _ _ => ⟨rfl, e1, (by decide : 0 + 0 ≤ _), (by decide : 0 + 0 ≤ _)⟩)
  dsimp only [Pt.U, Pt.locs, Pt.cells, Pt.slots] at X3 l3 y3 z3 st3 hQ3
  subst l3 y3 z3
  obtain ⟨rfl, Nq3, e3⟩ := hQ3
  have N3 := Fr.app N0 Nq3
  obtain ⟨fs, hr, hrun, hended, hW, hsame⟩ := X3.leave (v := (some (.int 1))) (fun h => by rw [hrt] at h; cases h)
  refine ⟨_, _, ?_, hrun, hended, _, _, rfl, ?_, ⟨_, rfl⟩, hW, hsame.mono (by decide) (by decide)⟩
  · show Steps p.tables e below (s₁.setTop (mkF m 0 #[va o0] [])) _
    refine XS.aloadN X0.here hx rfl (hb hby d11_0) rfl rfl ?_
    refine st1 _ ?_
    refine X1.arraylength hx (by rw [e1]; exact Ar2.1) (State.isArrayOf_alike hZ.alike Ar2.2.1) (g := (mkF m 4 #[va o0] [(.ref o1)])) rfl rfl (hb hby d11_4) _ ?_
    rw [len_of Sz2 Ng2]
    refine XS.aloadN X1.here hx rfl (hb hby d11_5) rfl rfl ?_
    refine st3.trans ?_
    refine XS.ishr X3.here hx rfl (hb hby d11_9) rfl ?_
    show Steps p.tables e below (T3.setTop (mkF m 10 #[va o0] [(.int ((2 : Int32) >>> ((1 : Int32) &&& 31)))])) _
    rw [show (((2 : Int32) >>> ((1 : Int32) &&& 31)) : Int32) = (1 : Int32) from by decide]
    exact retOut X3 hx (t := .int) (i := .ireturn) hrt rfl (Or.inl ⟨rfl, Or.inl rfl, _, rfl⟩) (hb hby d11_10) hr
  · show Q11_1 Z z_COMPACT_STRINGS o0 o1 kk_o1 p0 p1 h0 n0 (some (.int 1)) T3.heap _
    exact (⟨rfl, N3, e3⟩)
theorem jn2 {p : Program} {l : Launch} {e : Env} {s : State} {m : MethodId} {below : List Frame} {meth : Method} {c : Code} {T0 : State} {locs : List Loc} {Z : State} {a0 : Array Value} {h0 : Heap} {n0 : Nat} (hx : p.tables.exec = Jvm.exec) (hZ : Z.Warmed39 s.vm) (hby : c.code = code) (hml : c.maxLocals = 7) (hown : s.vm.findClass sC3 = some m.cls) (hrt : meth.sig.returnType = ret) (hlk : meth.locks = false) (hw : HW Z a0) (z_COMPACT_STRINGS : Int32) (o0 : Addr) (o1 : Addr) (kk_o1 : ClassId) (p0 : Int32) (p1 : Int32) (p2 : Int32) (p3 : Int32) (p4 : Int32) (f0 : Int32) (f1 : Int32) (f2 : Int32) (f3 : Int32) (f4 : Int32) (o1_e0 : Int32) (o1_e1 : Int32) (X0 : Stand p l e room_1 s m #[(.int p0), (.int p1), (.int p2), (.int p3), (.int p4)] below meth c T0 locs 8 64) (e0 : T0.heap = h0) (N0 : Fr n0 locs) (O0 : Old Z n0 h0) (S : SF Z z_COMPACT_STRINGS) (E_o0 : Exa Z h0 o0 sC0) (F_coder_o0 : Fld Z h0 o0 sC0 "coder" "B" (.int 1)) (F_value_o0 : Fld Z h0 o0 sC0 "value" "[B" (.ref o1)) (V_o1 : Arv Z h0 o1 kk_o1 .byte (2 : Int32) [(.int o1_e0), (.int o1_e1)] (.int 0)) :
    ∃ s₂ o, Steps p.tables e below (T0.setTop (mkF m 29 #[vi f0, vi f1, vi f2, vi f3, vi f4, va o0, uu] [])) s₂ ∧ s₂.status = .running ∧ Ended s₂ below o ∧ ∃ v L, o = .returned v ∧ Q0 n0 v s₂.heap L ∧ ReturnedEndW s o s₂ L room_1.cells room_1.slots := by
  have K0 : Keep h0 h0 [] := Keep.refl _ _
  obtain ⟨_, _, ⟨T1, L1, k1, n1⟩, -, X1, hS1, hge1, ⟨Lc1, hQ1, l1, y1, z1⟩, st1⟩ := callSS X0 hx (y := My8) hown (mvT hZ (ww hw 35 rfl)) (mvT hZ (ww hw 36 rfl)) (mvT hZ (ww hw 37 rfl)) (mvT hZ (ww hw 38 rfl)) (by decide) (backOfS (W := 0) (rm8_1 l Z a0 hw [] z_COMPACT_STRINGS o0 o1 kk_o1 o1_e0 o1_e1 h0 n0 O0 S E_o0 F_value_o0 V_o1) hZ (ww hw 38 rfl) (ww hw 37 rfl) (by decide) (by decide)) (g := (mkF m 31 #[vi f0, vi f1, vi f2, vi f3, vi f4, va o0, uu] [(.ref o0)])) rfl (by rw [hml]; rfl) (argsL := [(.ref o0)]) (rest := []) (lenOf pd_12 rfl) rfl (by show 2 * 0 + _ ≤ _; exact Nat.le_of_eq rfl) (hb hby at_31) (fun _ _ => ⟨rfl, e0, (by decide : 8 + 2 ≤ _), (by decide : 64 + 60 ≤ _)⟩)
  dsimp only [Pt.U, Pt.locs, Pt.cells, Pt.slots] at X1 l1 y1 z1 st1 hQ1 hS1 hge1
  subst l1 y1 z1
  have hZ1 : Z.Warmed39 (s.setVm T1.vm).vm := State.Warmed39.trans hZ hS1.1
  have hown1 : (s.setVm T1.vm).vm.findClass sC3 = some m.cls := by rw [show (s.setVm T1.vm).vm = T1.vm from rfl, hS1.1.alike.findClass]; exact hown
  obtain ⟨rfl, Nq1, Kc1⟩ := hQ1
  have N1 := Fr.app N0 Nq1
  have O1 := O0.keep Kc1 all0
  have K1 : Keep h0 T1.heap [] := K0.trans Kc1 all0
  have fc2 := (E_o0.keep Kc1)
  have fc3 := (F_coder_o0.keep Kc1 nin0)
  have fc4 := (F_value_o0.keep Kc1 nin0)
  have fc5 := (V_o1.keep Kc1 nin0)
  obtain ⟨cq6, kq6, q6a, q6b, q6c⟩ := isOf hZ1 rfl fc2
  obtain ⟨_, _, ⟨T6, L6, k6, n6⟩, -, X6, ⟨Lc6, hQ6, l6, y6, z6⟩, st6⟩ := X1.virtualBack hx (y := My11) (z := My11) hown1 (mvT hZ1 (ww hw 51 rfl)) (mvT hZ1 (ww hw 52 rfl)) (notFace_of_selects (args := #[]) (mvT hZ1 (ww hw 54 rfl))) (mvT hZ1 (ww hw 54 rfl)) (mvT hZ1 (ww hw 53 rfl)) (by decide) (backOf (W := 0) (rm11_1 l Z a0 hw [] z_COMPACT_STRINGS o0 o1 kk_o1 o1_e0 o1_e1 T1.heap n0 O1 S fc2 fc3 fc4 fc5) hZ1 (ww hw 55 rfl) (ww hw 8 rfl) (by decide) (by decide)) q6a q6c (g := (mkF m 45 #[vi f0, vi f1, vi f2, vi f3, vi f4, va o0, va o0] [(.ref o0)])) rfl (by rw [hml]; rfl) (Steps.refl _) (argsL := []) (rest := []) (lenOf pd_14 rfl) rfl (by show 2 * 0 + _ ≤ _; exact Nat.le_of_eq rfl) (hb hby at_45) (fun _ _ => ⟨rfl, rfl, (by decide : 10 + 0 ≤ _), (by decide : 124 + 0 ≤ _)⟩)
  dsimp only [Pt.U, Pt.locs, Pt.cells, Pt.slots] at X6 l6 y6 z6 st6 hQ6
  subst l6 y6 z6
  obtain ⟨rfl, Nq6, e6⟩ := hQ6
  have N6 := Fr.app N1 Nq6
  obtain ⟨cq7, kq7, q7a, q7b, q7c⟩ := isOf hZ1 e6 fc2
  obtain ⟨_, _, ⟨T7, L7, k7, n7⟩, -, X7, ⟨Lc7, hQ7, l7, y7, z7⟩, st7⟩ := X6.virtualBack hx (y := My11) (z := My11) hown1 (mvT hZ1 (ww hw 51 rfl)) (mvT hZ1 (ww hw 52 rfl)) (notFace_of_selects (args := #[]) (mvT hZ1 (ww hw 54 rfl))) (mvT hZ1 (ww hw 54 rfl)) (mvT hZ1 (ww hw 53 rfl)) (by decide) (backOf (W := 1) (rm11_1 l Z a0 hw [] z_COMPACT_STRINGS o0 o1 kk_o1 o1_e0 o1_e1 T1.heap n0 O1 S fc2 fc3 fc4 fc5) hZ1 (ww hw 55 rfl) (ww hw 8 rfl) (by decide) (by decide)) q7a q7c (g := (mkF m 50 #[vi f0, vi f1, vi f2, vi f3, vi f4, va o0, va o0] [(.ref o0), (.int 1)])) rfl (by rw [hml]; rfl) (Steps.refl _) (argsL := []) (rest := [(.int 1)]) (lenOf pd_14 rfl) rfl (by show 2 * 0 + _ ≤ _; exact Nat.le_of_eq rfl) (hb hby at_50) (fun _ _ => ⟨rfl, e6, (by decide : 10 + 0 ≤ _), (by decide : 124 + 0 ≤ _)⟩)
  dsimp only [Pt.U, Pt.locs, Pt.cells, Pt.slots] at X7 l7 y7 z7 st7 hQ7
  subst l7 y7 z7
  obtain ⟨rfl, Nq7, e7⟩ := hQ7
  have N7 := Fr.app N6 Nq7
  obtain ⟨fs, hr, hrun, hended, hRE⟩ := X7.leaveW (s := s) hS1 (by rw [e7]; exact (Nat.le_refl _)) (v := (some (.int 1))) (fun h => by rw [hrt] at h; cases h)
  refine ⟨_, _, ?_, hrun, hended, _, _, rfl, ?_, hRE.1, hRE.2.1, hRE.2.2.1, hRE.2.2.2.mono (by decide) (by decide)⟩
  · show Steps p.tables e below (T0.setTop (mkF m 29 #[vi f0, vi f1, vi f2, vi f3, vi f4, va o0, uu] [])) _
    refine XS.aload X0.here hx rfl (hb hby at_29) rfl rfl ?_
    refine st1.trans ?_
    refine XS.astore X1.here hx rfl (hb hby at_34) rfl rfl (l' := #[vi f0, vi f1, vi f2, vi f3, vi f4, va o0, va o0]) rfl ?_
    refine XS.aload X1.here hx rfl (hb hby at_36) rfl rfl ?_
    refine XS.aload X1.here hx rfl (hb hby at_38) rfl rfl ?_
    refine Jvm.RoadKit.acmp (g := (mkF m 40 #[vi f0, vi f1, vi f2, vi f3, vi f4, va o0, va o0] [(.ref o0), (.ref o0)])) X1 hx rfl rfl rfl (pc0 := 40) (pc' := 43) (same := true) rfl (hb hby at_40) rfl (decide_eq_true rfl) (by decide) (by decide) ?_
    refine XS.aload X1.here hx rfl (hb hby at_43) rfl rfl ?_
    refine st6.trans ?_
    show Steps p.tables e below (T6.setTop (mkF m 48 #[vi f0, vi f1, vi f2, vi f3, vi f4, va o0, va o0] [(.int 1)])) _
    refine XS.aload X6.here hx rfl (hb hby at_48) rfl rfl ?_
    refine st7.trans ?_
    refine XS.icmpNo X7.here hx rfl (hb hby at_53) rfl (teq (by decide : (1 : Int32) = (1 : Int32))).2 ?_
    refine XS.iconst X7.here hx rfl (hb hby at_56) ?_
    refine XS.goto X7.here hx rfl (pc0 := 57) (pc' := 61) rfl (hb hby at_57) (by decide) (by decide) ?_
    exact retN X7 hx (t := .boolean) hrt (by simp) (hb hby at_61) hr
  · show Q0 n0 (some (.int 1)) T7.heap _
    exact (⟨rfl, N7⟩)
theorem d1_29 : decode method_3_code 29 = .ok (.iconst 2, 1) := by decide +kernel
theorem d1_30 : decode method_3_code 30 = .ok (.newarray .char, 2) := by decide +kernel
theorem d1_32 : decode method_3_code 32 = .ok (.astore 5, 2) := by decide +kernel
theorem d1_34 : decode method_3_code 34 = .ok (.aload 5, 2) := by decide +kernel
theorem d1_36 : decode method_3_code 36 = .ok (.iconst 0, 1) := by decide +kernel
theorem d1_37 : decode method_3_code 37 = .ok (.iload_n 1, 1) := by decide +kernel
theorem d1_38 : decode method_3_code 38 = .ok (.castore, 1) := by decide +kernel
theorem d1_39 : decode method_3_code 39 = .ok (.aload 5, 2) := by decide +kernel
theorem d1_41 : decode method_3_code 41 = .ok (.iconst 1, 1) := by decide +kernel
theorem d1_42 : decode method_3_code 42 = .ok (.iload_n 2, 1) := by decide +kernel
theorem d1_43 : decode method_3_code 43 = .ok (.castore, 1) := by decide +kernel
theorem d1_44 : decode method_3_code 44 = .ok (.new 21, 3) := by decide +kernel
theorem d1_47 : decode method_3_code 47 = .ok (.dup, 1) := by decide +kernel
theorem d1_48 : decode method_3_code 48 = .ok (.aload 5, 2) := by decide +kernel
theorem d1_50 : decode method_3_code 50 = .ok (.invokespecial 26, 3) := by decide +kernel
def Q6_7 (Z : State) (z_COMPACT_STRINGS : Int32) (o0 : Addr) (o1 : Addr) (kk_o0 : ClassId) (kk_o1 : ClassId) (p0 : Int32) (p1 : Int32) (h0 : Heap) (n0 : Nat) (v : Option Value) (h : Heap) (L : List Loc) : Prop := v = (some (.int 2)) ∧ Fr n0 L ∧ Keep h0 h [o1] ∧ Arv Z h o1 kk_o1 .byte (2 : Int32) [(.int (bb (bb p0))), (.int (bb (bb p1)))] (.int 0)
theorem rm6_7 (l : Launch) (Z : State) (a0 : Array Value) (hw : HW Z a0) (ws : List Jvm.Cond) (z_COMPACT_STRINGS : Int32) (o0 : Addr) (o1 : Addr) (kk_o0 : ClassId) (kk_o1 : ClassId) (p0 : Int32) (p1 : Int32) (h0 : Heap) (n0 : Nat) (O0 : Old Z n0 h0) (S : SF Z z_COMPACT_STRINGS) (V_o0 : Arv Z h0 o0 kk_o0 .char (2 : Int32) [(.int p0), (.int p1)] (.int 0)) (V_o1 : Arv Z h0 o1 kk_o1 .byte (2 : Int32) [(.int 0), (.int 0)] (.int 0)) (ne_o0_o1 : o0 ≠ o1) (g_o1 : n0 ≤ o1) (hc0 : ¬ ((255 : Int32) < p0)) (hc1 : ¬ ((255 : Int32) < p1)) :
    Pay l Z My6 ws jdk_52_method_21_code 7 (some .int) #[(.ref o0), (.int 0), (.ref o1), (.int 0), (.int 2)] h0 ({ frames := 0, cells := 0, slots := 0, locals := 0 } : Room) (Q6_7 Z z_COMPACT_STRINGS o0 o1 kk_o0 kk_o1 p0 p1 h0 n0) := by
  refine own_body (plainFor_of_name pn_2) (L0 := #[va o0, vi 0, va o1, vi 0, vi 2, uu, uu]) (fun _ => by first | rfl | (simp [entryFrame, mkF, argsToLocals, Value.category]; done)) ?_
  intro p e s m below meth c s₁ hrt hlk hx hby hml hZ hown0 hnm X0 e0
  have hown : s.vm.findClass sC1 = some m.cls := hown0
  have N0 := Fr.nil n0
  have K0 : Keep h0 h0 [o1] := Keep.refl _ _
  obtain ⟨cl1, Ar1, qk1, Sz1, Ng1, Hh1, Gg1⟩ := id V_o0
  have hin1_0 : ¬ ((0 : Int32) < 0 ∨ cl1.slots.size ≤ ((0 : Int32)).toNatClampNeg) := inb_of Sz1 ⟨by decide, by decide⟩
  obtain ⟨cl2, Ar2, qk2, Sz2, Ng2, Hh2, Gg2⟩ := id V_o1
  have hin2_0 : ¬ ((0 : Int32) < 0 ∨ cl2.slots.size ≤ ((0 : Int32)).toNatClampNeg) := inb_of Sz2 ⟨by decide, by decide⟩
  obtain ⟨T3, h3, X3, e3, W3, st3⟩ := stB X0 hx hZ e0 Ar2 (j := (0 : Int32)) hin2_0 (g := (mkF m 31 #[va o0, vi 0, va o1, vi 0, vi 2, vi 0, vi p0] [(.int (bb p0)), (.int 0), (.ref o1)])) rfl rfl (hb hby d6_31)
  have V3 : Arv Z h3 o1 kk_o1 .byte (2 : Int32) [(.int (bb (bb p0))), (.int 0)] (.int 0) := Arv.set Ar2 qk2 Sz2 Ng2 Hh2 Gg2 (fits_nar_byte _) W3 0 rfl (Nat.le_of_ble_eq_true rfl)
  have O3 := O0.wr W3 g_o1
  have K3 : Keep h0 h3 [o1] := K0.wr W3 (Or.inl (List.mem_of_getElem? (i := 0) rfl))
  have N3 := Fr.snoc X3 N0 g_o1
  have fc4 := (V_o0.other W3 ne_o0_o1)
  obtain ⟨cl5, Ar5, qk5, Sz5, Ng5, Hh5, Gg5⟩ := id fc4
  have hin5_1 : ¬ ((1 : Int32) < 0 ∨ cl5.slots.size ≤ ((1 : Int32)).toNatClampNeg) := inb_of Sz5 ⟨by decide, by decide⟩
  obtain ⟨cl6, Ar6, qk6, Sz6, Ng6, Hh6, Gg6⟩ := id V3
  have hin6_1 : ¬ ((1 : Int32) < 0 ∨ cl6.slots.size ≤ ((1 : Int32)).toNatClampNeg) := inb_of Sz6 ⟨by decide, by decide⟩
  obtain ⟨T7, h7, X7, e7, W7, st7⟩ := stB X3 hx hZ e3 Ar6 (j := (1 : Int32)) hin6_1 (g := (mkF m 31 #[va o0, vi 1, va o1, vi 1, vi 2, vi 1, vi p1] [(.int (bb p1)), (.int 1), (.ref o1)])) rfl rfl (hb hby d6_31)
  have V7 : Arv Z h7 o1 kk_o1 .byte (2 : Int32) [(.int (bb (bb p0))), (.int (bb (bb p1)))] (.int 0) := Arv.set Ar6 qk6 Sz6 Ng6 Hh6 Gg6 (fits_nar_byte _) W7 1 rfl (Nat.le_of_ble_eq_true rfl)
  have O7 := O3.wr W7 g_o1
  have K7 : Keep h0 h7 [o1] := K3.wr W7 (Or.inl (List.mem_of_getElem? (i := 0) rfl))
  have N7 := Fr.snoc X7 N3 g_o1
  obtain ⟨fs, hr, hrun, hended, hW, hsame⟩ := X7.leave (v := (some (.int 2))) (fun h => by rw [hrt] at h; cases h)
  refine ⟨_, _, ?_, hrun, hended, _, _, rfl, ?_, ⟨_, rfl⟩, hW, hsame.mono (by decide) (by decide)⟩
  · show Steps p.tables e below (s₁.setTop (mkF m 0 #[va o0, vi 0, va o1, vi 0, vi 2, uu, uu] [])) _
    refine XS.iconst X0.here hx rfl (hb hby d6_0) ?_
    refine XS.istore X0.here hx rfl (hb hby d6_1) rfl (l' := #[va o0, vi 0, va o1, vi 0, vi 2, vi 0, uu]) rfl ?_
    refine XS.iload X0.here hx rfl (hb hby d6_3) rfl ?_
    refine XS.iload X0.here hx rfl (hb hby d6_5) rfl ?_
    refine XS.icmpNo X0.here hx rfl (hb hby d6_7) rfl (tlt (by decide : (0 : Int32) < (2 : Int32))).2.1 ?_
    refine XS.aloadN X0.here hx rfl (hb hby d6_10) rfl rfl ?_
    refine XS.iloadN X0.here hx rfl (hb hby d6_11) rfl ?_
    refine X0.caload hx (j := (0 : Int32)) (v := (.int p0)) (by rw [e0]; exact Ar1.1) (State.isArrayOf_alike hZ.alike Ar1.2.1) Ar1.2.2 hin1_0 (Has.at Hh1 hin1_0 rfl) (g := (mkF m 12 #[va o0, vi 0, va o1, vi 0, vi 2, vi 0, uu] [(.int 0), (.ref o0)])) rfl rfl (hb hby d6_12) _ ?_
    show Steps p.tables e below (s₁.setTop (mkF m 13 #[va o0, vi 0, va o1, vi 0, vi 2, vi 0, uu] [(.int p0)])) _
    refine XS.istore X0.here hx rfl (hb hby d6_13) rfl (l' := #[va o0, vi 0, va o1, vi 0, vi 2, vi 0, vi p0]) rfl ?_
    refine XS.iload X0.here hx rfl (hb hby d6_15) rfl ?_
    refine XS.sipush X0.here hx rfl (hb hby d6_17) ?_
    refine XS.icmpYes X0.here hx rfl (pc0 := 20) (pc' := 26) rfl (hb hby d6_20) rfl (flt hc0).2.2.2 (by decide) (by decide) ?_
    refine XS.aloadN X0.here hx rfl (hb hby d6_26) rfl rfl ?_
    refine XS.iloadN X0.here hx rfl (hb hby d6_27) rfl ?_
    refine XS.iload X0.here hx rfl (hb hby d6_28) rfl ?_
    refine XS.i2b X0.here hx rfl (hb hby d6_30) rfl ?_
    show Steps p.tables e below (s₁.setTop (mkF m 31 #[va o0, vi 0, va o1, vi 0, vi 2, vi 0, vi p0] [(.int (bb p0)), (.int 0), (.ref o1)])) _
    refine st3 _ ?_
    refine XS.iinc X3.here hx rfl (hb hby d6_32) rfl (l' := #[va o0, vi ((0 : Int32) + (1 : Int32)), va o1, vi 0, vi 2, vi 0, vi p0]) rfl ?_
    show Steps p.tables e below (T3.setTop (mkF m 35 #[va o0, vi ((0 : Int32) + (1 : Int32)), va o1, vi 0, vi 2, vi 0, vi p0] [])) _
    rw [show (((0 : Int32) + (1 : Int32)) : Int32) = (1 : Int32) from by decide]
    refine XS.iinc X3.here hx rfl (hb hby d6_35) rfl (l' := #[va o0, vi 1, va o1, vi ((0 : Int32) + (1 : Int32)), vi 2, vi 0, vi p0]) rfl ?_
    show Steps p.tables e below (T3.setTop (mkF m 38 #[va o0, vi 1, va o1, vi ((0 : Int32) + (1 : Int32)), vi 2, vi 0, vi p0] [])) _
    rw [show (((0 : Int32) + (1 : Int32)) : Int32) = (1 : Int32) from by decide]
    refine XS.iinc X3.here hx rfl (hb hby d6_38) rfl (l' := #[va o0, vi 1, va o1, vi 1, vi 2, vi ((0 : Int32) + (1 : Int32)), vi p0]) rfl ?_
    show Steps p.tables e below (T3.setTop (mkF m 41 #[va o0, vi 1, va o1, vi 1, vi 2, vi ((0 : Int32) + (1 : Int32)), vi p0] [])) _
    rw [show (((0 : Int32) + (1 : Int32)) : Int32) = (1 : Int32) from by decide]
    refine XS.goto X3.here hx rfl (pc0 := 41) (pc' := 3) rfl (hb hby d6_41) (by decide) (by decide) ?_
    refine XS.iload X3.here hx rfl (hb hby d6_3) rfl ?_
    refine XS.iload X3.here hx rfl (hb hby d6_5) rfl ?_
    refine XS.icmpNo X3.here hx rfl (hb hby d6_7) rfl (tlt (by decide : (1 : Int32) < (2 : Int32))).2.1 ?_
    refine XS.aloadN X3.here hx rfl (hb hby d6_10) rfl rfl ?_
    refine XS.iloadN X3.here hx rfl (hb hby d6_11) rfl ?_
    refine X3.caload hx (j := (1 : Int32)) (v := (.int p1)) (by rw [e3]; exact Ar5.1) (State.isArrayOf_alike hZ.alike Ar5.2.1) Ar5.2.2 hin5_1 (Has.at Hh5 hin5_1 rfl) (g := (mkF m 12 #[va o0, vi 1, va o1, vi 1, vi 2, vi 1, vi p0] [(.int 1), (.ref o0)])) rfl rfl (hb hby d6_12) _ ?_
    show Steps p.tables e below (T3.setTop (mkF m 13 #[va o0, vi 1, va o1, vi 1, vi 2, vi 1, vi p0] [(.int p1)])) _
    refine XS.istore X3.here hx rfl (hb hby d6_13) rfl (l' := #[va o0, vi 1, va o1, vi 1, vi 2, vi 1, vi p1]) rfl ?_
    refine XS.iload X3.here hx rfl (hb hby d6_15) rfl ?_
    refine XS.sipush X3.here hx rfl (hb hby d6_17) ?_
    refine XS.icmpYes X3.here hx rfl (pc0 := 20) (pc' := 26) rfl (hb hby d6_20) rfl (flt hc1).2.2.2 (by decide) (by decide) ?_
    refine XS.aloadN X3.here hx rfl (hb hby d6_26) rfl rfl ?_
    refine XS.iloadN X3.here hx rfl (hb hby d6_27) rfl ?_
    refine XS.iload X3.here hx rfl (hb hby d6_28) rfl ?_
    refine XS.i2b X3.here hx rfl (hb hby d6_30) rfl ?_
    show Steps p.tables e below (T3.setTop (mkF m 31 #[va o0, vi 1, va o1, vi 1, vi 2, vi 1, vi p1] [(.int (bb p1)), (.int 1), (.ref o1)])) _
    refine st7 _ ?_
    refine XS.iinc X7.here hx rfl (hb hby d6_32) rfl (l' := #[va o0, vi ((1 : Int32) + (1 : Int32)), va o1, vi 1, vi 2, vi 1, vi p1]) rfl ?_
    show Steps p.tables e below (T7.setTop (mkF m 35 #[va o0, vi ((1 : Int32) + (1 : Int32)), va o1, vi 1, vi 2, vi 1, vi p1] [])) _
    rw [show (((1 : Int32) + (1 : Int32)) : Int32) = (2 : Int32) from by decide]
    refine XS.iinc X7.here hx rfl (hb hby d6_35) rfl (l' := #[va o0, vi 2, va o1, vi ((1 : Int32) + (1 : Int32)), vi 2, vi 1, vi p1]) rfl ?_
    show Steps p.tables e below (T7.setTop (mkF m 38 #[va o0, vi 2, va o1, vi ((1 : Int32) + (1 : Int32)), vi 2, vi 1, vi p1] [])) _
    rw [show (((1 : Int32) + (1 : Int32)) : Int32) = (2 : Int32) from by decide]
    refine XS.iinc X7.here hx rfl (hb hby d6_38) rfl (l' := #[va o0, vi 2, va o1, vi 2, vi 2, vi ((1 : Int32) + (1 : Int32)), vi p1]) rfl ?_
    show Steps p.tables e below (T7.setTop (mkF m 41 #[va o0, vi 2, va o1, vi 2, vi 2, vi ((1 : Int32) + (1 : Int32)), vi p1] [])) _
    rw [show (((1 : Int32) + (1 : Int32)) : Int32) = (2 : Int32) from by decide]
    refine XS.goto X7.here hx rfl (pc0 := 41) (pc' := 3) rfl (hb hby d6_41) (by decide) (by decide) ?_
    refine XS.iload X7.here hx rfl (hb hby d6_3) rfl ?_
    refine XS.iload X7.here hx rfl (hb hby d6_5) rfl ?_
    refine XS.icmpYes X7.here hx rfl (pc0 := 7) (pc' := 44) rfl (hb hby d6_7) rfl (flt (by decide : ¬ ((2 : Int32) < (2 : Int32)))).2.1 (by decide) (by decide) ?_
    refine XS.iload X7.here hx rfl (hb hby d6_44) rfl ?_
    exact retOut X7 hx (t := .int) (i := .ireturn) hrt rfl (Or.inl ⟨rfl, Or.inl rfl, _, rfl⟩) (hb hby d6_46) hr
  · show Q6_7 Z z_COMPACT_STRINGS o0 o1 kk_o0 kk_o1 p0 p1 h0 n0 (some (.int 2)) T7.heap _
    rw [e7]; exact ⟨rfl, N7, K7, V7⟩
def Q5_7 (Z : State) (z_COMPACT_STRINGS : Int32) (o0 : Addr) (kk_o0 : ClassId) (p0 : Int32) (p1 : Int32) (h0 : Heap) (n0 : Nat) (v : Option Value) (h : Heap) (L : List Loc) : Prop := ∃ (b1 : Addr), ∃ (k1 : ClassId), v = (some (.ref b1)) ∧ Fr n0 L ∧ Keep h0 h [] ∧ Arv Z h b1 k1 .byte (2 : Int32) [(.int (bb (bb p0))), (.int (bb (bb p1)))] (.int 0) ∧ h0.size ≤ b1
theorem rm5_7 (l : Launch) (Z : State) (a0 : Array Value) (hw : HW Z a0) (ws : List Jvm.Cond) (z_COMPACT_STRINGS : Int32) (o0 : Addr) (kk_o0 : ClassId) (p0 : Int32) (p1 : Int32) (h0 : Heap) (n0 : Nat) (O0 : Old Z n0 h0) (S : SF Z z_COMPACT_STRINGS) (V_o0 : Arv Z h0 o0 kk_o0 .char (2 : Int32) [(.int p0), (.int p1)] (.int 0)) (hc0 : ¬ ((255 : Int32) < p0)) (hc1 : ¬ ((255 : Int32) < p1)) :
    Pay l Z My5 ws jdk_52_method_16_code 6 (some (.array .byte)) #[(.ref o0), (.int 0), (.int 2)] h0 ({ frames := 1, cells := 1, slots := 2, locals := 18 } : Room) (Q5_7 Z z_COMPACT_STRINGS o0 kk_o0 p0 p1 h0 n0) := by
  refine own_body (plainFor_of_name pn_2) (L0 := #[va o0, vi 0, vi 2, uu, uu, uu]) (fun _ => by first | rfl | (simp [entryFrame, mkF, argsToLocals, Value.category]; done)) ?_
  intro p e s m below meth c s₁ hrt hlk hx hby hml hZ hown0 hnm X0 e0
  have hown : s.vm.findClass sC1 = some m.cls := hown0
  have N0 := Fr.nil n0
  have K0 : Keep h0 h0 [] := Keep.refl _ _
  obtain ⟨T1, h1, k1, X1, e1, E1, A1, st1⟩ := newP X0 hx hZ (ww hw 24 rfl) e0 (g := (mkF m 1 #[va o0, vi 0, vi 2, uu, uu, uu] [(.int 2)])) rfl (hb hby d5_1) rfl (by decide) (cap := 2) (by decide) (by decide) (by decide) (by decide)
  obtain ⟨b1, qs1⟩ : ∃ z, z = h0.size := ⟨_, rfl⟩
  rw [← qs1] at A1 st1
  have ne_o0_b1 : o0 ≠ b1 := Nat.ne_of_lt (Nat.lt_of_lt_of_le V_o0.lt (Nat.le_of_eq qs1.symm))
  have g_b1 : n0 ≤ b1 := Nat.le_trans (own_old O0) (Nat.le_of_eq qs1.symm)
  have sz_b1 : h0.size ≤ b1 := Nat.le_trans K0.1 (Nat.le_of_eq qs1.symm)
  have O1 := O0.ext E1
  have K1 : Keep h0 h1 [] := K0.ext E1
  have V_b1 : Arv Z h1 b1 k1 .byte (2 : Int32) [(.int 0), (.int 0)] (.int 0) := (Arv.new A1 (by decide)).pad (pad_rep [] (.int 0) 2)
  have fc2 := (V_o0.ext E1)
  obtain ⟨_, _, ⟨T3, L3, k3, n3⟩, -, X3, ⟨Lc3, hQ3, l3, y3, z3⟩, st3⟩ := Jvm.LawKit.callS X1 hx (y := My6) hown (mvT hZ (ww hw 25 rfl)) (mvT hZ (ww hw 26 rfl)) (mvT hZ (ww hw 22 rfl)) (mvT hZ (ww hw 27 rfl)) (by decide) (backOf (W := 0) (rm6_7 l Z a0 hw [] z_COMPACT_STRINGS o0 b1 kk_o0 k1 p0 p1 h1 n0 O1 S fc2 V_b1 ne_o0_b1 g_b1 hc0 hc1) hZ (ww hw 27 rfl) (ww hw 22 rfl) (by decide) (by decide)) (g := (mkF m 9 #[va o0, vi 0, vi 2, va b1, uu, uu] [(.int 2), (.int 0), (.ref b1), (.int 0), (.ref o0)])) rfl (by rw [hml]; rfl) (argsL := [(.ref o0), (.int 0), (.ref b1), (.int 0), (.int 2)]) (rest := []) (lenOf pd_0 rfl) rfl (by show 2 * 0 + _ ≤ _; exact Nat.le_of_eq rfl) (hb hby d5_9) (fun _ _ => ⟨rfl, e1, (by decide : 1 + 0 ≤ _), (by decide : 2 + 0 ≤ _)⟩)
  dsimp only [Pt.U, Pt.locs, Pt.cells, Pt.slots] at X3 l3 y3 z3 st3 hQ3
  subst l3 y3 z3
  obtain ⟨rfl, Nq3, Kc3, P0_3⟩ := hQ3
  have N3 := Fr.app N0 Nq3
  have O3 := O1.keep Kc3 (allS g_b1 all0)
  have K3 : Keep h0 T3.heap [] := K1.trans Kc3 (allS (Or.inr sz_b1) all0)
  obtain ⟨fs, hr, hrun, hended, hW, hsame⟩ := X3.leave (v := (some (.ref b1))) (fun h => by rw [hrt] at h; cases h)
  refine ⟨_, _, ?_, hrun, hended, _, _, rfl, ?_, ⟨_, rfl⟩, hW, hsame.mono (by decide) (by decide)⟩
  · show Steps p.tables e below (s₁.setTop (mkF m 0 #[va o0, vi 0, vi 2, uu, uu, uu] [])) _
    refine XS.iloadN X0.here hx rfl (hb hby d5_0) rfl ?_
    refine st1 _ ?_
    refine XS.astoreN X1.here hx rfl (hb hby d5_3) rfl rfl (l' := #[va o0, vi 0, vi 2, va b1, uu, uu]) rfl ?_
    refine XS.aloadN X1.here hx rfl (hb hby d5_4) rfl rfl ?_
    refine XS.iloadN X1.here hx rfl (hb hby d5_5) rfl ?_
    refine XS.aloadN X1.here hx rfl (hb hby d5_6) rfl rfl ?_
    refine XS.iconst X1.here hx rfl (hb hby d5_7) ?_
    refine XS.iloadN X1.here hx rfl (hb hby d5_8) rfl ?_
    show Steps p.tables e below (T1.setTop (mkF m 9 #[va o0, vi 0, vi 2, va b1, uu, uu] [(.int 2), (.int 0), (.ref b1), (.int 0), (.ref o0)])) _
    refine st3 _ ?_
    refine XS.istore X3.here hx rfl (hb hby d5_12) rfl (l' := #[va o0, vi 0, vi 2, va b1, vi 2, uu]) rfl ?_
    refine XS.iload X3.here hx rfl (hb hby d5_14) rfl ?_
    refine XS.iloadN X3.here hx rfl (hb hby d5_16) rfl ?_
    refine XS.icmpYes X3.here hx rfl (pc0 := 17) (pc' := 57) rfl (hb hby d5_17) rfl (teq (by decide : (2 : Int32) = (2 : Int32))).1 (by decide) (by decide) ?_
    refine XS.aloadN X3.here hx rfl (hb hby d5_57) rfl rfl ?_
    exact retOut X3 hx (t := (.array .byte)) (i := .areturn) hrt rfl (Or.inr (Or.inr (Or.inr (Or.inr ⟨rfl, rfl, rfl⟩)))) (hb hby d5_58) hr
  · show Q5_7 Z z_COMPACT_STRINGS o0 kk_o0 p0 p1 h0 n0 (some (.ref b1)) T3.heap _
    exact (⟨b1, k1, rfl, N3, K3, P0_3, sz_b1⟩)
def Q6_8 (Z : State) (z_COMPACT_STRINGS : Int32) (o0 : Addr) (o1 : Addr) (kk_o0 : ClassId) (kk_o1 : ClassId) (p0 : Int32) (p1 : Int32) (h0 : Heap) (n0 : Nat) (v : Option Value) (h : Heap) (L : List Loc) : Prop := v = (some (.int 1)) ∧ Fr n0 L ∧ Keep h0 h [o1] ∧ Arv Z h o1 kk_o1 .byte (2 : Int32) [(.int (bb (bb p0))), (.int 0)] (.int 0)
theorem rm6_8 (l : Launch) (Z : State) (a0 : Array Value) (hw : HW Z a0) (ws : List Jvm.Cond) (z_COMPACT_STRINGS : Int32) (o0 : Addr) (o1 : Addr) (kk_o0 : ClassId) (kk_o1 : ClassId) (p0 : Int32) (p1 : Int32) (h0 : Heap) (n0 : Nat) (O0 : Old Z n0 h0) (S : SF Z z_COMPACT_STRINGS) (V_o0 : Arv Z h0 o0 kk_o0 .char (2 : Int32) [(.int p0), (.int p1)] (.int 0)) (V_o1 : Arv Z h0 o1 kk_o1 .byte (2 : Int32) [(.int 0), (.int 0)] (.int 0)) (ne_o0_o1 : o0 ≠ o1) (g_o1 : n0 ≤ o1) (hc0 : ¬ ((255 : Int32) < p0)) (hc1 : (255 : Int32) < p1) :
    Pay l Z My6 ws jdk_52_method_21_code 7 (some .int) #[(.ref o0), (.int 0), (.ref o1), (.int 0), (.int 2)] h0 ({ frames := 0, cells := 0, slots := 0, locals := 0 } : Room) (Q6_8 Z z_COMPACT_STRINGS o0 o1 kk_o0 kk_o1 p0 p1 h0 n0) := by
  refine own_body (plainFor_of_name pn_2) (L0 := #[va o0, vi 0, va o1, vi 0, vi 2, uu, uu]) (fun _ => by first | rfl | (simp [entryFrame, mkF, argsToLocals, Value.category]; done)) ?_
  intro p e s m below meth c s₁ hrt hlk hx hby hml hZ hown0 hnm X0 e0
  have hown : s.vm.findClass sC1 = some m.cls := hown0
  have N0 := Fr.nil n0
  have K0 : Keep h0 h0 [o1] := Keep.refl _ _
  obtain ⟨cl1, Ar1, qk1, Sz1, Ng1, Hh1, Gg1⟩ := id V_o0
  have hin1_0 : ¬ ((0 : Int32) < 0 ∨ cl1.slots.size ≤ ((0 : Int32)).toNatClampNeg) := inb_of Sz1 ⟨by decide, by decide⟩
  obtain ⟨cl2, Ar2, qk2, Sz2, Ng2, Hh2, Gg2⟩ := id V_o1
  have hin2_0 : ¬ ((0 : Int32) < 0 ∨ cl2.slots.size ≤ ((0 : Int32)).toNatClampNeg) := inb_of Sz2 ⟨by decide, by decide⟩
  obtain ⟨T3, h3, X3, e3, W3, st3⟩ := stB X0 hx hZ e0 Ar2 (j := (0 : Int32)) hin2_0 (g := (mkF m 31 #[va o0, vi 0, va o1, vi 0, vi 2, vi 0, vi p0] [(.int (bb p0)), (.int 0), (.ref o1)])) rfl rfl (hb hby d6_31)
  have V3 : Arv Z h3 o1 kk_o1 .byte (2 : Int32) [(.int (bb (bb p0))), (.int 0)] (.int 0) := Arv.set Ar2 qk2 Sz2 Ng2 Hh2 Gg2 (fits_nar_byte _) W3 0 rfl (Nat.le_of_ble_eq_true rfl)
  have O3 := O0.wr W3 g_o1
  have K3 : Keep h0 h3 [o1] := K0.wr W3 (Or.inl (List.mem_of_getElem? (i := 0) rfl))
  have N3 := Fr.snoc X3 N0 g_o1
  have fc4 := (V_o0.other W3 ne_o0_o1)
  obtain ⟨cl5, Ar5, qk5, Sz5, Ng5, Hh5, Gg5⟩ := id fc4
  have hin5_1 : ¬ ((1 : Int32) < 0 ∨ cl5.slots.size ≤ ((1 : Int32)).toNatClampNeg) := inb_of Sz5 ⟨by decide, by decide⟩
  obtain ⟨fs, hr, hrun, hended, hW, hsame⟩ := X3.leave (v := (some (.int 1))) (fun h => by rw [hrt] at h; cases h)
  refine ⟨_, _, ?_, hrun, hended, _, _, rfl, ?_, ⟨_, rfl⟩, hW, hsame.mono (by decide) (by decide)⟩
  · show Steps p.tables e below (s₁.setTop (mkF m 0 #[va o0, vi 0, va o1, vi 0, vi 2, uu, uu] [])) _
    refine XS.iconst X0.here hx rfl (hb hby d6_0) ?_
    refine XS.istore X0.here hx rfl (hb hby d6_1) rfl (l' := #[va o0, vi 0, va o1, vi 0, vi 2, vi 0, uu]) rfl ?_
    refine XS.iload X0.here hx rfl (hb hby d6_3) rfl ?_
    refine XS.iload X0.here hx rfl (hb hby d6_5) rfl ?_
    refine XS.icmpNo X0.here hx rfl (hb hby d6_7) rfl (tlt (by decide : (0 : Int32) < (2 : Int32))).2.1 ?_
    refine XS.aloadN X0.here hx rfl (hb hby d6_10) rfl rfl ?_
    refine XS.iloadN X0.here hx rfl (hb hby d6_11) rfl ?_
    refine X0.caload hx (j := (0 : Int32)) (v := (.int p0)) (by rw [e0]; exact Ar1.1) (State.isArrayOf_alike hZ.alike Ar1.2.1) Ar1.2.2 hin1_0 (Has.at Hh1 hin1_0 rfl) (g := (mkF m 12 #[va o0, vi 0, va o1, vi 0, vi 2, vi 0, uu] [(.int 0), (.ref o0)])) rfl rfl (hb hby d6_12) _ ?_
    show Steps p.tables e below (s₁.setTop (mkF m 13 #[va o0, vi 0, va o1, vi 0, vi 2, vi 0, uu] [(.int p0)])) _
    refine XS.istore X0.here hx rfl (hb hby d6_13) rfl (l' := #[va o0, vi 0, va o1, vi 0, vi 2, vi 0, vi p0]) rfl ?_
    refine XS.iload X0.here hx rfl (hb hby d6_15) rfl ?_
    refine XS.sipush X0.here hx rfl (hb hby d6_17) ?_
    refine XS.icmpYes X0.here hx rfl (pc0 := 20) (pc' := 26) rfl (hb hby d6_20) rfl (flt hc0).2.2.2 (by decide) (by decide) ?_
    refine XS.aloadN X0.here hx rfl (hb hby d6_26) rfl rfl ?_
    refine XS.iloadN X0.here hx rfl (hb hby d6_27) rfl ?_
    refine XS.iload X0.here hx rfl (hb hby d6_28) rfl ?_
    refine XS.i2b X0.here hx rfl (hb hby d6_30) rfl ?_
    show Steps p.tables e below (s₁.setTop (mkF m 31 #[va o0, vi 0, va o1, vi 0, vi 2, vi 0, vi p0] [(.int (bb p0)), (.int 0), (.ref o1)])) _
    refine st3 _ ?_
    refine XS.iinc X3.here hx rfl (hb hby d6_32) rfl (l' := #[va o0, vi ((0 : Int32) + (1 : Int32)), va o1, vi 0, vi 2, vi 0, vi p0]) rfl ?_
    show Steps p.tables e below (T3.setTop (mkF m 35 #[va o0, vi ((0 : Int32) + (1 : Int32)), va o1, vi 0, vi 2, vi 0, vi p0] [])) _
    rw [show (((0 : Int32) + (1 : Int32)) : Int32) = (1 : Int32) from by decide]
    refine XS.iinc X3.here hx rfl (hb hby d6_35) rfl (l' := #[va o0, vi 1, va o1, vi ((0 : Int32) + (1 : Int32)), vi 2, vi 0, vi p0]) rfl ?_
    show Steps p.tables e below (T3.setTop (mkF m 38 #[va o0, vi 1, va o1, vi ((0 : Int32) + (1 : Int32)), vi 2, vi 0, vi p0] [])) _
    rw [show (((0 : Int32) + (1 : Int32)) : Int32) = (1 : Int32) from by decide]
    refine XS.iinc X3.here hx rfl (hb hby d6_38) rfl (l' := #[va o0, vi 1, va o1, vi 1, vi 2, vi ((0 : Int32) + (1 : Int32)), vi p0]) rfl ?_
    show Steps p.tables e below (T3.setTop (mkF m 41 #[va o0, vi 1, va o1, vi 1, vi 2, vi ((0 : Int32) + (1 : Int32)), vi p0] [])) _
    rw [show (((0 : Int32) + (1 : Int32)) : Int32) = (1 : Int32) from by decide]
    refine XS.goto X3.here hx rfl (pc0 := 41) (pc' := 3) rfl (hb hby d6_41) (by decide) (by decide) ?_
    refine XS.iload X3.here hx rfl (hb hby d6_3) rfl ?_
    refine XS.iload X3.here hx rfl (hb hby d6_5) rfl ?_
    refine XS.icmpNo X3.here hx rfl (hb hby d6_7) rfl (tlt (by decide : (1 : Int32) < (2 : Int32))).2.1 ?_
    refine XS.aloadN X3.here hx rfl (hb hby d6_10) rfl rfl ?_
    refine XS.iloadN X3.here hx rfl (hb hby d6_11) rfl ?_
    refine X3.caload hx (j := (1 : Int32)) (v := (.int p1)) (by rw [e3]; exact Ar5.1) (State.isArrayOf_alike hZ.alike Ar5.2.1) Ar5.2.2 hin5_1 (Has.at Hh5 hin5_1 rfl) (g := (mkF m 12 #[va o0, vi 1, va o1, vi 1, vi 2, vi 1, vi p0] [(.int 1), (.ref o0)])) rfl rfl (hb hby d6_12) _ ?_
    show Steps p.tables e below (T3.setTop (mkF m 13 #[va o0, vi 1, va o1, vi 1, vi 2, vi 1, vi p0] [(.int p1)])) _
    refine XS.istore X3.here hx rfl (hb hby d6_13) rfl (l' := #[va o0, vi 1, va o1, vi 1, vi 2, vi 1, vi p1]) rfl ?_
    refine XS.iload X3.here hx rfl (hb hby d6_15) rfl ?_
    refine XS.sipush X3.here hx rfl (hb hby d6_17) ?_
    refine XS.icmpNo X3.here hx rfl (hb hby d6_20) rfl (tlt hc1).2.2.2 ?_
    refine XS.iload X3.here hx rfl (hb hby d6_23) rfl ?_
    exact retOut X3 hx (t := .int) (i := .ireturn) hrt rfl (Or.inl ⟨rfl, Or.inl rfl, _, rfl⟩) (hb hby d6_25) hr
  · show Q6_8 Z z_COMPACT_STRINGS o0 o1 kk_o0 kk_o1 p0 p1 h0 n0 (some (.int 1)) T3.heap _
    rw [e3]; exact ⟨rfl, N3, K3, V3⟩
def Q15_2 (Z : State) (z_COMPACT_STRINGS : Int32) (h0 : Heap) (n0 : Nat) (v : Option Value) (h : Heap) (L : List Loc) : Prop := v = (some (.int 4)) ∧ Fr n0 L ∧ h = h0
theorem rm15_2 (l : Launch) (Z : State) (a0 : Array Value) (hw : HW Z a0) (ws : List Jvm.Cond) (z_COMPACT_STRINGS : Int32) (h0 : Heap) (n0 : Nat) (O0 : Old Z n0 h0) (S : SF Z z_COMPACT_STRINGS) :
    Pay l Z My15 ws jdk_52_method_3_code 1 (some .int) #[(.int 2)] h0 ({ frames := 0, cells := 0, slots := 0, locals := 0 } : Room) (Q15_2 Z z_COMPACT_STRINGS  h0 n0) := by
  refine own_body (plainFor_of_name pn_2) (L0 := #[vi 2]) (fun _ => by first | rfl | (simp [entryFrame, mkF, argsToLocals, Value.category]; done)) ?_
  intro p e s m below meth c s₁ hrt hlk hx hby hml hZ hown0 hnm X0 e0
  have hown : s.vm.findClass sC1 = some m.cls := hown0
  have N0 := Fr.nil n0
  have K0 : Keep h0 h0 [] := Keep.refl _ _
  obtain ⟨fs, hr, hrun, hended, hW, hsame⟩ := X0.leave (v := (some (.int 4))) (fun h => by rw [hrt] at h; cases h)
  refine ⟨_, _, ?_, hrun, hended, _, _, rfl, ?_, ⟨_, rfl⟩, hW, hsame.mono (by decide) (by decide)⟩
  · show Steps p.tables e below (s₁.setTop (mkF m 0 #[vi 2] [])) _
    refine XS.iloadN X0.here hx rfl (hb hby d15_0) rfl ?_
    refine XS.ifYes X0.here hx rfl (pc0 := 1) (pc' := 12) rfl (hb hby d15_1) rfl ((if0 _ _).trans (flt (by decide : ¬ ((2 : Int32) < (0 : Int32)))).2.1) (by decide) (by decide) ?_
    refine XS.iloadN X0.here hx rfl (hb hby d15_12) rfl ?_
    refine X0.ldcInt hx hown (mvT hZ (ww hw 70 rfl)) (g := (mkF m 13 #[vi 2] [(.int 2)])) rfl (hb hby d15_13) _ ?_
    refine XS.icmpYes X0.here hx rfl (pc0 := 15) (pc' := 55) rfl (hb hby d15_15) rfl (tlt (by decide : (2 : Int32) < (1073741823 : Int32))).1 (by decide) (by decide) ?_
    refine XS.iloadN X0.here hx rfl (hb hby d15_55) rfl ?_
    refine XS.iconst X0.here hx rfl (hb hby d15_56) ?_
    refine XS.ishl X0.here hx rfl (hb hby d15_57) rfl ?_
    show Steps p.tables e below (s₁.setTop (mkF m 58 #[vi 2] [(.int ((2 : Int32) <<< ((1 : Int32) &&& 31)))])) _
    rw [show (((2 : Int32) <<< ((1 : Int32) &&& 31)) : Int32) = (4 : Int32) from by decide]
    exact retOut X0 hx (t := .int) (i := .ireturn) hrt rfl (Or.inl ⟨rfl, Or.inl rfl, _, rfl⟩) (hb hby d15_58) hr
  · show Q15_2 Z z_COMPACT_STRINGS  h0 n0 (some (.int 4)) s₁.heap _
    exact (⟨rfl, N0, e0⟩)
def Q14_2 (Z : State) (z_COMPACT_STRINGS : Int32) (h0 : Heap) (n0 : Nat) (v : Option Value) (h : Heap) (L : List Loc) : Prop := ∃ (b2 : Addr), ∃ (k2 : ClassId), v = (some (.ref b2)) ∧ Fr n0 L ∧ Keep h0 h [] ∧ Arv Z h b2 k2 .byte (4 : Int32) [(.int 0), (.int 0), (.int 0), (.int 0)] (.int 0) ∧ h0.size ≤ b2
theorem rm14_2 (l : Launch) (Z : State) (a0 : Array Value) (hw : HW Z a0) (ws : List Jvm.Cond) (z_COMPACT_STRINGS : Int32) (h0 : Heap) (n0 : Nat) (O0 : Old Z n0 h0) (S : SF Z z_COMPACT_STRINGS) :
    Pay l Z My14 ws jdk_52_method_2_code 1 (some (.array .byte)) #[(.int 2)] h0 ({ frames := 1, cells := 1, slots := 4, locals := 12 } : Room) (Q14_2 Z z_COMPACT_STRINGS  h0 n0) := by
  refine own_body (plainFor_of_name pn_2) (L0 := #[vi 2]) (fun _ => by first | rfl | (simp [entryFrame, mkF, argsToLocals, Value.category]; done)) ?_
  intro p e s m below meth c s₁ hrt hlk hx hby hml hZ hown0 hnm X0 e0
  have hown : s.vm.findClass sC1 = some m.cls := hown0
  have N0 := Fr.nil n0
  have K0 : Keep h0 h0 [] := Keep.refl _ _
  obtain ⟨_, _, ⟨T1, L1, k1, n1⟩, -, X1, ⟨Lc1, hQ1, l1, y1, z1⟩, st1⟩ := Jvm.LawKit.callS X0 hx (y := My15) hown (mvT hZ (ww hw 67 rfl)) (mvT hZ (ww hw 68 rfl)) (mvT hZ (ww hw 22 rfl)) (mvT hZ (ww hw 69 rfl)) (by decide) (backOf (W := 0) (rm15_2 l Z a0 hw [] z_COMPACT_STRINGS h0 n0 O0 S) hZ (ww hw 69 rfl) (ww hw 22 rfl) (by decide) (by decide)) (g := (mkF m 1 #[vi 2] [(.int 2)])) rfl (by rw [hml]; rfl) (argsL := [(.int 2)]) (rest := []) (lenOf pd_1 rfl) rfl (by show 2 * 0 + _ ≤ _; exact Nat.le_of_eq rfl) (hb hby d14_1) (fun _ _ => ⟨rfl, e0, (by decide : 0 + 0 ≤ _), (by decide : 0 + 0 ≤ _)⟩)
  dsimp only [Pt.U, Pt.locs, Pt.cells, Pt.slots] at X1 l1 y1 z1 st1 hQ1
  subst l1 y1 z1
  obtain ⟨rfl, Nq1, e1⟩ := hQ1
  have N1 := Fr.app N0 Nq1
  obtain ⟨T2, h2, k2, X2, e2, E2, A2, st2⟩ := newP X1 hx hZ (ww hw 24 rfl) e1 (g := (mkF m 4 #[vi 2] [(.int 4)])) rfl (hb hby d14_4) rfl (by decide) (cap := 4) (by decide) (by decide) (by decide) (by decide)
  obtain ⟨b2, qs2⟩ : ∃ z, z = h0.size := ⟨_, rfl⟩
  rw [← qs2] at A2 st2
  have g_b2 : n0 ≤ b2 := Nat.le_trans (own_old O0) (Nat.le_of_eq qs2.symm)
  have sz_b2 : h0.size ≤ b2 := Nat.le_trans K0.1 (Nat.le_of_eq qs2.symm)
  have O2 := O0.ext E2
  have K2 : Keep h0 h2 [] := K0.ext E2
  have V_b2 : Arv Z h2 b2 k2 .byte (4 : Int32) [(.int 0), (.int 0), (.int 0), (.int 0)] (.int 0) := (Arv.new A2 (by decide)).pad (pad_rep [] (.int 0) 4)
  obtain ⟨fs, hr, hrun, hended, hW, hsame⟩ := X2.leave (v := (some (.ref b2))) (fun h => by rw [hrt] at h; cases h)
  refine ⟨_, _, ?_, hrun, hended, _, _, rfl, ?_, ⟨_, rfl⟩, hW, hsame.mono (by decide) (by decide)⟩
  · show Steps p.tables e below (s₁.setTop (mkF m 0 #[vi 2] [])) _
    refine XS.iloadN X0.here hx rfl (hb hby d14_0) rfl ?_
    refine st1 _ ?_
    refine st2 _ ?_
    exact retOut X2 hx (t := (.array .byte)) (i := .areturn) hrt rfl (Or.inr (Or.inr (Or.inr (Or.inr ⟨rfl, rfl, rfl⟩)))) (hb hby d14_6) hr
  · show Q14_2 Z z_COMPACT_STRINGS  h0 n0 (some (.ref b2)) T2.heap _
    rw [e2]; exact ⟨b2, k2, rfl, N1, K2, V_b2, sz_b2⟩
def Q16_5 (Z : State) (z_COMPACT_STRINGS : Int32) (o0 : Addr) (kk_o0 : ClassId) (p0 : Int32) (h0 : Heap) (n0 : Nat) (v : Option Value) (h : Heap) (L : List Loc) : Prop := v = none ∧ Fr n0 L ∧ Keep h0 h [o0] ∧ Arv Z h o0 kk_o0 .byte (4 : Int32) [(.int (bb (bb (p0 >>> ((0 : Int32) &&& 31))))), (.int (bb (bb (p0 >>> ((8 : Int32) &&& 31))))), (.int 0), (.int 0)] (.int 0)
theorem rm16_5 (l : Launch) (Z : State) (a0 : Array Value) (hw : HW Z a0) (ws : List Jvm.Cond) (z_COMPACT_STRINGS : Int32) (o0 : Addr) (kk_o0 : ClassId) (p0 : Int32) (h0 : Heap) (n0 : Nat) (O0 : Old Z n0 h0) (S : SF Z z_COMPACT_STRINGS) (V_o0 : Arv Z h0 o0 kk_o0 .byte (4 : Int32) [(.int 0), (.int 0), (.int 0), (.int 0)] (.int 0)) (g_o0 : n0 ≤ o0) :
    Pay l Z My16 ws jdk_52_method_4_code 3 none #[(.ref o0), (.int 0), (.int p0)] h0 ({ frames := 0, cells := 0, slots := 0, locals := 0 } : Room) (Q16_5 Z z_COMPACT_STRINGS o0 kk_o0 p0 h0 n0) := by
  obtain ⟨-, -, S_StringUTF16__assertionsDisabled, S_StringUTF16_HI_BYTE_SHIFT, S_StringUTF16_LO_BYTE_SHIFT, -⟩ := id S
  refine own_body (plainFor_of_name pn_2) (L0 := #[va o0, vi 0, vi p0]) (fun _ => by first | rfl | (simp [entryFrame, mkF, argsToLocals, Value.category]; done)) ?_
  intro p e s m below meth c s₁ hrt hlk hx hby hml hZ hown0 hnm X0 e0
  have hown : s.vm.findClass sC1 = some m.cls := hown0
  have N0 := Fr.nil n0
  have K0 : Keep h0 h0 [o0] := Keep.refl _ _
  obtain ⟨T1, X1, e1, st1⟩ := getS2 X0 hx hZ hown (host := "") (Or.inl (ww hw 74 rfl)) Via.refl e0 (S_StringUTF16__assertionsDisabled.ext O0.2) (g := (mkF m 0 #[va o0, vi 0, vi p0] [])) rfl (hb hby d16_0)
  obtain ⟨T2, X2, e2, st2⟩ := getS2 X1 hx hZ hown (host := "") (Or.inl (ww hw 75 rfl)) Via.refl e1 (S_StringUTF16_HI_BYTE_SHIFT.ext O0.2) (g := (mkF m 38 #[va o0, vi 1, vi p0] [(.int p0), (.int 0), (.ref o0)])) rfl (hb hby d16_38)
  obtain ⟨cl3, Ar3, qk3, Sz3, Ng3, Hh3, Gg3⟩ := id V_o0
  have hin3_0 : ¬ ((0 : Int32) < 0 ∨ cl3.slots.size ≤ ((0 : Int32)).toNatClampNeg) := inb_of Sz3 ⟨by decide, by decide⟩
  obtain ⟨T4, h4, X4, e4, W4, st4⟩ := stB X2 hx hZ e2 Ar3 (j := (0 : Int32)) hin3_0 (g := (mkF m 43 #[va o0, vi 1, vi p0] [(.int (bb (p0 >>> ((0 : Int32) &&& 31)))), (.int 0), (.ref o0)])) rfl rfl (hb hby d16_43)
  have V4 : Arv Z h4 o0 kk_o0 .byte (4 : Int32) [(.int (bb (bb (p0 >>> ((0 : Int32) &&& 31))))), (.int 0), (.int 0), (.int 0)] (.int 0) := Arv.set Ar3 qk3 Sz3 Ng3 Hh3 Gg3 (fits_nar_byte _) W4 0 rfl (Nat.le_of_ble_eq_true rfl)
  have O4 := O0.wr W4 g_o0
  have K4 : Keep h0 h4 [o0] := K0.wr W4 (Or.inl (List.mem_of_getElem? (i := 0) rfl))
  have N4 := Fr.snoc X4 N0 g_o0
  obtain ⟨T5, X5, e5, st5⟩ := getS2 X4 hx hZ hown (host := "") (Or.inl (ww hw 76 rfl)) Via.refl e4 (S_StringUTF16_LO_BYTE_SHIFT.ext O4.2) (g := (mkF m 47 #[va o0, vi 1, vi p0] [(.int p0), (.int 1), (.ref o0)])) rfl (hb hby d16_47)
  obtain ⟨cl6, Ar6, qk6, Sz6, Ng6, Hh6, Gg6⟩ := id V4
  have hin6_1 : ¬ ((1 : Int32) < 0 ∨ cl6.slots.size ≤ ((1 : Int32)).toNatClampNeg) := inb_of Sz6 ⟨by decide, by decide⟩
  obtain ⟨T7, h7, X7, e7, W7, st7⟩ := stB X5 hx hZ e5 Ar6 (j := (1 : Int32)) hin6_1 (g := (mkF m 52 #[va o0, vi 1, vi p0] [(.int (bb (p0 >>> ((8 : Int32) &&& 31)))), (.int 1), (.ref o0)])) rfl rfl (hb hby d16_52)
  have V7 : Arv Z h7 o0 kk_o0 .byte (4 : Int32) [(.int (bb (bb (p0 >>> ((0 : Int32) &&& 31))))), (.int (bb (bb (p0 >>> ((8 : Int32) &&& 31))))), (.int 0), (.int 0)] (.int 0) := Arv.set Ar6 qk6 Sz6 Ng6 Hh6 Gg6 (fits_nar_byte _) W7 1 rfl (Nat.le_of_ble_eq_true rfl)
  have O7 := O4.wr W7 g_o0
  have K7 : Keep h0 h7 [o0] := K4.wr W7 (Or.inl (List.mem_of_getElem? (i := 0) rfl))
  have N7 := Fr.snoc X7 N4 g_o0
  obtain ⟨fs, hr, hrun, hended, hW, hsame⟩ := X7.leave (v := none) (fun _ => rfl)
  refine ⟨_, _, ?_, hrun, hended, _, _, rfl, ?_, ⟨_, rfl⟩, hW, hsame.mono (by decide) (by decide)⟩
  · show Steps p.tables e below (s₁.setTop (mkF m 0 #[va o0, vi 0, vi p0] [])) _
    refine st1 _ ?_
    refine XS.ifYes X1.here hx rfl (pc0 := 3) (pc' := 28) rfl (hb hby d16_3) rfl ((if0 _ _).trans (feq (by decide : ¬ ((1 : Int32) = (0 : Int32)))).2) (by decide) (by decide) ?_
    refine XS.iloadN X1.here hx rfl (hb hby d16_28) rfl ?_
    refine XS.iconst X1.here hx rfl (hb hby d16_29) ?_
    refine XS.ishl X1.here hx rfl (hb hby d16_30) rfl ?_
    show Steps p.tables e below (T1.setTop (mkF m 31 #[va o0, vi 0, vi p0] [(.int ((0 : Int32) <<< ((1 : Int32) &&& 31)))])) _
    rw [show (((0 : Int32) <<< ((1 : Int32) &&& 31)) : Int32) = (0 : Int32) from by decide]
    refine XS.istoreN X1.here hx rfl (hb hby d16_31) rfl (l' := #[va o0, vi 0, vi p0]) rfl ?_
    refine XS.aloadN X1.here hx rfl (hb hby d16_32) rfl rfl ?_
    refine XS.iloadN X1.here hx rfl (hb hby d16_33) rfl ?_
    refine XS.iinc X1.here hx rfl (hb hby d16_34) rfl (l' := #[va o0, vi ((0 : Int32) + (1 : Int32)), vi p0]) rfl ?_
    show Steps p.tables e below (T1.setTop (mkF m 37 #[va o0, vi ((0 : Int32) + (1 : Int32)), vi p0] [(.int 0), (.ref o0)])) _
    rw [show (((0 : Int32) + (1 : Int32)) : Int32) = (1 : Int32) from by decide]
    refine XS.iloadN X1.here hx rfl (hb hby d16_37) rfl ?_
    refine st2 _ ?_
    refine XS.ishr X2.here hx rfl (hb hby d16_41) rfl ?_
    refine XS.i2b X2.here hx rfl (hb hby d16_42) rfl ?_
    refine st4 _ ?_
    refine XS.aloadN X4.here hx rfl (hb hby d16_44) rfl rfl ?_
    refine XS.iloadN X4.here hx rfl (hb hby d16_45) rfl ?_
    show Steps p.tables e below (T4.setTop (mkF m 46 #[va o0, vi 1, vi p0] [(.int 1), (.ref o0)])) _
    refine XS.iloadN X4.here hx rfl (hb hby d16_46) rfl ?_
    refine st5 _ ?_
    refine XS.ishr X5.here hx rfl (hb hby d16_50) rfl ?_
    refine XS.i2b X5.here hx rfl (hb hby d16_51) rfl ?_
    refine st7 _ ?_
    exact X7.returnOut hx hrt (hb hby d16_53) hr
  · show Q16_5 Z z_COMPACT_STRINGS o0 kk_o0 p0 h0 n0 none T7.heap _
    rw [e7]; exact ⟨rfl, N7, K7, V7⟩
def Q16_6 (Z : State) (z_COMPACT_STRINGS : Int32) (o0 : Addr) (kk_o0 : ClassId) (p2 : Int32) (p0 : Int32) (p1 : Int32) (h0 : Heap) (n0 : Nat) (v : Option Value) (h : Heap) (L : List Loc) : Prop := v = none ∧ Fr n0 L ∧ Keep h0 h [o0] ∧ Arv Z h o0 kk_o0 .byte (4 : Int32) [(.int p0), (.int p1), (.int (bb (bb (p2 >>> ((0 : Int32) &&& 31))))), (.int (bb (bb (p2 >>> ((8 : Int32) &&& 31)))))] (.int 0)
theorem rm16_6 (l : Launch) (Z : State) (a0 : Array Value) (hw : HW Z a0) (ws : List Jvm.Cond) (z_COMPACT_STRINGS : Int32) (o0 : Addr) (kk_o0 : ClassId) (p2 : Int32) (p0 : Int32) (p1 : Int32) (h0 : Heap) (n0 : Nat) (O0 : Old Z n0 h0) (S : SF Z z_COMPACT_STRINGS) (V_o0 : Arv Z h0 o0 kk_o0 .byte (4 : Int32) [(.int p0), (.int p1), (.int 0), (.int 0)] (.int 0)) (g_o0 : n0 ≤ o0) :
    Pay l Z My16 ws jdk_52_method_4_code 3 none #[(.ref o0), (.int 1), (.int p2)] h0 ({ frames := 0, cells := 0, slots := 0, locals := 0 } : Room) (Q16_6 Z z_COMPACT_STRINGS o0 kk_o0 p2 p0 p1 h0 n0) := by
  obtain ⟨-, -, S_StringUTF16__assertionsDisabled, S_StringUTF16_HI_BYTE_SHIFT, S_StringUTF16_LO_BYTE_SHIFT, -⟩ := id S
  refine own_body (plainFor_of_name pn_2) (L0 := #[va o0, vi 1, vi p2]) (fun _ => by first | rfl | (simp [entryFrame, mkF, argsToLocals, Value.category]; done)) ?_
  intro p e s m below meth c s₁ hrt hlk hx hby hml hZ hown0 hnm X0 e0
  have hown : s.vm.findClass sC1 = some m.cls := hown0
  have N0 := Fr.nil n0
  have K0 : Keep h0 h0 [o0] := Keep.refl _ _
  obtain ⟨T1, X1, e1, st1⟩ := getS2 X0 hx hZ hown (host := "") (Or.inl (ww hw 74 rfl)) Via.refl e0 (S_StringUTF16__assertionsDisabled.ext O0.2) (g := (mkF m 0 #[va o0, vi 1, vi p2] [])) rfl (hb hby d16_0)
  obtain ⟨T2, X2, e2, st2⟩ := getS2 X1 hx hZ hown (host := "") (Or.inl (ww hw 75 rfl)) Via.refl e1 (S_StringUTF16_HI_BYTE_SHIFT.ext O0.2) (g := (mkF m 38 #[va o0, vi 3, vi p2] [(.int p2), (.int 2), (.ref o0)])) rfl (hb hby d16_38)
  obtain ⟨cl3, Ar3, qk3, Sz3, Ng3, Hh3, Gg3⟩ := id V_o0
  have hin3_2 : ¬ ((2 : Int32) < 0 ∨ cl3.slots.size ≤ ((2 : Int32)).toNatClampNeg) := inb_of Sz3 ⟨by decide, by decide⟩
  obtain ⟨T4, h4, X4, e4, W4, st4⟩ := stB X2 hx hZ e2 Ar3 (j := (2 : Int32)) hin3_2 (g := (mkF m 43 #[va o0, vi 3, vi p2] [(.int (bb (p2 >>> ((0 : Int32) &&& 31)))), (.int 2), (.ref o0)])) rfl rfl (hb hby d16_43)
  have V4 : Arv Z h4 o0 kk_o0 .byte (4 : Int32) [(.int p0), (.int p1), (.int (bb (bb (p2 >>> ((0 : Int32) &&& 31))))), (.int 0)] (.int 0) := Arv.set Ar3 qk3 Sz3 Ng3 Hh3 Gg3 (fits_nar_byte _) W4 2 rfl (Nat.le_of_ble_eq_true rfl)
  have O4 := O0.wr W4 g_o0
  have K4 : Keep h0 h4 [o0] := K0.wr W4 (Or.inl (List.mem_of_getElem? (i := 0) rfl))
  have N4 := Fr.snoc X4 N0 g_o0
  obtain ⟨T5, X5, e5, st5⟩ := getS2 X4 hx hZ hown (host := "") (Or.inl (ww hw 76 rfl)) Via.refl e4 (S_StringUTF16_LO_BYTE_SHIFT.ext O4.2) (g := (mkF m 47 #[va o0, vi 3, vi p2] [(.int p2), (.int 3), (.ref o0)])) rfl (hb hby d16_47)
  obtain ⟨cl6, Ar6, qk6, Sz6, Ng6, Hh6, Gg6⟩ := id V4
  have hin6_3 : ¬ ((3 : Int32) < 0 ∨ cl6.slots.size ≤ ((3 : Int32)).toNatClampNeg) := inb_of Sz6 ⟨by decide, by decide⟩
  obtain ⟨T7, h7, X7, e7, W7, st7⟩ := stB X5 hx hZ e5 Ar6 (j := (3 : Int32)) hin6_3 (g := (mkF m 52 #[va o0, vi 3, vi p2] [(.int (bb (p2 >>> ((8 : Int32) &&& 31)))), (.int 3), (.ref o0)])) rfl rfl (hb hby d16_52)
  have V7 : Arv Z h7 o0 kk_o0 .byte (4 : Int32) [(.int p0), (.int p1), (.int (bb (bb (p2 >>> ((0 : Int32) &&& 31))))), (.int (bb (bb (p2 >>> ((8 : Int32) &&& 31)))))] (.int 0) := Arv.set Ar6 qk6 Sz6 Ng6 Hh6 Gg6 (fits_nar_byte _) W7 3 rfl (Nat.le_of_ble_eq_true rfl)
  have O7 := O4.wr W7 g_o0
  have K7 : Keep h0 h7 [o0] := K4.wr W7 (Or.inl (List.mem_of_getElem? (i := 0) rfl))
  have N7 := Fr.snoc X7 N4 g_o0
  obtain ⟨fs, hr, hrun, hended, hW, hsame⟩ := X7.leave (v := none) (fun _ => rfl)
  refine ⟨_, _, ?_, hrun, hended, _, _, rfl, ?_, ⟨_, rfl⟩, hW, hsame.mono (by decide) (by decide)⟩
  · show Steps p.tables e below (s₁.setTop (mkF m 0 #[va o0, vi 1, vi p2] [])) _
    refine st1 _ ?_
    refine XS.ifYes X1.here hx rfl (pc0 := 3) (pc' := 28) rfl (hb hby d16_3) rfl ((if0 _ _).trans (feq (by decide : ¬ ((1 : Int32) = (0 : Int32)))).2) (by decide) (by decide) ?_
    refine XS.iloadN X1.here hx rfl (hb hby d16_28) rfl ?_
    refine XS.iconst X1.here hx rfl (hb hby d16_29) ?_
    refine XS.ishl X1.here hx rfl (hb hby d16_30) rfl ?_
    show Steps p.tables e below (T1.setTop (mkF m 31 #[va o0, vi 1, vi p2] [(.int ((1 : Int32) <<< ((1 : Int32) &&& 31)))])) _
    rw [show (((1 : Int32) <<< ((1 : Int32) &&& 31)) : Int32) = (2 : Int32) from by decide]
    refine XS.istoreN X1.here hx rfl (hb hby d16_31) rfl (l' := #[va o0, vi 2, vi p2]) rfl ?_
    refine XS.aloadN X1.here hx rfl (hb hby d16_32) rfl rfl ?_
    refine XS.iloadN X1.here hx rfl (hb hby d16_33) rfl ?_
    refine XS.iinc X1.here hx rfl (hb hby d16_34) rfl (l' := #[va o0, vi ((2 : Int32) + (1 : Int32)), vi p2]) rfl ?_
    show Steps p.tables e below (T1.setTop (mkF m 37 #[va o0, vi ((2 : Int32) + (1 : Int32)), vi p2] [(.int 2), (.ref o0)])) _
    rw [show (((2 : Int32) + (1 : Int32)) : Int32) = (3 : Int32) from by decide]
    refine XS.iloadN X1.here hx rfl (hb hby d16_37) rfl ?_
    refine st2 _ ?_
    refine XS.ishr X2.here hx rfl (hb hby d16_41) rfl ?_
    refine XS.i2b X2.here hx rfl (hb hby d16_42) rfl ?_
    refine st4 _ ?_
    refine XS.aloadN X4.here hx rfl (hb hby d16_44) rfl rfl ?_
    refine XS.iloadN X4.here hx rfl (hb hby d16_45) rfl ?_
    show Steps p.tables e below (T4.setTop (mkF m 46 #[va o0, vi 3, vi p2] [(.int 3), (.ref o0)])) _
    refine XS.iloadN X4.here hx rfl (hb hby d16_46) rfl ?_
    refine st5 _ ?_
    refine XS.ishr X5.here hx rfl (hb hby d16_50) rfl ?_
    refine XS.i2b X5.here hx rfl (hb hby d16_51) rfl ?_
    refine st7 _ ?_
    exact X7.returnOut hx hrt (hb hby d16_53) hr
  · show Q16_6 Z z_COMPACT_STRINGS o0 kk_o0 p2 p0 p1 h0 n0 none T7.heap _
    rw [e7]; exact ⟨rfl, N7, K7, V7⟩
def Q13_2 (Z : State) (z_COMPACT_STRINGS : Int32) (o0 : Addr) (kk_o0 : ClassId) (p0 : Int32) (p1 : Int32) (h0 : Heap) (n0 : Nat) (v : Option Value) (h : Heap) (L : List Loc) : Prop := ∃ (b2_1 : Addr), ∃ (k2_1 : ClassId), v = (some (.ref b2_1)) ∧ Fr n0 L ∧ Keep h0 h [] ∧ Arv Z h b2_1 k2_1 .byte (4 : Int32) [(.int (bb (bb (p0 >>> ((0 : Int32) &&& 31))))), (.int (bb (bb (p0 >>> ((8 : Int32) &&& 31))))), (.int (bb (bb (p1 >>> ((0 : Int32) &&& 31))))), (.int (bb (bb (p1 >>> ((8 : Int32) &&& 31)))))] (.int 0) ∧ h0.size ≤ b2_1
theorem rm13_2 (l : Launch) (Z : State) (a0 : Array Value) (hw : HW Z a0) (ws : List Jvm.Cond) (z_COMPACT_STRINGS : Int32) (o0 : Addr) (kk_o0 : ClassId) (p0 : Int32) (p1 : Int32) (h0 : Heap) (n0 : Nat) (O0 : Old Z n0 h0) (S : SF Z z_COMPACT_STRINGS) (V_o0 : Arv Z h0 o0 kk_o0 .char (2 : Int32) [(.int p0), (.int p1)] (.int 0)) :
    Pay l Z My13 ws jdk_52_method_14_code 5 (some (.array .byte)) #[(.ref o0), (.int 0), (.int 2)] h0 ({ frames := 2, cells := 1, slots := 4, locals := 24 } : Room) (Q13_2 Z z_COMPACT_STRINGS o0 kk_o0 p0 p1 h0 n0) := by
  refine own_body (plainFor_of_name pn_2) (L0 := #[va o0, vi 0, vi 2, uu, uu]) (fun _ => by first | rfl | (simp [entryFrame, mkF, argsToLocals, Value.category]; done)) ?_
  intro p e s m below meth c s₁ hrt hlk hx hby hml hZ hown0 hnm X0 e0
  have hown : s.vm.findClass sC1 = some m.cls := hown0
  have N0 := Fr.nil n0
  have K0 : Keep h0 h0 [] := Keep.refl _ _
  obtain ⟨_, _, ⟨T1, L1, k1, n1⟩, -, X1, ⟨Lc1, hQ1, l1, y1, z1⟩, st1⟩ := Jvm.LawKit.callS X0 hx (y := My14) hown (mvT hZ (ww hw 64 rfl)) (mvT hZ (ww hw 65 rfl)) (mvT hZ (ww hw 22 rfl)) (mvT hZ (ww hw 66 rfl)) (by decide) (backOf (W := 0) (rm14_2 l Z a0 hw [] z_COMPACT_STRINGS h0 n0 O0 S) hZ (ww hw 66 rfl) (ww hw 22 rfl) (by decide) (by decide)) (g := (mkF m 1 #[va o0, vi 0, vi 2, uu, uu] [(.int 2)])) rfl (by rw [hml]; rfl) (argsL := [(.int 2)]) (rest := []) (lenOf pd_2 rfl) rfl (by show 2 * 0 + _ ≤ _; exact Nat.le_of_eq rfl) (hb hby d13_1) (fun _ _ => ⟨rfl, e0, (by decide : 0 + 1 ≤ _), (by decide : 0 + 4 ≤ _)⟩)
  dsimp only [Pt.U, Pt.locs, Pt.cells, Pt.slots] at X1 l1 y1 z1 st1 hQ1
  subst l1 y1 z1
  obtain ⟨b2_1, k2_1, rfl, Nq1, Kc1, P0_1, P1_1⟩ := hQ1
  have N1 := Fr.app N0 Nq1
  have ne_o0_b2_1 : o0 ≠ b2_1 := Nat.ne_of_lt (Nat.lt_of_lt_of_le V_o0.lt P1_1)
  have g_b2_1 : n0 ≤ b2_1 := Nat.le_trans (own_old O0) P1_1
  have sz_b2_1 : h0.size ≤ b2_1 := Nat.le_trans K0.1 P1_1
  have O1 := O0.keep Kc1 all0
  have K1 : Keep h0 T1.heap [] := K0.trans Kc1 all0
  have fc2 := (V_o0.keep Kc1 nin0)
  obtain ⟨cl3, Ar3, qk3, Sz3, Ng3, Hh3, Gg3⟩ := id fc2
  have hin3_0 : ¬ ((0 : Int32) < 0 ∨ cl3.slots.size ≤ ((0 : Int32)).toNatClampNeg) := inb_of Sz3 ⟨by decide, by decide⟩
  obtain ⟨_, _, ⟨T4, L4, k4, n4⟩, -, X4, ⟨Lc4, hQ4, l4, y4, z4⟩, st4⟩ := Jvm.LawKit.callS X1 hx (y := My16) hown (mvT hZ (ww hw 71 rfl)) (mvT hZ (ww hw 72 rfl)) (mvT hZ (ww hw 22 rfl)) (mvT hZ (ww hw 73 rfl)) (by decide) (backOf (W := 0) (rm16_5 l Z a0 hw [] z_COMPACT_STRINGS b2_1 k2_1 p0 T1.heap n0 O1 S P0_1 g_b2_1) hZ (ww hw 73 rfl) (ww hw 22 rfl) (by decide) (by decide)) (g := (mkF m 20 #[va o0, vi 0, vi 2, va b2_1, vi 0] [(.int p0), (.int 0), (.ref b2_1)])) rfl (by rw [hml]; rfl) (argsL := [(.ref b2_1), (.int 0), (.int p0)]) (rest := []) (lenOf pd_3 rfl) rfl (by show 2 * 0 + _ ≤ _; exact Nat.le_of_eq rfl) (hb hby d13_20) (fun _ _ => ⟨rfl, rfl, (by decide : 1 + 0 ≤ _), (by decide : 4 + 0 ≤ _)⟩)
  dsimp only [Pt.U, Pt.locs, Pt.cells, Pt.slots] at X4 l4 y4 z4 st4 hQ4
  subst l4 y4 z4
  obtain ⟨rfl, Nq4, Kc4, P0_4⟩ := hQ4
  have N4 := Fr.app N1 Nq4
  have O4 := O1.keep Kc4 (allS g_b2_1 all0)
  have K4 : Keep h0 T4.heap [] := K1.trans Kc4 (allS (Or.inr sz_b2_1) all0)
  have fc5 := (fc2.keep Kc4 (ninS ne_o0_b2_1 nin0))
  obtain ⟨cl6, Ar6, qk6, Sz6, Ng6, Hh6, Gg6⟩ := id fc5
  have hin6_1 : ¬ ((1 : Int32) < 0 ∨ cl6.slots.size ≤ ((1 : Int32)).toNatClampNeg) := inb_of Sz6 ⟨by decide, by decide⟩
  obtain ⟨_, _, ⟨T7, L7, k7, n7⟩, -, X7, ⟨Lc7, hQ7, l7, y7, z7⟩, st7⟩ := Jvm.LawKit.callS X4 hx (y := My16) hown (mvT hZ (ww hw 71 rfl)) (mvT hZ (ww hw 72 rfl)) (mvT hZ (ww hw 22 rfl)) (mvT hZ (ww hw 73 rfl)) (by decide) (backOf (W := 0) (rm16_6 l Z a0 hw [] z_COMPACT_STRINGS b2_1 k2_1 p1 (bb (bb (p0 >>> ((0 : Int32) &&& 31)))) (bb (bb (p0 >>> ((8 : Int32) &&& 31)))) T4.heap n0 O4 S P0_4 g_b2_1) hZ (ww hw 73 rfl) (ww hw 22 rfl) (by decide) (by decide)) (g := (mkF m 20 #[va o0, vi 1, vi 2, va b2_1, vi 1] [(.int p1), (.int 1), (.ref b2_1)])) rfl (by rw [hml]; rfl) (argsL := [(.ref b2_1), (.int 1), (.int p1)]) (rest := []) (lenOf pd_3 rfl) rfl (by show 2 * 0 + _ ≤ _; exact Nat.le_of_eq rfl) (hb hby d13_20) (fun _ _ => ⟨rfl, rfl, (by decide : 1 + 0 ≤ _), (by decide : 4 + 0 ≤ _)⟩)
  dsimp only [Pt.U, Pt.locs, Pt.cells, Pt.slots] at X7 l7 y7 z7 st7 hQ7
  subst l7 y7 z7
  obtain ⟨rfl, Nq7, Kc7, P0_7⟩ := hQ7
  have N7 := Fr.app N4 Nq7
  have O7 := O4.keep Kc7 (allS g_b2_1 all0)
  have K7 : Keep h0 T7.heap [] := K4.trans Kc7 (allS (Or.inr sz_b2_1) all0)
  obtain ⟨fs, hr, hrun, hended, hW, hsame⟩ := X7.leave (v := (some (.ref b2_1))) (fun h => by rw [hrt] at h; cases h)
  refine ⟨_, _, ?_, hrun, hended, _, _, rfl, ?_, ⟨_, rfl⟩, hW, hsame.mono (by decide) (by decide)⟩
  · show Steps p.tables e below (s₁.setTop (mkF m 0 #[va o0, vi 0, vi 2, uu, uu] [])) _
    refine XS.iloadN X0.here hx rfl (hb hby d13_0) rfl ?_
    refine st1 _ ?_
    refine XS.astoreN X1.here hx rfl (hb hby d13_4) rfl rfl (l' := #[va o0, vi 0, vi 2, va b2_1, uu]) rfl ?_
    refine XS.iconst X1.here hx rfl (hb hby d13_5) ?_
    refine XS.istore X1.here hx rfl (hb hby d13_6) rfl (l' := #[va o0, vi 0, vi 2, va b2_1, vi 0]) rfl ?_
    refine XS.iload X1.here hx rfl (hb hby d13_8) rfl ?_
    refine XS.iloadN X1.here hx rfl (hb hby d13_10) rfl ?_
    refine XS.icmpNo X1.here hx rfl (hb hby d13_11) rfl (tlt (by decide : (0 : Int32) < (2 : Int32))).2.1 ?_
    show Steps p.tables e below (T1.setTop (mkF m 14 #[va o0, vi 0, vi 2, va b2_1, vi 0] [])) _
    refine XS.aloadN X1.here hx rfl (hb hby d13_14) rfl rfl ?_
    refine XS.iload X1.here hx rfl (hb hby d13_15) rfl ?_
    refine XS.aloadN X1.here hx rfl (hb hby d13_17) rfl rfl ?_
    refine XS.iloadN X1.here hx rfl (hb hby d13_18) rfl ?_
    refine X1.caload hx (j := (0 : Int32)) (v := (.int p0)) Ar3.1 (State.isArrayOf_alike hZ.alike Ar3.2.1) Ar3.2.2 hin3_0 (Has.at Hh3 hin3_0 rfl) (g := (mkF m 19 #[va o0, vi 0, vi 2, va b2_1, vi 0] [(.int 0), (.ref o0), (.int 0), (.ref b2_1)])) rfl rfl (hb hby d13_19) _ ?_
    refine st4 _ ?_
    refine XS.iinc X4.here hx rfl (hb hby d13_23) rfl (l' := #[va o0, vi ((0 : Int32) + (1 : Int32)), vi 2, va b2_1, vi 0]) rfl ?_
    show Steps p.tables e below (T4.setTop (mkF m 26 #[va o0, vi ((0 : Int32) + (1 : Int32)), vi 2, va b2_1, vi 0] [])) _
    rw [show (((0 : Int32) + (1 : Int32)) : Int32) = (1 : Int32) from by decide]
    refine XS.iinc X4.here hx rfl (hb hby d13_26) rfl (l' := #[va o0, vi 1, vi 2, va b2_1, vi ((0 : Int32) + (1 : Int32))]) rfl ?_
    show Steps p.tables e below (T4.setTop (mkF m 29 #[va o0, vi 1, vi 2, va b2_1, vi ((0 : Int32) + (1 : Int32))] [])) _
    rw [show (((0 : Int32) + (1 : Int32)) : Int32) = (1 : Int32) from by decide]
    refine XS.goto X4.here hx rfl (pc0 := 29) (pc' := 8) rfl (hb hby d13_29) (by decide) (by decide) ?_
    refine XS.iload X4.here hx rfl (hb hby d13_8) rfl ?_
    refine XS.iloadN X4.here hx rfl (hb hby d13_10) rfl ?_
    refine XS.icmpNo X4.here hx rfl (hb hby d13_11) rfl (tlt (by decide : (1 : Int32) < (2 : Int32))).2.1 ?_
    refine XS.aloadN X4.here hx rfl (hb hby d13_14) rfl rfl ?_
    refine XS.iload X4.here hx rfl (hb hby d13_15) rfl ?_
    refine XS.aloadN X4.here hx rfl (hb hby d13_17) rfl rfl ?_
    show Steps p.tables e below (T4.setTop (mkF m 18 #[va o0, vi 1, vi 2, va b2_1, vi 1] [(.ref o0), (.int 1), (.ref b2_1)])) _
    refine XS.iloadN X4.here hx rfl (hb hby d13_18) rfl ?_
    refine X4.caload hx (j := (1 : Int32)) (v := (.int p1)) Ar6.1 (State.isArrayOf_alike hZ.alike Ar6.2.1) Ar6.2.2 hin6_1 (Has.at Hh6 hin6_1 rfl) (g := (mkF m 19 #[va o0, vi 1, vi 2, va b2_1, vi 1] [(.int 1), (.ref o0), (.int 1), (.ref b2_1)])) rfl rfl (hb hby d13_19) _ ?_
    refine st7 _ ?_
    refine XS.iinc X7.here hx rfl (hb hby d13_23) rfl (l' := #[va o0, vi ((1 : Int32) + (1 : Int32)), vi 2, va b2_1, vi 1]) rfl ?_
    show Steps p.tables e below (T7.setTop (mkF m 26 #[va o0, vi ((1 : Int32) + (1 : Int32)), vi 2, va b2_1, vi 1] [])) _
    rw [show (((1 : Int32) + (1 : Int32)) : Int32) = (2 : Int32) from by decide]
    refine XS.iinc X7.here hx rfl (hb hby d13_26) rfl (l' := #[va o0, vi 2, vi 2, va b2_1, vi ((1 : Int32) + (1 : Int32))]) rfl ?_
    show Steps p.tables e below (T7.setTop (mkF m 29 #[va o0, vi 2, vi 2, va b2_1, vi ((1 : Int32) + (1 : Int32))] [])) _
    rw [show (((1 : Int32) + (1 : Int32)) : Int32) = (2 : Int32) from by decide]
    refine XS.goto X7.here hx rfl (pc0 := 29) (pc' := 8) rfl (hb hby d13_29) (by decide) (by decide) ?_
    refine XS.iload X7.here hx rfl (hb hby d13_8) rfl ?_
    refine XS.iloadN X7.here hx rfl (hb hby d13_10) rfl ?_
    refine XS.icmpYes X7.here hx rfl (pc0 := 11) (pc' := 32) rfl (hb hby d13_11) rfl (flt (by decide : ¬ ((2 : Int32) < (2 : Int32)))).2.1 (by decide) (by decide) ?_
    refine XS.aloadN X7.here hx rfl (hb hby d13_32) rfl rfl ?_
    exact retOut X7 hx (t := (.array .byte)) (i := .areturn) hrt rfl (Or.inr (Or.inr (Or.inr (Or.inr ⟨rfl, rfl, rfl⟩)))) (hb hby d13_33) hr
  · show Q13_2 Z z_COMPACT_STRINGS o0 kk_o0 p0 p1 h0 n0 (some (.ref b2_1)) T7.heap _
    exact (⟨b2_1, k2_1, rfl, N7, K7, P0_7, sz_b2_1⟩)
def Q17_5 (Z : State) (z_COMPACT_STRINGS : Int32) (o0 : Addr) (kk_o0 : ClassId) (p0 : Int32) (p1 : Int32) (p2 : Int32) (p3 : Int32) (h0 : Heap) (n0 : Nat) (v : Option Value) (h : Heap) (L : List Loc) : Prop := v = (some (.int (cc (cc (((p2 &&& (255 : Int32)) <<< ((0 : Int32) &&& 31)) ||| ((p3 &&& (255 : Int32)) <<< ((8 : Int32) &&& 31))))))) ∧ Fr n0 L ∧ h = h0
theorem rm17_5 (l : Launch) (Z : State) (a0 : Array Value) (hw : HW Z a0) (ws : List Jvm.Cond) (z_COMPACT_STRINGS : Int32) (o0 : Addr) (kk_o0 : ClassId) (p0 : Int32) (p1 : Int32) (p2 : Int32) (p3 : Int32) (h0 : Heap) (n0 : Nat) (O0 : Old Z n0 h0) (S : SF Z z_COMPACT_STRINGS) (V_o0 : Arv Z h0 o0 kk_o0 .byte (4 : Int32) [(.int p0), (.int p1), (.int p2), (.int p3)] (.int 0)) :
    Pay l Z My17 ws jdk_52_method_5_code 2 (some .char) #[(.ref o0), (.int 1)] h0 ({ frames := 0, cells := 0, slots := 0, locals := 0 } : Room) (Q17_5 Z z_COMPACT_STRINGS o0 kk_o0 p0 p1 p2 p3 h0 n0) := by
  obtain ⟨-, -, S_StringUTF16__assertionsDisabled, S_StringUTF16_HI_BYTE_SHIFT, S_StringUTF16_LO_BYTE_SHIFT, -⟩ := id S
  refine own_body (plainFor_of_name pn_2) (L0 := #[va o0, vi 1]) (fun _ => by first | rfl | (simp [entryFrame, mkF, argsToLocals, Value.category]; done)) ?_
  intro p e s m below meth c s₁ hrt hlk hx hby hml hZ hown0 hnm X0 e0
  have hown : s.vm.findClass sC1 = some m.cls := hown0
  have N0 := Fr.nil n0
  have K0 : Keep h0 h0 [] := Keep.refl _ _
  obtain ⟨T1, X1, e1, st1⟩ := getS2 X0 hx hZ hown (host := "") (Or.inl (ww hw 74 rfl)) Via.refl e0 (S_StringUTF16__assertionsDisabled.ext O0.2) (g := (mkF m 0 #[va o0, vi 1] [])) rfl (hb hby d17_0)
  obtain ⟨cl2, Ar2, qk2, Sz2, Ng2, Hh2, Gg2⟩ := id V_o0
  have hin2_2 : ¬ ((2 : Int32) < 0 ∨ cl2.slots.size ≤ ((2 : Int32)).toNatClampNeg) := inb_of Sz2 ⟨by decide, by decide⟩
  obtain ⟨T3, X3, e3, st3⟩ := getS2 X1 hx hZ hown (host := "") (Or.inl (ww hw 75 rfl)) Via.refl e1 (S_StringUTF16_HI_BYTE_SHIFT.ext O0.2) (g := (mkF m 42 #[va o0, vi 3] [(.int (p2 &&& (255 : Int32)))])) rfl (hb hby d17_42)
  have hin2_3 : ¬ ((3 : Int32) < 0 ∨ cl2.slots.size ≤ ((3 : Int32)).toNatClampNeg) := inb_of Sz2 ⟨by decide, by decide⟩
  obtain ⟨T4, X4, e4, st4⟩ := getS2 X3 hx hZ hown (host := "") (Or.inl (ww hw 76 rfl)) Via.refl e3 (S_StringUTF16_LO_BYTE_SHIFT.ext O0.2) (g := (mkF m 53 #[va o0, vi 3] [(.int (p3 &&& (255 : Int32))), (.int ((p2 &&& (255 : Int32)) <<< ((0 : Int32) &&& 31)))])) rfl (hb hby d17_53)
  obtain ⟨fs, hr, hrun, hended, hW, hsame⟩ := X4.leave (v := (some (.int (cc (cc (((p2 &&& (255 : Int32)) <<< ((0 : Int32) &&& 31)) ||| ((p3 &&& (255 : Int32)) <<< ((8 : Int32) &&& 31)))))))) (fun h => by rw [hrt] at h; cases h)
  refine ⟨_, _, ?_, hrun, hended, _, _, rfl, ?_, ⟨_, rfl⟩, hW, hsame.mono (by decide) (by decide)⟩
  · show Steps p.tables e below (s₁.setTop (mkF m 0 #[va o0, vi 1] [])) _
    refine st1 _ ?_
    refine XS.ifYes X1.here hx rfl (pc0 := 3) (pc' := 28) rfl (hb hby d17_3) rfl ((if0 _ _).trans (feq (by decide : ¬ ((1 : Int32) = (0 : Int32)))).2) (by decide) (by decide) ?_
    refine XS.iloadN X1.here hx rfl (hb hby d17_28) rfl ?_
    refine XS.iconst X1.here hx rfl (hb hby d17_29) ?_
    refine XS.ishl X1.here hx rfl (hb hby d17_30) rfl ?_
    show Steps p.tables e below (T1.setTop (mkF m 31 #[va o0, vi 1] [(.int ((1 : Int32) <<< ((1 : Int32) &&& 31)))])) _
    rw [show (((1 : Int32) <<< ((1 : Int32) &&& 31)) : Int32) = (2 : Int32) from by decide]
    refine XS.istoreN X1.here hx rfl (hb hby d17_31) rfl (l' := #[va o0, vi 2]) rfl ?_
    refine XS.aloadN X1.here hx rfl (hb hby d17_32) rfl rfl ?_
    refine XS.iloadN X1.here hx rfl (hb hby d17_33) rfl ?_
    refine XS.iinc X1.here hx rfl (hb hby d17_34) rfl (l' := #[va o0, vi ((2 : Int32) + (1 : Int32))]) rfl ?_
    show Steps p.tables e below (T1.setTop (mkF m 37 #[va o0, vi ((2 : Int32) + (1 : Int32))] [(.int 2), (.ref o0)])) _
    rw [show (((2 : Int32) + (1 : Int32)) : Int32) = (3 : Int32) from by decide]
    refine X1.baloadBytes hx (j := (2 : Int32)) (v := (.int p2)) (by rw [e1]; exact Ar2.1) (State.isArrayOf_alike hZ.alike Ar2.2.1) Ar2.2.2 hin2_2 (Has.at Hh2 hin2_2 rfl) (g := (mkF m 37 #[va o0, vi 3] [(.int 2), (.ref o0)])) rfl rfl (hb hby d17_37) _ ?_
    refine XS.sipush X1.here hx rfl (hb hby d17_38) ?_
    refine XS.iand X1.here hx rfl (hb hby d17_41) rfl ?_
    refine st3 _ ?_
    refine XS.ishl X3.here hx rfl (hb hby d17_45) rfl ?_
    refine XS.aloadN X3.here hx rfl (hb hby d17_46) rfl rfl ?_
    refine XS.iloadN X3.here hx rfl (hb hby d17_47) rfl ?_
    show Steps p.tables e below (T3.setTop (mkF m 48 #[va o0, vi 3] [(.int 3), (.ref o0), (.int ((p2 &&& (255 : Int32)) <<< ((0 : Int32) &&& 31)))])) _
    refine X3.baloadBytes hx (j := (3 : Int32)) (v := (.int p3)) (by rw [e3]; exact Ar2.1) (State.isArrayOf_alike hZ.alike Ar2.2.1) Ar2.2.2 hin2_3 (Has.at Hh2 hin2_3 rfl) (g := (mkF m 48 #[va o0, vi 3] [(.int 3), (.ref o0), (.int ((p2 &&& (255 : Int32)) <<< ((0 : Int32) &&& 31)))])) rfl rfl (hb hby d17_48) _ ?_
    refine XS.sipush X3.here hx rfl (hb hby d17_49) ?_
    refine XS.iand X3.here hx rfl (hb hby d17_52) rfl ?_
    refine st4 _ ?_
    refine XS.ishl X4.here hx rfl (hb hby d17_56) rfl ?_
    refine XS.ior X4.here hx rfl (hb hby d17_57) rfl ?_
    refine XS.i2c X4.here hx rfl (hb hby d17_58) rfl ?_
    exact retN X4 hx (t := .char) hrt (by simp) (hb hby d17_59) hr
  · show Q17_5 Z z_COMPACT_STRINGS o0 kk_o0 p0 p1 p2 p3 h0 n0 (some (.int (cc (cc (((p2 &&& (255 : Int32)) <<< ((0 : Int32) &&& 31)) ||| ((p3 &&& (255 : Int32)) <<< ((8 : Int32) &&& 31))))))) T4.heap _
    exact (⟨rfl, N0, e4⟩)
def Q5_8 (Z : State) (z_COMPACT_STRINGS : Int32) (o0 : Addr) (kk_o0 : ClassId) (p0 : Int32) (p1 : Int32) (h0 : Heap) (n0 : Nat) (v : Option Value) (h : Heap) (L : List Loc) : Prop := ∃ (b2_1_5 : Addr), ∃ (k2_1_5 : ClassId), v = (some (.ref b2_1_5)) ∧ Fr n0 L ∧ Keep h0 h [] ∧ Arv Z h b2_1_5 k2_1_5 .byte (4 : Int32) [(.int (bb (bb (p0 >>> ((0 : Int32) &&& 31))))), (.int (bb (bb (p0 >>> ((8 : Int32) &&& 31))))), (.int (bb (bb (p1 >>> ((0 : Int32) &&& 31))))), (.int (bb (bb (p1 >>> ((8 : Int32) &&& 31)))))] (.int 0) ∧ h0.size ≤ b2_1_5
theorem rm5_8 (l : Launch) (Z : State) (a0 : Array Value) (hw : HW Z a0) (ws : List Jvm.Cond) (z_COMPACT_STRINGS : Int32) (o0 : Addr) (kk_o0 : ClassId) (p0 : Int32) (p1 : Int32) (h0 : Heap) (n0 : Nat) (O0 : Old Z n0 h0) (S : SF Z z_COMPACT_STRINGS) (V_o0 : Arv Z h0 o0 kk_o0 .char (2 : Int32) [(.int p0), (.int p1)] (.int 0)) (hc0 : ¬ ((255 : Int32) < p0)) (hc1 : (255 : Int32) < p1) :
    Pay l Z My5 ws jdk_52_method_16_code 6 (some (.array .byte)) #[(.ref o0), (.int 0), (.int 2)] h0 ({ frames := 3, cells := 2, slots := 6, locals := 40 } : Room) (Q5_8 Z z_COMPACT_STRINGS o0 kk_o0 p0 p1 h0 n0) := by
  refine own_body (plainFor_of_name pn_2) (L0 := #[va o0, vi 0, vi 2, uu, uu, uu]) (fun _ => by first | rfl | (simp [entryFrame, mkF, argsToLocals, Value.category]; done)) ?_
  intro p e s m below meth c s₁ hrt hlk hx hby hml hZ hown0 hnm X0 e0
  have hown : s.vm.findClass sC1 = some m.cls := hown0
  have N0 := Fr.nil n0
  have K0 : Keep h0 h0 [] := Keep.refl _ _
  obtain ⟨T1, h1, k1, X1, e1, E1, A1, st1⟩ := newP X0 hx hZ (ww hw 24 rfl) e0 (g := (mkF m 1 #[va o0, vi 0, vi 2, uu, uu, uu] [(.int 2)])) rfl (hb hby d5_1) rfl (by decide) (cap := 2) (by decide) (by decide) (by decide) (by decide)
  obtain ⟨b1, qs1⟩ : ∃ z, z = h0.size := ⟨_, rfl⟩
  rw [← qs1] at A1 st1
  have ne_o0_b1 : o0 ≠ b1 := Nat.ne_of_lt (Nat.lt_of_lt_of_le V_o0.lt (Nat.le_of_eq qs1.symm))
  have g_b1 : n0 ≤ b1 := Nat.le_trans (own_old O0) (Nat.le_of_eq qs1.symm)
  have sz_b1 : h0.size ≤ b1 := Nat.le_trans K0.1 (Nat.le_of_eq qs1.symm)
  have O1 := O0.ext E1
  have K1 : Keep h0 h1 [] := K0.ext E1
  have V_b1 : Arv Z h1 b1 k1 .byte (2 : Int32) [(.int 0), (.int 0)] (.int 0) := (Arv.new A1 (by decide)).pad (pad_rep [] (.int 0) 2)
  have fc2 := (V_o0.ext E1)
  obtain ⟨_, _, ⟨T3, L3, k3, n3⟩, -, X3, ⟨Lc3, hQ3, l3, y3, z3⟩, st3⟩ := Jvm.LawKit.callS X1 hx (y := My6) hown (mvT hZ (ww hw 25 rfl)) (mvT hZ (ww hw 26 rfl)) (mvT hZ (ww hw 22 rfl)) (mvT hZ (ww hw 27 rfl)) (by decide) (backOf (W := 0) (rm6_8 l Z a0 hw [] z_COMPACT_STRINGS o0 b1 kk_o0 k1 p0 p1 h1 n0 O1 S fc2 V_b1 ne_o0_b1 g_b1 hc0 hc1) hZ (ww hw 27 rfl) (ww hw 22 rfl) (by decide) (by decide)) (g := (mkF m 9 #[va o0, vi 0, vi 2, va b1, uu, uu] [(.int 2), (.int 0), (.ref b1), (.int 0), (.ref o0)])) rfl (by rw [hml]; rfl) (argsL := [(.ref o0), (.int 0), (.ref b1), (.int 0), (.int 2)]) (rest := []) (lenOf pd_0 rfl) rfl (by show 2 * 0 + _ ≤ _; exact Nat.le_of_eq rfl) (hb hby d5_9) (fun _ _ => ⟨rfl, e1, (by decide : 1 + 0 ≤ _), (by decide : 2 + 0 ≤ _)⟩)
  dsimp only [Pt.U, Pt.locs, Pt.cells, Pt.slots] at X3 l3 y3 z3 st3 hQ3
  subst l3 y3 z3
  obtain ⟨rfl, Nq3, Kc3, P0_3⟩ := hQ3
  have N3 := Fr.app N0 Nq3
  have O3 := O1.keep Kc3 (allS g_b1 all0)
  have K3 : Keep h0 T3.heap [] := K1.trans Kc3 (allS (Or.inr sz_b1) all0)
  have fc4 := (fc2.keep Kc3 (ninS ne_o0_b1 nin0))
  obtain ⟨_, _, ⟨T5, L5, k5, n5⟩, -, X5, ⟨Lc5, hQ5, l5, y5, z5⟩, st5⟩ := Jvm.LawKit.callS X3 hx (y := My13) hown (mvT hZ (ww hw 61 rfl)) (mvT hZ (ww hw 62 rfl)) (mvT hZ (ww hw 22 rfl)) (mvT hZ (ww hw 63 rfl)) (by decide) (backOf (W := 0) (rm13_2 l Z a0 hw [] z_COMPACT_STRINGS o0 kk_o0 p0 p1 T3.heap n0 O3 S fc4) hZ (ww hw 63 rfl) (ww hw 22 rfl) (by decide) (by decide)) (g := (mkF m 23 #[va o0, vi 0, vi 2, va b1, vi 1, uu] [(.int 2), (.int 0), (.ref o0)])) rfl (by rw [hml]; rfl) (argsL := [(.ref o0), (.int 0), (.int 2)]) (rest := []) (lenOf pd_4 rfl) rfl (by show 2 * 0 + _ ≤ _; exact Nat.le_of_eq rfl) (hb hby d5_23) (fun _ _ => ⟨rfl, rfl, (by decide : 1 + 1 ≤ _), (by decide : 2 + 4 ≤ _)⟩)
  dsimp only [Pt.U, Pt.locs, Pt.cells, Pt.slots] at X5 l5 y5 z5 st5 hQ5
  subst l5 y5 z5
  obtain ⟨b2_1_5, k2_1_5, rfl, Nq5, Kc5, P0_5, P1_5⟩ := hQ5
  have N5 := Fr.app N3 Nq5
  have ne_o0_b2_1_5 : o0 ≠ b2_1_5 := Nat.ne_of_lt (Nat.lt_of_lt_of_le fc4.lt P1_5)
  have ne_b1_b2_1_5 : b1 ≠ b2_1_5 := Nat.ne_of_lt (Nat.lt_of_lt_of_le P0_3.lt P1_5)
  have g_b2_1_5 : n0 ≤ b2_1_5 := Nat.le_trans (own_old O3) P1_5
  have sz_b2_1_5 : h0.size ≤ b2_1_5 := Nat.le_trans K3.1 P1_5
  have O5 := O3.keep Kc5 all0
  have K5 : Keep h0 T5.heap [] := K3.trans Kc5 all0
  obtain ⟨_, _, ⟨T6, L6, k6, n6⟩, -, X6, ⟨Lc6, hQ6, l6, y6, z6⟩, st6⟩ := Jvm.LawKit.callS X5 hx (y := My17) hown (mvT hZ (ww hw 77 rfl)) (mvT hZ (ww hw 78 rfl)) (mvT hZ (ww hw 22 rfl)) (mvT hZ (ww hw 79 rfl)) (by decide) (backOf (W := 0) (rm17_5 l Z a0 hw [] z_COMPACT_STRINGS b2_1_5 k2_1_5 (bb (bb (p0 >>> ((0 : Int32) &&& 31)))) (bb (bb (p0 >>> ((8 : Int32) &&& 31)))) (bb (bb (p1 >>> ((0 : Int32) &&& 31)))) (bb (bb (p1 >>> ((8 : Int32) &&& 31)))) T5.heap n0 O5 S P0_5) hZ (ww hw 79 rfl) (ww hw 22 rfl) (by decide) (by decide)) (g := (mkF m 32 #[va o0, vi 0, vi 2, va b1, vi 1, va b2_1_5] [(.int 1), (.ref b2_1_5)])) rfl (by rw [hml]; rfl) (argsL := [(.ref b2_1_5), (.int 1)]) (rest := []) (lenOf pd_5 rfl) rfl (by show 2 * 0 + _ ≤ _; exact Nat.le_of_eq rfl) (hb hby d5_32) (fun _ _ => ⟨rfl, rfl, (by decide : 2 + 0 ≤ _), (by decide : 6 + 0 ≤ _)⟩)
  dsimp only [Pt.U, Pt.locs, Pt.cells, Pt.slots] at X6 l6 y6 z6 st6 hQ6
  subst l6 y6 z6
  obtain ⟨rfl, Nq6, e6⟩ := hQ6
  have N6 := Fr.app N5 Nq6
  obtain ⟨fs, hr, hrun, hended, hW, hsame⟩ := X6.leave (v := (some (.ref b2_1_5))) (fun h => by rw [hrt] at h; cases h)
  refine ⟨_, _, ?_, hrun, hended, _, _, rfl, ?_, ⟨_, rfl⟩, hW, hsame.mono (by decide) (by decide)⟩
  · show Steps p.tables e below (s₁.setTop (mkF m 0 #[va o0, vi 0, vi 2, uu, uu, uu] [])) _
    refine XS.iloadN X0.here hx rfl (hb hby d5_0) rfl ?_
    refine st1 _ ?_
    refine XS.astoreN X1.here hx rfl (hb hby d5_3) rfl rfl (l' := #[va o0, vi 0, vi 2, va b1, uu, uu]) rfl ?_
    refine XS.aloadN X1.here hx rfl (hb hby d5_4) rfl rfl ?_
    refine XS.iloadN X1.here hx rfl (hb hby d5_5) rfl ?_
    refine XS.aloadN X1.here hx rfl (hb hby d5_6) rfl rfl ?_
    refine XS.iconst X1.here hx rfl (hb hby d5_7) ?_
    refine XS.iloadN X1.here hx rfl (hb hby d5_8) rfl ?_
    show Steps p.tables e below (T1.setTop (mkF m 9 #[va o0, vi 0, vi 2, va b1, uu, uu] [(.int 2), (.int 0), (.ref b1), (.int 0), (.ref o0)])) _
    refine st3 _ ?_
    refine XS.istore X3.here hx rfl (hb hby d5_12) rfl (l' := #[va o0, vi 0, vi 2, va b1, vi 1, uu]) rfl ?_
    refine XS.iload X3.here hx rfl (hb hby d5_14) rfl ?_
    refine XS.iloadN X3.here hx rfl (hb hby d5_16) rfl ?_
    refine XS.icmpNo X3.here hx rfl (hb hby d5_17) rfl (feq (by decide : ¬ ((1 : Int32) = (2 : Int32)))).1 ?_
    refine XS.aloadN X3.here hx rfl (hb hby d5_20) rfl rfl ?_
    refine XS.iloadN X3.here hx rfl (hb hby d5_21) rfl ?_
    refine XS.iloadN X3.here hx rfl (hb hby d5_22) rfl ?_
    show Steps p.tables e below (T3.setTop (mkF m 23 #[va o0, vi 0, vi 2, va b1, vi 1, uu] [(.int 2), (.int 0), (.ref o0)])) _
    refine st5 _ ?_
    refine XS.astore X5.here hx rfl (hb hby d5_26) rfl rfl (l' := #[va o0, vi 0, vi 2, va b1, vi 1, va b2_1_5]) rfl ?_
    refine XS.aload X5.here hx rfl (hb hby d5_28) rfl rfl ?_
    refine XS.iload X5.here hx rfl (hb hby d5_30) rfl ?_
    refine st6 _ ?_
    refine XS.sipush X6.here hx rfl (hb hby d5_35) ?_
    refine XS.icmpYes X6.here hx rfl (pc0 := 38) (pc' := 54) rfl (hb hby d5_38) rfl (tlt (own_getChar (own_fitsC V_o0 1 (by decide)) hc1)).2.2.1 (by decide) (by decide) ?_
    refine XS.aload X6.here hx rfl (hb hby d5_54) rfl rfl ?_
    show Steps p.tables e below (T6.setTop (mkF m 56 #[va o0, vi 0, vi 2, va b1, vi 1, va b2_1_5] [(.ref b2_1_5)])) _
    exact retOut X6 hx (t := (.array .byte)) (i := .areturn) hrt rfl (Or.inr (Or.inr (Or.inr (Or.inr ⟨rfl, rfl, rfl⟩)))) (hb hby d5_56) hr
  · show Q5_8 Z z_COMPACT_STRINGS o0 kk_o0 p0 p1 h0 n0 (some (.ref b2_1_5)) T6.heap _
    rw [e6]; exact ⟨b2_1_5, k2_1_5, rfl, N6, K5, P0_5, sz_b2_1_5⟩
def Q6_9 (Z : State) (z_COMPACT_STRINGS : Int32) (o0 : Addr) (o1 : Addr) (kk_o0 : ClassId) (kk_o1 : ClassId) (p0 : Int32) (p1 : Int32) (h0 : Heap) (n0 : Nat) (v : Option Value) (h : Heap) (L : List Loc) : Prop := v = (some (.int 0)) ∧ Fr n0 L ∧ h = h0
theorem rm6_9 (l : Launch) (Z : State) (a0 : Array Value) (hw : HW Z a0) (ws : List Jvm.Cond) (z_COMPACT_STRINGS : Int32) (o0 : Addr) (o1 : Addr) (kk_o0 : ClassId) (kk_o1 : ClassId) (p0 : Int32) (p1 : Int32) (h0 : Heap) (n0 : Nat) (O0 : Old Z n0 h0) (S : SF Z z_COMPACT_STRINGS) (V_o0 : Arv Z h0 o0 kk_o0 .char (2 : Int32) [(.int p0), (.int p1)] (.int 0)) (hc0 : (255 : Int32) < p0) :
    Pay l Z My6 ws jdk_52_method_21_code 7 (some .int) #[(.ref o0), (.int 0), (.ref o1), (.int 0), (.int 2)] h0 ({ frames := 0, cells := 0, slots := 0, locals := 0 } : Room) (Q6_9 Z z_COMPACT_STRINGS o0 o1 kk_o0 kk_o1 p0 p1 h0 n0) := by
  refine own_body (plainFor_of_name pn_2) (L0 := #[va o0, vi 0, va o1, vi 0, vi 2, uu, uu]) (fun _ => by first | rfl | (simp [entryFrame, mkF, argsToLocals, Value.category]; done)) ?_
  intro p e s m below meth c s₁ hrt hlk hx hby hml hZ hown0 hnm X0 e0
  have hown : s.vm.findClass sC1 = some m.cls := hown0
  have N0 := Fr.nil n0
  have K0 : Keep h0 h0 [] := Keep.refl _ _
  obtain ⟨cl1, Ar1, qk1, Sz1, Ng1, Hh1, Gg1⟩ := id V_o0
  have hin1_0 : ¬ ((0 : Int32) < 0 ∨ cl1.slots.size ≤ ((0 : Int32)).toNatClampNeg) := inb_of Sz1 ⟨by decide, by decide⟩
  obtain ⟨fs, hr, hrun, hended, hW, hsame⟩ := X0.leave (v := (some (.int 0))) (fun h => by rw [hrt] at h; cases h)
  refine ⟨_, _, ?_, hrun, hended, _, _, rfl, ?_, ⟨_, rfl⟩, hW, hsame.mono (by decide) (by decide)⟩
  · show Steps p.tables e below (s₁.setTop (mkF m 0 #[va o0, vi 0, va o1, vi 0, vi 2, uu, uu] [])) _
    refine XS.iconst X0.here hx rfl (hb hby d6_0) ?_
    refine XS.istore X0.here hx rfl (hb hby d6_1) rfl (l' := #[va o0, vi 0, va o1, vi 0, vi 2, vi 0, uu]) rfl ?_
    refine XS.iload X0.here hx rfl (hb hby d6_3) rfl ?_
    refine XS.iload X0.here hx rfl (hb hby d6_5) rfl ?_
    refine XS.icmpNo X0.here hx rfl (hb hby d6_7) rfl (tlt (by decide : (0 : Int32) < (2 : Int32))).2.1 ?_
    refine XS.aloadN X0.here hx rfl (hb hby d6_10) rfl rfl ?_
    refine XS.iloadN X0.here hx rfl (hb hby d6_11) rfl ?_
    refine X0.caload hx (j := (0 : Int32)) (v := (.int p0)) (by rw [e0]; exact Ar1.1) (State.isArrayOf_alike hZ.alike Ar1.2.1) Ar1.2.2 hin1_0 (Has.at Hh1 hin1_0 rfl) (g := (mkF m 12 #[va o0, vi 0, va o1, vi 0, vi 2, vi 0, uu] [(.int 0), (.ref o0)])) rfl rfl (hb hby d6_12) _ ?_
    show Steps p.tables e below (s₁.setTop (mkF m 13 #[va o0, vi 0, va o1, vi 0, vi 2, vi 0, uu] [(.int p0)])) _
    refine XS.istore X0.here hx rfl (hb hby d6_13) rfl (l' := #[va o0, vi 0, va o1, vi 0, vi 2, vi 0, vi p0]) rfl ?_
    refine XS.iload X0.here hx rfl (hb hby d6_15) rfl ?_
    refine XS.sipush X0.here hx rfl (hb hby d6_17) ?_
    refine XS.icmpNo X0.here hx rfl (hb hby d6_20) rfl (tlt hc0).2.2.2 ?_
    refine XS.iload X0.here hx rfl (hb hby d6_23) rfl ?_
    exact retOut X0 hx (t := .int) (i := .ireturn) hrt rfl (Or.inl ⟨rfl, Or.inl rfl, _, rfl⟩) (hb hby d6_25) hr
  · show Q6_9 Z z_COMPACT_STRINGS o0 o1 kk_o0 kk_o1 p0 p1 h0 n0 (some (.int 0)) s₁.heap _
    exact (⟨rfl, N0, e0⟩)
def Q17_6 (Z : State) (z_COMPACT_STRINGS : Int32) (o0 : Addr) (kk_o0 : ClassId) (p0 : Int32) (p1 : Int32) (p2 : Int32) (p3 : Int32) (h0 : Heap) (n0 : Nat) (v : Option Value) (h : Heap) (L : List Loc) : Prop := v = (some (.int (cc (cc (((p0 &&& (255 : Int32)) <<< ((0 : Int32) &&& 31)) ||| ((p1 &&& (255 : Int32)) <<< ((8 : Int32) &&& 31))))))) ∧ Fr n0 L ∧ h = h0
theorem rm17_6 (l : Launch) (Z : State) (a0 : Array Value) (hw : HW Z a0) (ws : List Jvm.Cond) (z_COMPACT_STRINGS : Int32) (o0 : Addr) (kk_o0 : ClassId) (p0 : Int32) (p1 : Int32) (p2 : Int32) (p3 : Int32) (h0 : Heap) (n0 : Nat) (O0 : Old Z n0 h0) (S : SF Z z_COMPACT_STRINGS) (V_o0 : Arv Z h0 o0 kk_o0 .byte (4 : Int32) [(.int p0), (.int p1), (.int p2), (.int p3)] (.int 0)) :
    Pay l Z My17 ws jdk_52_method_5_code 2 (some .char) #[(.ref o0), (.int 0)] h0 ({ frames := 0, cells := 0, slots := 0, locals := 0 } : Room) (Q17_6 Z z_COMPACT_STRINGS o0 kk_o0 p0 p1 p2 p3 h0 n0) := by
  obtain ⟨-, -, S_StringUTF16__assertionsDisabled, S_StringUTF16_HI_BYTE_SHIFT, S_StringUTF16_LO_BYTE_SHIFT, -⟩ := id S
  refine own_body (plainFor_of_name pn_2) (L0 := #[va o0, vi 0]) (fun _ => by first | rfl | (simp [entryFrame, mkF, argsToLocals, Value.category]; done)) ?_
  intro p e s m below meth c s₁ hrt hlk hx hby hml hZ hown0 hnm X0 e0
  have hown : s.vm.findClass sC1 = some m.cls := hown0
  have N0 := Fr.nil n0
  have K0 : Keep h0 h0 [] := Keep.refl _ _
  obtain ⟨T1, X1, e1, st1⟩ := getS2 X0 hx hZ hown (host := "") (Or.inl (ww hw 74 rfl)) Via.refl e0 (S_StringUTF16__assertionsDisabled.ext O0.2) (g := (mkF m 0 #[va o0, vi 0] [])) rfl (hb hby d17_0)
  obtain ⟨cl2, Ar2, qk2, Sz2, Ng2, Hh2, Gg2⟩ := id V_o0
  have hin2_0 : ¬ ((0 : Int32) < 0 ∨ cl2.slots.size ≤ ((0 : Int32)).toNatClampNeg) := inb_of Sz2 ⟨by decide, by decide⟩
  obtain ⟨T3, X3, e3, st3⟩ := getS2 X1 hx hZ hown (host := "") (Or.inl (ww hw 75 rfl)) Via.refl e1 (S_StringUTF16_HI_BYTE_SHIFT.ext O0.2) (g := (mkF m 42 #[va o0, vi 1] [(.int (p0 &&& (255 : Int32)))])) rfl (hb hby d17_42)
  have hin2_1 : ¬ ((1 : Int32) < 0 ∨ cl2.slots.size ≤ ((1 : Int32)).toNatClampNeg) := inb_of Sz2 ⟨by decide, by decide⟩
  obtain ⟨T4, X4, e4, st4⟩ := getS2 X3 hx hZ hown (host := "") (Or.inl (ww hw 76 rfl)) Via.refl e3 (S_StringUTF16_LO_BYTE_SHIFT.ext O0.2) (g := (mkF m 53 #[va o0, vi 1] [(.int (p1 &&& (255 : Int32))), (.int ((p0 &&& (255 : Int32)) <<< ((0 : Int32) &&& 31)))])) rfl (hb hby d17_53)
  obtain ⟨fs, hr, hrun, hended, hW, hsame⟩ := X4.leave (v := (some (.int (cc (cc (((p0 &&& (255 : Int32)) <<< ((0 : Int32) &&& 31)) ||| ((p1 &&& (255 : Int32)) <<< ((8 : Int32) &&& 31)))))))) (fun h => by rw [hrt] at h; cases h)
  refine ⟨_, _, ?_, hrun, hended, _, _, rfl, ?_, ⟨_, rfl⟩, hW, hsame.mono (by decide) (by decide)⟩
  · show Steps p.tables e below (s₁.setTop (mkF m 0 #[va o0, vi 0] [])) _
    refine st1 _ ?_
    refine XS.ifYes X1.here hx rfl (pc0 := 3) (pc' := 28) rfl (hb hby d17_3) rfl ((if0 _ _).trans (feq (by decide : ¬ ((1 : Int32) = (0 : Int32)))).2) (by decide) (by decide) ?_
    refine XS.iloadN X1.here hx rfl (hb hby d17_28) rfl ?_
    refine XS.iconst X1.here hx rfl (hb hby d17_29) ?_
    refine XS.ishl X1.here hx rfl (hb hby d17_30) rfl ?_
    show Steps p.tables e below (T1.setTop (mkF m 31 #[va o0, vi 0] [(.int ((0 : Int32) <<< ((1 : Int32) &&& 31)))])) _
    rw [show (((0 : Int32) <<< ((1 : Int32) &&& 31)) : Int32) = (0 : Int32) from by decide]
    refine XS.istoreN X1.here hx rfl (hb hby d17_31) rfl (l' := #[va o0, vi 0]) rfl ?_
    refine XS.aloadN X1.here hx rfl (hb hby d17_32) rfl rfl ?_
    refine XS.iloadN X1.here hx rfl (hb hby d17_33) rfl ?_
    refine XS.iinc X1.here hx rfl (hb hby d17_34) rfl (l' := #[va o0, vi ((0 : Int32) + (1 : Int32))]) rfl ?_
    show Steps p.tables e below (T1.setTop (mkF m 37 #[va o0, vi ((0 : Int32) + (1 : Int32))] [(.int 0), (.ref o0)])) _
    rw [show (((0 : Int32) + (1 : Int32)) : Int32) = (1 : Int32) from by decide]
    refine X1.baloadBytes hx (j := (0 : Int32)) (v := (.int p0)) (by rw [e1]; exact Ar2.1) (State.isArrayOf_alike hZ.alike Ar2.2.1) Ar2.2.2 hin2_0 (Has.at Hh2 hin2_0 rfl) (g := (mkF m 37 #[va o0, vi 1] [(.int 0), (.ref o0)])) rfl rfl (hb hby d17_37) _ ?_
    refine XS.sipush X1.here hx rfl (hb hby d17_38) ?_
    refine XS.iand X1.here hx rfl (hb hby d17_41) rfl ?_
    refine st3 _ ?_
    refine XS.ishl X3.here hx rfl (hb hby d17_45) rfl ?_
    refine XS.aloadN X3.here hx rfl (hb hby d17_46) rfl rfl ?_
    refine XS.iloadN X3.here hx rfl (hb hby d17_47) rfl ?_
    show Steps p.tables e below (T3.setTop (mkF m 48 #[va o0, vi 1] [(.int 1), (.ref o0), (.int ((p0 &&& (255 : Int32)) <<< ((0 : Int32) &&& 31)))])) _
    refine X3.baloadBytes hx (j := (1 : Int32)) (v := (.int p1)) (by rw [e3]; exact Ar2.1) (State.isArrayOf_alike hZ.alike Ar2.2.1) Ar2.2.2 hin2_1 (Has.at Hh2 hin2_1 rfl) (g := (mkF m 48 #[va o0, vi 1] [(.int 1), (.ref o0), (.int ((p0 &&& (255 : Int32)) <<< ((0 : Int32) &&& 31)))])) rfl rfl (hb hby d17_48) _ ?_
    refine XS.sipush X3.here hx rfl (hb hby d17_49) ?_
    refine XS.iand X3.here hx rfl (hb hby d17_52) rfl ?_
    refine st4 _ ?_
    refine XS.ishl X4.here hx rfl (hb hby d17_56) rfl ?_
    refine XS.ior X4.here hx rfl (hb hby d17_57) rfl ?_
    refine XS.i2c X4.here hx rfl (hb hby d17_58) rfl ?_
    exact retN X4 hx (t := .char) hrt (by simp) (hb hby d17_59) hr
  · show Q17_6 Z z_COMPACT_STRINGS o0 kk_o0 p0 p1 p2 p3 h0 n0 (some (.int (cc (cc (((p0 &&& (255 : Int32)) <<< ((0 : Int32) &&& 31)) ||| ((p1 &&& (255 : Int32)) <<< ((8 : Int32) &&& 31))))))) T4.heap _
    exact (⟨rfl, N0, e4⟩)
def Q5_9 (Z : State) (z_COMPACT_STRINGS : Int32) (o0 : Addr) (kk_o0 : ClassId) (p0 : Int32) (p1 : Int32) (h0 : Heap) (n0 : Nat) (v : Option Value) (h : Heap) (L : List Loc) : Prop := ∃ (b2_1_4 : Addr), ∃ (k2_1_4 : ClassId), v = (some (.ref b2_1_4)) ∧ Fr n0 L ∧ Keep h0 h [] ∧ Arv Z h b2_1_4 k2_1_4 .byte (4 : Int32) [(.int (bb (bb (p0 >>> ((0 : Int32) &&& 31))))), (.int (bb (bb (p0 >>> ((8 : Int32) &&& 31))))), (.int (bb (bb (p1 >>> ((0 : Int32) &&& 31))))), (.int (bb (bb (p1 >>> ((8 : Int32) &&& 31)))))] (.int 0) ∧ h0.size ≤ b2_1_4
theorem rm5_9 (l : Launch) (Z : State) (a0 : Array Value) (hw : HW Z a0) (ws : List Jvm.Cond) (z_COMPACT_STRINGS : Int32) (o0 : Addr) (kk_o0 : ClassId) (p0 : Int32) (p1 : Int32) (h0 : Heap) (n0 : Nat) (O0 : Old Z n0 h0) (S : SF Z z_COMPACT_STRINGS) (V_o0 : Arv Z h0 o0 kk_o0 .char (2 : Int32) [(.int p0), (.int p1)] (.int 0)) (hc0 : (255 : Int32) < p0) :
    Pay l Z My5 ws jdk_52_method_16_code 6 (some (.array .byte)) #[(.ref o0), (.int 0), (.int 2)] h0 ({ frames := 3, cells := 2, slots := 6, locals := 40 } : Room) (Q5_9 Z z_COMPACT_STRINGS o0 kk_o0 p0 p1 h0 n0) := by
  refine own_body (plainFor_of_name pn_2) (L0 := #[va o0, vi 0, vi 2, uu, uu, uu]) (fun _ => by first | rfl | (simp [entryFrame, mkF, argsToLocals, Value.category]; done)) ?_
  intro p e s m below meth c s₁ hrt hlk hx hby hml hZ hown0 hnm X0 e0
  have hown : s.vm.findClass sC1 = some m.cls := hown0
  have N0 := Fr.nil n0
  have K0 : Keep h0 h0 [] := Keep.refl _ _
  obtain ⟨T1, h1, k1, X1, e1, E1, A1, st1⟩ := newP X0 hx hZ (ww hw 24 rfl) e0 (g := (mkF m 1 #[va o0, vi 0, vi 2, uu, uu, uu] [(.int 2)])) rfl (hb hby d5_1) rfl (by decide) (cap := 2) (by decide) (by decide) (by decide) (by decide)
  obtain ⟨b1, qs1⟩ : ∃ z, z = h0.size := ⟨_, rfl⟩
  rw [← qs1] at A1 st1
  have ne_o0_b1 : o0 ≠ b1 := Nat.ne_of_lt (Nat.lt_of_lt_of_le V_o0.lt (Nat.le_of_eq qs1.symm))
  have g_b1 : n0 ≤ b1 := Nat.le_trans (own_old O0) (Nat.le_of_eq qs1.symm)
  have sz_b1 : h0.size ≤ b1 := Nat.le_trans K0.1 (Nat.le_of_eq qs1.symm)
  have O1 := O0.ext E1
  have K1 : Keep h0 h1 [] := K0.ext E1
  have V_b1 : Arv Z h1 b1 k1 .byte (2 : Int32) [(.int 0), (.int 0)] (.int 0) := (Arv.new A1 (by decide)).pad (pad_rep [] (.int 0) 2)
  have fc2 := (V_o0.ext E1)
  obtain ⟨_, _, ⟨T3, L3, k3, n3⟩, -, X3, ⟨Lc3, hQ3, l3, y3, z3⟩, st3⟩ := Jvm.LawKit.callS X1 hx (y := My6) hown (mvT hZ (ww hw 25 rfl)) (mvT hZ (ww hw 26 rfl)) (mvT hZ (ww hw 22 rfl)) (mvT hZ (ww hw 27 rfl)) (by decide) (backOf (W := 0) (rm6_9 l Z a0 hw [] z_COMPACT_STRINGS o0 b1 kk_o0 k1 p0 p1 h1 n0 O1 S fc2 hc0) hZ (ww hw 27 rfl) (ww hw 22 rfl) (by decide) (by decide)) (g := (mkF m 9 #[va o0, vi 0, vi 2, va b1, uu, uu] [(.int 2), (.int 0), (.ref b1), (.int 0), (.ref o0)])) rfl (by rw [hml]; rfl) (argsL := [(.ref o0), (.int 0), (.ref b1), (.int 0), (.int 2)]) (rest := []) (lenOf pd_0 rfl) rfl (by show 2 * 0 + _ ≤ _; exact Nat.le_of_eq rfl) (hb hby d5_9) (fun _ _ => ⟨rfl, e1, (by decide : 1 + 0 ≤ _), (by decide : 2 + 0 ≤ _)⟩)
  dsimp only [Pt.U, Pt.locs, Pt.cells, Pt.slots] at X3 l3 y3 z3 st3 hQ3
  subst l3 y3 z3
  obtain ⟨rfl, Nq3, e3⟩ := hQ3
  have N3 := Fr.app N0 Nq3
  obtain ⟨_, _, ⟨T4, L4, k4, n4⟩, -, X4, ⟨Lc4, hQ4, l4, y4, z4⟩, st4⟩ := Jvm.LawKit.callS X3 hx (y := My13) hown (mvT hZ (ww hw 61 rfl)) (mvT hZ (ww hw 62 rfl)) (mvT hZ (ww hw 22 rfl)) (mvT hZ (ww hw 63 rfl)) (by decide) (backOf (W := 0) (rm13_2 l Z a0 hw [] z_COMPACT_STRINGS o0 kk_o0 p0 p1 h1 n0 O1 S fc2) hZ (ww hw 63 rfl) (ww hw 22 rfl) (by decide) (by decide)) (g := (mkF m 23 #[va o0, vi 0, vi 2, va b1, vi 0, uu] [(.int 2), (.int 0), (.ref o0)])) rfl (by rw [hml]; rfl) (argsL := [(.ref o0), (.int 0), (.int 2)]) (rest := []) (lenOf pd_4 rfl) rfl (by show 2 * 0 + _ ≤ _; exact Nat.le_of_eq rfl) (hb hby d5_23) (fun _ _ => ⟨rfl, e3, (by decide : 1 + 1 ≤ _), (by decide : 2 + 4 ≤ _)⟩)
  dsimp only [Pt.U, Pt.locs, Pt.cells, Pt.slots] at X4 l4 y4 z4 st4 hQ4
  subst l4 y4 z4
  obtain ⟨b2_1_4, k2_1_4, rfl, Nq4, Kc4, P0_4, P1_4⟩ := hQ4
  have N4 := Fr.app N3 Nq4
  have ne_o0_b2_1_4 : o0 ≠ b2_1_4 := Nat.ne_of_lt (Nat.lt_of_lt_of_le fc2.lt P1_4)
  have ne_b1_b2_1_4 : b1 ≠ b2_1_4 := Nat.ne_of_lt (Nat.lt_of_lt_of_le V_b1.lt P1_4)
  have g_b2_1_4 : n0 ≤ b2_1_4 := Nat.le_trans (own_old O1) P1_4
  have sz_b2_1_4 : h0.size ≤ b2_1_4 := Nat.le_trans K1.1 P1_4
  have O4 := O1.keep Kc4 all0
  have K4 : Keep h0 T4.heap [] := K1.trans Kc4 all0
  obtain ⟨_, _, ⟨T5, L5, k5, n5⟩, -, X5, ⟨Lc5, hQ5, l5, y5, z5⟩, st5⟩ := Jvm.LawKit.callS X4 hx (y := My17) hown (mvT hZ (ww hw 77 rfl)) (mvT hZ (ww hw 78 rfl)) (mvT hZ (ww hw 22 rfl)) (mvT hZ (ww hw 79 rfl)) (by decide) (backOf (W := 0) (rm17_6 l Z a0 hw [] z_COMPACT_STRINGS b2_1_4 k2_1_4 (bb (bb (p0 >>> ((0 : Int32) &&& 31)))) (bb (bb (p0 >>> ((8 : Int32) &&& 31)))) (bb (bb (p1 >>> ((0 : Int32) &&& 31)))) (bb (bb (p1 >>> ((8 : Int32) &&& 31)))) T4.heap n0 O4 S P0_4) hZ (ww hw 79 rfl) (ww hw 22 rfl) (by decide) (by decide)) (g := (mkF m 32 #[va o0, vi 0, vi 2, va b1, vi 0, va b2_1_4] [(.int 0), (.ref b2_1_4)])) rfl (by rw [hml]; rfl) (argsL := [(.ref b2_1_4), (.int 0)]) (rest := []) (lenOf pd_5 rfl) rfl (by show 2 * 0 + _ ≤ _; exact Nat.le_of_eq rfl) (hb hby d5_32) (fun _ _ => ⟨rfl, rfl, (by decide : 2 + 0 ≤ _), (by decide : 6 + 0 ≤ _)⟩)
  dsimp only [Pt.U, Pt.locs, Pt.cells, Pt.slots] at X5 l5 y5 z5 st5 hQ5
  subst l5 y5 z5
  obtain ⟨rfl, Nq5, e5⟩ := hQ5
  have N5 := Fr.app N4 Nq5
  obtain ⟨fs, hr, hrun, hended, hW, hsame⟩ := X5.leave (v := (some (.ref b2_1_4))) (fun h => by rw [hrt] at h; cases h)
  refine ⟨_, _, ?_, hrun, hended, _, _, rfl, ?_, ⟨_, rfl⟩, hW, hsame.mono (by decide) (by decide)⟩
  · show Steps p.tables e below (s₁.setTop (mkF m 0 #[va o0, vi 0, vi 2, uu, uu, uu] [])) _
    refine XS.iloadN X0.here hx rfl (hb hby d5_0) rfl ?_
    refine st1 _ ?_
    refine XS.astoreN X1.here hx rfl (hb hby d5_3) rfl rfl (l' := #[va o0, vi 0, vi 2, va b1, uu, uu]) rfl ?_
    refine XS.aloadN X1.here hx rfl (hb hby d5_4) rfl rfl ?_
    refine XS.iloadN X1.here hx rfl (hb hby d5_5) rfl ?_
    refine XS.aloadN X1.here hx rfl (hb hby d5_6) rfl rfl ?_
    refine XS.iconst X1.here hx rfl (hb hby d5_7) ?_
    refine XS.iloadN X1.here hx rfl (hb hby d5_8) rfl ?_
    show Steps p.tables e below (T1.setTop (mkF m 9 #[va o0, vi 0, vi 2, va b1, uu, uu] [(.int 2), (.int 0), (.ref b1), (.int 0), (.ref o0)])) _
    refine st3 _ ?_
    refine XS.istore X3.here hx rfl (hb hby d5_12) rfl (l' := #[va o0, vi 0, vi 2, va b1, vi 0, uu]) rfl ?_
    refine XS.iload X3.here hx rfl (hb hby d5_14) rfl ?_
    refine XS.iloadN X3.here hx rfl (hb hby d5_16) rfl ?_
    refine XS.icmpNo X3.here hx rfl (hb hby d5_17) rfl (feq (by decide : ¬ ((0 : Int32) = (2 : Int32)))).1 ?_
    refine XS.aloadN X3.here hx rfl (hb hby d5_20) rfl rfl ?_
    refine XS.iloadN X3.here hx rfl (hb hby d5_21) rfl ?_
    refine XS.iloadN X3.here hx rfl (hb hby d5_22) rfl ?_
    show Steps p.tables e below (T3.setTop (mkF m 23 #[va o0, vi 0, vi 2, va b1, vi 0, uu] [(.int 2), (.int 0), (.ref o0)])) _
    refine st4 _ ?_
    refine XS.astore X4.here hx rfl (hb hby d5_26) rfl rfl (l' := #[va o0, vi 0, vi 2, va b1, vi 0, va b2_1_4]) rfl ?_
    refine XS.aload X4.here hx rfl (hb hby d5_28) rfl rfl ?_
    refine XS.iload X4.here hx rfl (hb hby d5_30) rfl ?_
    refine st5 _ ?_
    refine XS.sipush X5.here hx rfl (hb hby d5_35) ?_
    refine XS.icmpYes X5.here hx rfl (pc0 := 38) (pc' := 54) rfl (hb hby d5_38) rfl (tlt (own_getChar (own_fitsC V_o0 0 (by decide)) hc0)).2.2.1 (by decide) (by decide) ?_
    refine XS.aload X5.here hx rfl (hb hby d5_54) rfl rfl ?_
    show Steps p.tables e below (T5.setTop (mkF m 56 #[va o0, vi 0, vi 2, va b1, vi 0, va b2_1_4] [(.ref b2_1_4)])) _
    exact retOut X5 hx (t := (.array .byte)) (i := .areturn) hrt rfl (Or.inr (Or.inr (Or.inr (Or.inr ⟨rfl, rfl, rfl⟩)))) (hb hby d5_56) hr
  · show Q5_9 Z z_COMPACT_STRINGS o0 kk_o0 p0 p1 h0 n0 (some (.ref b2_1_4)) T5.heap _
    rw [e5]; exact ⟨b2_1_4, k2_1_4, rfl, N5, K4, P0_4, sz_b2_1_4⟩
def gp2 (p0 : Int32) (p1 : Int32) : Prop := ((¬ ((255 : Int32) < p0)) ∧ (¬ ((255 : Int32) < p1)))
def Qg2_0 (Z : State) (z_COMPACT_STRINGS : Int32) (o0 : Addr) (kk_o0 : ClassId) (p0 : Int32) (p1 : Int32) (h0 : Heap) (n0 : Nat) (v : Option Value) (h : Heap) (L : List Loc) : Prop := ∃ (b1 : Addr), ∃ (k1 : ClassId), ∃ (ce0 : Int32), ∃ (ce1 : Int32), v = (some (.ref b1)) ∧ Fr n0 L ∧ Keep h0 h [] ∧ Arv Z h b1 k1 .byte (2 : Int32) [(.int ce0), (.int ce1)] (.int 0) ∧ h0.size ≤ b1
theorem gm2_0 (l : Launch) (Z : State) (a0 : Array Value) (hw : HW Z a0) (ws : List Jvm.Cond) (z_COMPACT_STRINGS : Int32) (o0 : Addr) (kk_o0 : ClassId) (p0 : Int32) (p1 : Int32) (h0 : Heap) (n0 : Nat) (O0 : Old Z n0 h0) (S : SF Z z_COMPACT_STRINGS) (V_o0 : Arv Z h0 o0 kk_o0 .char (2 : Int32) [(.int p0), (.int p1)] (.int 0)) (hP : gp2 p0 p1) :
    Pay l Z My5 ws jdk_52_method_16_code 6 (some (.array .byte)) #[(.ref o0), (.int 0), (.int 2)] h0 ({ frames := 1, cells := 1, slots := 2, locals := 18 } : Room) (Qg2_0 Z z_COMPACT_STRINGS o0 kk_o0 p0 p1 h0 n0) := by
  by_cases hm0 : (255 : Int32) < p0
  · exact absurd hP (by simp [gp2, hm0])
  · by_cases hm1 : (255 : Int32) < p1
    · exact absurd hP (by simp [gp2, hm0, hm1])
    · refine MetFree.mono (rm5_7 l Z a0 hw ws z_COMPACT_STRINGS o0 kk_o0 p0 p1 h0 n0 O0 S V_o0 hm0 hm1) (fun _ _ q => q) (fun _ _ _ _ _ q => q) ?_
      rintro _ U o U' - ⟨v, L, rfl, ⟨f0, k0, rfl, N, K, r0, r1⟩, fe⟩
      exact ⟨_, L, rfl, ⟨f0, k0, _, _, rfl, N, K, r0, r1⟩, fe⟩
def Qg2_1 (Z : State) (z_COMPACT_STRINGS : Int32) (o0 : Addr) (kk_o0 : ClassId) (p0 : Int32) (p1 : Int32) (h0 : Heap) (n0 : Nat) (v : Option Value) (h : Heap) (L : List Loc) : Prop := ∃ (b2_1_5 : Addr), ∃ (k2_1_5 : ClassId), ∃ (ce0 : Int32), ∃ (ce1 : Int32), ∃ (ce2 : Int32), ∃ (ce3 : Int32), v = (some (.ref b2_1_5)) ∧ Fr n0 L ∧ Keep h0 h [] ∧ Arv Z h b2_1_5 k2_1_5 .byte (4 : Int32) [(.int ce0), (.int ce1), (.int ce2), (.int ce3)] (.int 0) ∧ h0.size ≤ b2_1_5
theorem gm2_1 (l : Launch) (Z : State) (a0 : Array Value) (hw : HW Z a0) (ws : List Jvm.Cond) (z_COMPACT_STRINGS : Int32) (o0 : Addr) (kk_o0 : ClassId) (p0 : Int32) (p1 : Int32) (h0 : Heap) (n0 : Nat) (O0 : Old Z n0 h0) (S : SF Z z_COMPACT_STRINGS) (V_o0 : Arv Z h0 o0 kk_o0 .char (2 : Int32) [(.int p0), (.int p1)] (.int 0)) (hP : ¬ (gp2 p0 p1)) :
    Pay l Z My5 ws jdk_52_method_16_code 6 (some (.array .byte)) #[(.ref o0), (.int 0), (.int 2)] h0 ({ frames := 3, cells := 2, slots := 6, locals := 40 } : Room) (Qg2_1 Z z_COMPACT_STRINGS o0 kk_o0 p0 p1 h0 n0) := by
  by_cases hm0 : (255 : Int32) < p0
  · refine MetFree.mono (rm5_9 l Z a0 hw ws z_COMPACT_STRINGS o0 kk_o0 p0 p1 h0 n0 O0 S V_o0 hm0) (fun _ _ q => q) (fun _ _ _ _ _ q => q) ?_
    rintro _ U o U' - ⟨v, L, rfl, ⟨f0, k0, rfl, N, K, r0, r1⟩, fe⟩
    exact ⟨_, L, rfl, ⟨f0, k0, _, _, _, _, rfl, N, K, r0, r1⟩, fe⟩
  · by_cases hm1 : (255 : Int32) < p1
    · refine MetFree.mono (rm5_8 l Z a0 hw ws z_COMPACT_STRINGS o0 kk_o0 p0 p1 h0 n0 O0 S V_o0 hm0 hm1) (fun _ _ q => q) (fun _ _ _ _ _ q => q) ?_
      rintro _ U o U' - ⟨v, L, rfl, ⟨f0, k0, rfl, N, K, r0, r1⟩, fe⟩
      exact ⟨_, L, rfl, ⟨f0, k0, _, _, _, _, rfl, N, K, r0, r1⟩, fe⟩
    · exact absurd (by simp [gp2, hm0, hm1]) hP
def Q7_3 (Z : State) (z_COMPACT_STRINGS : Int32) (o0 : Addr) (kk_o0 : ClassId) (p0 : Int32) (p1 : Int32) (h0 : Heap) (n0 : Nat) (v : Option Value) (h : Heap) (L : List Loc) : Prop := v = (some (.int 0)) ∧ Fr n0 L ∧ h = h0
theorem rm7_3 (l : Launch) (Z : State) (a0 : Array Value) (hw : HW Z a0) (ws : List Jvm.Cond) (z_COMPACT_STRINGS : Int32) (o0 : Addr) (kk_o0 : ClassId) (p0 : Int32) (p1 : Int32) (h0 : Heap) (n0 : Nat) (O0 : Old Z n0 h0) (S : SF Z z_COMPACT_STRINGS) (V_o0 : Arv Z h0 o0 kk_o0 .byte (2 : Int32) [(.int p0), (.int p1)] (.int 0)) :
    Pay l Z My7 ws jdk_52_method_15_code 2 (some .byte) #[(.ref o0), (.int 2)] h0 ({ frames := 0, cells := 0, slots := 0, locals := 0 } : Room) (Q7_3 Z z_COMPACT_STRINGS o0 kk_o0 p0 p1 h0 n0) := by
  refine own_body (plainFor_of_name pn_2) (L0 := #[va o0, vi 2]) (fun _ => by first | rfl | (simp [entryFrame, mkF, argsToLocals, Value.category]; done)) ?_
  intro p e s m below meth c s₁ hrt hlk hx hby hml hZ hown0 hnm X0 e0
  have hown : s.vm.findClass sC1 = some m.cls := hown0
  have N0 := Fr.nil n0
  have K0 : Keep h0 h0 [] := Keep.refl _ _
  obtain ⟨cl1, Ar1, qk1, Sz1, Ng1, Hh1, Gg1⟩ := id V_o0
  obtain ⟨fs, hr, hrun, hended, hW, hsame⟩ := X0.leave (v := (some (.int 0))) (fun h => by rw [hrt] at h; cases h)
  refine ⟨_, _, ?_, hrun, hended, _, _, rfl, ?_, ⟨_, rfl⟩, hW, hsame.mono (by decide) (by decide)⟩
  · show Steps p.tables e below (s₁.setTop (mkF m 0 #[va o0, vi 2] [])) _
    refine XS.iloadN X0.here hx rfl (hb hby d7_0) rfl ?_
    refine XS.aloadN X0.here hx rfl (hb hby d7_1) rfl rfl ?_
    refine X0.arraylength hx (by rw [e0]; exact Ar1.1) (State.isArrayOf_alike hZ.alike Ar1.2.1) (g := (mkF m 2 #[va o0, vi 2] [(.ref o0), (.int 2)])) rfl rfl (hb hby d7_2) _ ?_
    rw [len_of Sz1 Ng1]
    refine XS.isub X0.here hx rfl (hb hby d7_3) rfl ?_
    show Steps p.tables e below (s₁.setTop (mkF m 4 #[va o0, vi 2] [(.int ((2 : Int32) - (2 : Int32)))])) _
    rw [show (((2 : Int32) - (2 : Int32)) : Int32) = (0 : Int32) from by decide]
    refine XS.bipush X0.here hx rfl (hb hby d7_4) ?_
    refine XS.iushr X0.here hx rfl (hb hby d7_6) rfl ?_
    show Steps p.tables e below (s₁.setTop (mkF m 7 #[va o0, vi 2] [(.int (((0 : Int32).toUInt32 >>> ((31 : Int32) &&& 31).toUInt32).toInt32))])) _
    rw [show ((((0 : Int32).toUInt32 >>> ((31 : Int32) &&& 31).toUInt32).toInt32) : Int32) = (0 : Int32) from by decide]
    refine XS.i2b X0.here hx rfl (hb hby d7_7) rfl ?_
    show Steps p.tables e below (s₁.setTop (mkF m 8 #[va o0, vi 2] [(.int (bb (0 : Int32)))])) _
    rw [show ((bb (0 : Int32)) : Int32) = (0 : Int32) from by decide]
    exact retN X0 hx (t := .byte) hrt (by simp) (hb hby d7_8) hr
  · show Q7_3 Z z_COMPACT_STRINGS o0 kk_o0 p0 p1 h0 n0 (some (.int 0)) s₁.heap _
    exact (⟨rfl, N0, e0⟩)
def Q3_3 (Z : State) (z_COMPACT_STRINGS : Int32) (o0 : Addr) (o1 : Addr) (kk_o1 : ClassId) (p0 : Int32) (p1 : Int32) (h0 : Heap) (n0 : Nat) (v : Option Value) (h : Heap) (L : List Loc) : Prop := ∃ (b1_3 : Addr), ∃ (k1_3 : ClassId), ∃ (ce0_3 : Int32), ∃ (ce1_3 : Int32), v = none ∧ Fr n0 L ∧ Keep h0 h [o0] ∧ Exa Z h o0 sC0 ∧ Fld Z h o0 sC0 "coder" "B" (.int 0) ∧ Fld Z h o0 sC0 "value" "[B" (.ref b1_3) ∧ Arv Z h b1_3 k1_3 .byte (2 : Int32) [(.int ce0_3), (.int ce1_3)] (.int 0) ∧ h0.size ≤ b1_3
theorem rm3_3 (l : Launch) (Z : State) (a0 : Array Value) (hw : HW Z a0) (ws : List Jvm.Cond) (z_COMPACT_STRINGS : Int32) (o0 : Addr) (o1 : Addr) (kk_o1 : ClassId) (p0 : Int32) (p1 : Int32) (h0 : Heap) (n0 : Nat) (O0 : Old Z n0 h0) (S : SF Z z_COMPACT_STRINGS) (E_o0 : Exa Z h0 o0 sC0) (F_coder_o0 : Fld Z h0 o0 sC0 "coder" "B" (.int 0)) (F_value_o0 : Fld Z h0 o0 sC0 "value" "[B" .null) (V_o1 : Arv Z h0 o1 kk_o1 .char (2 : Int32) [(.int p0), (.int p1)] (.int 0)) (g_o0 : n0 ≤ o0) (hc0 : gp2 p0 p1) :
    Pay l Z My3 ws jdk_42_method_149_code 6 none #[(.ref o0), (.ref o1), (.int 0), (.int 2), .null] h0 ({ frames := 2, cells := 1, slots := 2, locals := 35 } : Room) (Q3_3 Z z_COMPACT_STRINGS o0 o1 kk_o1 p0 p1 h0 n0) := by
  obtain ⟨S_z_COMPACT_STRINGS, hz_z_COMPACT_STRINGS, -⟩ := id S
  refine own_body (plainFor_of_name pn_1) (L0 := #[va o0, va o1, vi 0, vi 2, .val .null, uu]) (fun _ => by first | rfl | (simp [entryFrame, mkF, argsToLocals, Value.category]; done)) ?_
  intro p e s m below meth c s₁ hrt hlk hx hby hml hZ hown0 hnm X0 e0
  have hown : s.vm.findClass sC0 = some m.cls := hown0
  have N0 := Fr.nil n0
  have K0 : Keep h0 h0 [o0] := Keep.refl _ _
  obtain ⟨T1, X1, e1, st1⟩ := initO X0 hx hZ hown (ww hw 16 rfl) (ww hw 17 rfl) (ww hw 18 rfl) e0 (g := (mkF m 1 #[va o0, va o1, vi 0, vi 2, .val .null, uu] [(.ref o0)])) rfl (by rw [hml]; rfl) rfl (hb hby d3_1) (by decide) (W := 0) (by show 2 * 0 + _ ≤ _; exact Nat.le_of_eq rfl) (by decide)
  obtain ⟨T2, X2, e2, st2⟩ := getS2 X1 hx hZ hown (host := "") (Or.inl (ww hw 19 rfl)) Via.refl e1 (S_z_COMPACT_STRINGS.ext O0.2) (g := (mkF m 27 #[va o0, va o1, vi 0, vi 2, .val .null, uu] [])) rfl (hb hby d3_27)
  obtain ⟨_, _, ⟨T3, L3, k3, n3⟩, -, X3, ⟨Lc3, hQ3, l3, y3, z3⟩, st3⟩ := Jvm.LawKit.callS X2 hx (y := My5) hown (mvT hZ (ww hw 20 rfl)) (mvT hZ (ww hw 21 rfl)) (mvT hZ (ww hw 22 rfl)) (mvT hZ (ww hw 23 rfl)) (by decide) (backOf (W := 0) (gm2_0 l Z a0 hw [] z_COMPACT_STRINGS o1 kk_o1 p0 p1 h0 n0 O0 S V_o1 hc0) hZ (ww hw 23 rfl) (ww hw 22 rfl) (by decide) (by decide)) (g := (mkF m 36 #[va o0, va o1, vi 0, vi 2, .val .null, uu] [(.int 2), (.int 0), (.ref o1)])) rfl (by rw [hml]; rfl) (argsL := [(.ref o1), (.int 0), (.int 2)]) (rest := []) (lenOf pd_4 rfl) rfl (by show 2 * 0 + _ ≤ _; exact Nat.le_of_eq rfl) (hb hby d3_36) (fun _ _ => ⟨rfl, e2, (by decide : 0 + 1 ≤ _), (by decide : 0 + 2 ≤ _)⟩)
  dsimp only [Pt.U, Pt.locs, Pt.cells, Pt.slots] at X3 l3 y3 z3 st3 hQ3
  subst l3 y3 z3
  obtain ⟨b1_3, k1_3, ce0_3, ce1_3, rfl, Nq3, Kc3, P0_3, P1_3⟩ := hQ3
  have N3 := Fr.app N0 Nq3
  have ne_o0_b1_3 : o0 ≠ b1_3 := Nat.ne_of_lt (Nat.lt_of_lt_of_le E_o0.lt P1_3)
  have ne_o1_b1_3 : o1 ≠ b1_3 := Nat.ne_of_lt (Nat.lt_of_lt_of_le V_o1.lt P1_3)
  have g_b1_3 : n0 ≤ b1_3 := Nat.le_trans (own_old O0) P1_3
  have sz_b1_3 : h0.size ≤ b1_3 := Nat.le_trans K0.1 P1_3
  have O3 := O0.keep Kc3 all0
  have K3 : Keep h0 T3.heap [o0] := K0.trans Kc3 all0
  obtain ⟨_, _, ⟨T4, L4, k4, n4⟩, -, X4, ⟨Lc4, hQ4, l4, y4, z4⟩, st4⟩ := Jvm.LawKit.callS X3 hx (y := My7) hown (mvT hZ (ww hw 28 rfl)) (mvT hZ (ww hw 29 rfl)) (mvT hZ (ww hw 22 rfl)) (mvT hZ (ww hw 30 rfl)) (by decide) (backOf (W := 1) (rm7_3 l Z a0 hw [] z_COMPACT_STRINGS b1_3 k1_3 ce0_3 ce1_3 T3.heap n0 O3 S P0_3) hZ (ww hw 30 rfl) (ww hw 22 rfl) (by decide) (by decide)) (g := (mkF m 45 #[va o0, va o1, vi 0, vi 2, .val .null, va b1_3] [(.int 2), (.ref b1_3), (.ref o0)])) rfl (by rw [hml]; rfl) (argsL := [(.ref b1_3), (.int 2)]) (rest := [(.ref o0)]) (lenOf pd_6 rfl) rfl (by show 2 * 0 + _ ≤ _; exact Nat.le_of_eq rfl) (hb hby d3_45) (fun _ _ => ⟨rfl, rfl, (by decide : 1 + 0 ≤ _), (by decide : 2 + 0 ≤ _)⟩)
  dsimp only [Pt.U, Pt.locs, Pt.cells, Pt.slots] at X4 l4 y4 z4 st4 hQ4
  subst l4 y4 z4
  obtain ⟨rfl, Nq4, e4⟩ := hQ4
  have N4 := Fr.app N3 Nq4
  have fc5 := (F_coder_o0.keep Kc3 nin0)
  have fc6 := (E_o0.keep Kc3)
  obtain ⟨T7, h7, X7, e7, W7, st7⟩ := putFN X4 hx hZ hown (ww hw 31 rfl) Via.refl e4 fc5 fc6 (Or.inr ⟨(ww hw 32 rfl), rfl, hnm⟩) (ww hw 7 rfl) (ty := .byte) (v' := (.int 0)) (by decide) rfl (by decide) (g := (mkF m 48 #[va o0, va o1, vi 0, vi 2, .val .null, va b1_3] [(.int 0), (.ref o0)])) rfl rfl (hb hby d3_48)
  have Fw7 := fc5.same W7
  have O7 := O3.wr W7 g_o0
  have K7 : Keep h0 h7 [o0] := K3.wr W7 (Or.inl (List.mem_of_getElem? (i := 0) rfl))
  have N7 := Fr.snoc X7 N4 g_o0
  have fc8 := ((F_value_o0.keep Kc3 nin0).other W7 (Or.inr (slot_ne (Or.inr (ww hw 34 rfl)) (Or.inr (ww hw 32 rfl)) (by decide) (t := (.array .byte)) (t' := .byte) (by decide) (by decide))))
  have fc9 := (fc6.wr W7)
  obtain ⟨T10, h10, X10, e10, W10, st10⟩ := putF X7 hx hZ hown (host := "") (Or.inl (ww hw 33 rfl)) Via.refl e7 fc8 fc9 (Or.inr ⟨(ww hw 34 rfl), rfl, hnm⟩) (ww hw 7 rfl) (ty := (.array .byte)) (by decide) rfl rfl (g := (mkF m 54 #[va o0, va o1, vi 0, vi 2, .val .null, va b1_3] [(.ref b1_3), (.ref o0)])) rfl rfl (hb hby d3_54)
  have Fw10 := fc8.same W10
  have O10 := O7.wr W10 g_o0
  have K10 : Keep h0 h10 [o0] := K7.wr W10 (Or.inl (List.mem_of_getElem? (i := 0) rfl))
  have N10 := Fr.snoc X10 N7 g_o0
  obtain ⟨fs, hr, hrun, hended, hW, hsame⟩ := X10.leave (v := none) (fun _ => rfl)
  have fc11 := (fc9.wr W10)
  have fc12 := (Fw7.other W10 (Or.inr (slot_ne (Or.inr (ww hw 32 rfl)) (Or.inr (ww hw 34 rfl)) (by decide) (t := .byte) (t' := (.array .byte)) (by decide) (by decide))))
  have fc13 := ((P0_3.other W7 (Ne.symm ne_o0_b1_3)).other W10 (Ne.symm ne_o0_b1_3))
  refine ⟨_, _, ?_, hrun, hended, _, _, rfl, ?_, ⟨_, rfl⟩, hW, hsame.mono (by decide) (by decide)⟩
  · show Steps p.tables e below (s₁.setTop (mkF m 0 #[va o0, va o1, vi 0, vi 2, .val .null, uu] [])) _
    refine XS.aloadN X0.here hx rfl (hb hby d3_0) rfl rfl ?_
    refine st1 _ ?_
    refine XS.iloadN X1.here hx rfl (hb hby d3_4) rfl ?_
    refine XS.ifYes X1.here hx rfl (pc0 := 5) (pc' := 27) rfl (hb hby d3_5) rfl ((if0 _ _).trans (feq (by decide : ¬ ((2 : Int32) = (0 : Int32)))).2) (by decide) (by decide) ?_
    refine st2 _ ?_
    refine XS.ifNo X2.here hx rfl (hb hby d3_30) rfl ((if0 _ _).trans (feq hz_z_COMPACT_STRINGS).1) ?_
    refine XS.aloadN X2.here hx rfl (hb hby d3_33) rfl rfl ?_
    refine XS.iloadN X2.here hx rfl (hb hby d3_34) rfl ?_
    show Steps p.tables e below (T2.setTop (mkF m 35 #[va o0, va o1, vi 0, vi 2, .val .null, uu] [(.int 0), (.ref o1)])) _
    refine XS.iloadN X2.here hx rfl (hb hby d3_35) rfl ?_
    refine st3 _ ?_
    refine XS.astore X3.here hx rfl (hb hby d3_39) rfl rfl (l' := #[va o0, va o1, vi 0, vi 2, .val .null, va b1_3]) rfl ?_
    refine XS.aloadN X3.here hx rfl (hb hby d3_41) rfl rfl ?_
    refine XS.aload X3.here hx rfl (hb hby d3_42) rfl rfl ?_
    refine XS.iloadN X3.here hx rfl (hb hby d3_44) rfl ?_
    refine st4 _ ?_
    refine st7 _ ?_
    show Steps p.tables e below (T7.setTop (mkF m 51 #[va o0, va o1, vi 0, vi 2, .val .null, va b1_3] [])) _
    refine XS.aloadN X7.here hx rfl (hb hby d3_51) rfl rfl ?_
    refine XS.aload X7.here hx rfl (hb hby d3_52) rfl rfl ?_
    refine st10 _ ?_
    exact X10.returnOut hx hrt (hb hby d3_57) hr
  · show Q3_3 Z z_COMPACT_STRINGS o0 o1 kk_o1 p0 p1 h0 n0 none T10.heap _
    rw [e10]; exact ⟨b1_3, k1_3, ce0_3, ce1_3, rfl, N10, K10, fc11, fc12, Fw10, fc13, sz_b1_3⟩
def Q2_3 (Z : State) (z_COMPACT_STRINGS : Int32) (o0 : Addr) (o1 : Addr) (kk_o1 : ClassId) (p0 : Int32) (p1 : Int32) (h0 : Heap) (n0 : Nat) (v : Option Value) (h : Heap) (L : List Loc) : Prop := ∃ (b1_3_2 : Addr), ∃ (k1_3_2 : ClassId), ∃ (ce0_3_2 : Int32), ∃ (ce1_3_2 : Int32), v = none ∧ Fr n0 L ∧ Keep h0 h [o0] ∧ Exa Z h o0 sC0 ∧ Fld Z h o0 sC0 "coder" "B" (.int 0) ∧ Fld Z h o0 sC0 "value" "[B" (.ref b1_3_2) ∧ Arv Z h b1_3_2 k1_3_2 .byte (2 : Int32) [(.int ce0_3_2), (.int ce1_3_2)] (.int 0) ∧ h0.size ≤ b1_3_2
theorem rm2_3 (l : Launch) (Z : State) (a0 : Array Value) (hw : HW Z a0) (ws : List Jvm.Cond) (z_COMPACT_STRINGS : Int32) (o0 : Addr) (o1 : Addr) (kk_o1 : ClassId) (p0 : Int32) (p1 : Int32) (h0 : Heap) (n0 : Nat) (O0 : Old Z n0 h0) (S : SF Z z_COMPACT_STRINGS) (E_o0 : Exa Z h0 o0 sC0) (F_coder_o0 : Fld Z h0 o0 sC0 "coder" "B" (.int 0)) (F_value_o0 : Fld Z h0 o0 sC0 "value" "[B" .null) (V_o1 : Arv Z h0 o1 kk_o1 .char (2 : Int32) [(.int p0), (.int p1)] (.int 0)) (g_o0 : n0 ≤ o0) (hc0 : gp2 p0 p1) :
    Pay l Z My2 ws jdk_42_method_3_code 2 none #[(.ref o0), (.ref o1)] h0 ({ frames := 3, cells := 1, slots := 2, locals := 52 } : Room) (Q2_3 Z z_COMPACT_STRINGS o0 o1 kk_o1 p0 p1 h0 n0) := by
  refine own_body (plainFor_of_name pn_1) (L0 := #[va o0, va o1]) (fun _ => by first | rfl | (simp [entryFrame, mkF, argsToLocals, Value.category]; done)) ?_
  intro p e s m below meth c s₁ hrt hlk hx hby hml hZ hown0 hnm X0 e0
  have hown : s.vm.findClass sC0 = some m.cls := hown0
  have N0 := Fr.nil n0
  have K0 : Keep h0 h0 [o0] := Keep.refl _ _
  obtain ⟨cl1, Ar1, qk1, Sz1, Ng1, Hh1, Gg1⟩ := id V_o1
  obtain ⟨_, _, ⟨T2, L2, k2, n2⟩, -, X2, ⟨Lc2, hQ2, l2, y2, z2⟩, st2⟩ := X0.specialBack hx (y := My3) rfl hown (mvT hZ (ww hw 12 rfl)) (mvT hZ (ww hw 13 rfl)) (mvT hZ (ww hw 15 rfl)) (by decide) (backOf (W := 0) (rm3_3 l Z a0 hw [] z_COMPACT_STRINGS o0 o1 kk_o1 p0 p1 h0 n0 O0 S E_o0 F_coder_o0 F_value_o0 V_o1 g_o0 hc0) hZ (ww hw 15 rfl) (ww hw 8 rfl) (by decide) (by decide)) (g := (mkF m 6 #[va o0, va o1] [.null, (.int 2), (.int 0), (.ref o1), (.ref o0)])) rfl (by rw [hml]; rfl) (Steps.refl _) (a := o0) (argsL := [(.ref o1), (.int 0), (.int 2), .null]) (rest := []) (lenOf pd_7 rfl) rfl (by show 2 * 0 + _ ≤ _; exact Nat.le_of_eq rfl) (hb hby d2_6) (fun _ _ => ⟨rfl, e0, (by decide : 0 + 1 ≤ _), (by decide : 0 + 2 ≤ _)⟩)
  dsimp only [Pt.U, Pt.locs, Pt.cells, Pt.slots] at X2 l2 y2 z2 st2 hQ2
  subst l2 y2 z2
  obtain ⟨b1_3_2, k1_3_2, ce0_3_2, ce1_3_2, rfl, Nq2, Kc2, P0_2, P1_2, P2_2, P3_2, P4_2⟩ := hQ2
  have N2 := Fr.app N0 Nq2
  have ne_o0_b1_3_2 : o0 ≠ b1_3_2 := Nat.ne_of_lt (Nat.lt_of_lt_of_le E_o0.lt P4_2)
  have ne_o1_b1_3_2 : o1 ≠ b1_3_2 := Nat.ne_of_lt (Nat.lt_of_lt_of_le V_o1.lt P4_2)
  have g_b1_3_2 : n0 ≤ b1_3_2 := Nat.le_trans (own_old O0) P4_2
  have sz_b1_3_2 : h0.size ≤ b1_3_2 := Nat.le_trans K0.1 P4_2
  have O2 := O0.keep Kc2 (allS g_o0 all0)
  have K2 : Keep h0 T2.heap [o0] := K0.trans Kc2 (allS (Or.inl (List.mem_of_getElem? (i := 0) rfl)) all0)
  obtain ⟨fs, hr, hrun, hended, hW, hsame⟩ := X2.leave (v := none) (fun _ => rfl)
  refine ⟨_, _, ?_, hrun, hended, _, _, rfl, ?_, ⟨_, rfl⟩, hW, hsame.mono (by decide) (by decide)⟩
  · show Steps p.tables e below (s₁.setTop (mkF m 0 #[va o0, va o1] [])) _
    refine XS.aloadN X0.here hx rfl (hb hby d2_0) rfl rfl ?_
    refine XS.aloadN X0.here hx rfl (hb hby d2_1) rfl rfl ?_
    refine XS.iconst X0.here hx rfl (hb hby d2_2) ?_
    refine XS.aloadN X0.here hx rfl (hb hby d2_3) rfl rfl ?_
    refine X0.arraylength hx (by rw [e0]; exact Ar1.1) (State.isArrayOf_alike hZ.alike Ar1.2.1) (g := (mkF m 4 #[va o0, va o1] [(.ref o1), (.int 0), (.ref o1), (.ref o0)])) rfl rfl (hb hby d2_4) _ ?_
    rw [len_of Sz1 Ng1]
    refine XS.aconstNull X0.here hx rfl (hb hby d2_5) ?_
    refine st2.trans ?_
    exact X2.returnOut hx hrt (hb hby d2_9) hr
  · show Q2_3 Z z_COMPACT_STRINGS o0 o1 kk_o1 p0 p1 h0 n0 none T2.heap _
    exact (⟨b1_3_2, k1_3_2, ce0_3_2, ce1_3_2, rfl, N2, K2, P0_2, P1_2, P2_2, P3_2, sz_b1_3_2⟩)
theorem d1_53 : decode method_3_code 53 = .ok (.areturn, 1) := by decide +kernel
def Q1_3 (Z : State) (z_COMPACT_STRINGS : Int32) (p0 : Int32) (p1 : Int32) (p2 : Int32) (p3 : Int32) (p4 : Int32) (h0 : Heap) (n0 : Nat) (v : Option Value) (h : Heap) (L : List Loc) : Prop := ∃ (b6 : Addr), ∃ (b1_3_2_8 : Addr), ∃ (k1_3_2_8 : ClassId), ∃ (ce0_3_2_8 : Int32), ∃ (ce1_3_2_8 : Int32), v = (some (.ref b6)) ∧ Fr n0 L ∧ Keep h0 h [] ∧ Exa Z h b6 sC0 ∧ Fld Z h b6 sC0 "coder" "B" (.int 0) ∧ Fld Z h b6 sC0 "value" "[B" (.ref b1_3_2_8) ∧ Arv Z h b1_3_2_8 k1_3_2_8 .byte (2 : Int32) [(.int ce0_3_2_8), (.int ce1_3_2_8)] (.int 0) ∧ h0.size ≤ b6 ∧ h0.size ≤ b1_3_2_8 ∧ b6 ≠ b1_3_2_8
theorem rm1_3 (l : Launch) (Z : State) (a0 : Array Value) (hw : HW Z a0) (ws : List Jvm.Cond) (z_COMPACT_STRINGS : Int32) (p0 : Int32) (p1 : Int32) (p2 : Int32) (p3 : Int32) (p4 : Int32) (h0 : Heap) (n0 : Nat) (O0 : Old Z n0 h0) (S : SF Z z_COMPACT_STRINGS) (hc0 : ¬ (p0 = (0 : Int32))) (hc1 : p0 = (1 : Int32)) (hc2 : gp2 (cc p1) (cc p2)) :
    Pay l Z My1 ws method_3_code 6 (some (.object sC0)) #[(.int p0), (.int p1), (.int p2), (.int p3), (.int p4)] h0 ({ frames := 4, cells := 3, slots := 8, locals := 66 } : Room) (Q1_3 Z z_COMPACT_STRINGS p0 p1 p2 p3 p4 h0 n0) := by
  refine own_body (plainFor_of_name pn_0) (L0 := #[vi p0, vi p1, vi p2, vi p3, vi p4, uu]) (fun _ => by first | rfl | (simp [entryFrame, mkF, argsToLocals, Value.category]; done)) ?_
  intro p e s m below meth c s₁ hrt hlk hx hby hml hZ hown0 hnm X0 e0
  have hown : s.vm.findClass sC3 = some m.cls := hown0
  have N0 := Fr.nil n0
  have K0 : Keep h0 h0 [] := Keep.refl _ _
  obtain ⟨T1, h1, k1, X1, e1, E1, A1, st1⟩ := newP X0 hx hZ (ww hw 5 rfl) e0 (g := (mkF m 30 #[vi p0, vi p1, vi p2, vi p3, vi p4, uu] [(.int 2)])) rfl (hb hby d1_30) rfl (by decide) (cap := 2) (by decide) (by decide) (by decide) (by decide)
  obtain ⟨b1, qs1⟩ : ∃ z, z = h0.size := ⟨_, rfl⟩
  rw [← qs1] at A1 st1
  have g_b1 : n0 ≤ b1 := Nat.le_trans (own_old O0) (Nat.le_of_eq qs1.symm)
  have sz_b1 : h0.size ≤ b1 := Nat.le_trans K0.1 (Nat.le_of_eq qs1.symm)
  have O1 := O0.ext E1
  have K1 : Keep h0 h1 [] := K0.ext E1
  have V_b1 : Arv Z h1 b1 k1 .char (2 : Int32) [(.int 0), (.int 0)] (.int 0) := (Arv.new A1 (by decide)).pad (pad_rep [] (.int 0) 2)
  obtain ⟨cl2, Ar2, qk2, Sz2, Ng2, Hh2, Gg2⟩ := id V_b1
  have hin2_0 : ¬ ((0 : Int32) < 0 ∨ cl2.slots.size ≤ ((0 : Int32)).toNatClampNeg) := inb_of Sz2 ⟨by decide, by decide⟩
  obtain ⟨T3, h3, X3, e3, W3, st3⟩ := stC X1 hx hZ e1 Ar2 (j := (0 : Int32)) hin2_0 (g := (mkF m 38 #[vi p0, vi p1, vi p2, vi p3, vi p4, va b1] [(.int p1), (.int 0), (.ref b1)])) rfl rfl (hb hby d1_38)
  have V3 : Arv Z h3 b1 k1 .char (2 : Int32) [(.int (cc p1)), (.int 0)] (.int 0) := Arv.set Ar2 qk2 Sz2 Ng2 Hh2 Gg2 (fits_nar_char _) W3 0 rfl (Nat.le_of_ble_eq_true rfl)
  have O3 := O1.wr W3 g_b1
  have K3 : Keep h0 h3 [] := K1.wr W3 (Or.inr sz_b1)
  have N3 := Fr.snoc X3 N0 g_b1
  obtain ⟨cl4, Ar4, qk4, Sz4, Ng4, Hh4, Gg4⟩ := id V3
  have hin4_1 : ¬ ((1 : Int32) < 0 ∨ cl4.slots.size ≤ ((1 : Int32)).toNatClampNeg) := inb_of Sz4 ⟨by decide, by decide⟩
  obtain ⟨T5, h5, X5, e5, W5, st5⟩ := stC X3 hx hZ e3 Ar4 (j := (1 : Int32)) hin4_1 (g := (mkF m 43 #[vi p0, vi p1, vi p2, vi p3, vi p4, va b1] [(.int p2), (.int 1), (.ref b1)])) rfl rfl (hb hby d1_43)
  have V5 : Arv Z h5 b1 k1 .char (2 : Int32) [(.int (cc p1)), (.int (cc p2))] (.int 0) := Arv.set Ar4 qk4 Sz4 Ng4 Hh4 Gg4 (fits_nar_char _) W5 1 rfl (Nat.le_of_ble_eq_true rfl)
  have O5 := O3.wr W5 g_b1
  have K5 : Keep h0 h5 [] := K3.wr W5 (Or.inr sz_b1)
  have N5 := Fr.snoc X5 N3 g_b1
  obtain ⟨T6, h6, X6, e6, E6, A6, D6, -, st6⟩ := newO X5 hx hZ hown (ww hw 6 rfl) (ww hw 7 rfl) (ww hw 8 rfl) e5 (g := (mkF m 44 #[vi p0, vi p1, vi p2, vi p3, vi p4, va b1] [])) rfl (hb hby d1_44) (by decide) (by decide)
  obtain ⟨b6, qs6⟩ : ∃ z, z = h5.size := ⟨_, rfl⟩
  rw [← qs6] at A6 D6 st6
  have ne_b1_b6 : b1 ≠ b6 := Nat.ne_of_lt (Nat.lt_of_lt_of_le V5.lt (Nat.le_of_eq qs6.symm))
  have g_b6 : n0 ≤ b6 := Nat.le_trans (own_old O5) (Nat.le_of_eq qs6.symm)
  have sz_b6 : h0.size ≤ b6 := Nat.le_trans K5.1 (Nat.le_of_eq qs6.symm)
  have O6 := O5.ext E6
  have K6 : Keep h0 h6 [] := K5.ext E6
  have F_coder_b6 : Fld Z h6 b6 sC0 "coder" "B" (.int 0) := D6 (Or.inr (ww hw 32 rfl)) (ty := .byte) (by decide)
  have F_value_b6 : Fld Z h6 b6 sC0 "value" "[B" .null := D6 (Or.inr (ww hw 34 rfl)) (ty := (.array .byte)) (by decide)
  have fc7 := (V5.ext E6)
  obtain ⟨_, _, ⟨T8, L8, k8, n8⟩, -, X8, ⟨Lc8, hQ8, l8, y8, z8⟩, st8⟩ := X6.specialBack hx (y := My2) rfl hown (mvT hZ (ww hw 9 rfl)) (mvT hZ (ww hw 10 rfl)) (mvT hZ (ww hw 11 rfl)) (by decide) (backOf (W := 1) (rm2_3 l Z a0 hw [] z_COMPACT_STRINGS b6 b1 k1 (cc p1) (cc p2) h6 n0 O6 S A6 F_coder_b6 F_value_b6 fc7 g_b6 hc2) hZ (ww hw 11 rfl) (ww hw 8 rfl) (by decide) (by decide)) (g := (mkF m 50 #[vi p0, vi p1, vi p2, vi p3, vi p4, va b1] [(.ref b1), (.ref b6), (.ref b6)])) rfl (by rw [hml]; rfl) (Steps.refl _) (a := b6) (argsL := [(.ref b1)]) (rest := [(.ref b6)]) (lenOf pd_8 rfl) rfl (by show 2 * 0 + _ ≤ _; exact Nat.le_of_eq rfl) (hb hby d1_50) (fun _ _ => ⟨rfl, e6, (by decide : 2 + 1 ≤ _), (by decide : 6 + 2 ≤ _)⟩)
  dsimp only [Pt.U, Pt.locs, Pt.cells, Pt.slots] at X8 l8 y8 z8 st8 hQ8
  subst l8 y8 z8
  obtain ⟨b1_3_2_8, k1_3_2_8, ce0_3_2_8, ce1_3_2_8, rfl, Nq8, Kc8, P0_8, P1_8, P2_8, P3_8, P4_8⟩ := hQ8
  have N8 := Fr.app N5 Nq8
  have ne_b1_b1_3_2_8 : b1 ≠ b1_3_2_8 := Nat.ne_of_lt (Nat.lt_of_lt_of_le fc7.lt P4_8)
  have ne_b6_b1_3_2_8 : b6 ≠ b1_3_2_8 := Nat.ne_of_lt (Nat.lt_of_lt_of_le A6.lt P4_8)
  have g_b1_3_2_8 : n0 ≤ b1_3_2_8 := Nat.le_trans (own_old O6) P4_8
  have sz_b1_3_2_8 : h0.size ≤ b1_3_2_8 := Nat.le_trans K6.1 P4_8
  have O8 := O6.keep Kc8 (allS g_b6 all0)
  have K8 : Keep h0 T8.heap [] := K6.trans Kc8 (allS (Or.inr sz_b6) all0)
  obtain ⟨fs, hr, hrun, hended, hW, hsame⟩ := X8.leave (v := (some (.ref b6))) (fun h => by rw [hrt] at h; cases h)
  refine ⟨_, _, ?_, hrun, hended, _, _, rfl, ?_, ⟨_, rfl⟩, hW, hsame.mono (by decide) (by decide)⟩
  · show Steps p.tables e below (s₁.setTop (mkF m 0 #[vi p0, vi p1, vi p2, vi p3, vi p4, uu] [])) _
    refine XS.iloadN X0.here hx rfl (hb hby d1_0) rfl ?_
    refine XS.ifYes X0.here hx rfl (pc0 := 1) (pc' := 24) rfl (hb hby d1_1) rfl ((if0 _ _).trans (feq hc0).2) (by decide) (by decide) ?_
    refine XS.iloadN X0.here hx rfl (hb hby d1_24) rfl ?_
    refine XS.iconst X0.here hx rfl (hb hby d1_25) ?_
    refine XS.icmpNo X0.here hx rfl (hb hby d1_26) rfl (teq hc1).2 ?_
    refine XS.iconst X0.here hx rfl (hb hby d1_29) ?_
    refine st1 _ ?_
    refine XS.astore X1.here hx rfl (hb hby d1_32) rfl rfl (l' := #[vi p0, vi p1, vi p2, vi p3, vi p4, va b1]) rfl ?_
    show Steps p.tables e below (T1.setTop (mkF m 34 #[vi p0, vi p1, vi p2, vi p3, vi p4, va b1] [])) _
    refine XS.aload X1.here hx rfl (hb hby d1_34) rfl rfl ?_
    refine XS.iconst X1.here hx rfl (hb hby d1_36) ?_
    refine XS.iloadN X1.here hx rfl (hb hby d1_37) rfl ?_
    refine st3 _ ?_
    refine XS.aload X3.here hx rfl (hb hby d1_39) rfl rfl ?_
    refine XS.iconst X3.here hx rfl (hb hby d1_41) ?_
    refine XS.iloadN X3.here hx rfl (hb hby d1_42) rfl ?_
    refine st5 _ ?_
    show Steps p.tables e below (T5.setTop (mkF m 44 #[vi p0, vi p1, vi p2, vi p3, vi p4, va b1] [])) _
    refine st6 _ ?_
    refine XS.dup X6.here hx rfl (hb hby d1_47) rfl rfl ?_
    refine XS.aload X6.here hx rfl (hb hby d1_48) rfl rfl ?_
    refine st8.trans ?_
    exact retOut X8 hx (t := (.object sC0)) (i := .areturn) hrt rfl (Or.inr (Or.inr (Or.inr (Or.inr ⟨rfl, rfl, rfl⟩)))) (hb hby d1_53) hr
  · show Q1_3 Z z_COMPACT_STRINGS p0 p1 p2 p3 p4 h0 n0 (some (.ref b6)) T8.heap _
    exact (⟨b6, b1_3_2_8, k1_3_2_8, ce0_3_2_8, ce1_3_2_8, rfl, N8, K8, P0_8, P1_8, P2_8, P3_8, sz_b6, sz_b1_3_2_8, ne_b6_b1_3_2_8⟩)
def Q9_2 (Z : State) (z_COMPACT_STRINGS : Int32) (o0 : Addr) (o1 : Addr) (o2 : Addr) (kk_o1 : ClassId) (p0 : Int32) (p1 : Int32) (h0 : Heap) (n0 : Nat) (v : Option Value) (h : Heap) (L : List Loc) : Prop := v = (some (.ref o0)) ∧ Fr n0 L ∧ h = h0
theorem rm9_2 (l : Launch) (Z : State) (a0 : Array Value) (hw : HW Z a0) (ws : List Jvm.Cond) (z_COMPACT_STRINGS : Int32) (o0 : Addr) (o1 : Addr) (o2 : Addr) (kk_o1 : ClassId) (p0 : Int32) (p1 : Int32) (h0 : Heap) (n0 : Nat) (O0 : Old Z n0 h0) (S : SF Z z_COMPACT_STRINGS) :
    Pay l Z My9 ws jdk_31_method_11_code 2 (some (.object sC4)) #[(.ref o0), (.ref o2)] h0 ({ frames := 0, cells := 0, slots := 0, locals := 0 } : Room) (Q9_2 Z z_COMPACT_STRINGS o0 o1 o2 kk_o1 p0 p1 h0 n0) := by
  refine own_body (plainFor_of_name pn_4) (L0 := #[va o0, va o2]) (fun _ => by first | rfl | (simp [entryFrame, mkF, argsToLocals, Value.category]; done)) ?_
  intro p e s m below meth c s₁ hrt hlk hx hby hml hZ hown0 hnm X0 e0
  have hown : s.vm.findClass sC5 = some m.cls := hown0
  have N0 := Fr.nil n0
  have K0 : Keep h0 h0 [] := Keep.refl _ _
  obtain ⟨fs, hr, hrun, hended, hW, hsame⟩ := X0.leave (v := (some (.ref o0))) (fun h => by rw [hrt] at h; cases h)
  refine ⟨_, _, ?_, hrun, hended, _, _, rfl, ?_, ⟨_, rfl⟩, hW, hsame.mono (by decide) (by decide)⟩
  · show Steps p.tables e below (s₁.setTop (mkF m 0 #[va o0, va o2] [])) _
    refine XS.aloadN X0.here hx rfl (hb hby d9_0) rfl rfl ?_
    refine XS.ifnonnullYes X0.here hx rfl (pc0 := 1) (pc' := 13) rfl (hb hby d9_1) rfl (by decide) (by decide) ?_
    refine XS.aloadN X0.here hx rfl (hb hby d9_13) rfl rfl ?_
    exact retOut X0 hx (t := (.object sC4)) (i := .areturn) hrt rfl (Or.inr (Or.inr (Or.inr (Or.inr ⟨rfl, rfl, rfl⟩)))) (hb hby d9_14) hr
  · show Q9_2 Z z_COMPACT_STRINGS o0 o1 o2 kk_o1 p0 p1 h0 n0 (some (.ref o0)) s₁.heap _
    exact (⟨rfl, N0, e0⟩)
def Q10_2 (Z : State) (z_COMPACT_STRINGS : Int32) (o0 : Addr) (o1 : Addr) (kk_o1 : ClassId) (p0 : Int32) (p1 : Int32) (h0 : Heap) (n0 : Nat) (v : Option Value) (h : Heap) (L : List Loc) : Prop := v = (some (.int 0)) ∧ Fr n0 L ∧ h = h0
theorem rm10_2 (l : Launch) (Z : State) (a0 : Array Value) (hw : HW Z a0) (ws : List Jvm.Cond) (z_COMPACT_STRINGS : Int32) (o0 : Addr) (o1 : Addr) (kk_o1 : ClassId) (p0 : Int32) (p1 : Int32) (h0 : Heap) (n0 : Nat) (O0 : Old Z n0 h0) (S : SF Z z_COMPACT_STRINGS) (F_value_o0 : Fld Z h0 o0 sC0 "value" "[B" (.ref o1)) (V_o1 : Arv Z h0 o1 kk_o1 .byte (2 : Int32) [(.int p0), (.int p1)] (.int 0)) :
    Pay l Z My10 ws jdk_42_method_55_code 1 (some .boolean) #[(.ref o0)] h0 ({ frames := 0, cells := 0, slots := 0, locals := 0 } : Room) (Q10_2 Z z_COMPACT_STRINGS o0 o1 kk_o1 p0 p1 h0 n0) := by
  refine own_body (plainFor_of_name pn_1) (L0 := #[va o0]) (fun _ => by first | rfl | (simp [entryFrame, mkF, argsToLocals, Value.category]; done)) ?_
  intro p e s m below meth c s₁ hrt hlk hx hby hml hZ hown0 hnm X0 e0
  have hown : s.vm.findClass sC0 = some m.cls := hown0
  have N0 := Fr.nil n0
  have K0 : Keep h0 h0 [] := Keep.refl _ _
  obtain ⟨T1, X1, e1, st1⟩ := getF X0 hx hZ hown (host := "") (Or.inl (ww hw 33 rfl)) Via.refl e0 F_value_o0 (g := (mkF m 1 #[va o0] [(.ref o0)])) rfl rfl (hb hby d10_1)
  obtain ⟨cl2, Ar2, qk2, Sz2, Ng2, Hh2, Gg2⟩ := id V_o1
  obtain ⟨fs, hr, hrun, hended, hW, hsame⟩ := X1.leave (v := (some (.int 0))) (fun h => by rw [hrt] at h; cases h)
  refine ⟨_, _, ?_, hrun, hended, _, _, rfl, ?_, ⟨_, rfl⟩, hW, hsame.mono (by decide) (by decide)⟩
  · show Steps p.tables e below (s₁.setTop (mkF m 0 #[va o0] [])) _
    refine XS.aloadN X0.here hx rfl (hb hby d10_0) rfl rfl ?_
    refine st1 _ ?_
    refine X1.arraylength hx (by rw [e1]; exact Ar2.1) (State.isArrayOf_alike hZ.alike Ar2.2.1) (g := (mkF m 4 #[va o0] [(.ref o1)])) rfl rfl (hb hby d10_4) _ ?_
    rw [len_of Sz2 Ng2]
    refine XS.ifYes X1.here hx rfl (pc0 := 5) (pc' := 12) rfl (hb hby d10_5) rfl ((if0 _ _).trans (feq (by decide : ¬ ((2 : Int32) = (0 : Int32)))).2) (by decide) (by decide) ?_
    refine XS.iconst X1.here hx rfl (hb hby d10_12) ?_
    exact retN X1 hx (t := .boolean) hrt (by simp) (hb hby d10_13) hr
  · show Q10_2 Z z_COMPACT_STRINGS o0 o1 kk_o1 p0 p1 h0 n0 (some (.int 0)) T1.heap _
    exact (⟨rfl, N0, e1⟩)
def Q8_2 (Z : State) (z_COMPACT_STRINGS : Int32) (o0 : Addr) (o1 : Addr) (kk_o1 : ClassId) (p0 : Int32) (p1 : Int32) (h0 : Heap) (n0 : Nat) (v : Option Value) (h : Heap) (L : List Loc) : Prop := v = (some (.ref o0)) ∧ Fr n0 L ∧ Keep h0 h []
theorem rm8_2 (l : Launch) (Z : State) (a0 : Array Value) (hw : HW Z a0) (ws : List Jvm.Cond) (z_COMPACT_STRINGS : Int32) (o0 : Addr) (o1 : Addr) (kk_o1 : ClassId) (p0 : Int32) (p1 : Int32) (h0 : Heap) (n0 : Nat) (O0 : Old Z n0 h0) (S : SF Z z_COMPACT_STRINGS) (E_o0 : Exa Z h0 o0 sC0) (F_value_o0 : Fld Z h0 o0 sC0 "value" "[B" (.ref o1)) (V_o1 : Arv Z h0 o1 kk_o1 .byte (2 : Int32) [(.int p0), (.int p1)] (.int 0)) :
    PayW l Z My8 ws prog_14_method_7_code 1 (some (.object sC0)) #[(.ref o0)] h0 ({ frames := 1, cells := 2, slots := 60, locals := 13 } : Room) (Q8_2 Z z_COMPACT_STRINGS o0 o1 kk_o1 p0 p1 h0 n0) := by
  refine own_body (plainFor_of_name pn_3) (L0 := #[va o0]) (fun _ => by first | rfl | (simp [entryFrame, mkF, argsToLocals, Value.category]; done)) ?_
  intro p e s m below meth c s₁ hrt hlk hx hby hml hZ hown0 hnm X0 e0
  have hown : s.vm.findClass sC2 = some m.cls := hown0
  have N0 := Fr.nil n0
  have K0 : Keep h0 h0 [] := Keep.refl _ _
  obtain ⟨a1, T1, h1, kk1, X1, e1, E1, hS1, hk1, hZ1, hown1, st1⟩ := ldcS (s := s) (vm0 := s.vm) X0 hx hZ hown (ww hw 39 rfl) (own_wS hw) e0 (k0 := 0) ((State.WarmedH.refl s).since 0) (Nat.zero_le _) (g := (mkF m 1 #[va o0] [(.ref o0)])) rfl (hb hby d8_1) (n := 56) (by decide +kernel) (by decide) (by decide) (by decide)
  have O1 := O0.ext E1
  have K1 : Keep h0 h1 [] := K0.ext E1
  obtain ⟨_, _, ⟨T2, L2, k2, n2⟩, -, X2, ⟨Lc2, hQ2, l2, y2, z2⟩, st2⟩ := Jvm.LawKit.callS X1 hx (y := My9) hown1 (mvT hZ1 (ww hw 42 rfl)) (mvT hZ1 (ww hw 43 rfl)) (mvT hZ1 (ww hw 44 rfl)) (mvT hZ1 (ww hw 45 rfl)) (by decide) (backOf (W := 0) (rm9_2 l Z a0 hw [] z_COMPACT_STRINGS o0 o1 a1 kk_o1 p0 p1 h1 n0 O1 S) hZ1 (ww hw 45 rfl) (ww hw 44 rfl) (by decide) (by decide)) (g := (mkF m 3 #[va o0] [(.ref a1), (.ref o0)])) rfl (by rw [hml]; rfl) (argsL := [(.ref o0), (.ref a1)]) (rest := []) (lenOf pd_10 rfl) rfl (by show 2 * 0 + _ ≤ _; exact Nat.le_of_eq rfl) (hb hby d8_3) (fun _ _ => ⟨rfl, e1, (by decide : 2 + 0 ≤ _), (by decide : 60 + 0 ≤ _)⟩)
  dsimp only [Pt.U, Pt.locs, Pt.cells, Pt.slots] at X2 l2 y2 z2 st2 hQ2
  subst l2 y2 z2
  obtain ⟨rfl, Nq2, e2⟩ := hQ2
  have N2 := Fr.app N0 Nq2
  have fc3 := (F_value_o0.ext E1)
  have fc4 := (V_o1.ext E1)
  have fc6 := (E_o0.ext E1)
  obtain ⟨cq5, kq5, q5a, q5b, q5c⟩ := isOf hZ1 e2 fc6
  obtain ⟨_, _, ⟨T5, L5, k5, n5⟩, -, X5, ⟨Lc5, hQ5, l5, y5, z5⟩, st5⟩ := X2.virtualBack hx (y := My10) (z := My10) hown1 (mvT hZ1 (ww hw 46 rfl)) (mvT hZ1 (ww hw 47 rfl)) (notFace_of_selects (args := #[]) (mvT hZ1 (ww hw 49 rfl))) (mvT hZ1 (ww hw 49 rfl)) (mvT hZ1 (ww hw 48 rfl)) (by decide) (backOf (W := 0) (rm10_2 l Z a0 hw [] z_COMPACT_STRINGS o0 o1 kk_o1 p0 p1 h1 n0 O1 S fc3 fc4) hZ1 (ww hw 50 rfl) (ww hw 8 rfl) (by decide) (by decide)) q5a q5c (g := (mkF m 8 #[va o0] [(.ref o0)])) rfl (by rw [hml]; rfl) (Steps.refl _) (argsL := []) (rest := []) (lenOf pd_11 rfl) rfl (by show 2 * 0 + _ ≤ _; exact Nat.le_of_eq rfl) (hb hby d8_8) (fun _ _ => ⟨rfl, e2, (by decide : 2 + 0 ≤ _), (by decide : 60 + 0 ≤ _)⟩)
  dsimp only [Pt.U, Pt.locs, Pt.cells, Pt.slots] at X5 l5 y5 z5 st5 hQ5
  subst l5 y5 z5
  obtain ⟨rfl, Nq5, e5⟩ := hQ5
  have N5 := Fr.app N2 Nq5
  obtain ⟨fs, hr, hrun, hended, hRE⟩ := X5.leaveW (s := s) hS1 (by rw [e5]; exact hk1) (v := (some (.ref o0))) (fun h => by rw [hrt] at h; cases h)
  refine ⟨_, _, ?_, hrun, hended, _, _, rfl, ?_, hRE.1, hRE.2.1, hRE.2.2.1, hRE.2.2.2.mono (by decide) (by decide)⟩
  · show Steps p.tables e below (s₁.setTop (mkF m 0 #[va o0] [])) _
    refine XS.aloadN X0.here hx rfl (hb hby d8_0) rfl rfl ?_
    refine st1 _ ?_
    refine st2 _ ?_
    refine XS.pop X2.here hx rfl (hb hby d8_6) rfl rfl ?_
    refine XS.aloadN X2.here hx rfl (hb hby d8_7) rfl rfl ?_
    refine st5.trans ?_
    refine XS.ifYes X5.here hx rfl (pc0 := 11) (pc' := 24) rfl (hb hby d8_11) rfl ((if0 _ _).trans (teq (by decide : (0 : Int32) = (0 : Int32))).1) (by decide) (by decide) ?_
    refine XS.aloadN X5.here hx rfl (hb hby d8_24) rfl rfl ?_
    show Steps p.tables e below (T5.setTop (mkF m 25 #[va o0] [(.ref o0)])) _
    exact retOut X5 hx (t := (.object sC0)) (i := .areturn) hrt rfl (Or.inr (Or.inr (Or.inr (Or.inr ⟨rfl, rfl, rfl⟩)))) (hb hby d8_25) hr
  · show Q8_2 Z z_COMPACT_STRINGS o0 o1 kk_o1 p0 p1 h0 n0 (some (.ref o0)) T5.heap _
    rw [e5]; exact ⟨rfl, N5, K1⟩
def Q12_2 (Z : State) (z_COMPACT_STRINGS : Int32) (o0 : Addr) (o1 : Addr) (kk_o1 : ClassId) (p0 : Int32) (p1 : Int32) (h0 : Heap) (n0 : Nat) (v : Option Value) (h : Heap) (L : List Loc) : Prop := v = (some (.int 0)) ∧ Fr n0 L ∧ h = h0
theorem rm12_2 (l : Launch) (Z : State) (a0 : Array Value) (hw : HW Z a0) (ws : List Jvm.Cond) (z_COMPACT_STRINGS : Int32) (o0 : Addr) (o1 : Addr) (kk_o1 : ClassId) (p0 : Int32) (p1 : Int32) (h0 : Heap) (n0 : Nat) (O0 : Old Z n0 h0) (S : SF Z z_COMPACT_STRINGS) (F_coder_o0 : Fld Z h0 o0 sC0 "coder" "B" (.int 0)) :
    Pay l Z My12 ws jdk_42_method_152_code 1 (some .byte) #[(.ref o0)] h0 ({ frames := 0, cells := 0, slots := 0, locals := 0 } : Room) (Q12_2 Z z_COMPACT_STRINGS o0 o1 kk_o1 p0 p1 h0 n0) := by
  obtain ⟨S_z_COMPACT_STRINGS, hz_z_COMPACT_STRINGS, -⟩ := id S
  refine own_body (plainFor_of_name pn_1) (L0 := #[va o0]) (fun _ => by first | rfl | (simp [entryFrame, mkF, argsToLocals, Value.category]; done)) ?_
  intro p e s m below meth c s₁ hrt hlk hx hby hml hZ hown0 hnm X0 e0
  have hown : s.vm.findClass sC0 = some m.cls := hown0
  have N0 := Fr.nil n0
  have K0 : Keep h0 h0 [] := Keep.refl _ _
  obtain ⟨T1, X1, e1, st1⟩ := getS2 X0 hx hZ hown (host := "") (Or.inl (ww hw 19 rfl)) Via.refl e0 (S_z_COMPACT_STRINGS.ext O0.2) (g := (mkF m 0 #[va o0] [])) rfl (hb hby d12_0)
  obtain ⟨T2, X2, e2, st2⟩ := getF X1 hx hZ hown (host := "") (Or.inl (ww hw 31 rfl)) Via.refl e1 F_coder_o0 (g := (mkF m 7 #[va o0] [(.ref o0)])) rfl rfl (hb hby d12_7)
  obtain ⟨fs, hr, hrun, hended, hW, hsame⟩ := X2.leave (v := (some (.int 0))) (fun h => by rw [hrt] at h; cases h)
  refine ⟨_, _, ?_, hrun, hended, _, _, rfl, ?_, ⟨_, rfl⟩, hW, hsame.mono (by decide) (by decide)⟩
  · show Steps p.tables e below (s₁.setTop (mkF m 0 #[va o0] [])) _
    refine st1 _ ?_
    refine XS.ifNo X1.here hx rfl (hb hby d12_3) rfl ((if0 _ _).trans (feq hz_z_COMPACT_STRINGS).1) ?_
    refine XS.aloadN X1.here hx rfl (hb hby d12_6) rfl rfl ?_
    refine st2 _ ?_
    refine XS.goto X2.here hx rfl (pc0 := 10) (pc' := 14) rfl (hb hby d12_10) (by decide) (by decide) ?_
    exact retN X2 hx (t := .byte) hrt (by simp) (hb hby d12_14) hr
  · show Q12_2 Z z_COMPACT_STRINGS o0 o1 kk_o1 p0 p1 h0 n0 (some (.int 0)) T2.heap _
    exact (⟨rfl, N0, e2⟩)
def Q11_2 (Z : State) (z_COMPACT_STRINGS : Int32) (o0 : Addr) (o1 : Addr) (kk_o1 : ClassId) (p0 : Int32) (p1 : Int32) (h0 : Heap) (n0 : Nat) (v : Option Value) (h : Heap) (L : List Loc) : Prop := v = (some (.int 2)) ∧ Fr n0 L ∧ h = h0
theorem rm11_2 (l : Launch) (Z : State) (a0 : Array Value) (hw : HW Z a0) (ws : List Jvm.Cond) (z_COMPACT_STRINGS : Int32) (o0 : Addr) (o1 : Addr) (kk_o1 : ClassId) (p0 : Int32) (p1 : Int32) (h0 : Heap) (n0 : Nat) (O0 : Old Z n0 h0) (S : SF Z z_COMPACT_STRINGS) (E_o0 : Exa Z h0 o0 sC0) (F_coder_o0 : Fld Z h0 o0 sC0 "coder" "B" (.int 0)) (F_value_o0 : Fld Z h0 o0 sC0 "value" "[B" (.ref o1)) (V_o1 : Arv Z h0 o1 kk_o1 .byte (2 : Int32) [(.int p0), (.int p1)] (.int 0)) :
    Pay l Z My11 ws jdk_42_method_54_code 1 (some .int) #[(.ref o0)] h0 ({ frames := 1, cells := 0, slots := 0, locals := 13 } : Room) (Q11_2 Z z_COMPACT_STRINGS o0 o1 kk_o1 p0 p1 h0 n0) := by
  refine own_body (plainFor_of_name pn_1) (L0 := #[va o0]) (fun _ => by first | rfl | (simp [entryFrame, mkF, argsToLocals, Value.category]; done)) ?_
  intro p e s m below meth c s₁ hrt hlk hx hby hml hZ hown0 hnm X0 e0
  have hown : s.vm.findClass sC0 = some m.cls := hown0
  have N0 := Fr.nil n0
  have K0 : Keep h0 h0 [] := Keep.refl _ _
  obtain ⟨T1, X1, e1, st1⟩ := getF X0 hx hZ hown (host := "") (Or.inl (ww hw 33 rfl)) Via.refl e0 F_value_o0 (g := (mkF m 1 #[va o0] [(.ref o0)])) rfl rfl (hb hby d11_1)
  obtain ⟨cl2, Ar2, qk2, Sz2, Ng2, Hh2, Gg2⟩ := id V_o1
  obtain ⟨cq3, kq3, q3a, q3b, q3c⟩ := isOf hZ e1 E_o0
  obtain ⟨_, _, ⟨T3, L3, k3, n3⟩, -, X3, ⟨Lc3, hQ3, l3, y3, z3⟩, st3⟩ := X1.virtualBack hx (y := My12) (z := My12) hown (mvT hZ (ww hw 56 rfl)) (mvT hZ (ww hw 57 rfl)) (notFace_of_selects (args := #[]) (mvT hZ (ww hw 59 rfl))) (mvT hZ (ww hw 59 rfl)) (mvT hZ (ww hw 58 rfl)) (by decide) (backOf (W := 1) (rm12_2 l Z a0 hw [] z_COMPACT_STRINGS o0 o1 kk_o1 p0 p1 h0 n0 O0 S F_coder_o0) hZ (ww hw 60 rfl) (ww hw 8 rfl) (by decide) (by decide)) q3a q3c (g := (mkF m 6 #[va o0] [(.ref o0), (.int 2)])) rfl (by rw [hml]; rfl) (Steps.refl _) (argsL := []) (rest := [(.int 2)]) (lenOf pd_13 rfl) rfl (by show 2 * 0 + _ ≤ _; exact Nat.le_of_eq rfl) (hb hby d11_6) (fun _ _ => ⟨rfl, e1, (by decide : 0 + 0 ≤ _), (by decide : 0 + 0 ≤ _)⟩)
  dsimp only [Pt.U, Pt.locs, Pt.cells, Pt.slots] at X3 l3 y3 z3 st3 hQ3
  subst l3 y3 z3
  obtain ⟨rfl, Nq3, e3⟩ := hQ3
  have N3 := Fr.app N0 Nq3
  obtain ⟨fs, hr, hrun, hended, hW, hsame⟩ := X3.leave (v := (some (.int 2))) (fun h => by rw [hrt] at h; cases h)
  refine ⟨_, _, ?_, hrun, hended, _, _, rfl, ?_, ⟨_, rfl⟩, hW, hsame.mono (by decide) (by decide)⟩
  · show Steps p.tables e below (s₁.setTop (mkF m 0 #[va o0] [])) _
    refine XS.aloadN X0.here hx rfl (hb hby d11_0) rfl rfl ?_
    refine st1 _ ?_
    refine X1.arraylength hx (by rw [e1]; exact Ar2.1) (State.isArrayOf_alike hZ.alike Ar2.2.1) (g := (mkF m 4 #[va o0] [(.ref o1)])) rfl rfl (hb hby d11_4) _ ?_
    rw [len_of Sz2 Ng2]
    refine XS.aloadN X1.here hx rfl (hb hby d11_5) rfl rfl ?_
    refine st3.trans ?_
    refine XS.ishr X3.here hx rfl (hb hby d11_9) rfl ?_
    show Steps p.tables e below (T3.setTop (mkF m 10 #[va o0] [(.int ((2 : Int32) >>> ((0 : Int32) &&& 31)))])) _
    rw [show (((2 : Int32) >>> ((0 : Int32) &&& 31)) : Int32) = (2 : Int32) from by decide]
    exact retOut X3 hx (t := .int) (i := .ireturn) hrt rfl (Or.inl ⟨rfl, Or.inl rfl, _, rfl⟩) (hb hby d11_10) hr
  · show Q11_2 Z z_COMPACT_STRINGS o0 o1 kk_o1 p0 p1 h0 n0 (some (.int 2)) T3.heap _
    exact (⟨rfl, N3, e3⟩)
theorem jn3 {p : Program} {l : Launch} {e : Env} {s : State} {m : MethodId} {below : List Frame} {meth : Method} {c : Code} {T0 : State} {locs : List Loc} {Z : State} {a0 : Array Value} {h0 : Heap} {n0 : Nat} (hx : p.tables.exec = Jvm.exec) (hZ : Z.Warmed39 s.vm) (hby : c.code = code) (hml : c.maxLocals = 7) (hown : s.vm.findClass sC3 = some m.cls) (hrt : meth.sig.returnType = ret) (hlk : meth.locks = false) (hw : HW Z a0) (z_COMPACT_STRINGS : Int32) (o0 : Addr) (o1 : Addr) (kk_o1 : ClassId) (p0 : Int32) (p1 : Int32) (p2 : Int32) (p3 : Int32) (p4 : Int32) (f0 : Int32) (f1 : Int32) (f2 : Int32) (f3 : Int32) (f4 : Int32) (o1_e0 : Int32) (o1_e1 : Int32) (X0 : Stand p l e room_1 s m #[(.int p0), (.int p1), (.int p2), (.int p3), (.int p4)] below meth c T0 locs 8 64) (e0 : T0.heap = h0) (N0 : Fr n0 locs) (O0 : Old Z n0 h0) (S : SF Z z_COMPACT_STRINGS) (E_o0 : Exa Z h0 o0 sC0) (F_coder_o0 : Fld Z h0 o0 sC0 "coder" "B" (.int 0)) (F_value_o0 : Fld Z h0 o0 sC0 "value" "[B" (.ref o1)) (V_o1 : Arv Z h0 o1 kk_o1 .byte (2 : Int32) [(.int o1_e0), (.int o1_e1)] (.int 0)) :
    ∃ s₂ o, Steps p.tables e below (T0.setTop (mkF m 29 #[vi f0, vi f1, vi f2, vi f3, vi f4, va o0, uu] [])) s₂ ∧ s₂.status = .running ∧ Ended s₂ below o ∧ ∃ v L, o = .returned v ∧ Q0 n0 v s₂.heap L ∧ ReturnedEndW s o s₂ L room_1.cells room_1.slots := by
  have K0 : Keep h0 h0 [] := Keep.refl _ _
  obtain ⟨_, _, ⟨T1, L1, k1, n1⟩, -, X1, hS1, hge1, ⟨Lc1, hQ1, l1, y1, z1⟩, st1⟩ := callSS X0 hx (y := My8) hown (mvT hZ (ww hw 35 rfl)) (mvT hZ (ww hw 36 rfl)) (mvT hZ (ww hw 37 rfl)) (mvT hZ (ww hw 38 rfl)) (by decide) (backOfS (W := 0) (rm8_2 l Z a0 hw [] z_COMPACT_STRINGS o0 o1 kk_o1 o1_e0 o1_e1 h0 n0 O0 S E_o0 F_value_o0 V_o1) hZ (ww hw 38 rfl) (ww hw 37 rfl) (by decide) (by decide)) (g := (mkF m 31 #[vi f0, vi f1, vi f2, vi f3, vi f4, va o0, uu] [(.ref o0)])) rfl (by rw [hml]; rfl) (argsL := [(.ref o0)]) (rest := []) (lenOf pd_12 rfl) rfl (by show 2 * 0 + _ ≤ _; exact Nat.le_of_eq rfl) (hb hby at_31) (fun _ _ => ⟨rfl, e0, (by decide : 8 + 2 ≤ _), (by decide : 64 + 60 ≤ _)⟩)
  dsimp only [Pt.U, Pt.locs, Pt.cells, Pt.slots] at X1 l1 y1 z1 st1 hQ1 hS1 hge1
  subst l1 y1 z1
  have hZ1 : Z.Warmed39 (s.setVm T1.vm).vm := State.Warmed39.trans hZ hS1.1
  have hown1 : (s.setVm T1.vm).vm.findClass sC3 = some m.cls := by rw [show (s.setVm T1.vm).vm = T1.vm from rfl, hS1.1.alike.findClass]; exact hown
  obtain ⟨rfl, Nq1, Kc1⟩ := hQ1
  have N1 := Fr.app N0 Nq1
  have O1 := O0.keep Kc1 all0
  have K1 : Keep h0 T1.heap [] := K0.trans Kc1 all0
  have fc2 := (E_o0.keep Kc1)
  have fc3 := (F_coder_o0.keep Kc1 nin0)
  have fc4 := (F_value_o0.keep Kc1 nin0)
  have fc5 := (V_o1.keep Kc1 nin0)
  obtain ⟨cq6, kq6, q6a, q6b, q6c⟩ := isOf hZ1 rfl fc2
  obtain ⟨_, _, ⟨T6, L6, k6, n6⟩, -, X6, ⟨Lc6, hQ6, l6, y6, z6⟩, st6⟩ := X1.virtualBack hx (y := My11) (z := My11) hown1 (mvT hZ1 (ww hw 51 rfl)) (mvT hZ1 (ww hw 52 rfl)) (notFace_of_selects (args := #[]) (mvT hZ1 (ww hw 54 rfl))) (mvT hZ1 (ww hw 54 rfl)) (mvT hZ1 (ww hw 53 rfl)) (by decide) (backOf (W := 0) (rm11_2 l Z a0 hw [] z_COMPACT_STRINGS o0 o1 kk_o1 o1_e0 o1_e1 T1.heap n0 O1 S fc2 fc3 fc4 fc5) hZ1 (ww hw 55 rfl) (ww hw 8 rfl) (by decide) (by decide)) q6a q6c (g := (mkF m 45 #[vi f0, vi f1, vi f2, vi f3, vi f4, va o0, va o0] [(.ref o0)])) rfl (by rw [hml]; rfl) (Steps.refl _) (argsL := []) (rest := []) (lenOf pd_14 rfl) rfl (by show 2 * 0 + _ ≤ _; exact Nat.le_of_eq rfl) (hb hby at_45) (fun _ _ => ⟨rfl, rfl, (by decide : 10 + 0 ≤ _), (by decide : 124 + 0 ≤ _)⟩)
  dsimp only [Pt.U, Pt.locs, Pt.cells, Pt.slots] at X6 l6 y6 z6 st6 hQ6
  subst l6 y6 z6
  obtain ⟨rfl, Nq6, e6⟩ := hQ6
  have N6 := Fr.app N1 Nq6
  obtain ⟨cq7, kq7, q7a, q7b, q7c⟩ := isOf hZ1 e6 fc2
  obtain ⟨_, _, ⟨T7, L7, k7, n7⟩, -, X7, ⟨Lc7, hQ7, l7, y7, z7⟩, st7⟩ := X6.virtualBack hx (y := My11) (z := My11) hown1 (mvT hZ1 (ww hw 51 rfl)) (mvT hZ1 (ww hw 52 rfl)) (notFace_of_selects (args := #[]) (mvT hZ1 (ww hw 54 rfl))) (mvT hZ1 (ww hw 54 rfl)) (mvT hZ1 (ww hw 53 rfl)) (by decide) (backOf (W := 1) (rm11_2 l Z a0 hw [] z_COMPACT_STRINGS o0 o1 kk_o1 o1_e0 o1_e1 T1.heap n0 O1 S fc2 fc3 fc4 fc5) hZ1 (ww hw 55 rfl) (ww hw 8 rfl) (by decide) (by decide)) q7a q7c (g := (mkF m 50 #[vi f0, vi f1, vi f2, vi f3, vi f4, va o0, va o0] [(.ref o0), (.int 2)])) rfl (by rw [hml]; rfl) (Steps.refl _) (argsL := []) (rest := [(.int 2)]) (lenOf pd_14 rfl) rfl (by show 2 * 0 + _ ≤ _; exact Nat.le_of_eq rfl) (hb hby at_50) (fun _ _ => ⟨rfl, e6, (by decide : 10 + 0 ≤ _), (by decide : 124 + 0 ≤ _)⟩)
  dsimp only [Pt.U, Pt.locs, Pt.cells, Pt.slots] at X7 l7 y7 z7 st7 hQ7
  subst l7 y7 z7
  obtain ⟨rfl, Nq7, e7⟩ := hQ7
  have N7 := Fr.app N6 Nq7
  obtain ⟨fs, hr, hrun, hended, hRE⟩ := X7.leaveW (s := s) hS1 (by rw [e7]; exact (Nat.le_refl _)) (v := (some (.int 1))) (fun h => by rw [hrt] at h; cases h)
  refine ⟨_, _, ?_, hrun, hended, _, _, rfl, ?_, hRE.1, hRE.2.1, hRE.2.2.1, hRE.2.2.2.mono (by decide) (by decide)⟩
  · show Steps p.tables e below (T0.setTop (mkF m 29 #[vi f0, vi f1, vi f2, vi f3, vi f4, va o0, uu] [])) _
    refine XS.aload X0.here hx rfl (hb hby at_29) rfl rfl ?_
    refine st1.trans ?_
    refine XS.astore X1.here hx rfl (hb hby at_34) rfl rfl (l' := #[vi f0, vi f1, vi f2, vi f3, vi f4, va o0, va o0]) rfl ?_
    refine XS.aload X1.here hx rfl (hb hby at_36) rfl rfl ?_
    refine XS.aload X1.here hx rfl (hb hby at_38) rfl rfl ?_
    refine Jvm.RoadKit.acmp (g := (mkF m 40 #[vi f0, vi f1, vi f2, vi f3, vi f4, va o0, va o0] [(.ref o0), (.ref o0)])) X1 hx rfl rfl rfl (pc0 := 40) (pc' := 43) (same := true) rfl (hb hby at_40) rfl (decide_eq_true rfl) (by decide) (by decide) ?_
    refine XS.aload X1.here hx rfl (hb hby at_43) rfl rfl ?_
    refine st6.trans ?_
    show Steps p.tables e below (T6.setTop (mkF m 48 #[vi f0, vi f1, vi f2, vi f3, vi f4, va o0, va o0] [(.int 2)])) _
    refine XS.aload X6.here hx rfl (hb hby at_48) rfl rfl ?_
    refine st7.trans ?_
    refine XS.icmpNo X7.here hx rfl (hb hby at_53) rfl (teq (by decide : (2 : Int32) = (2 : Int32))).2 ?_
    refine XS.iconst X7.here hx rfl (hb hby at_56) ?_
    refine XS.goto X7.here hx rfl (pc0 := 57) (pc' := 61) rfl (hb hby at_57) (by decide) (by decide) ?_
    exact retN X7 hx (t := .boolean) hrt (by simp) (hb hby at_61) hr
  · show Q0 n0 (some (.int 1)) T7.heap _
    exact (⟨rfl, N7⟩)
def Q7_4 (Z : State) (z_COMPACT_STRINGS : Int32) (o0 : Addr) (kk_o0 : ClassId) (p0 : Int32) (p1 : Int32) (p2 : Int32) (p3 : Int32) (h0 : Heap) (n0 : Nat) (v : Option Value) (h : Heap) (L : List Loc) : Prop := v = (some (.int 1)) ∧ Fr n0 L ∧ h = h0
theorem rm7_4 (l : Launch) (Z : State) (a0 : Array Value) (hw : HW Z a0) (ws : List Jvm.Cond) (z_COMPACT_STRINGS : Int32) (o0 : Addr) (kk_o0 : ClassId) (p0 : Int32) (p1 : Int32) (p2 : Int32) (p3 : Int32) (h0 : Heap) (n0 : Nat) (O0 : Old Z n0 h0) (S : SF Z z_COMPACT_STRINGS) (V_o0 : Arv Z h0 o0 kk_o0 .byte (4 : Int32) [(.int p0), (.int p1), (.int p2), (.int p3)] (.int 0)) :
    Pay l Z My7 ws jdk_52_method_15_code 2 (some .byte) #[(.ref o0), (.int 2)] h0 ({ frames := 0, cells := 0, slots := 0, locals := 0 } : Room) (Q7_4 Z z_COMPACT_STRINGS o0 kk_o0 p0 p1 p2 p3 h0 n0) := by
  refine own_body (plainFor_of_name pn_2) (L0 := #[va o0, vi 2]) (fun _ => by first | rfl | (simp [entryFrame, mkF, argsToLocals, Value.category]; done)) ?_
  intro p e s m below meth c s₁ hrt hlk hx hby hml hZ hown0 hnm X0 e0
  have hown : s.vm.findClass sC1 = some m.cls := hown0
  have N0 := Fr.nil n0
  have K0 : Keep h0 h0 [] := Keep.refl _ _
  obtain ⟨cl1, Ar1, qk1, Sz1, Ng1, Hh1, Gg1⟩ := id V_o0
  obtain ⟨fs, hr, hrun, hended, hW, hsame⟩ := X0.leave (v := (some (.int 1))) (fun h => by rw [hrt] at h; cases h)
  refine ⟨_, _, ?_, hrun, hended, _, _, rfl, ?_, ⟨_, rfl⟩, hW, hsame.mono (by decide) (by decide)⟩
  · show Steps p.tables e below (s₁.setTop (mkF m 0 #[va o0, vi 2] [])) _
    refine XS.iloadN X0.here hx rfl (hb hby d7_0) rfl ?_
    refine XS.aloadN X0.here hx rfl (hb hby d7_1) rfl rfl ?_
    refine X0.arraylength hx (by rw [e0]; exact Ar1.1) (State.isArrayOf_alike hZ.alike Ar1.2.1) (g := (mkF m 2 #[va o0, vi 2] [(.ref o0), (.int 2)])) rfl rfl (hb hby d7_2) _ ?_
    rw [len_of Sz1 Ng1]
    refine XS.isub X0.here hx rfl (hb hby d7_3) rfl ?_
    show Steps p.tables e below (s₁.setTop (mkF m 4 #[va o0, vi 2] [(.int ((2 : Int32) - (4 : Int32)))])) _
    rw [show (((2 : Int32) - (4 : Int32)) : Int32) = (-2 : Int32) from by decide]
    refine XS.bipush X0.here hx rfl (hb hby d7_4) ?_
    refine XS.iushr X0.here hx rfl (hb hby d7_6) rfl ?_
    show Steps p.tables e below (s₁.setTop (mkF m 7 #[va o0, vi 2] [(.int (((-2 : Int32).toUInt32 >>> ((31 : Int32) &&& 31).toUInt32).toInt32))])) _
    rw [show ((((-2 : Int32).toUInt32 >>> ((31 : Int32) &&& 31).toUInt32).toInt32) : Int32) = (1 : Int32) from by decide]
    refine XS.i2b X0.here hx rfl (hb hby d7_7) rfl ?_
    show Steps p.tables e below (s₁.setTop (mkF m 8 #[va o0, vi 2] [(.int (bb (1 : Int32)))])) _
    rw [show ((bb (1 : Int32)) : Int32) = (1 : Int32) from by decide]
    exact retN X0 hx (t := .byte) hrt (by simp) (hb hby d7_8) hr
  · show Q7_4 Z z_COMPACT_STRINGS o0 kk_o0 p0 p1 p2 p3 h0 n0 (some (.int 1)) s₁.heap _
    exact (⟨rfl, N0, e0⟩)
def Q3_4 (Z : State) (z_COMPACT_STRINGS : Int32) (o0 : Addr) (o1 : Addr) (kk_o1 : ClassId) (p0 : Int32) (p1 : Int32) (h0 : Heap) (n0 : Nat) (v : Option Value) (h : Heap) (L : List Loc) : Prop := ∃ (b2_1_5_3 : Addr), ∃ (k2_1_5_3 : ClassId), ∃ (ce0_3 : Int32), ∃ (ce1_3 : Int32), ∃ (ce2_3 : Int32), ∃ (ce3_3 : Int32), v = none ∧ Fr n0 L ∧ Keep h0 h [o0] ∧ Exa Z h o0 sC0 ∧ Fld Z h o0 sC0 "coder" "B" (.int 1) ∧ Fld Z h o0 sC0 "value" "[B" (.ref b2_1_5_3) ∧ Arv Z h b2_1_5_3 k2_1_5_3 .byte (4 : Int32) [(.int ce0_3), (.int ce1_3), (.int ce2_3), (.int ce3_3)] (.int 0) ∧ h0.size ≤ b2_1_5_3
theorem rm3_4 (l : Launch) (Z : State) (a0 : Array Value) (hw : HW Z a0) (ws : List Jvm.Cond) (z_COMPACT_STRINGS : Int32) (o0 : Addr) (o1 : Addr) (kk_o1 : ClassId) (p0 : Int32) (p1 : Int32) (h0 : Heap) (n0 : Nat) (O0 : Old Z n0 h0) (S : SF Z z_COMPACT_STRINGS) (E_o0 : Exa Z h0 o0 sC0) (F_coder_o0 : Fld Z h0 o0 sC0 "coder" "B" (.int 0)) (F_value_o0 : Fld Z h0 o0 sC0 "value" "[B" .null) (V_o1 : Arv Z h0 o1 kk_o1 .char (2 : Int32) [(.int p0), (.int p1)] (.int 0)) (g_o0 : n0 ≤ o0) (hc0 : ¬ (gp2 p0 p1)) :
    Pay l Z My3 ws jdk_42_method_149_code 6 none #[(.ref o0), (.ref o1), (.int 0), (.int 2), .null] h0 ({ frames := 4, cells := 2, slots := 6, locals := 57 } : Room) (Q3_4 Z z_COMPACT_STRINGS o0 o1 kk_o1 p0 p1 h0 n0) := by
  obtain ⟨S_z_COMPACT_STRINGS, hz_z_COMPACT_STRINGS, -⟩ := id S
  refine own_body (plainFor_of_name pn_1) (L0 := #[va o0, va o1, vi 0, vi 2, .val .null, uu]) (fun _ => by first | rfl | (simp [entryFrame, mkF, argsToLocals, Value.category]; done)) ?_
  intro p e s m below meth c s₁ hrt hlk hx hby hml hZ hown0 hnm X0 e0
  have hown : s.vm.findClass sC0 = some m.cls := hown0
  have N0 := Fr.nil n0
  have K0 : Keep h0 h0 [o0] := Keep.refl _ _
  obtain ⟨T1, X1, e1, st1⟩ := initO X0 hx hZ hown (ww hw 16 rfl) (ww hw 17 rfl) (ww hw 18 rfl) e0 (g := (mkF m 1 #[va o0, va o1, vi 0, vi 2, .val .null, uu] [(.ref o0)])) rfl (by rw [hml]; rfl) rfl (hb hby d3_1) (by decide) (W := 0) (by show 2 * 0 + _ ≤ _; exact Nat.le_of_eq rfl) (by decide)
  obtain ⟨T2, X2, e2, st2⟩ := getS2 X1 hx hZ hown (host := "") (Or.inl (ww hw 19 rfl)) Via.refl e1 (S_z_COMPACT_STRINGS.ext O0.2) (g := (mkF m 27 #[va o0, va o1, vi 0, vi 2, .val .null, uu] [])) rfl (hb hby d3_27)
  obtain ⟨_, _, ⟨T3, L3, k3, n3⟩, -, X3, ⟨Lc3, hQ3, l3, y3, z3⟩, st3⟩ := Jvm.LawKit.callS X2 hx (y := My5) hown (mvT hZ (ww hw 20 rfl)) (mvT hZ (ww hw 21 rfl)) (mvT hZ (ww hw 22 rfl)) (mvT hZ (ww hw 23 rfl)) (by decide) (backOf (W := 0) (gm2_1 l Z a0 hw [] z_COMPACT_STRINGS o1 kk_o1 p0 p1 h0 n0 O0 S V_o1 hc0) hZ (ww hw 23 rfl) (ww hw 22 rfl) (by decide) (by decide)) (g := (mkF m 36 #[va o0, va o1, vi 0, vi 2, .val .null, uu] [(.int 2), (.int 0), (.ref o1)])) rfl (by rw [hml]; rfl) (argsL := [(.ref o1), (.int 0), (.int 2)]) (rest := []) (lenOf pd_4 rfl) rfl (by show 2 * 0 + _ ≤ _; exact Nat.le_of_eq rfl) (hb hby d3_36) (fun _ _ => ⟨rfl, e2, (by decide : 0 + 2 ≤ _), (by decide : 0 + 6 ≤ _)⟩)
  dsimp only [Pt.U, Pt.locs, Pt.cells, Pt.slots] at X3 l3 y3 z3 st3 hQ3
  subst l3 y3 z3
  obtain ⟨b2_1_5_3, k2_1_5_3, ce0_3, ce1_3, ce2_3, ce3_3, rfl, Nq3, Kc3, P0_3, P1_3⟩ := hQ3
  have N3 := Fr.app N0 Nq3
  have ne_o0_b2_1_5_3 : o0 ≠ b2_1_5_3 := Nat.ne_of_lt (Nat.lt_of_lt_of_le E_o0.lt P1_3)
  have ne_o1_b2_1_5_3 : o1 ≠ b2_1_5_3 := Nat.ne_of_lt (Nat.lt_of_lt_of_le V_o1.lt P1_3)
  have g_b2_1_5_3 : n0 ≤ b2_1_5_3 := Nat.le_trans (own_old O0) P1_3
  have sz_b2_1_5_3 : h0.size ≤ b2_1_5_3 := Nat.le_trans K0.1 P1_3
  have O3 := O0.keep Kc3 all0
  have K3 : Keep h0 T3.heap [o0] := K0.trans Kc3 all0
  obtain ⟨_, _, ⟨T4, L4, k4, n4⟩, -, X4, ⟨Lc4, hQ4, l4, y4, z4⟩, st4⟩ := Jvm.LawKit.callS X3 hx (y := My7) hown (mvT hZ (ww hw 28 rfl)) (mvT hZ (ww hw 29 rfl)) (mvT hZ (ww hw 22 rfl)) (mvT hZ (ww hw 30 rfl)) (by decide) (backOf (W := 1) (rm7_4 l Z a0 hw [] z_COMPACT_STRINGS b2_1_5_3 k2_1_5_3 ce0_3 ce1_3 ce2_3 ce3_3 T3.heap n0 O3 S P0_3) hZ (ww hw 30 rfl) (ww hw 22 rfl) (by decide) (by decide)) (g := (mkF m 45 #[va o0, va o1, vi 0, vi 2, .val .null, va b2_1_5_3] [(.int 2), (.ref b2_1_5_3), (.ref o0)])) rfl (by rw [hml]; rfl) (argsL := [(.ref b2_1_5_3), (.int 2)]) (rest := [(.ref o0)]) (lenOf pd_6 rfl) rfl (by show 2 * 0 + _ ≤ _; exact Nat.le_of_eq rfl) (hb hby d3_45) (fun _ _ => ⟨rfl, rfl, (by decide : 2 + 0 ≤ _), (by decide : 6 + 0 ≤ _)⟩)
  dsimp only [Pt.U, Pt.locs, Pt.cells, Pt.slots] at X4 l4 y4 z4 st4 hQ4
  subst l4 y4 z4
  obtain ⟨rfl, Nq4, e4⟩ := hQ4
  have N4 := Fr.app N3 Nq4
  have fc5 := (F_coder_o0.keep Kc3 nin0)
  have fc6 := (E_o0.keep Kc3)
  obtain ⟨T7, h7, X7, e7, W7, st7⟩ := putFN X4 hx hZ hown (ww hw 31 rfl) Via.refl e4 fc5 fc6 (Or.inr ⟨(ww hw 32 rfl), rfl, hnm⟩) (ww hw 7 rfl) (ty := .byte) (v' := (.int 1)) (by decide) rfl (by decide) (g := (mkF m 48 #[va o0, va o1, vi 0, vi 2, .val .null, va b2_1_5_3] [(.int 1), (.ref o0)])) rfl rfl (hb hby d3_48)
  have Fw7 := fc5.same W7
  have O7 := O3.wr W7 g_o0
  have K7 : Keep h0 h7 [o0] := K3.wr W7 (Or.inl (List.mem_of_getElem? (i := 0) rfl))
  have N7 := Fr.snoc X7 N4 g_o0
  have fc8 := ((F_value_o0.keep Kc3 nin0).other W7 (Or.inr (slot_ne (Or.inr (ww hw 34 rfl)) (Or.inr (ww hw 32 rfl)) (by decide) (t := (.array .byte)) (t' := .byte) (by decide) (by decide))))
  have fc9 := (fc6.wr W7)
  obtain ⟨T10, h10, X10, e10, W10, st10⟩ := putF X7 hx hZ hown (host := "") (Or.inl (ww hw 33 rfl)) Via.refl e7 fc8 fc9 (Or.inr ⟨(ww hw 34 rfl), rfl, hnm⟩) (ww hw 7 rfl) (ty := (.array .byte)) (by decide) rfl rfl (g := (mkF m 54 #[va o0, va o1, vi 0, vi 2, .val .null, va b2_1_5_3] [(.ref b2_1_5_3), (.ref o0)])) rfl rfl (hb hby d3_54)
  have Fw10 := fc8.same W10
  have O10 := O7.wr W10 g_o0
  have K10 : Keep h0 h10 [o0] := K7.wr W10 (Or.inl (List.mem_of_getElem? (i := 0) rfl))
  have N10 := Fr.snoc X10 N7 g_o0
  obtain ⟨fs, hr, hrun, hended, hW, hsame⟩ := X10.leave (v := none) (fun _ => rfl)
  have fc11 := (fc9.wr W10)
  have fc12 := (Fw7.other W10 (Or.inr (slot_ne (Or.inr (ww hw 32 rfl)) (Or.inr (ww hw 34 rfl)) (by decide) (t := .byte) (t' := (.array .byte)) (by decide) (by decide))))
  have fc13 := ((P0_3.other W7 (Ne.symm ne_o0_b2_1_5_3)).other W10 (Ne.symm ne_o0_b2_1_5_3))
  refine ⟨_, _, ?_, hrun, hended, _, _, rfl, ?_, ⟨_, rfl⟩, hW, hsame.mono (by decide) (by decide)⟩
  · show Steps p.tables e below (s₁.setTop (mkF m 0 #[va o0, va o1, vi 0, vi 2, .val .null, uu] [])) _
    refine XS.aloadN X0.here hx rfl (hb hby d3_0) rfl rfl ?_
    refine st1 _ ?_
    refine XS.iloadN X1.here hx rfl (hb hby d3_4) rfl ?_
    refine XS.ifYes X1.here hx rfl (pc0 := 5) (pc' := 27) rfl (hb hby d3_5) rfl ((if0 _ _).trans (feq (by decide : ¬ ((2 : Int32) = (0 : Int32)))).2) (by decide) (by decide) ?_
    refine st2 _ ?_
    refine XS.ifNo X2.here hx rfl (hb hby d3_30) rfl ((if0 _ _).trans (feq hz_z_COMPACT_STRINGS).1) ?_
    refine XS.aloadN X2.here hx rfl (hb hby d3_33) rfl rfl ?_
    refine XS.iloadN X2.here hx rfl (hb hby d3_34) rfl ?_
    show Steps p.tables e below (T2.setTop (mkF m 35 #[va o0, va o1, vi 0, vi 2, .val .null, uu] [(.int 0), (.ref o1)])) _
    refine XS.iloadN X2.here hx rfl (hb hby d3_35) rfl ?_
    refine st3 _ ?_
    refine XS.astore X3.here hx rfl (hb hby d3_39) rfl rfl (l' := #[va o0, va o1, vi 0, vi 2, .val .null, va b2_1_5_3]) rfl ?_
    refine XS.aloadN X3.here hx rfl (hb hby d3_41) rfl rfl ?_
    refine XS.aload X3.here hx rfl (hb hby d3_42) rfl rfl ?_
    refine XS.iloadN X3.here hx rfl (hb hby d3_44) rfl ?_
    refine st4 _ ?_
    refine st7 _ ?_
    show Steps p.tables e below (T7.setTop (mkF m 51 #[va o0, va o1, vi 0, vi 2, .val .null, va b2_1_5_3] [])) _
    refine XS.aloadN X7.here hx rfl (hb hby d3_51) rfl rfl ?_
    refine XS.aload X7.here hx rfl (hb hby d3_52) rfl rfl ?_
    refine st10 _ ?_
    exact X10.returnOut hx hrt (hb hby d3_57) hr
  · show Q3_4 Z z_COMPACT_STRINGS o0 o1 kk_o1 p0 p1 h0 n0 none T10.heap _
    rw [e10]; exact ⟨b2_1_5_3, k2_1_5_3, ce0_3, ce1_3, ce2_3, ce3_3, rfl, N10, K10, fc11, fc12, Fw10, fc13, sz_b2_1_5_3⟩
def Q2_4 (Z : State) (z_COMPACT_STRINGS : Int32) (o0 : Addr) (o1 : Addr) (kk_o1 : ClassId) (p0 : Int32) (p1 : Int32) (h0 : Heap) (n0 : Nat) (v : Option Value) (h : Heap) (L : List Loc) : Prop := ∃ (b2_1_5_3_2 : Addr), ∃ (k2_1_5_3_2 : ClassId), ∃ (ce0_3_2 : Int32), ∃ (ce1_3_2 : Int32), ∃ (ce2_3_2 : Int32), ∃ (ce3_3_2 : Int32), v = none ∧ Fr n0 L ∧ Keep h0 h [o0] ∧ Exa Z h o0 sC0 ∧ Fld Z h o0 sC0 "coder" "B" (.int 1) ∧ Fld Z h o0 sC0 "value" "[B" (.ref b2_1_5_3_2) ∧ Arv Z h b2_1_5_3_2 k2_1_5_3_2 .byte (4 : Int32) [(.int ce0_3_2), (.int ce1_3_2), (.int ce2_3_2), (.int ce3_3_2)] (.int 0) ∧ h0.size ≤ b2_1_5_3_2
theorem rm2_4 (l : Launch) (Z : State) (a0 : Array Value) (hw : HW Z a0) (ws : List Jvm.Cond) (z_COMPACT_STRINGS : Int32) (o0 : Addr) (o1 : Addr) (kk_o1 : ClassId) (p0 : Int32) (p1 : Int32) (h0 : Heap) (n0 : Nat) (O0 : Old Z n0 h0) (S : SF Z z_COMPACT_STRINGS) (E_o0 : Exa Z h0 o0 sC0) (F_coder_o0 : Fld Z h0 o0 sC0 "coder" "B" (.int 0)) (F_value_o0 : Fld Z h0 o0 sC0 "value" "[B" .null) (V_o1 : Arv Z h0 o1 kk_o1 .char (2 : Int32) [(.int p0), (.int p1)] (.int 0)) (g_o0 : n0 ≤ o0) (hc0 : ¬ (gp2 p0 p1)) :
    Pay l Z My2 ws jdk_42_method_3_code 2 none #[(.ref o0), (.ref o1)] h0 ({ frames := 5, cells := 2, slots := 6, locals := 74 } : Room) (Q2_4 Z z_COMPACT_STRINGS o0 o1 kk_o1 p0 p1 h0 n0) := by
  refine own_body (plainFor_of_name pn_1) (L0 := #[va o0, va o1]) (fun _ => by first | rfl | (simp [entryFrame, mkF, argsToLocals, Value.category]; done)) ?_
  intro p e s m below meth c s₁ hrt hlk hx hby hml hZ hown0 hnm X0 e0
  have hown : s.vm.findClass sC0 = some m.cls := hown0
  have N0 := Fr.nil n0
  have K0 : Keep h0 h0 [o0] := Keep.refl _ _
  obtain ⟨cl1, Ar1, qk1, Sz1, Ng1, Hh1, Gg1⟩ := id V_o1
  obtain ⟨_, _, ⟨T2, L2, k2, n2⟩, -, X2, ⟨Lc2, hQ2, l2, y2, z2⟩, st2⟩ := X0.specialBack hx (y := My3) rfl hown (mvT hZ (ww hw 12 rfl)) (mvT hZ (ww hw 13 rfl)) (mvT hZ (ww hw 15 rfl)) (by decide) (backOf (W := 0) (rm3_4 l Z a0 hw [] z_COMPACT_STRINGS o0 o1 kk_o1 p0 p1 h0 n0 O0 S E_o0 F_coder_o0 F_value_o0 V_o1 g_o0 hc0) hZ (ww hw 15 rfl) (ww hw 8 rfl) (by decide) (by decide)) (g := (mkF m 6 #[va o0, va o1] [.null, (.int 2), (.int 0), (.ref o1), (.ref o0)])) rfl (by rw [hml]; rfl) (Steps.refl _) (a := o0) (argsL := [(.ref o1), (.int 0), (.int 2), .null]) (rest := []) (lenOf pd_7 rfl) rfl (by show 2 * 0 + _ ≤ _; exact Nat.le_of_eq rfl) (hb hby d2_6) (fun _ _ => ⟨rfl, e0, (by decide : 0 + 2 ≤ _), (by decide : 0 + 6 ≤ _)⟩)
  dsimp only [Pt.U, Pt.locs, Pt.cells, Pt.slots] at X2 l2 y2 z2 st2 hQ2
  subst l2 y2 z2
  obtain ⟨b2_1_5_3_2, k2_1_5_3_2, ce0_3_2, ce1_3_2, ce2_3_2, ce3_3_2, rfl, Nq2, Kc2, P0_2, P1_2, P2_2, P3_2, P4_2⟩ := hQ2
  have N2 := Fr.app N0 Nq2
  have ne_o0_b2_1_5_3_2 : o0 ≠ b2_1_5_3_2 := Nat.ne_of_lt (Nat.lt_of_lt_of_le E_o0.lt P4_2)
  have ne_o1_b2_1_5_3_2 : o1 ≠ b2_1_5_3_2 := Nat.ne_of_lt (Nat.lt_of_lt_of_le V_o1.lt P4_2)
  have g_b2_1_5_3_2 : n0 ≤ b2_1_5_3_2 := Nat.le_trans (own_old O0) P4_2
  have sz_b2_1_5_3_2 : h0.size ≤ b2_1_5_3_2 := Nat.le_trans K0.1 P4_2
  have O2 := O0.keep Kc2 (allS g_o0 all0)
  have K2 : Keep h0 T2.heap [o0] := K0.trans Kc2 (allS (Or.inl (List.mem_of_getElem? (i := 0) rfl)) all0)
  obtain ⟨fs, hr, hrun, hended, hW, hsame⟩ := X2.leave (v := none) (fun _ => rfl)
  refine ⟨_, _, ?_, hrun, hended, _, _, rfl, ?_, ⟨_, rfl⟩, hW, hsame.mono (by decide) (by decide)⟩
  · show Steps p.tables e below (s₁.setTop (mkF m 0 #[va o0, va o1] [])) _
    refine XS.aloadN X0.here hx rfl (hb hby d2_0) rfl rfl ?_
    refine XS.aloadN X0.here hx rfl (hb hby d2_1) rfl rfl ?_
    refine XS.iconst X0.here hx rfl (hb hby d2_2) ?_
    refine XS.aloadN X0.here hx rfl (hb hby d2_3) rfl rfl ?_
    refine X0.arraylength hx (by rw [e0]; exact Ar1.1) (State.isArrayOf_alike hZ.alike Ar1.2.1) (g := (mkF m 4 #[va o0, va o1] [(.ref o1), (.int 0), (.ref o1), (.ref o0)])) rfl rfl (hb hby d2_4) _ ?_
    rw [len_of Sz1 Ng1]
    refine XS.aconstNull X0.here hx rfl (hb hby d2_5) ?_
    refine st2.trans ?_
    exact X2.returnOut hx hrt (hb hby d2_9) hr
  · show Q2_4 Z z_COMPACT_STRINGS o0 o1 kk_o1 p0 p1 h0 n0 none T2.heap _
    exact (⟨b2_1_5_3_2, k2_1_5_3_2, ce0_3_2, ce1_3_2, ce2_3_2, ce3_3_2, rfl, N2, K2, P0_2, P1_2, P2_2, P3_2, sz_b2_1_5_3_2⟩)
def Q1_4 (Z : State) (z_COMPACT_STRINGS : Int32) (p0 : Int32) (p1 : Int32) (p2 : Int32) (p3 : Int32) (p4 : Int32) (h0 : Heap) (n0 : Nat) (v : Option Value) (h : Heap) (L : List Loc) : Prop := ∃ (b6 : Addr), ∃ (b2_1_5_3_2_8 : Addr), ∃ (k2_1_5_3_2_8 : ClassId), ∃ (ce0_3_2_8 : Int32), ∃ (ce1_3_2_8 : Int32), ∃ (ce2_3_2_8 : Int32), ∃ (ce3_3_2_8 : Int32), v = (some (.ref b6)) ∧ Fr n0 L ∧ Keep h0 h [] ∧ Exa Z h b6 sC0 ∧ Fld Z h b6 sC0 "coder" "B" (.int 1) ∧ Fld Z h b6 sC0 "value" "[B" (.ref b2_1_5_3_2_8) ∧ Arv Z h b2_1_5_3_2_8 k2_1_5_3_2_8 .byte (4 : Int32) [(.int ce0_3_2_8), (.int ce1_3_2_8), (.int ce2_3_2_8), (.int ce3_3_2_8)] (.int 0) ∧ h0.size ≤ b6 ∧ h0.size ≤ b2_1_5_3_2_8 ∧ b6 ≠ b2_1_5_3_2_8
theorem rm1_4 (l : Launch) (Z : State) (a0 : Array Value) (hw : HW Z a0) (ws : List Jvm.Cond) (z_COMPACT_STRINGS : Int32) (p0 : Int32) (p1 : Int32) (p2 : Int32) (p3 : Int32) (p4 : Int32) (h0 : Heap) (n0 : Nat) (O0 : Old Z n0 h0) (S : SF Z z_COMPACT_STRINGS) (hc0 : ¬ (p0 = (0 : Int32))) (hc1 : p0 = (1 : Int32)) (hc2 : ¬ (gp2 (cc p1) (cc p2))) :
    Pay l Z My1 ws method_3_code 6 (some (.object sC0)) #[(.int p0), (.int p1), (.int p2), (.int p3), (.int p4)] h0 ({ frames := 6, cells := 4, slots := 12, locals := 88 } : Room) (Q1_4 Z z_COMPACT_STRINGS p0 p1 p2 p3 p4 h0 n0) := by
  refine own_body (plainFor_of_name pn_0) (L0 := #[vi p0, vi p1, vi p2, vi p3, vi p4, uu]) (fun _ => by first | rfl | (simp [entryFrame, mkF, argsToLocals, Value.category]; done)) ?_
  intro p e s m below meth c s₁ hrt hlk hx hby hml hZ hown0 hnm X0 e0
  have hown : s.vm.findClass sC3 = some m.cls := hown0
  have N0 := Fr.nil n0
  have K0 : Keep h0 h0 [] := Keep.refl _ _
  obtain ⟨T1, h1, k1, X1, e1, E1, A1, st1⟩ := newP X0 hx hZ (ww hw 5 rfl) e0 (g := (mkF m 30 #[vi p0, vi p1, vi p2, vi p3, vi p4, uu] [(.int 2)])) rfl (hb hby d1_30) rfl (by decide) (cap := 2) (by decide) (by decide) (by decide) (by decide)
  obtain ⟨b1, qs1⟩ : ∃ z, z = h0.size := ⟨_, rfl⟩
  rw [← qs1] at A1 st1
  have g_b1 : n0 ≤ b1 := Nat.le_trans (own_old O0) (Nat.le_of_eq qs1.symm)
  have sz_b1 : h0.size ≤ b1 := Nat.le_trans K0.1 (Nat.le_of_eq qs1.symm)
  have O1 := O0.ext E1
  have K1 : Keep h0 h1 [] := K0.ext E1
  have V_b1 : Arv Z h1 b1 k1 .char (2 : Int32) [(.int 0), (.int 0)] (.int 0) := (Arv.new A1 (by decide)).pad (pad_rep [] (.int 0) 2)
  obtain ⟨cl2, Ar2, qk2, Sz2, Ng2, Hh2, Gg2⟩ := id V_b1
  have hin2_0 : ¬ ((0 : Int32) < 0 ∨ cl2.slots.size ≤ ((0 : Int32)).toNatClampNeg) := inb_of Sz2 ⟨by decide, by decide⟩
  obtain ⟨T3, h3, X3, e3, W3, st3⟩ := stC X1 hx hZ e1 Ar2 (j := (0 : Int32)) hin2_0 (g := (mkF m 38 #[vi p0, vi p1, vi p2, vi p3, vi p4, va b1] [(.int p1), (.int 0), (.ref b1)])) rfl rfl (hb hby d1_38)
  have V3 : Arv Z h3 b1 k1 .char (2 : Int32) [(.int (cc p1)), (.int 0)] (.int 0) := Arv.set Ar2 qk2 Sz2 Ng2 Hh2 Gg2 (fits_nar_char _) W3 0 rfl (Nat.le_of_ble_eq_true rfl)
  have O3 := O1.wr W3 g_b1
  have K3 : Keep h0 h3 [] := K1.wr W3 (Or.inr sz_b1)
  have N3 := Fr.snoc X3 N0 g_b1
  obtain ⟨cl4, Ar4, qk4, Sz4, Ng4, Hh4, Gg4⟩ := id V3
  have hin4_1 : ¬ ((1 : Int32) < 0 ∨ cl4.slots.size ≤ ((1 : Int32)).toNatClampNeg) := inb_of Sz4 ⟨by decide, by decide⟩
  obtain ⟨T5, h5, X5, e5, W5, st5⟩ := stC X3 hx hZ e3 Ar4 (j := (1 : Int32)) hin4_1 (g := (mkF m 43 #[vi p0, vi p1, vi p2, vi p3, vi p4, va b1] [(.int p2), (.int 1), (.ref b1)])) rfl rfl (hb hby d1_43)
  have V5 : Arv Z h5 b1 k1 .char (2 : Int32) [(.int (cc p1)), (.int (cc p2))] (.int 0) := Arv.set Ar4 qk4 Sz4 Ng4 Hh4 Gg4 (fits_nar_char _) W5 1 rfl (Nat.le_of_ble_eq_true rfl)
  have O5 := O3.wr W5 g_b1
  have K5 : Keep h0 h5 [] := K3.wr W5 (Or.inr sz_b1)
  have N5 := Fr.snoc X5 N3 g_b1
  obtain ⟨T6, h6, X6, e6, E6, A6, D6, -, st6⟩ := newO X5 hx hZ hown (ww hw 6 rfl) (ww hw 7 rfl) (ww hw 8 rfl) e5 (g := (mkF m 44 #[vi p0, vi p1, vi p2, vi p3, vi p4, va b1] [])) rfl (hb hby d1_44) (by decide) (by decide)
  obtain ⟨b6, qs6⟩ : ∃ z, z = h5.size := ⟨_, rfl⟩
  rw [← qs6] at A6 D6 st6
  have ne_b1_b6 : b1 ≠ b6 := Nat.ne_of_lt (Nat.lt_of_lt_of_le V5.lt (Nat.le_of_eq qs6.symm))
  have g_b6 : n0 ≤ b6 := Nat.le_trans (own_old O5) (Nat.le_of_eq qs6.symm)
  have sz_b6 : h0.size ≤ b6 := Nat.le_trans K5.1 (Nat.le_of_eq qs6.symm)
  have O6 := O5.ext E6
  have K6 : Keep h0 h6 [] := K5.ext E6
  have F_coder_b6 : Fld Z h6 b6 sC0 "coder" "B" (.int 0) := D6 (Or.inr (ww hw 32 rfl)) (ty := .byte) (by decide)
  have F_value_b6 : Fld Z h6 b6 sC0 "value" "[B" .null := D6 (Or.inr (ww hw 34 rfl)) (ty := (.array .byte)) (by decide)
  have fc7 := (V5.ext E6)
  obtain ⟨_, _, ⟨T8, L8, k8, n8⟩, -, X8, ⟨Lc8, hQ8, l8, y8, z8⟩, st8⟩ := X6.specialBack hx (y := My2) rfl hown (mvT hZ (ww hw 9 rfl)) (mvT hZ (ww hw 10 rfl)) (mvT hZ (ww hw 11 rfl)) (by decide) (backOf (W := 1) (rm2_4 l Z a0 hw [] z_COMPACT_STRINGS b6 b1 k1 (cc p1) (cc p2) h6 n0 O6 S A6 F_coder_b6 F_value_b6 fc7 g_b6 hc2) hZ (ww hw 11 rfl) (ww hw 8 rfl) (by decide) (by decide)) (g := (mkF m 50 #[vi p0, vi p1, vi p2, vi p3, vi p4, va b1] [(.ref b1), (.ref b6), (.ref b6)])) rfl (by rw [hml]; rfl) (Steps.refl _) (a := b6) (argsL := [(.ref b1)]) (rest := [(.ref b6)]) (lenOf pd_8 rfl) rfl (by show 2 * 0 + _ ≤ _; exact Nat.le_of_eq rfl) (hb hby d1_50) (fun _ _ => ⟨rfl, e6, (by decide : 2 + 2 ≤ _), (by decide : 6 + 6 ≤ _)⟩)
  dsimp only [Pt.U, Pt.locs, Pt.cells, Pt.slots] at X8 l8 y8 z8 st8 hQ8
  subst l8 y8 z8
  obtain ⟨b2_1_5_3_2_8, k2_1_5_3_2_8, ce0_3_2_8, ce1_3_2_8, ce2_3_2_8, ce3_3_2_8, rfl, Nq8, Kc8, P0_8, P1_8, P2_8, P3_8, P4_8⟩ := hQ8
  have N8 := Fr.app N5 Nq8
  have ne_b1_b2_1_5_3_2_8 : b1 ≠ b2_1_5_3_2_8 := Nat.ne_of_lt (Nat.lt_of_lt_of_le fc7.lt P4_8)
  have ne_b6_b2_1_5_3_2_8 : b6 ≠ b2_1_5_3_2_8 := Nat.ne_of_lt (Nat.lt_of_lt_of_le A6.lt P4_8)
  have g_b2_1_5_3_2_8 : n0 ≤ b2_1_5_3_2_8 := Nat.le_trans (own_old O6) P4_8
  have sz_b2_1_5_3_2_8 : h0.size ≤ b2_1_5_3_2_8 := Nat.le_trans K6.1 P4_8
  have O8 := O6.keep Kc8 (allS g_b6 all0)
  have K8 : Keep h0 T8.heap [] := K6.trans Kc8 (allS (Or.inr sz_b6) all0)
  obtain ⟨fs, hr, hrun, hended, hW, hsame⟩ := X8.leave (v := (some (.ref b6))) (fun h => by rw [hrt] at h; cases h)
  refine ⟨_, _, ?_, hrun, hended, _, _, rfl, ?_, ⟨_, rfl⟩, hW, hsame.mono (by decide) (by decide)⟩
  · show Steps p.tables e below (s₁.setTop (mkF m 0 #[vi p0, vi p1, vi p2, vi p3, vi p4, uu] [])) _
    refine XS.iloadN X0.here hx rfl (hb hby d1_0) rfl ?_
    refine XS.ifYes X0.here hx rfl (pc0 := 1) (pc' := 24) rfl (hb hby d1_1) rfl ((if0 _ _).trans (feq hc0).2) (by decide) (by decide) ?_
    refine XS.iloadN X0.here hx rfl (hb hby d1_24) rfl ?_
    refine XS.iconst X0.here hx rfl (hb hby d1_25) ?_
    refine XS.icmpNo X0.here hx rfl (hb hby d1_26) rfl (teq hc1).2 ?_
    refine XS.iconst X0.here hx rfl (hb hby d1_29) ?_
    refine st1 _ ?_
    refine XS.astore X1.here hx rfl (hb hby d1_32) rfl rfl (l' := #[vi p0, vi p1, vi p2, vi p3, vi p4, va b1]) rfl ?_
    show Steps p.tables e below (T1.setTop (mkF m 34 #[vi p0, vi p1, vi p2, vi p3, vi p4, va b1] [])) _
    refine XS.aload X1.here hx rfl (hb hby d1_34) rfl rfl ?_
    refine XS.iconst X1.here hx rfl (hb hby d1_36) ?_
    refine XS.iloadN X1.here hx rfl (hb hby d1_37) rfl ?_
    refine st3 _ ?_
    refine XS.aload X3.here hx rfl (hb hby d1_39) rfl rfl ?_
    refine XS.iconst X3.here hx rfl (hb hby d1_41) ?_
    refine XS.iloadN X3.here hx rfl (hb hby d1_42) rfl ?_
    refine st5 _ ?_
    show Steps p.tables e below (T5.setTop (mkF m 44 #[vi p0, vi p1, vi p2, vi p3, vi p4, va b1] [])) _
    refine st6 _ ?_
    refine XS.dup X6.here hx rfl (hb hby d1_47) rfl rfl ?_
    refine XS.aload X6.here hx rfl (hb hby d1_48) rfl rfl ?_
    refine st8.trans ?_
    exact retOut X8 hx (t := (.object sC0)) (i := .areturn) hrt rfl (Or.inr (Or.inr (Or.inr (Or.inr ⟨rfl, rfl, rfl⟩)))) (hb hby d1_53) hr
  · show Q1_4 Z z_COMPACT_STRINGS p0 p1 p2 p3 p4 h0 n0 (some (.ref b6)) T8.heap _
    exact (⟨b6, b2_1_5_3_2_8, k2_1_5_3_2_8, ce0_3_2_8, ce1_3_2_8, ce2_3_2_8, ce3_3_2_8, rfl, N8, K8, P0_8, P1_8, P2_8, P3_8, sz_b6, sz_b2_1_5_3_2_8, ne_b6_b2_1_5_3_2_8⟩)
def Q9_3 (Z : State) (z_COMPACT_STRINGS : Int32) (o0 : Addr) (o1 : Addr) (o2 : Addr) (kk_o1 : ClassId) (p0 : Int32) (p1 : Int32) (p2 : Int32) (p3 : Int32) (h0 : Heap) (n0 : Nat) (v : Option Value) (h : Heap) (L : List Loc) : Prop := v = (some (.ref o0)) ∧ Fr n0 L ∧ h = h0
theorem rm9_3 (l : Launch) (Z : State) (a0 : Array Value) (hw : HW Z a0) (ws : List Jvm.Cond) (z_COMPACT_STRINGS : Int32) (o0 : Addr) (o1 : Addr) (o2 : Addr) (kk_o1 : ClassId) (p0 : Int32) (p1 : Int32) (p2 : Int32) (p3 : Int32) (h0 : Heap) (n0 : Nat) (O0 : Old Z n0 h0) (S : SF Z z_COMPACT_STRINGS) :
    Pay l Z My9 ws jdk_31_method_11_code 2 (some (.object sC4)) #[(.ref o0), (.ref o2)] h0 ({ frames := 0, cells := 0, slots := 0, locals := 0 } : Room) (Q9_3 Z z_COMPACT_STRINGS o0 o1 o2 kk_o1 p0 p1 p2 p3 h0 n0) := by
  refine own_body (plainFor_of_name pn_4) (L0 := #[va o0, va o2]) (fun _ => by first | rfl | (simp [entryFrame, mkF, argsToLocals, Value.category]; done)) ?_
  intro p e s m below meth c s₁ hrt hlk hx hby hml hZ hown0 hnm X0 e0
  have hown : s.vm.findClass sC5 = some m.cls := hown0
  have N0 := Fr.nil n0
  have K0 : Keep h0 h0 [] := Keep.refl _ _
  obtain ⟨fs, hr, hrun, hended, hW, hsame⟩ := X0.leave (v := (some (.ref o0))) (fun h => by rw [hrt] at h; cases h)
  refine ⟨_, _, ?_, hrun, hended, _, _, rfl, ?_, ⟨_, rfl⟩, hW, hsame.mono (by decide) (by decide)⟩
  · show Steps p.tables e below (s₁.setTop (mkF m 0 #[va o0, va o2] [])) _
    refine XS.aloadN X0.here hx rfl (hb hby d9_0) rfl rfl ?_
    refine XS.ifnonnullYes X0.here hx rfl (pc0 := 1) (pc' := 13) rfl (hb hby d9_1) rfl (by decide) (by decide) ?_
    refine XS.aloadN X0.here hx rfl (hb hby d9_13) rfl rfl ?_
    exact retOut X0 hx (t := (.object sC4)) (i := .areturn) hrt rfl (Or.inr (Or.inr (Or.inr (Or.inr ⟨rfl, rfl, rfl⟩)))) (hb hby d9_14) hr
  · show Q9_3 Z z_COMPACT_STRINGS o0 o1 o2 kk_o1 p0 p1 p2 p3 h0 n0 (some (.ref o0)) s₁.heap _
    exact (⟨rfl, N0, e0⟩)
def Q10_3 (Z : State) (z_COMPACT_STRINGS : Int32) (o0 : Addr) (o1 : Addr) (kk_o1 : ClassId) (p0 : Int32) (p1 : Int32) (p2 : Int32) (p3 : Int32) (h0 : Heap) (n0 : Nat) (v : Option Value) (h : Heap) (L : List Loc) : Prop := v = (some (.int 0)) ∧ Fr n0 L ∧ h = h0
theorem rm10_3 (l : Launch) (Z : State) (a0 : Array Value) (hw : HW Z a0) (ws : List Jvm.Cond) (z_COMPACT_STRINGS : Int32) (o0 : Addr) (o1 : Addr) (kk_o1 : ClassId) (p0 : Int32) (p1 : Int32) (p2 : Int32) (p3 : Int32) (h0 : Heap) (n0 : Nat) (O0 : Old Z n0 h0) (S : SF Z z_COMPACT_STRINGS) (F_value_o0 : Fld Z h0 o0 sC0 "value" "[B" (.ref o1)) (V_o1 : Arv Z h0 o1 kk_o1 .byte (4 : Int32) [(.int p0), (.int p1), (.int p2), (.int p3)] (.int 0)) :
    Pay l Z My10 ws jdk_42_method_55_code 1 (some .boolean) #[(.ref o0)] h0 ({ frames := 0, cells := 0, slots := 0, locals := 0 } : Room) (Q10_3 Z z_COMPACT_STRINGS o0 o1 kk_o1 p0 p1 p2 p3 h0 n0) := by
  refine own_body (plainFor_of_name pn_1) (L0 := #[va o0]) (fun _ => by first | rfl | (simp [entryFrame, mkF, argsToLocals, Value.category]; done)) ?_
  intro p e s m below meth c s₁ hrt hlk hx hby hml hZ hown0 hnm X0 e0
  have hown : s.vm.findClass sC0 = some m.cls := hown0
  have N0 := Fr.nil n0
  have K0 : Keep h0 h0 [] := Keep.refl _ _
  obtain ⟨T1, X1, e1, st1⟩ := getF X0 hx hZ hown (host := "") (Or.inl (ww hw 33 rfl)) Via.refl e0 F_value_o0 (g := (mkF m 1 #[va o0] [(.ref o0)])) rfl rfl (hb hby d10_1)
  obtain ⟨cl2, Ar2, qk2, Sz2, Ng2, Hh2, Gg2⟩ := id V_o1
  obtain ⟨fs, hr, hrun, hended, hW, hsame⟩ := X1.leave (v := (some (.int 0))) (fun h => by rw [hrt] at h; cases h)
  refine ⟨_, _, ?_, hrun, hended, _, _, rfl, ?_, ⟨_, rfl⟩, hW, hsame.mono (by decide) (by decide)⟩
  · show Steps p.tables e below (s₁.setTop (mkF m 0 #[va o0] [])) _
    refine XS.aloadN X0.here hx rfl (hb hby d10_0) rfl rfl ?_
    refine st1 _ ?_
    refine X1.arraylength hx (by rw [e1]; exact Ar2.1) (State.isArrayOf_alike hZ.alike Ar2.2.1) (g := (mkF m 4 #[va o0] [(.ref o1)])) rfl rfl (hb hby d10_4) _ ?_
    rw [len_of Sz2 Ng2]
    refine XS.ifYes X1.here hx rfl (pc0 := 5) (pc' := 12) rfl (hb hby d10_5) rfl ((if0 _ _).trans (feq (by decide : ¬ ((4 : Int32) = (0 : Int32)))).2) (by decide) (by decide) ?_
    refine XS.iconst X1.here hx rfl (hb hby d10_12) ?_
    exact retN X1 hx (t := .boolean) hrt (by simp) (hb hby d10_13) hr
  · show Q10_3 Z z_COMPACT_STRINGS o0 o1 kk_o1 p0 p1 p2 p3 h0 n0 (some (.int 0)) T1.heap _
    exact (⟨rfl, N0, e1⟩)
def Q8_3 (Z : State) (z_COMPACT_STRINGS : Int32) (o0 : Addr) (o1 : Addr) (kk_o1 : ClassId) (p0 : Int32) (p1 : Int32) (p2 : Int32) (p3 : Int32) (h0 : Heap) (n0 : Nat) (v : Option Value) (h : Heap) (L : List Loc) : Prop := v = (some (.ref o0)) ∧ Fr n0 L ∧ Keep h0 h []
theorem rm8_3 (l : Launch) (Z : State) (a0 : Array Value) (hw : HW Z a0) (ws : List Jvm.Cond) (z_COMPACT_STRINGS : Int32) (o0 : Addr) (o1 : Addr) (kk_o1 : ClassId) (p0 : Int32) (p1 : Int32) (p2 : Int32) (p3 : Int32) (h0 : Heap) (n0 : Nat) (O0 : Old Z n0 h0) (S : SF Z z_COMPACT_STRINGS) (E_o0 : Exa Z h0 o0 sC0) (F_value_o0 : Fld Z h0 o0 sC0 "value" "[B" (.ref o1)) (V_o1 : Arv Z h0 o1 kk_o1 .byte (4 : Int32) [(.int p0), (.int p1), (.int p2), (.int p3)] (.int 0)) :
    PayW l Z My8 ws prog_14_method_7_code 1 (some (.object sC0)) #[(.ref o0)] h0 ({ frames := 1, cells := 2, slots := 60, locals := 13 } : Room) (Q8_3 Z z_COMPACT_STRINGS o0 o1 kk_o1 p0 p1 p2 p3 h0 n0) := by
  refine own_body (plainFor_of_name pn_3) (L0 := #[va o0]) (fun _ => by first | rfl | (simp [entryFrame, mkF, argsToLocals, Value.category]; done)) ?_
  intro p e s m below meth c s₁ hrt hlk hx hby hml hZ hown0 hnm X0 e0
  have hown : s.vm.findClass sC2 = some m.cls := hown0
  have N0 := Fr.nil n0
  have K0 : Keep h0 h0 [] := Keep.refl _ _
  obtain ⟨a1, T1, h1, kk1, X1, e1, E1, hS1, hk1, hZ1, hown1, st1⟩ := ldcS (s := s) (vm0 := s.vm) X0 hx hZ hown (ww hw 39 rfl) (own_wS hw) e0 (k0 := 0) ((State.WarmedH.refl s).since 0) (Nat.zero_le _) (g := (mkF m 1 #[va o0] [(.ref o0)])) rfl (hb hby d8_1) (n := 56) (by decide +kernel) (by decide) (by decide) (by decide)
  have O1 := O0.ext E1
  have K1 : Keep h0 h1 [] := K0.ext E1
  obtain ⟨_, _, ⟨T2, L2, k2, n2⟩, -, X2, ⟨Lc2, hQ2, l2, y2, z2⟩, st2⟩ := Jvm.LawKit.callS X1 hx (y := My9) hown1 (mvT hZ1 (ww hw 42 rfl)) (mvT hZ1 (ww hw 43 rfl)) (mvT hZ1 (ww hw 44 rfl)) (mvT hZ1 (ww hw 45 rfl)) (by decide) (backOf (W := 0) (rm9_3 l Z a0 hw [] z_COMPACT_STRINGS o0 o1 a1 kk_o1 p0 p1 p2 p3 h1 n0 O1 S) hZ1 (ww hw 45 rfl) (ww hw 44 rfl) (by decide) (by decide)) (g := (mkF m 3 #[va o0] [(.ref a1), (.ref o0)])) rfl (by rw [hml]; rfl) (argsL := [(.ref o0), (.ref a1)]) (rest := []) (lenOf pd_10 rfl) rfl (by show 2 * 0 + _ ≤ _; exact Nat.le_of_eq rfl) (hb hby d8_3) (fun _ _ => ⟨rfl, e1, (by decide : 2 + 0 ≤ _), (by decide : 60 + 0 ≤ _)⟩)
  dsimp only [Pt.U, Pt.locs, Pt.cells, Pt.slots] at X2 l2 y2 z2 st2 hQ2
  subst l2 y2 z2
  obtain ⟨rfl, Nq2, e2⟩ := hQ2
  have N2 := Fr.app N0 Nq2
  have fc3 := (F_value_o0.ext E1)
  have fc4 := (V_o1.ext E1)
  have fc6 := (E_o0.ext E1)
  obtain ⟨cq5, kq5, q5a, q5b, q5c⟩ := isOf hZ1 e2 fc6
  obtain ⟨_, _, ⟨T5, L5, k5, n5⟩, -, X5, ⟨Lc5, hQ5, l5, y5, z5⟩, st5⟩ := X2.virtualBack hx (y := My10) (z := My10) hown1 (mvT hZ1 (ww hw 46 rfl)) (mvT hZ1 (ww hw 47 rfl)) (notFace_of_selects (args := #[]) (mvT hZ1 (ww hw 49 rfl))) (mvT hZ1 (ww hw 49 rfl)) (mvT hZ1 (ww hw 48 rfl)) (by decide) (backOf (W := 0) (rm10_3 l Z a0 hw [] z_COMPACT_STRINGS o0 o1 kk_o1 p0 p1 p2 p3 h1 n0 O1 S fc3 fc4) hZ1 (ww hw 50 rfl) (ww hw 8 rfl) (by decide) (by decide)) q5a q5c (g := (mkF m 8 #[va o0] [(.ref o0)])) rfl (by rw [hml]; rfl) (Steps.refl _) (argsL := []) (rest := []) (lenOf pd_11 rfl) rfl (by show 2 * 0 + _ ≤ _; exact Nat.le_of_eq rfl) (hb hby d8_8) (fun _ _ => ⟨rfl, e2, (by decide : 2 + 0 ≤ _), (by decide : 60 + 0 ≤ _)⟩)
  dsimp only [Pt.U, Pt.locs, Pt.cells, Pt.slots] at X5 l5 y5 z5 st5 hQ5
  subst l5 y5 z5
  obtain ⟨rfl, Nq5, e5⟩ := hQ5
  have N5 := Fr.app N2 Nq5
  obtain ⟨fs, hr, hrun, hended, hRE⟩ := X5.leaveW (s := s) hS1 (by rw [e5]; exact hk1) (v := (some (.ref o0))) (fun h => by rw [hrt] at h; cases h)
  refine ⟨_, _, ?_, hrun, hended, _, _, rfl, ?_, hRE.1, hRE.2.1, hRE.2.2.1, hRE.2.2.2.mono (by decide) (by decide)⟩
  · show Steps p.tables e below (s₁.setTop (mkF m 0 #[va o0] [])) _
    refine XS.aloadN X0.here hx rfl (hb hby d8_0) rfl rfl ?_
    refine st1 _ ?_
    refine st2 _ ?_
    refine XS.pop X2.here hx rfl (hb hby d8_6) rfl rfl ?_
    refine XS.aloadN X2.here hx rfl (hb hby d8_7) rfl rfl ?_
    refine st5.trans ?_
    refine XS.ifYes X5.here hx rfl (pc0 := 11) (pc' := 24) rfl (hb hby d8_11) rfl ((if0 _ _).trans (teq (by decide : (0 : Int32) = (0 : Int32))).1) (by decide) (by decide) ?_
    refine XS.aloadN X5.here hx rfl (hb hby d8_24) rfl rfl ?_
    show Steps p.tables e below (T5.setTop (mkF m 25 #[va o0] [(.ref o0)])) _
    exact retOut X5 hx (t := (.object sC0)) (i := .areturn) hrt rfl (Or.inr (Or.inr (Or.inr (Or.inr ⟨rfl, rfl, rfl⟩)))) (hb hby d8_25) hr
  · show Q8_3 Z z_COMPACT_STRINGS o0 o1 kk_o1 p0 p1 p2 p3 h0 n0 (some (.ref o0)) T5.heap _
    rw [e5]; exact ⟨rfl, N5, K1⟩
def Q12_3 (Z : State) (z_COMPACT_STRINGS : Int32) (o0 : Addr) (o1 : Addr) (kk_o1 : ClassId) (p0 : Int32) (p1 : Int32) (p2 : Int32) (p3 : Int32) (h0 : Heap) (n0 : Nat) (v : Option Value) (h : Heap) (L : List Loc) : Prop := v = (some (.int 1)) ∧ Fr n0 L ∧ h = h0
theorem rm12_3 (l : Launch) (Z : State) (a0 : Array Value) (hw : HW Z a0) (ws : List Jvm.Cond) (z_COMPACT_STRINGS : Int32) (o0 : Addr) (o1 : Addr) (kk_o1 : ClassId) (p0 : Int32) (p1 : Int32) (p2 : Int32) (p3 : Int32) (h0 : Heap) (n0 : Nat) (O0 : Old Z n0 h0) (S : SF Z z_COMPACT_STRINGS) (F_coder_o0 : Fld Z h0 o0 sC0 "coder" "B" (.int 1)) :
    Pay l Z My12 ws jdk_42_method_152_code 1 (some .byte) #[(.ref o0)] h0 ({ frames := 0, cells := 0, slots := 0, locals := 0 } : Room) (Q12_3 Z z_COMPACT_STRINGS o0 o1 kk_o1 p0 p1 p2 p3 h0 n0) := by
  obtain ⟨S_z_COMPACT_STRINGS, hz_z_COMPACT_STRINGS, -⟩ := id S
  refine own_body (plainFor_of_name pn_1) (L0 := #[va o0]) (fun _ => by first | rfl | (simp [entryFrame, mkF, argsToLocals, Value.category]; done)) ?_
  intro p e s m below meth c s₁ hrt hlk hx hby hml hZ hown0 hnm X0 e0
  have hown : s.vm.findClass sC0 = some m.cls := hown0
  have N0 := Fr.nil n0
  have K0 : Keep h0 h0 [] := Keep.refl _ _
  obtain ⟨T1, X1, e1, st1⟩ := getS2 X0 hx hZ hown (host := "") (Or.inl (ww hw 19 rfl)) Via.refl e0 (S_z_COMPACT_STRINGS.ext O0.2) (g := (mkF m 0 #[va o0] [])) rfl (hb hby d12_0)
  obtain ⟨T2, X2, e2, st2⟩ := getF X1 hx hZ hown (host := "") (Or.inl (ww hw 31 rfl)) Via.refl e1 F_coder_o0 (g := (mkF m 7 #[va o0] [(.ref o0)])) rfl rfl (hb hby d12_7)
  obtain ⟨fs, hr, hrun, hended, hW, hsame⟩ := X2.leave (v := (some (.int 1))) (fun h => by rw [hrt] at h; cases h)
  refine ⟨_, _, ?_, hrun, hended, _, _, rfl, ?_, ⟨_, rfl⟩, hW, hsame.mono (by decide) (by decide)⟩
  · show Steps p.tables e below (s₁.setTop (mkF m 0 #[va o0] [])) _
    refine st1 _ ?_
    refine XS.ifNo X1.here hx rfl (hb hby d12_3) rfl ((if0 _ _).trans (feq hz_z_COMPACT_STRINGS).1) ?_
    refine XS.aloadN X1.here hx rfl (hb hby d12_6) rfl rfl ?_
    refine st2 _ ?_
    refine XS.goto X2.here hx rfl (pc0 := 10) (pc' := 14) rfl (hb hby d12_10) (by decide) (by decide) ?_
    exact retN X2 hx (t := .byte) hrt (by simp) (hb hby d12_14) hr
  · show Q12_3 Z z_COMPACT_STRINGS o0 o1 kk_o1 p0 p1 p2 p3 h0 n0 (some (.int 1)) T2.heap _
    exact (⟨rfl, N0, e2⟩)
def Q11_3 (Z : State) (z_COMPACT_STRINGS : Int32) (o0 : Addr) (o1 : Addr) (kk_o1 : ClassId) (p0 : Int32) (p1 : Int32) (p2 : Int32) (p3 : Int32) (h0 : Heap) (n0 : Nat) (v : Option Value) (h : Heap) (L : List Loc) : Prop := v = (some (.int 2)) ∧ Fr n0 L ∧ h = h0
theorem rm11_3 (l : Launch) (Z : State) (a0 : Array Value) (hw : HW Z a0) (ws : List Jvm.Cond) (z_COMPACT_STRINGS : Int32) (o0 : Addr) (o1 : Addr) (kk_o1 : ClassId) (p0 : Int32) (p1 : Int32) (p2 : Int32) (p3 : Int32) (h0 : Heap) (n0 : Nat) (O0 : Old Z n0 h0) (S : SF Z z_COMPACT_STRINGS) (E_o0 : Exa Z h0 o0 sC0) (F_coder_o0 : Fld Z h0 o0 sC0 "coder" "B" (.int 1)) (F_value_o0 : Fld Z h0 o0 sC0 "value" "[B" (.ref o1)) (V_o1 : Arv Z h0 o1 kk_o1 .byte (4 : Int32) [(.int p0), (.int p1), (.int p2), (.int p3)] (.int 0)) :
    Pay l Z My11 ws jdk_42_method_54_code 1 (some .int) #[(.ref o0)] h0 ({ frames := 1, cells := 0, slots := 0, locals := 13 } : Room) (Q11_3 Z z_COMPACT_STRINGS o0 o1 kk_o1 p0 p1 p2 p3 h0 n0) := by
  refine own_body (plainFor_of_name pn_1) (L0 := #[va o0]) (fun _ => by first | rfl | (simp [entryFrame, mkF, argsToLocals, Value.category]; done)) ?_
  intro p e s m below meth c s₁ hrt hlk hx hby hml hZ hown0 hnm X0 e0
  have hown : s.vm.findClass sC0 = some m.cls := hown0
  have N0 := Fr.nil n0
  have K0 : Keep h0 h0 [] := Keep.refl _ _
  obtain ⟨T1, X1, e1, st1⟩ := getF X0 hx hZ hown (host := "") (Or.inl (ww hw 33 rfl)) Via.refl e0 F_value_o0 (g := (mkF m 1 #[va o0] [(.ref o0)])) rfl rfl (hb hby d11_1)
  obtain ⟨cl2, Ar2, qk2, Sz2, Ng2, Hh2, Gg2⟩ := id V_o1
  obtain ⟨cq3, kq3, q3a, q3b, q3c⟩ := isOf hZ e1 E_o0
  obtain ⟨_, _, ⟨T3, L3, k3, n3⟩, -, X3, ⟨Lc3, hQ3, l3, y3, z3⟩, st3⟩ := X1.virtualBack hx (y := My12) (z := My12) hown (mvT hZ (ww hw 56 rfl)) (mvT hZ (ww hw 57 rfl)) (notFace_of_selects (args := #[]) (mvT hZ (ww hw 59 rfl))) (mvT hZ (ww hw 59 rfl)) (mvT hZ (ww hw 58 rfl)) (by decide) (backOf (W := 1) (rm12_3 l Z a0 hw [] z_COMPACT_STRINGS o0 o1 kk_o1 p0 p1 p2 p3 h0 n0 O0 S F_coder_o0) hZ (ww hw 60 rfl) (ww hw 8 rfl) (by decide) (by decide)) q3a q3c (g := (mkF m 6 #[va o0] [(.ref o0), (.int 4)])) rfl (by rw [hml]; rfl) (Steps.refl _) (argsL := []) (rest := [(.int 4)]) (lenOf pd_13 rfl) rfl (by show 2 * 0 + _ ≤ _; exact Nat.le_of_eq rfl) (hb hby d11_6) (fun _ _ => ⟨rfl, e1, (by decide : 0 + 0 ≤ _), (by decide : 0 + 0 ≤ _)⟩)
  dsimp only [Pt.U, Pt.locs, Pt.cells, Pt.slots] at X3 l3 y3 z3 st3 hQ3
  subst l3 y3 z3
  obtain ⟨rfl, Nq3, e3⟩ := hQ3
  have N3 := Fr.app N0 Nq3
  obtain ⟨fs, hr, hrun, hended, hW, hsame⟩ := X3.leave (v := (some (.int 2))) (fun h => by rw [hrt] at h; cases h)
  refine ⟨_, _, ?_, hrun, hended, _, _, rfl, ?_, ⟨_, rfl⟩, hW, hsame.mono (by decide) (by decide)⟩
  · show Steps p.tables e below (s₁.setTop (mkF m 0 #[va o0] [])) _
    refine XS.aloadN X0.here hx rfl (hb hby d11_0) rfl rfl ?_
    refine st1 _ ?_
    refine X1.arraylength hx (by rw [e1]; exact Ar2.1) (State.isArrayOf_alike hZ.alike Ar2.2.1) (g := (mkF m 4 #[va o0] [(.ref o1)])) rfl rfl (hb hby d11_4) _ ?_
    rw [len_of Sz2 Ng2]
    refine XS.aloadN X1.here hx rfl (hb hby d11_5) rfl rfl ?_
    refine st3.trans ?_
    refine XS.ishr X3.here hx rfl (hb hby d11_9) rfl ?_
    show Steps p.tables e below (T3.setTop (mkF m 10 #[va o0] [(.int ((4 : Int32) >>> ((1 : Int32) &&& 31)))])) _
    rw [show (((4 : Int32) >>> ((1 : Int32) &&& 31)) : Int32) = (2 : Int32) from by decide]
    exact retOut X3 hx (t := .int) (i := .ireturn) hrt rfl (Or.inl ⟨rfl, Or.inl rfl, _, rfl⟩) (hb hby d11_10) hr
  · show Q11_3 Z z_COMPACT_STRINGS o0 o1 kk_o1 p0 p1 p2 p3 h0 n0 (some (.int 2)) T3.heap _
    exact (⟨rfl, N3, e3⟩)
theorem jn4 {p : Program} {l : Launch} {e : Env} {s : State} {m : MethodId} {below : List Frame} {meth : Method} {c : Code} {T0 : State} {locs : List Loc} {Z : State} {a0 : Array Value} {h0 : Heap} {n0 : Nat} (hx : p.tables.exec = Jvm.exec) (hZ : Z.Warmed39 s.vm) (hby : c.code = code) (hml : c.maxLocals = 7) (hown : s.vm.findClass sC3 = some m.cls) (hrt : meth.sig.returnType = ret) (hlk : meth.locks = false) (hw : HW Z a0) (z_COMPACT_STRINGS : Int32) (o0 : Addr) (o1 : Addr) (kk_o1 : ClassId) (p0 : Int32) (p1 : Int32) (p2 : Int32) (p3 : Int32) (p4 : Int32) (f0 : Int32) (f1 : Int32) (f2 : Int32) (f3 : Int32) (f4 : Int32) (o1_e0 : Int32) (o1_e1 : Int32) (o1_e2 : Int32) (o1_e3 : Int32) (X0 : Stand p l e room_1 s m #[(.int p0), (.int p1), (.int p2), (.int p3), (.int p4)] below meth c T0 locs 8 64) (e0 : T0.heap = h0) (N0 : Fr n0 locs) (O0 : Old Z n0 h0) (S : SF Z z_COMPACT_STRINGS) (E_o0 : Exa Z h0 o0 sC0) (F_coder_o0 : Fld Z h0 o0 sC0 "coder" "B" (.int 1)) (F_value_o0 : Fld Z h0 o0 sC0 "value" "[B" (.ref o1)) (V_o1 : Arv Z h0 o1 kk_o1 .byte (4 : Int32) [(.int o1_e0), (.int o1_e1), (.int o1_e2), (.int o1_e3)] (.int 0)) :
    ∃ s₂ o, Steps p.tables e below (T0.setTop (mkF m 29 #[vi f0, vi f1, vi f2, vi f3, vi f4, va o0, uu] [])) s₂ ∧ s₂.status = .running ∧ Ended s₂ below o ∧ ∃ v L, o = .returned v ∧ Q0 n0 v s₂.heap L ∧ ReturnedEndW s o s₂ L room_1.cells room_1.slots := by
  have K0 : Keep h0 h0 [] := Keep.refl _ _
  obtain ⟨_, _, ⟨T1, L1, k1, n1⟩, -, X1, hS1, hge1, ⟨Lc1, hQ1, l1, y1, z1⟩, st1⟩ := callSS X0 hx (y := My8) hown (mvT hZ (ww hw 35 rfl)) (mvT hZ (ww hw 36 rfl)) (mvT hZ (ww hw 37 rfl)) (mvT hZ (ww hw 38 rfl)) (by decide) (backOfS (W := 0) (rm8_3 l Z a0 hw [] z_COMPACT_STRINGS o0 o1 kk_o1 o1_e0 o1_e1 o1_e2 o1_e3 h0 n0 O0 S E_o0 F_value_o0 V_o1) hZ (ww hw 38 rfl) (ww hw 37 rfl) (by decide) (by decide)) (g := (mkF m 31 #[vi f0, vi f1, vi f2, vi f3, vi f4, va o0, uu] [(.ref o0)])) rfl (by rw [hml]; rfl) (argsL := [(.ref o0)]) (rest := []) (lenOf pd_12 rfl) rfl (by show 2 * 0 + _ ≤ _; exact Nat.le_of_eq rfl) (hb hby at_31) (fun _ _ => ⟨rfl, e0, (by decide : 8 + 2 ≤ _), (by decide : 64 + 60 ≤ _)⟩)
  dsimp only [Pt.U, Pt.locs, Pt.cells, Pt.slots] at X1 l1 y1 z1 st1 hQ1 hS1 hge1
  subst l1 y1 z1
  have hZ1 : Z.Warmed39 (s.setVm T1.vm).vm := State.Warmed39.trans hZ hS1.1
  have hown1 : (s.setVm T1.vm).vm.findClass sC3 = some m.cls := by rw [show (s.setVm T1.vm).vm = T1.vm from rfl, hS1.1.alike.findClass]; exact hown
  obtain ⟨rfl, Nq1, Kc1⟩ := hQ1
  have N1 := Fr.app N0 Nq1
  have O1 := O0.keep Kc1 all0
  have K1 : Keep h0 T1.heap [] := K0.trans Kc1 all0
  have fc2 := (E_o0.keep Kc1)
  have fc3 := (F_coder_o0.keep Kc1 nin0)
  have fc4 := (F_value_o0.keep Kc1 nin0)
  have fc5 := (V_o1.keep Kc1 nin0)
  obtain ⟨cq6, kq6, q6a, q6b, q6c⟩ := isOf hZ1 rfl fc2
  obtain ⟨_, _, ⟨T6, L6, k6, n6⟩, -, X6, ⟨Lc6, hQ6, l6, y6, z6⟩, st6⟩ := X1.virtualBack hx (y := My11) (z := My11) hown1 (mvT hZ1 (ww hw 51 rfl)) (mvT hZ1 (ww hw 52 rfl)) (notFace_of_selects (args := #[]) (mvT hZ1 (ww hw 54 rfl))) (mvT hZ1 (ww hw 54 rfl)) (mvT hZ1 (ww hw 53 rfl)) (by decide) (backOf (W := 0) (rm11_3 l Z a0 hw [] z_COMPACT_STRINGS o0 o1 kk_o1 o1_e0 o1_e1 o1_e2 o1_e3 T1.heap n0 O1 S fc2 fc3 fc4 fc5) hZ1 (ww hw 55 rfl) (ww hw 8 rfl) (by decide) (by decide)) q6a q6c (g := (mkF m 45 #[vi f0, vi f1, vi f2, vi f3, vi f4, va o0, va o0] [(.ref o0)])) rfl (by rw [hml]; rfl) (Steps.refl _) (argsL := []) (rest := []) (lenOf pd_14 rfl) rfl (by show 2 * 0 + _ ≤ _; exact Nat.le_of_eq rfl) (hb hby at_45) (fun _ _ => ⟨rfl, rfl, (by decide : 10 + 0 ≤ _), (by decide : 124 + 0 ≤ _)⟩)
  dsimp only [Pt.U, Pt.locs, Pt.cells, Pt.slots] at X6 l6 y6 z6 st6 hQ6
  subst l6 y6 z6
  obtain ⟨rfl, Nq6, e6⟩ := hQ6
  have N6 := Fr.app N1 Nq6
  obtain ⟨cq7, kq7, q7a, q7b, q7c⟩ := isOf hZ1 e6 fc2
  obtain ⟨_, _, ⟨T7, L7, k7, n7⟩, -, X7, ⟨Lc7, hQ7, l7, y7, z7⟩, st7⟩ := X6.virtualBack hx (y := My11) (z := My11) hown1 (mvT hZ1 (ww hw 51 rfl)) (mvT hZ1 (ww hw 52 rfl)) (notFace_of_selects (args := #[]) (mvT hZ1 (ww hw 54 rfl))) (mvT hZ1 (ww hw 54 rfl)) (mvT hZ1 (ww hw 53 rfl)) (by decide) (backOf (W := 1) (rm11_3 l Z a0 hw [] z_COMPACT_STRINGS o0 o1 kk_o1 o1_e0 o1_e1 o1_e2 o1_e3 T1.heap n0 O1 S fc2 fc3 fc4 fc5) hZ1 (ww hw 55 rfl) (ww hw 8 rfl) (by decide) (by decide)) q7a q7c (g := (mkF m 50 #[vi f0, vi f1, vi f2, vi f3, vi f4, va o0, va o0] [(.ref o0), (.int 2)])) rfl (by rw [hml]; rfl) (Steps.refl _) (argsL := []) (rest := [(.int 2)]) (lenOf pd_14 rfl) rfl (by show 2 * 0 + _ ≤ _; exact Nat.le_of_eq rfl) (hb hby at_50) (fun _ _ => ⟨rfl, e6, (by decide : 10 + 0 ≤ _), (by decide : 124 + 0 ≤ _)⟩)
  dsimp only [Pt.U, Pt.locs, Pt.cells, Pt.slots] at X7 l7 y7 z7 st7 hQ7
  subst l7 y7 z7
  obtain ⟨rfl, Nq7, e7⟩ := hQ7
  have N7 := Fr.app N6 Nq7
  obtain ⟨fs, hr, hrun, hended, hRE⟩ := X7.leaveW (s := s) hS1 (by rw [e7]; exact (Nat.le_refl _)) (v := (some (.int 1))) (fun h => by rw [hrt] at h; cases h)
  refine ⟨_, _, ?_, hrun, hended, _, _, rfl, ?_, hRE.1, hRE.2.1, hRE.2.2.1, hRE.2.2.2.mono (by decide) (by decide)⟩
  · show Steps p.tables e below (T0.setTop (mkF m 29 #[vi f0, vi f1, vi f2, vi f3, vi f4, va o0, uu] [])) _
    refine XS.aload X0.here hx rfl (hb hby at_29) rfl rfl ?_
    refine st1.trans ?_
    refine XS.astore X1.here hx rfl (hb hby at_34) rfl rfl (l' := #[vi f0, vi f1, vi f2, vi f3, vi f4, va o0, va o0]) rfl ?_
    refine XS.aload X1.here hx rfl (hb hby at_36) rfl rfl ?_
    refine XS.aload X1.here hx rfl (hb hby at_38) rfl rfl ?_
    refine Jvm.RoadKit.acmp (g := (mkF m 40 #[vi f0, vi f1, vi f2, vi f3, vi f4, va o0, va o0] [(.ref o0), (.ref o0)])) X1 hx rfl rfl rfl (pc0 := 40) (pc' := 43) (same := true) rfl (hb hby at_40) rfl (decide_eq_true rfl) (by decide) (by decide) ?_
    refine XS.aload X1.here hx rfl (hb hby at_43) rfl rfl ?_
    refine st6.trans ?_
    show Steps p.tables e below (T6.setTop (mkF m 48 #[vi f0, vi f1, vi f2, vi f3, vi f4, va o0, va o0] [(.int 2)])) _
    refine XS.aload X6.here hx rfl (hb hby at_48) rfl rfl ?_
    refine st7.trans ?_
    refine XS.icmpNo X7.here hx rfl (hb hby at_53) rfl (teq (by decide : (2 : Int32) = (2 : Int32))).2 ?_
    refine XS.iconst X7.here hx rfl (hb hby at_56) ?_
    refine XS.goto X7.here hx rfl (pc0 := 57) (pc' := 61) rfl (hb hby at_57) (by decide) (by decide) ?_
    exact retN X7 hx (t := .boolean) hrt (by simp) (hb hby at_61) hr
  · show Q0 n0 (some (.int 1)) T7.heap _
    exact (⟨rfl, N7⟩)
theorem d1_59 : decode method_3_code 59 = .ok (.iconst 3, 1) := by decide +kernel
theorem d1_60 : decode method_3_code 60 = .ok (.newarray .char, 2) := by decide +kernel
theorem d1_62 : decode method_3_code 62 = .ok (.astore 5, 2) := by decide +kernel
theorem d1_64 : decode method_3_code 64 = .ok (.aload 5, 2) := by decide +kernel
theorem d1_66 : decode method_3_code 66 = .ok (.iconst 0, 1) := by decide +kernel
theorem d1_67 : decode method_3_code 67 = .ok (.iload_n 1, 1) := by decide +kernel
theorem d1_68 : decode method_3_code 68 = .ok (.castore, 1) := by decide +kernel
theorem d1_69 : decode method_3_code 69 = .ok (.aload 5, 2) := by decide +kernel
theorem d1_71 : decode method_3_code 71 = .ok (.iconst 1, 1) := by decide +kernel
theorem d1_72 : decode method_3_code 72 = .ok (.iload_n 2, 1) := by decide +kernel
theorem d1_73 : decode method_3_code 73 = .ok (.castore, 1) := by decide +kernel
theorem d1_74 : decode method_3_code 74 = .ok (.aload 5, 2) := by decide +kernel
theorem d1_76 : decode method_3_code 76 = .ok (.iconst 2, 1) := by decide +kernel
theorem d1_77 : decode method_3_code 77 = .ok (.iload_n 3, 1) := by decide +kernel
theorem d1_78 : decode method_3_code 78 = .ok (.castore, 1) := by decide +kernel
theorem d1_79 : decode method_3_code 79 = .ok (.new 21, 3) := by decide +kernel
theorem d1_82 : decode method_3_code 82 = .ok (.dup, 1) := by decide +kernel
theorem d1_83 : decode method_3_code 83 = .ok (.aload 5, 2) := by decide +kernel
theorem d1_85 : decode method_3_code 85 = .ok (.invokespecial 26, 3) := by decide +kernel
def Q6_10 (Z : State) (z_COMPACT_STRINGS : Int32) (o0 : Addr) (o1 : Addr) (kk_o0 : ClassId) (kk_o1 : ClassId) (p0 : Int32) (p1 : Int32) (p2 : Int32) (h0 : Heap) (n0 : Nat) (v : Option Value) (h : Heap) (L : List Loc) : Prop := v = (some (.int 3)) ∧ Fr n0 L ∧ Keep h0 h [o1] ∧ Arv Z h o1 kk_o1 .byte (3 : Int32) [(.int (bb (bb p0))), (.int (bb (bb p1))), (.int (bb (bb p2)))] (.int 0)
theorem rm6_10 (l : Launch) (Z : State) (a0 : Array Value) (hw : HW Z a0) (ws : List Jvm.Cond) (z_COMPACT_STRINGS : Int32) (o0 : Addr) (o1 : Addr) (kk_o0 : ClassId) (kk_o1 : ClassId) (p0 : Int32) (p1 : Int32) (p2 : Int32) (h0 : Heap) (n0 : Nat) (O0 : Old Z n0 h0) (S : SF Z z_COMPACT_STRINGS) (V_o0 : Arv Z h0 o0 kk_o0 .char (3 : Int32) [(.int p0), (.int p1), (.int p2)] (.int 0)) (V_o1 : Arv Z h0 o1 kk_o1 .byte (3 : Int32) [(.int 0), (.int 0), (.int 0)] (.int 0)) (ne_o0_o1 : o0 ≠ o1) (g_o1 : n0 ≤ o1) (hc0 : ¬ ((255 : Int32) < p0)) (hc1 : ¬ ((255 : Int32) < p1)) (hc2 : ¬ ((255 : Int32) < p2)) :
    Pay l Z My6 ws jdk_52_method_21_code 7 (some .int) #[(.ref o0), (.int 0), (.ref o1), (.int 0), (.int 3)] h0 ({ frames := 0, cells := 0, slots := 0, locals := 0 } : Room) (Q6_10 Z z_COMPACT_STRINGS o0 o1 kk_o0 kk_o1 p0 p1 p2 h0 n0) := by
  refine own_body (plainFor_of_name pn_2) (L0 := #[va o0, vi 0, va o1, vi 0, vi 3, uu, uu]) (fun _ => by first | rfl | (simp [entryFrame, mkF, argsToLocals, Value.category]; done)) ?_
  intro p e s m below meth c s₁ hrt hlk hx hby hml hZ hown0 hnm X0 e0
  have hown : s.vm.findClass sC1 = some m.cls := hown0
  have N0 := Fr.nil n0
  have K0 : Keep h0 h0 [o1] := Keep.refl _ _
  obtain ⟨cl1, Ar1, qk1, Sz1, Ng1, Hh1, Gg1⟩ := id V_o0
  have hin1_0 : ¬ ((0 : Int32) < 0 ∨ cl1.slots.size ≤ ((0 : Int32)).toNatClampNeg) := inb_of Sz1 ⟨by decide, by decide⟩
  obtain ⟨cl2, Ar2, qk2, Sz2, Ng2, Hh2, Gg2⟩ := id V_o1
  have hin2_0 : ¬ ((0 : Int32) < 0 ∨ cl2.slots.size ≤ ((0 : Int32)).toNatClampNeg) := inb_of Sz2 ⟨by decide, by decide⟩
  obtain ⟨T3, h3, X3, e3, W3, st3⟩ := stB X0 hx hZ e0 Ar2 (j := (0 : Int32)) hin2_0 (g := (mkF m 31 #[va o0, vi 0, va o1, vi 0, vi 3, vi 0, vi p0] [(.int (bb p0)), (.int 0), (.ref o1)])) rfl rfl (hb hby d6_31)
  have V3 : Arv Z h3 o1 kk_o1 .byte (3 : Int32) [(.int (bb (bb p0))), (.int 0), (.int 0)] (.int 0) := Arv.set Ar2 qk2 Sz2 Ng2 Hh2 Gg2 (fits_nar_byte _) W3 0 rfl (Nat.le_of_ble_eq_true rfl)
  have O3 := O0.wr W3 g_o1
  have K3 : Keep h0 h3 [o1] := K0.wr W3 (Or.inl (List.mem_of_getElem? (i := 0) rfl))
  have N3 := Fr.snoc X3 N0 g_o1
  have fc4 := (V_o0.other W3 ne_o0_o1)
  obtain ⟨cl5, Ar5, qk5, Sz5, Ng5, Hh5, Gg5⟩ := id fc4
  have hin5_1 : ¬ ((1 : Int32) < 0 ∨ cl5.slots.size ≤ ((1 : Int32)).toNatClampNeg) := inb_of Sz5 ⟨by decide, by decide⟩
  obtain ⟨cl6, Ar6, qk6, Sz6, Ng6, Hh6, Gg6⟩ := id V3
  have hin6_1 : ¬ ((1 : Int32) < 0 ∨ cl6.slots.size ≤ ((1 : Int32)).toNatClampNeg) := inb_of Sz6 ⟨by decide, by decide⟩
  obtain ⟨T7, h7, X7, e7, W7, st7⟩ := stB X3 hx hZ e3 Ar6 (j := (1 : Int32)) hin6_1 (g := (mkF m 31 #[va o0, vi 1, va o1, vi 1, vi 3, vi 1, vi p1] [(.int (bb p1)), (.int 1), (.ref o1)])) rfl rfl (hb hby d6_31)
  have V7 : Arv Z h7 o1 kk_o1 .byte (3 : Int32) [(.int (bb (bb p0))), (.int (bb (bb p1))), (.int 0)] (.int 0) := Arv.set Ar6 qk6 Sz6 Ng6 Hh6 Gg6 (fits_nar_byte _) W7 1 rfl (Nat.le_of_ble_eq_true rfl)
  have O7 := O3.wr W7 g_o1
  have K7 : Keep h0 h7 [o1] := K3.wr W7 (Or.inl (List.mem_of_getElem? (i := 0) rfl))
  have N7 := Fr.snoc X7 N3 g_o1
  have fc8 := (fc4.other W7 ne_o0_o1)
  obtain ⟨cl9, Ar9, qk9, Sz9, Ng9, Hh9, Gg9⟩ := id fc8
  have hin9_2 : ¬ ((2 : Int32) < 0 ∨ cl9.slots.size ≤ ((2 : Int32)).toNatClampNeg) := inb_of Sz9 ⟨by decide, by decide⟩
  obtain ⟨cl10, Ar10, qk10, Sz10, Ng10, Hh10, Gg10⟩ := id V7
  have hin10_2 : ¬ ((2 : Int32) < 0 ∨ cl10.slots.size ≤ ((2 : Int32)).toNatClampNeg) := inb_of Sz10 ⟨by decide, by decide⟩
  obtain ⟨T11, h11, X11, e11, W11, st11⟩ := stB X7 hx hZ e7 Ar10 (j := (2 : Int32)) hin10_2 (g := (mkF m 31 #[va o0, vi 2, va o1, vi 2, vi 3, vi 2, vi p2] [(.int (bb p2)), (.int 2), (.ref o1)])) rfl rfl (hb hby d6_31)
  have V11 : Arv Z h11 o1 kk_o1 .byte (3 : Int32) [(.int (bb (bb p0))), (.int (bb (bb p1))), (.int (bb (bb p2)))] (.int 0) := Arv.set Ar10 qk10 Sz10 Ng10 Hh10 Gg10 (fits_nar_byte _) W11 2 rfl (Nat.le_of_ble_eq_true rfl)
  have O11 := O7.wr W11 g_o1
  have K11 : Keep h0 h11 [o1] := K7.wr W11 (Or.inl (List.mem_of_getElem? (i := 0) rfl))
  have N11 := Fr.snoc X11 N7 g_o1
  obtain ⟨fs, hr, hrun, hended, hW, hsame⟩ := X11.leave (v := (some (.int 3))) (fun h => by rw [hrt] at h; cases h)
  refine ⟨_, _, ?_, hrun, hended, _, _, rfl, ?_, ⟨_, rfl⟩, hW, hsame.mono (by decide) (by decide)⟩
  · show Steps p.tables e below (s₁.setTop (mkF m 0 #[va o0, vi 0, va o1, vi 0, vi 3, uu, uu] [])) _
    refine XS.iconst X0.here hx rfl (hb hby d6_0) ?_
    refine XS.istore X0.here hx rfl (hb hby d6_1) rfl (l' := #[va o0, vi 0, va o1, vi 0, vi 3, vi 0, uu]) rfl ?_
    refine XS.iload X0.here hx rfl (hb hby d6_3) rfl ?_
    refine XS.iload X0.here hx rfl (hb hby d6_5) rfl ?_
    refine XS.icmpNo X0.here hx rfl (hb hby d6_7) rfl (tlt (by decide : (0 : Int32) < (3 : Int32))).2.1 ?_
    refine XS.aloadN X0.here hx rfl (hb hby d6_10) rfl rfl ?_
    refine XS.iloadN X0.here hx rfl (hb hby d6_11) rfl ?_
    refine X0.caload hx (j := (0 : Int32)) (v := (.int p0)) (by rw [e0]; exact Ar1.1) (State.isArrayOf_alike hZ.alike Ar1.2.1) Ar1.2.2 hin1_0 (Has.at Hh1 hin1_0 rfl) (g := (mkF m 12 #[va o0, vi 0, va o1, vi 0, vi 3, vi 0, uu] [(.int 0), (.ref o0)])) rfl rfl (hb hby d6_12) _ ?_
    show Steps p.tables e below (s₁.setTop (mkF m 13 #[va o0, vi 0, va o1, vi 0, vi 3, vi 0, uu] [(.int p0)])) _
    refine XS.istore X0.here hx rfl (hb hby d6_13) rfl (l' := #[va o0, vi 0, va o1, vi 0, vi 3, vi 0, vi p0]) rfl ?_
    refine XS.iload X0.here hx rfl (hb hby d6_15) rfl ?_
    refine XS.sipush X0.here hx rfl (hb hby d6_17) ?_
    refine XS.icmpYes X0.here hx rfl (pc0 := 20) (pc' := 26) rfl (hb hby d6_20) rfl (flt hc0).2.2.2 (by decide) (by decide) ?_
    refine XS.aloadN X0.here hx rfl (hb hby d6_26) rfl rfl ?_
    refine XS.iloadN X0.here hx rfl (hb hby d6_27) rfl ?_
    refine XS.iload X0.here hx rfl (hb hby d6_28) rfl ?_
    refine XS.i2b X0.here hx rfl (hb hby d6_30) rfl ?_
    show Steps p.tables e below (s₁.setTop (mkF m 31 #[va o0, vi 0, va o1, vi 0, vi 3, vi 0, vi p0] [(.int (bb p0)), (.int 0), (.ref o1)])) _
    refine st3 _ ?_
    refine XS.iinc X3.here hx rfl (hb hby d6_32) rfl (l' := #[va o0, vi ((0 : Int32) + (1 : Int32)), va o1, vi 0, vi 3, vi 0, vi p0]) rfl ?_
    show Steps p.tables e below (T3.setTop (mkF m 35 #[va o0, vi ((0 : Int32) + (1 : Int32)), va o1, vi 0, vi 3, vi 0, vi p0] [])) _
    rw [show (((0 : Int32) + (1 : Int32)) : Int32) = (1 : Int32) from by decide]
    refine XS.iinc X3.here hx rfl (hb hby d6_35) rfl (l' := #[va o0, vi 1, va o1, vi ((0 : Int32) + (1 : Int32)), vi 3, vi 0, vi p0]) rfl ?_
    show Steps p.tables e below (T3.setTop (mkF m 38 #[va o0, vi 1, va o1, vi ((0 : Int32) + (1 : Int32)), vi 3, vi 0, vi p0] [])) _
    rw [show (((0 : Int32) + (1 : Int32)) : Int32) = (1 : Int32) from by decide]
    refine XS.iinc X3.here hx rfl (hb hby d6_38) rfl (l' := #[va o0, vi 1, va o1, vi 1, vi 3, vi ((0 : Int32) + (1 : Int32)), vi p0]) rfl ?_
    show Steps p.tables e below (T3.setTop (mkF m 41 #[va o0, vi 1, va o1, vi 1, vi 3, vi ((0 : Int32) + (1 : Int32)), vi p0] [])) _
    rw [show (((0 : Int32) + (1 : Int32)) : Int32) = (1 : Int32) from by decide]
    refine XS.goto X3.here hx rfl (pc0 := 41) (pc' := 3) rfl (hb hby d6_41) (by decide) (by decide) ?_
    refine XS.iload X3.here hx rfl (hb hby d6_3) rfl ?_
    refine XS.iload X3.here hx rfl (hb hby d6_5) rfl ?_
    refine XS.icmpNo X3.here hx rfl (hb hby d6_7) rfl (tlt (by decide : (1 : Int32) < (3 : Int32))).2.1 ?_
    refine XS.aloadN X3.here hx rfl (hb hby d6_10) rfl rfl ?_
    refine XS.iloadN X3.here hx rfl (hb hby d6_11) rfl ?_
    refine X3.caload hx (j := (1 : Int32)) (v := (.int p1)) (by rw [e3]; exact Ar5.1) (State.isArrayOf_alike hZ.alike Ar5.2.1) Ar5.2.2 hin5_1 (Has.at Hh5 hin5_1 rfl) (g := (mkF m 12 #[va o0, vi 1, va o1, vi 1, vi 3, vi 1, vi p0] [(.int 1), (.ref o0)])) rfl rfl (hb hby d6_12) _ ?_
    show Steps p.tables e below (T3.setTop (mkF m 13 #[va o0, vi 1, va o1, vi 1, vi 3, vi 1, vi p0] [(.int p1)])) _
    refine XS.istore X3.here hx rfl (hb hby d6_13) rfl (l' := #[va o0, vi 1, va o1, vi 1, vi 3, vi 1, vi p1]) rfl ?_
    refine XS.iload X3.here hx rfl (hb hby d6_15) rfl ?_
    refine XS.sipush X3.here hx rfl (hb hby d6_17) ?_
    refine XS.icmpYes X3.here hx rfl (pc0 := 20) (pc' := 26) rfl (hb hby d6_20) rfl (flt hc1).2.2.2 (by decide) (by decide) ?_
    refine XS.aloadN X3.here hx rfl (hb hby d6_26) rfl rfl ?_
    refine XS.iloadN X3.here hx rfl (hb hby d6_27) rfl ?_
    refine XS.iload X3.here hx rfl (hb hby d6_28) rfl ?_
    refine XS.i2b X3.here hx rfl (hb hby d6_30) rfl ?_
    show Steps p.tables e below (T3.setTop (mkF m 31 #[va o0, vi 1, va o1, vi 1, vi 3, vi 1, vi p1] [(.int (bb p1)), (.int 1), (.ref o1)])) _
    refine st7 _ ?_
    refine XS.iinc X7.here hx rfl (hb hby d6_32) rfl (l' := #[va o0, vi ((1 : Int32) + (1 : Int32)), va o1, vi 1, vi 3, vi 1, vi p1]) rfl ?_
    show Steps p.tables e below (T7.setTop (mkF m 35 #[va o0, vi ((1 : Int32) + (1 : Int32)), va o1, vi 1, vi 3, vi 1, vi p1] [])) _
    rw [show (((1 : Int32) + (1 : Int32)) : Int32) = (2 : Int32) from by decide]
    refine XS.iinc X7.here hx rfl (hb hby d6_35) rfl (l' := #[va o0, vi 2, va o1, vi ((1 : Int32) + (1 : Int32)), vi 3, vi 1, vi p1]) rfl ?_
    show Steps p.tables e below (T7.setTop (mkF m 38 #[va o0, vi 2, va o1, vi ((1 : Int32) + (1 : Int32)), vi 3, vi 1, vi p1] [])) _
    rw [show (((1 : Int32) + (1 : Int32)) : Int32) = (2 : Int32) from by decide]
    refine XS.iinc X7.here hx rfl (hb hby d6_38) rfl (l' := #[va o0, vi 2, va o1, vi 2, vi 3, vi ((1 : Int32) + (1 : Int32)), vi p1]) rfl ?_
    show Steps p.tables e below (T7.setTop (mkF m 41 #[va o0, vi 2, va o1, vi 2, vi 3, vi ((1 : Int32) + (1 : Int32)), vi p1] [])) _
    rw [show (((1 : Int32) + (1 : Int32)) : Int32) = (2 : Int32) from by decide]
    refine XS.goto X7.here hx rfl (pc0 := 41) (pc' := 3) rfl (hb hby d6_41) (by decide) (by decide) ?_
    refine XS.iload X7.here hx rfl (hb hby d6_3) rfl ?_
    refine XS.iload X7.here hx rfl (hb hby d6_5) rfl ?_
    refine XS.icmpNo X7.here hx rfl (hb hby d6_7) rfl (tlt (by decide : (2 : Int32) < (3 : Int32))).2.1 ?_
    refine XS.aloadN X7.here hx rfl (hb hby d6_10) rfl rfl ?_
    refine XS.iloadN X7.here hx rfl (hb hby d6_11) rfl ?_
    refine X7.caload hx (j := (2 : Int32)) (v := (.int p2)) (by rw [e7]; exact Ar9.1) (State.isArrayOf_alike hZ.alike Ar9.2.1) Ar9.2.2 hin9_2 (Has.at Hh9 hin9_2 rfl) (g := (mkF m 12 #[va o0, vi 2, va o1, vi 2, vi 3, vi 2, vi p1] [(.int 2), (.ref o0)])) rfl rfl (hb hby d6_12) _ ?_
    show Steps p.tables e below (T7.setTop (mkF m 13 #[va o0, vi 2, va o1, vi 2, vi 3, vi 2, vi p1] [(.int p2)])) _
    refine XS.istore X7.here hx rfl (hb hby d6_13) rfl (l' := #[va o0, vi 2, va o1, vi 2, vi 3, vi 2, vi p2]) rfl ?_
    refine XS.iload X7.here hx rfl (hb hby d6_15) rfl ?_
    refine XS.sipush X7.here hx rfl (hb hby d6_17) ?_
    refine XS.icmpYes X7.here hx rfl (pc0 := 20) (pc' := 26) rfl (hb hby d6_20) rfl (flt hc2).2.2.2 (by decide) (by decide) ?_
    refine XS.aloadN X7.here hx rfl (hb hby d6_26) rfl rfl ?_
    refine XS.iloadN X7.here hx rfl (hb hby d6_27) rfl ?_
    refine XS.iload X7.here hx rfl (hb hby d6_28) rfl ?_
    refine XS.i2b X7.here hx rfl (hb hby d6_30) rfl ?_
    show Steps p.tables e below (T7.setTop (mkF m 31 #[va o0, vi 2, va o1, vi 2, vi 3, vi 2, vi p2] [(.int (bb p2)), (.int 2), (.ref o1)])) _
    refine st11 _ ?_
    refine XS.iinc X11.here hx rfl (hb hby d6_32) rfl (l' := #[va o0, vi ((2 : Int32) + (1 : Int32)), va o1, vi 2, vi 3, vi 2, vi p2]) rfl ?_
    show Steps p.tables e below (T11.setTop (mkF m 35 #[va o0, vi ((2 : Int32) + (1 : Int32)), va o1, vi 2, vi 3, vi 2, vi p2] [])) _
    rw [show (((2 : Int32) + (1 : Int32)) : Int32) = (3 : Int32) from by decide]
    refine XS.iinc X11.here hx rfl (hb hby d6_35) rfl (l' := #[va o0, vi 3, va o1, vi ((2 : Int32) + (1 : Int32)), vi 3, vi 2, vi p2]) rfl ?_
    show Steps p.tables e below (T11.setTop (mkF m 38 #[va o0, vi 3, va o1, vi ((2 : Int32) + (1 : Int32)), vi 3, vi 2, vi p2] [])) _
    rw [show (((2 : Int32) + (1 : Int32)) : Int32) = (3 : Int32) from by decide]
    refine XS.iinc X11.here hx rfl (hb hby d6_38) rfl (l' := #[va o0, vi 3, va o1, vi 3, vi 3, vi ((2 : Int32) + (1 : Int32)), vi p2]) rfl ?_
    show Steps p.tables e below (T11.setTop (mkF m 41 #[va o0, vi 3, va o1, vi 3, vi 3, vi ((2 : Int32) + (1 : Int32)), vi p2] [])) _
    rw [show (((2 : Int32) + (1 : Int32)) : Int32) = (3 : Int32) from by decide]
    refine XS.goto X11.here hx rfl (pc0 := 41) (pc' := 3) rfl (hb hby d6_41) (by decide) (by decide) ?_
    refine XS.iload X11.here hx rfl (hb hby d6_3) rfl ?_
    refine XS.iload X11.here hx rfl (hb hby d6_5) rfl ?_
    refine XS.icmpYes X11.here hx rfl (pc0 := 7) (pc' := 44) rfl (hb hby d6_7) rfl (flt (by decide : ¬ ((3 : Int32) < (3 : Int32)))).2.1 (by decide) (by decide) ?_
    refine XS.iload X11.here hx rfl (hb hby d6_44) rfl ?_
    exact retOut X11 hx (t := .int) (i := .ireturn) hrt rfl (Or.inl ⟨rfl, Or.inl rfl, _, rfl⟩) (hb hby d6_46) hr
  · show Q6_10 Z z_COMPACT_STRINGS o0 o1 kk_o0 kk_o1 p0 p1 p2 h0 n0 (some (.int 3)) T11.heap _
    rw [e11]; exact ⟨rfl, N11, K11, V11⟩
def Q5_10 (Z : State) (z_COMPACT_STRINGS : Int32) (o0 : Addr) (kk_o0 : ClassId) (p0 : Int32) (p1 : Int32) (p2 : Int32) (h0 : Heap) (n0 : Nat) (v : Option Value) (h : Heap) (L : List Loc) : Prop := ∃ (b1 : Addr), ∃ (k1 : ClassId), v = (some (.ref b1)) ∧ Fr n0 L ∧ Keep h0 h [] ∧ Arv Z h b1 k1 .byte (3 : Int32) [(.int (bb (bb p0))), (.int (bb (bb p1))), (.int (bb (bb p2)))] (.int 0) ∧ h0.size ≤ b1
theorem rm5_10 (l : Launch) (Z : State) (a0 : Array Value) (hw : HW Z a0) (ws : List Jvm.Cond) (z_COMPACT_STRINGS : Int32) (o0 : Addr) (kk_o0 : ClassId) (p0 : Int32) (p1 : Int32) (p2 : Int32) (h0 : Heap) (n0 : Nat) (O0 : Old Z n0 h0) (S : SF Z z_COMPACT_STRINGS) (V_o0 : Arv Z h0 o0 kk_o0 .char (3 : Int32) [(.int p0), (.int p1), (.int p2)] (.int 0)) (hc0 : ¬ ((255 : Int32) < p0)) (hc1 : ¬ ((255 : Int32) < p1)) (hc2 : ¬ ((255 : Int32) < p2)) :
    Pay l Z My5 ws jdk_52_method_16_code 6 (some (.array .byte)) #[(.ref o0), (.int 0), (.int 3)] h0 ({ frames := 1, cells := 1, slots := 3, locals := 18 } : Room) (Q5_10 Z z_COMPACT_STRINGS o0 kk_o0 p0 p1 p2 h0 n0) := by
  refine own_body (plainFor_of_name pn_2) (L0 := #[va o0, vi 0, vi 3, uu, uu, uu]) (fun _ => by first | rfl | (simp [entryFrame, mkF, argsToLocals, Value.category]; done)) ?_
  intro p e s m below meth c s₁ hrt hlk hx hby hml hZ hown0 hnm X0 e0
  have hown : s.vm.findClass sC1 = some m.cls := hown0
  have N0 := Fr.nil n0
  have K0 : Keep h0 h0 [] := Keep.refl _ _
  obtain ⟨T1, h1, k1, X1, e1, E1, A1, st1⟩ := newP X0 hx hZ (ww hw 24 rfl) e0 (g := (mkF m 1 #[va o0, vi 0, vi 3, uu, uu, uu] [(.int 3)])) rfl (hb hby d5_1) rfl (by decide) (cap := 3) (by decide) (by decide) (by decide) (by decide)
  obtain ⟨b1, qs1⟩ : ∃ z, z = h0.size := ⟨_, rfl⟩
  rw [← qs1] at A1 st1
  have ne_o0_b1 : o0 ≠ b1 := Nat.ne_of_lt (Nat.lt_of_lt_of_le V_o0.lt (Nat.le_of_eq qs1.symm))
  have g_b1 : n0 ≤ b1 := Nat.le_trans (own_old O0) (Nat.le_of_eq qs1.symm)
  have sz_b1 : h0.size ≤ b1 := Nat.le_trans K0.1 (Nat.le_of_eq qs1.symm)
  have O1 := O0.ext E1
  have K1 : Keep h0 h1 [] := K0.ext E1
  have V_b1 : Arv Z h1 b1 k1 .byte (3 : Int32) [(.int 0), (.int 0), (.int 0)] (.int 0) := (Arv.new A1 (by decide)).pad (pad_rep [] (.int 0) 3)
  have fc2 := (V_o0.ext E1)
  obtain ⟨_, _, ⟨T3, L3, k3, n3⟩, -, X3, ⟨Lc3, hQ3, l3, y3, z3⟩, st3⟩ := Jvm.LawKit.callS X1 hx (y := My6) hown (mvT hZ (ww hw 25 rfl)) (mvT hZ (ww hw 26 rfl)) (mvT hZ (ww hw 22 rfl)) (mvT hZ (ww hw 27 rfl)) (by decide) (backOf (W := 0) (rm6_10 l Z a0 hw [] z_COMPACT_STRINGS o0 b1 kk_o0 k1 p0 p1 p2 h1 n0 O1 S fc2 V_b1 ne_o0_b1 g_b1 hc0 hc1 hc2) hZ (ww hw 27 rfl) (ww hw 22 rfl) (by decide) (by decide)) (g := (mkF m 9 #[va o0, vi 0, vi 3, va b1, uu, uu] [(.int 3), (.int 0), (.ref b1), (.int 0), (.ref o0)])) rfl (by rw [hml]; rfl) (argsL := [(.ref o0), (.int 0), (.ref b1), (.int 0), (.int 3)]) (rest := []) (lenOf pd_0 rfl) rfl (by show 2 * 0 + _ ≤ _; exact Nat.le_of_eq rfl) (hb hby d5_9) (fun _ _ => ⟨rfl, e1, (by decide : 1 + 0 ≤ _), (by decide : 3 + 0 ≤ _)⟩)
  dsimp only [Pt.U, Pt.locs, Pt.cells, Pt.slots] at X3 l3 y3 z3 st3 hQ3
  subst l3 y3 z3
  obtain ⟨rfl, Nq3, Kc3, P0_3⟩ := hQ3
  have N3 := Fr.app N0 Nq3
  have O3 := O1.keep Kc3 (allS g_b1 all0)
  have K3 : Keep h0 T3.heap [] := K1.trans Kc3 (allS (Or.inr sz_b1) all0)
  obtain ⟨fs, hr, hrun, hended, hW, hsame⟩ := X3.leave (v := (some (.ref b1))) (fun h => by rw [hrt] at h; cases h)
  refine ⟨_, _, ?_, hrun, hended, _, _, rfl, ?_, ⟨_, rfl⟩, hW, hsame.mono (by decide) (by decide)⟩
  · show Steps p.tables e below (s₁.setTop (mkF m 0 #[va o0, vi 0, vi 3, uu, uu, uu] [])) _
    refine XS.iloadN X0.here hx rfl (hb hby d5_0) rfl ?_
    refine st1 _ ?_
    refine XS.astoreN X1.here hx rfl (hb hby d5_3) rfl rfl (l' := #[va o0, vi 0, vi 3, va b1, uu, uu]) rfl ?_
    refine XS.aloadN X1.here hx rfl (hb hby d5_4) rfl rfl ?_
    refine XS.iloadN X1.here hx rfl (hb hby d5_5) rfl ?_
    refine XS.aloadN X1.here hx rfl (hb hby d5_6) rfl rfl ?_
    refine XS.iconst X1.here hx rfl (hb hby d5_7) ?_
    refine XS.iloadN X1.here hx rfl (hb hby d5_8) rfl ?_
    show Steps p.tables e below (T1.setTop (mkF m 9 #[va o0, vi 0, vi 3, va b1, uu, uu] [(.int 3), (.int 0), (.ref b1), (.int 0), (.ref o0)])) _
    refine st3 _ ?_
    refine XS.istore X3.here hx rfl (hb hby d5_12) rfl (l' := #[va o0, vi 0, vi 3, va b1, vi 3, uu]) rfl ?_
    refine XS.iload X3.here hx rfl (hb hby d5_14) rfl ?_
    refine XS.iloadN X3.here hx rfl (hb hby d5_16) rfl ?_
    refine XS.icmpYes X3.here hx rfl (pc0 := 17) (pc' := 57) rfl (hb hby d5_17) rfl (teq (by decide : (3 : Int32) = (3 : Int32))).1 (by decide) (by decide) ?_
    refine XS.aloadN X3.here hx rfl (hb hby d5_57) rfl rfl ?_
    exact retOut X3 hx (t := (.array .byte)) (i := .areturn) hrt rfl (Or.inr (Or.inr (Or.inr (Or.inr ⟨rfl, rfl, rfl⟩)))) (hb hby d5_58) hr
  · show Q5_10 Z z_COMPACT_STRINGS o0 kk_o0 p0 p1 p2 h0 n0 (some (.ref b1)) T3.heap _
    exact (⟨b1, k1, rfl, N3, K3, P0_3, sz_b1⟩)
def Q6_11 (Z : State) (z_COMPACT_STRINGS : Int32) (o0 : Addr) (o1 : Addr) (kk_o0 : ClassId) (kk_o1 : ClassId) (p0 : Int32) (p1 : Int32) (p2 : Int32) (h0 : Heap) (n0 : Nat) (v : Option Value) (h : Heap) (L : List Loc) : Prop := v = (some (.int 2)) ∧ Fr n0 L ∧ Keep h0 h [o1] ∧ Arv Z h o1 kk_o1 .byte (3 : Int32) [(.int (bb (bb p0))), (.int (bb (bb p1))), (.int 0)] (.int 0)
theorem rm6_11 (l : Launch) (Z : State) (a0 : Array Value) (hw : HW Z a0) (ws : List Jvm.Cond) (z_COMPACT_STRINGS : Int32) (o0 : Addr) (o1 : Addr) (kk_o0 : ClassId) (kk_o1 : ClassId) (p0 : Int32) (p1 : Int32) (p2 : Int32) (h0 : Heap) (n0 : Nat) (O0 : Old Z n0 h0) (S : SF Z z_COMPACT_STRINGS) (V_o0 : Arv Z h0 o0 kk_o0 .char (3 : Int32) [(.int p0), (.int p1), (.int p2)] (.int 0)) (V_o1 : Arv Z h0 o1 kk_o1 .byte (3 : Int32) [(.int 0), (.int 0), (.int 0)] (.int 0)) (ne_o0_o1 : o0 ≠ o1) (g_o1 : n0 ≤ o1) (hc0 : ¬ ((255 : Int32) < p0)) (hc1 : ¬ ((255 : Int32) < p1)) (hc2 : (255 : Int32) < p2) :
    Pay l Z My6 ws jdk_52_method_21_code 7 (some .int) #[(.ref o0), (.int 0), (.ref o1), (.int 0), (.int 3)] h0 ({ frames := 0, cells := 0, slots := 0, locals := 0 } : Room) (Q6_11 Z z_COMPACT_STRINGS o0 o1 kk_o0 kk_o1 p0 p1 p2 h0 n0) := by
  refine own_body (plainFor_of_name pn_2) (L0 := #[va o0, vi 0, va o1, vi 0, vi 3, uu, uu]) (fun _ => by first | rfl | (simp [entryFrame, mkF, argsToLocals, Value.category]; done)) ?_
  intro p e s m below meth c s₁ hrt hlk hx hby hml hZ hown0 hnm X0 e0
  have hown : s.vm.findClass sC1 = some m.cls := hown0
  have N0 := Fr.nil n0
  have K0 : Keep h0 h0 [o1] := Keep.refl _ _
  obtain ⟨cl1, Ar1, qk1, Sz1, Ng1, Hh1, Gg1⟩ := id V_o0
  have hin1_0 : ¬ ((0 : Int32) < 0 ∨ cl1.slots.size ≤ ((0 : Int32)).toNatClampNeg) := inb_of Sz1 ⟨by decide, by decide⟩
  obtain ⟨cl2, Ar2, qk2, Sz2, Ng2, Hh2, Gg2⟩ := id V_o1
  have hin2_0 : ¬ ((0 : Int32) < 0 ∨ cl2.slots.size ≤ ((0 : Int32)).toNatClampNeg) := inb_of Sz2 ⟨by decide, by decide⟩
  obtain ⟨T3, h3, X3, e3, W3, st3⟩ := stB X0 hx hZ e0 Ar2 (j := (0 : Int32)) hin2_0 (g := (mkF m 31 #[va o0, vi 0, va o1, vi 0, vi 3, vi 0, vi p0] [(.int (bb p0)), (.int 0), (.ref o1)])) rfl rfl (hb hby d6_31)
  have V3 : Arv Z h3 o1 kk_o1 .byte (3 : Int32) [(.int (bb (bb p0))), (.int 0), (.int 0)] (.int 0) := Arv.set Ar2 qk2 Sz2 Ng2 Hh2 Gg2 (fits_nar_byte _) W3 0 rfl (Nat.le_of_ble_eq_true rfl)
  have O3 := O0.wr W3 g_o1
  have K3 : Keep h0 h3 [o1] := K0.wr W3 (Or.inl (List.mem_of_getElem? (i := 0) rfl))
  have N3 := Fr.snoc X3 N0 g_o1
  have fc4 := (V_o0.other W3 ne_o0_o1)
  obtain ⟨cl5, Ar5, qk5, Sz5, Ng5, Hh5, Gg5⟩ := id fc4
  have hin5_1 : ¬ ((1 : Int32) < 0 ∨ cl5.slots.size ≤ ((1 : Int32)).toNatClampNeg) := inb_of Sz5 ⟨by decide, by decide⟩
  obtain ⟨cl6, Ar6, qk6, Sz6, Ng6, Hh6, Gg6⟩ := id V3
  have hin6_1 : ¬ ((1 : Int32) < 0 ∨ cl6.slots.size ≤ ((1 : Int32)).toNatClampNeg) := inb_of Sz6 ⟨by decide, by decide⟩
  obtain ⟨T7, h7, X7, e7, W7, st7⟩ := stB X3 hx hZ e3 Ar6 (j := (1 : Int32)) hin6_1 (g := (mkF m 31 #[va o0, vi 1, va o1, vi 1, vi 3, vi 1, vi p1] [(.int (bb p1)), (.int 1), (.ref o1)])) rfl rfl (hb hby d6_31)
  have V7 : Arv Z h7 o1 kk_o1 .byte (3 : Int32) [(.int (bb (bb p0))), (.int (bb (bb p1))), (.int 0)] (.int 0) := Arv.set Ar6 qk6 Sz6 Ng6 Hh6 Gg6 (fits_nar_byte _) W7 1 rfl (Nat.le_of_ble_eq_true rfl)
  have O7 := O3.wr W7 g_o1
  have K7 : Keep h0 h7 [o1] := K3.wr W7 (Or.inl (List.mem_of_getElem? (i := 0) rfl))
  have N7 := Fr.snoc X7 N3 g_o1
  have fc8 := (fc4.other W7 ne_o0_o1)
  obtain ⟨cl9, Ar9, qk9, Sz9, Ng9, Hh9, Gg9⟩ := id fc8
  have hin9_2 : ¬ ((2 : Int32) < 0 ∨ cl9.slots.size ≤ ((2 : Int32)).toNatClampNeg) := inb_of Sz9 ⟨by decide, by decide⟩
  obtain ⟨fs, hr, hrun, hended, hW, hsame⟩ := X7.leave (v := (some (.int 2))) (fun h => by rw [hrt] at h; cases h)
  refine ⟨_, _, ?_, hrun, hended, _, _, rfl, ?_, ⟨_, rfl⟩, hW, hsame.mono (by decide) (by decide)⟩
  · show Steps p.tables e below (s₁.setTop (mkF m 0 #[va o0, vi 0, va o1, vi 0, vi 3, uu, uu] [])) _
    refine XS.iconst X0.here hx rfl (hb hby d6_0) ?_
    refine XS.istore X0.here hx rfl (hb hby d6_1) rfl (l' := #[va o0, vi 0, va o1, vi 0, vi 3, vi 0, uu]) rfl ?_
    refine XS.iload X0.here hx rfl (hb hby d6_3) rfl ?_
    refine XS.iload X0.here hx rfl (hb hby d6_5) rfl ?_
    refine XS.icmpNo X0.here hx rfl (hb hby d6_7) rfl (tlt (by decide : (0 : Int32) < (3 : Int32))).2.1 ?_
    refine XS.aloadN X0.here hx rfl (hb hby d6_10) rfl rfl ?_
    refine XS.iloadN X0.here hx rfl (hb hby d6_11) rfl ?_
    refine X0.caload hx (j := (0 : Int32)) (v := (.int p0)) (by rw [e0]; exact Ar1.1) (State.isArrayOf_alike hZ.alike Ar1.2.1) Ar1.2.2 hin1_0 (Has.at Hh1 hin1_0 rfl) (g := (mkF m 12 #[va o0, vi 0, va o1, vi 0, vi 3, vi 0, uu] [(.int 0), (.ref o0)])) rfl rfl (hb hby d6_12) _ ?_
    show Steps p.tables e below (s₁.setTop (mkF m 13 #[va o0, vi 0, va o1, vi 0, vi 3, vi 0, uu] [(.int p0)])) _
    refine XS.istore X0.here hx rfl (hb hby d6_13) rfl (l' := #[va o0, vi 0, va o1, vi 0, vi 3, vi 0, vi p0]) rfl ?_
    refine XS.iload X0.here hx rfl (hb hby d6_15) rfl ?_
    refine XS.sipush X0.here hx rfl (hb hby d6_17) ?_
    refine XS.icmpYes X0.here hx rfl (pc0 := 20) (pc' := 26) rfl (hb hby d6_20) rfl (flt hc0).2.2.2 (by decide) (by decide) ?_
    refine XS.aloadN X0.here hx rfl (hb hby d6_26) rfl rfl ?_
    refine XS.iloadN X0.here hx rfl (hb hby d6_27) rfl ?_
    refine XS.iload X0.here hx rfl (hb hby d6_28) rfl ?_
    refine XS.i2b X0.here hx rfl (hb hby d6_30) rfl ?_
    show Steps p.tables e below (s₁.setTop (mkF m 31 #[va o0, vi 0, va o1, vi 0, vi 3, vi 0, vi p0] [(.int (bb p0)), (.int 0), (.ref o1)])) _
    refine st3 _ ?_
    refine XS.iinc X3.here hx rfl (hb hby d6_32) rfl (l' := #[va o0, vi ((0 : Int32) + (1 : Int32)), va o1, vi 0, vi 3, vi 0, vi p0]) rfl ?_
    show Steps p.tables e below (T3.setTop (mkF m 35 #[va o0, vi ((0 : Int32) + (1 : Int32)), va o1, vi 0, vi 3, vi 0, vi p0] [])) _
    rw [show (((0 : Int32) + (1 : Int32)) : Int32) = (1 : Int32) from by decide]
    refine XS.iinc X3.here hx rfl (hb hby d6_35) rfl (l' := #[va o0, vi 1, va o1, vi ((0 : Int32) + (1 : Int32)), vi 3, vi 0, vi p0]) rfl ?_
    show Steps p.tables e below (T3.setTop (mkF m 38 #[va o0, vi 1, va o1, vi ((0 : Int32) + (1 : Int32)), vi 3, vi 0, vi p0] [])) _
    rw [show (((0 : Int32) + (1 : Int32)) : Int32) = (1 : Int32) from by decide]
    refine XS.iinc X3.here hx rfl (hb hby d6_38) rfl (l' := #[va o0, vi 1, va o1, vi 1, vi 3, vi ((0 : Int32) + (1 : Int32)), vi p0]) rfl ?_
    show Steps p.tables e below (T3.setTop (mkF m 41 #[va o0, vi 1, va o1, vi 1, vi 3, vi ((0 : Int32) + (1 : Int32)), vi p0] [])) _
    rw [show (((0 : Int32) + (1 : Int32)) : Int32) = (1 : Int32) from by decide]
    refine XS.goto X3.here hx rfl (pc0 := 41) (pc' := 3) rfl (hb hby d6_41) (by decide) (by decide) ?_
    refine XS.iload X3.here hx rfl (hb hby d6_3) rfl ?_
    refine XS.iload X3.here hx rfl (hb hby d6_5) rfl ?_
    refine XS.icmpNo X3.here hx rfl (hb hby d6_7) rfl (tlt (by decide : (1 : Int32) < (3 : Int32))).2.1 ?_
    refine XS.aloadN X3.here hx rfl (hb hby d6_10) rfl rfl ?_
    refine XS.iloadN X3.here hx rfl (hb hby d6_11) rfl ?_
    refine X3.caload hx (j := (1 : Int32)) (v := (.int p1)) (by rw [e3]; exact Ar5.1) (State.isArrayOf_alike hZ.alike Ar5.2.1) Ar5.2.2 hin5_1 (Has.at Hh5 hin5_1 rfl) (g := (mkF m 12 #[va o0, vi 1, va o1, vi 1, vi 3, vi 1, vi p0] [(.int 1), (.ref o0)])) rfl rfl (hb hby d6_12) _ ?_
    show Steps p.tables e below (T3.setTop (mkF m 13 #[va o0, vi 1, va o1, vi 1, vi 3, vi 1, vi p0] [(.int p1)])) _
    refine XS.istore X3.here hx rfl (hb hby d6_13) rfl (l' := #[va o0, vi 1, va o1, vi 1, vi 3, vi 1, vi p1]) rfl ?_
    refine XS.iload X3.here hx rfl (hb hby d6_15) rfl ?_
    refine XS.sipush X3.here hx rfl (hb hby d6_17) ?_
    refine XS.icmpYes X3.here hx rfl (pc0 := 20) (pc' := 26) rfl (hb hby d6_20) rfl (flt hc1).2.2.2 (by decide) (by decide) ?_
    refine XS.aloadN X3.here hx rfl (hb hby d6_26) rfl rfl ?_
    refine XS.iloadN X3.here hx rfl (hb hby d6_27) rfl ?_
    refine XS.iload X3.here hx rfl (hb hby d6_28) rfl ?_
    refine XS.i2b X3.here hx rfl (hb hby d6_30) rfl ?_
    show Steps p.tables e below (T3.setTop (mkF m 31 #[va o0, vi 1, va o1, vi 1, vi 3, vi 1, vi p1] [(.int (bb p1)), (.int 1), (.ref o1)])) _
    refine st7 _ ?_
    refine XS.iinc X7.here hx rfl (hb hby d6_32) rfl (l' := #[va o0, vi ((1 : Int32) + (1 : Int32)), va o1, vi 1, vi 3, vi 1, vi p1]) rfl ?_
    show Steps p.tables e below (T7.setTop (mkF m 35 #[va o0, vi ((1 : Int32) + (1 : Int32)), va o1, vi 1, vi 3, vi 1, vi p1] [])) _
    rw [show (((1 : Int32) + (1 : Int32)) : Int32) = (2 : Int32) from by decide]
    refine XS.iinc X7.here hx rfl (hb hby d6_35) rfl (l' := #[va o0, vi 2, va o1, vi ((1 : Int32) + (1 : Int32)), vi 3, vi 1, vi p1]) rfl ?_
    show Steps p.tables e below (T7.setTop (mkF m 38 #[va o0, vi 2, va o1, vi ((1 : Int32) + (1 : Int32)), vi 3, vi 1, vi p1] [])) _
    rw [show (((1 : Int32) + (1 : Int32)) : Int32) = (2 : Int32) from by decide]
    refine XS.iinc X7.here hx rfl (hb hby d6_38) rfl (l' := #[va o0, vi 2, va o1, vi 2, vi 3, vi ((1 : Int32) + (1 : Int32)), vi p1]) rfl ?_
    show Steps p.tables e below (T7.setTop (mkF m 41 #[va o0, vi 2, va o1, vi 2, vi 3, vi ((1 : Int32) + (1 : Int32)), vi p1] [])) _
    rw [show (((1 : Int32) + (1 : Int32)) : Int32) = (2 : Int32) from by decide]
    refine XS.goto X7.here hx rfl (pc0 := 41) (pc' := 3) rfl (hb hby d6_41) (by decide) (by decide) ?_
    refine XS.iload X7.here hx rfl (hb hby d6_3) rfl ?_
    refine XS.iload X7.here hx rfl (hb hby d6_5) rfl ?_
    refine XS.icmpNo X7.here hx rfl (hb hby d6_7) rfl (tlt (by decide : (2 : Int32) < (3 : Int32))).2.1 ?_
    refine XS.aloadN X7.here hx rfl (hb hby d6_10) rfl rfl ?_
    refine XS.iloadN X7.here hx rfl (hb hby d6_11) rfl ?_
    refine X7.caload hx (j := (2 : Int32)) (v := (.int p2)) (by rw [e7]; exact Ar9.1) (State.isArrayOf_alike hZ.alike Ar9.2.1) Ar9.2.2 hin9_2 (Has.at Hh9 hin9_2 rfl) (g := (mkF m 12 #[va o0, vi 2, va o1, vi 2, vi 3, vi 2, vi p1] [(.int 2), (.ref o0)])) rfl rfl (hb hby d6_12) _ ?_
    show Steps p.tables e below (T7.setTop (mkF m 13 #[va o0, vi 2, va o1, vi 2, vi 3, vi 2, vi p1] [(.int p2)])) _
    refine XS.istore X7.here hx rfl (hb hby d6_13) rfl (l' := #[va o0, vi 2, va o1, vi 2, vi 3, vi 2, vi p2]) rfl ?_
    refine XS.iload X7.here hx rfl (hb hby d6_15) rfl ?_
    refine XS.sipush X7.here hx rfl (hb hby d6_17) ?_
    refine XS.icmpNo X7.here hx rfl (hb hby d6_20) rfl (tlt hc2).2.2.2 ?_
    refine XS.iload X7.here hx rfl (hb hby d6_23) rfl ?_
    exact retOut X7 hx (t := .int) (i := .ireturn) hrt rfl (Or.inl ⟨rfl, Or.inl rfl, _, rfl⟩) (hb hby d6_25) hr
  · show Q6_11 Z z_COMPACT_STRINGS o0 o1 kk_o0 kk_o1 p0 p1 p2 h0 n0 (some (.int 2)) T7.heap _
    rw [e7]; exact ⟨rfl, N7, K7, V7⟩
def Q15_3 (Z : State) (z_COMPACT_STRINGS : Int32) (h0 : Heap) (n0 : Nat) (v : Option Value) (h : Heap) (L : List Loc) : Prop := v = (some (.int 6)) ∧ Fr n0 L ∧ h = h0
theorem rm15_3 (l : Launch) (Z : State) (a0 : Array Value) (hw : HW Z a0) (ws : List Jvm.Cond) (z_COMPACT_STRINGS : Int32) (h0 : Heap) (n0 : Nat) (O0 : Old Z n0 h0) (S : SF Z z_COMPACT_STRINGS) :
    Pay l Z My15 ws jdk_52_method_3_code 1 (some .int) #[(.int 3)] h0 ({ frames := 0, cells := 0, slots := 0, locals := 0 } : Room) (Q15_3 Z z_COMPACT_STRINGS  h0 n0) := by
  refine own_body (plainFor_of_name pn_2) (L0 := #[vi 3]) (fun _ => by first | rfl | (simp [entryFrame, mkF, argsToLocals, Value.category]; done)) ?_
  intro p e s m below meth c s₁ hrt hlk hx hby hml hZ hown0 hnm X0 e0
  have hown : s.vm.findClass sC1 = some m.cls := hown0
  have N0 := Fr.nil n0
  have K0 : Keep h0 h0 [] := Keep.refl _ _
  obtain ⟨fs, hr, hrun, hended, hW, hsame⟩ := X0.leave (v := (some (.int 6))) (fun h => by rw [hrt] at h; cases h)
  refine ⟨_, _, ?_, hrun, hended, _, _, rfl, ?_, ⟨_, rfl⟩, hW, hsame.mono (by decide) (by decide)⟩
  · show Steps p.tables e below (s₁.setTop (mkF m 0 #[vi 3] [])) _
    refine XS.iloadN X0.here hx rfl (hb hby d15_0) rfl ?_
    refine XS.ifYes X0.here hx rfl (pc0 := 1) (pc' := 12) rfl (hb hby d15_1) rfl ((if0 _ _).trans (flt (by decide : ¬ ((3 : Int32) < (0 : Int32)))).2.1) (by decide) (by decide) ?_
    refine XS.iloadN X0.here hx rfl (hb hby d15_12) rfl ?_
    refine X0.ldcInt hx hown (mvT hZ (ww hw 70 rfl)) (g := (mkF m 13 #[vi 3] [(.int 3)])) rfl (hb hby d15_13) _ ?_
    refine XS.icmpYes X0.here hx rfl (pc0 := 15) (pc' := 55) rfl (hb hby d15_15) rfl (tlt (by decide : (3 : Int32) < (1073741823 : Int32))).1 (by decide) (by decide) ?_
    refine XS.iloadN X0.here hx rfl (hb hby d15_55) rfl ?_
    refine XS.iconst X0.here hx rfl (hb hby d15_56) ?_
    refine XS.ishl X0.here hx rfl (hb hby d15_57) rfl ?_
    show Steps p.tables e below (s₁.setTop (mkF m 58 #[vi 3] [(.int ((3 : Int32) <<< ((1 : Int32) &&& 31)))])) _
    rw [show (((3 : Int32) <<< ((1 : Int32) &&& 31)) : Int32) = (6 : Int32) from by decide]
    exact retOut X0 hx (t := .int) (i := .ireturn) hrt rfl (Or.inl ⟨rfl, Or.inl rfl, _, rfl⟩) (hb hby d15_58) hr
  · show Q15_3 Z z_COMPACT_STRINGS  h0 n0 (some (.int 6)) s₁.heap _
    exact (⟨rfl, N0, e0⟩)
def Q14_3 (Z : State) (z_COMPACT_STRINGS : Int32) (h0 : Heap) (n0 : Nat) (v : Option Value) (h : Heap) (L : List Loc) : Prop := ∃ (b2 : Addr), ∃ (k2 : ClassId), v = (some (.ref b2)) ∧ Fr n0 L ∧ Keep h0 h [] ∧ Arv Z h b2 k2 .byte (6 : Int32) [(.int 0), (.int 0), (.int 0), (.int 0), (.int 0), (.int 0)] (.int 0) ∧ h0.size ≤ b2
theorem rm14_3 (l : Launch) (Z : State) (a0 : Array Value) (hw : HW Z a0) (ws : List Jvm.Cond) (z_COMPACT_STRINGS : Int32) (h0 : Heap) (n0 : Nat) (O0 : Old Z n0 h0) (S : SF Z z_COMPACT_STRINGS) :
    Pay l Z My14 ws jdk_52_method_2_code 1 (some (.array .byte)) #[(.int 3)] h0 ({ frames := 1, cells := 1, slots := 6, locals := 12 } : Room) (Q14_3 Z z_COMPACT_STRINGS  h0 n0) := by
  refine own_body (plainFor_of_name pn_2) (L0 := #[vi 3]) (fun _ => by first | rfl | (simp [entryFrame, mkF, argsToLocals, Value.category]; done)) ?_
  intro p e s m below meth c s₁ hrt hlk hx hby hml hZ hown0 hnm X0 e0
  have hown : s.vm.findClass sC1 = some m.cls := hown0
  have N0 := Fr.nil n0
  have K0 : Keep h0 h0 [] := Keep.refl _ _
  obtain ⟨_, _, ⟨T1, L1, k1, n1⟩, -, X1, ⟨Lc1, hQ1, l1, y1, z1⟩, st1⟩ := Jvm.LawKit.callS X0 hx (y := My15) hown (mvT hZ (ww hw 67 rfl)) (mvT hZ (ww hw 68 rfl)) (mvT hZ (ww hw 22 rfl)) (mvT hZ (ww hw 69 rfl)) (by decide) (backOf (W := 0) (rm15_3 l Z a0 hw [] z_COMPACT_STRINGS h0 n0 O0 S) hZ (ww hw 69 rfl) (ww hw 22 rfl) (by decide) (by decide)) (g := (mkF m 1 #[vi 3] [(.int 3)])) rfl (by rw [hml]; rfl) (argsL := [(.int 3)]) (rest := []) (lenOf pd_1 rfl) rfl (by show 2 * 0 + _ ≤ _; exact Nat.le_of_eq rfl) (hb hby d14_1) (fun _ _ => ⟨rfl, e0, (by decide : 0 + 0 ≤ _), (by decide : 0 + 0 ≤ _)⟩)
  dsimp only [Pt.U, Pt.locs, Pt.cells, Pt.slots] at X1 l1 y1 z1 st1 hQ1
  subst l1 y1 z1
  obtain ⟨rfl, Nq1, e1⟩ := hQ1
  have N1 := Fr.app N0 Nq1
  obtain ⟨T2, h2, k2, X2, e2, E2, A2, st2⟩ := newP X1 hx hZ (ww hw 24 rfl) e1 (g := (mkF m 4 #[vi 3] [(.int 6)])) rfl (hb hby d14_4) rfl (by decide) (cap := 6) (by decide) (by decide) (by decide) (by decide)
  obtain ⟨b2, qs2⟩ : ∃ z, z = h0.size := ⟨_, rfl⟩
  rw [← qs2] at A2 st2
  have g_b2 : n0 ≤ b2 := Nat.le_trans (own_old O0) (Nat.le_of_eq qs2.symm)
  have sz_b2 : h0.size ≤ b2 := Nat.le_trans K0.1 (Nat.le_of_eq qs2.symm)
  have O2 := O0.ext E2
  have K2 : Keep h0 h2 [] := K0.ext E2
  have V_b2 : Arv Z h2 b2 k2 .byte (6 : Int32) [(.int 0), (.int 0), (.int 0), (.int 0), (.int 0), (.int 0)] (.int 0) := (Arv.new A2 (by decide)).pad (pad_rep [] (.int 0) 6)
  obtain ⟨fs, hr, hrun, hended, hW, hsame⟩ := X2.leave (v := (some (.ref b2))) (fun h => by rw [hrt] at h; cases h)
  refine ⟨_, _, ?_, hrun, hended, _, _, rfl, ?_, ⟨_, rfl⟩, hW, hsame.mono (by decide) (by decide)⟩
  · show Steps p.tables e below (s₁.setTop (mkF m 0 #[vi 3] [])) _
    refine XS.iloadN X0.here hx rfl (hb hby d14_0) rfl ?_
    refine st1 _ ?_
    refine st2 _ ?_
    exact retOut X2 hx (t := (.array .byte)) (i := .areturn) hrt rfl (Or.inr (Or.inr (Or.inr (Or.inr ⟨rfl, rfl, rfl⟩)))) (hb hby d14_6) hr
  · show Q14_3 Z z_COMPACT_STRINGS  h0 n0 (some (.ref b2)) T2.heap _
    rw [e2]; exact ⟨b2, k2, rfl, N1, K2, V_b2, sz_b2⟩
def Q16_7 (Z : State) (z_COMPACT_STRINGS : Int32) (o0 : Addr) (kk_o0 : ClassId) (p0 : Int32) (h0 : Heap) (n0 : Nat) (v : Option Value) (h : Heap) (L : List Loc) : Prop := v = none ∧ Fr n0 L ∧ Keep h0 h [o0] ∧ Arv Z h o0 kk_o0 .byte (6 : Int32) [(.int (bb (bb (p0 >>> ((0 : Int32) &&& 31))))), (.int (bb (bb (p0 >>> ((8 : Int32) &&& 31))))), (.int 0), (.int 0), (.int 0), (.int 0)] (.int 0)
theorem rm16_7 (l : Launch) (Z : State) (a0 : Array Value) (hw : HW Z a0) (ws : List Jvm.Cond) (z_COMPACT_STRINGS : Int32) (o0 : Addr) (kk_o0 : ClassId) (p0 : Int32) (h0 : Heap) (n0 : Nat) (O0 : Old Z n0 h0) (S : SF Z z_COMPACT_STRINGS) (V_o0 : Arv Z h0 o0 kk_o0 .byte (6 : Int32) [(.int 0), (.int 0), (.int 0), (.int 0), (.int 0), (.int 0)] (.int 0)) (g_o0 : n0 ≤ o0) :
    Pay l Z My16 ws jdk_52_method_4_code 3 none #[(.ref o0), (.int 0), (.int p0)] h0 ({ frames := 0, cells := 0, slots := 0, locals := 0 } : Room) (Q16_7 Z z_COMPACT_STRINGS o0 kk_o0 p0 h0 n0) := by
  obtain ⟨-, -, S_StringUTF16__assertionsDisabled, S_StringUTF16_HI_BYTE_SHIFT, S_StringUTF16_LO_BYTE_SHIFT, -⟩ := id S
  refine own_body (plainFor_of_name pn_2) (L0 := #[va o0, vi 0, vi p0]) (fun _ => by first | rfl | (simp [entryFrame, mkF, argsToLocals, Value.category]; done)) ?_
  intro p e s m below meth c s₁ hrt hlk hx hby hml hZ hown0 hnm X0 e0
  have hown : s.vm.findClass sC1 = some m.cls := hown0
  have N0 := Fr.nil n0
  have K0 : Keep h0 h0 [o0] := Keep.refl _ _
  obtain ⟨T1, X1, e1, st1⟩ := getS2 X0 hx hZ hown (host := "") (Or.inl (ww hw 74 rfl)) Via.refl e0 (S_StringUTF16__assertionsDisabled.ext O0.2) (g := (mkF m 0 #[va o0, vi 0, vi p0] [])) rfl (hb hby d16_0)
  obtain ⟨T2, X2, e2, st2⟩ := getS2 X1 hx hZ hown (host := "") (Or.inl (ww hw 75 rfl)) Via.refl e1 (S_StringUTF16_HI_BYTE_SHIFT.ext O0.2) (g := (mkF m 38 #[va o0, vi 1, vi p0] [(.int p0), (.int 0), (.ref o0)])) rfl (hb hby d16_38)
  obtain ⟨cl3, Ar3, qk3, Sz3, Ng3, Hh3, Gg3⟩ := id V_o0
  have hin3_0 : ¬ ((0 : Int32) < 0 ∨ cl3.slots.size ≤ ((0 : Int32)).toNatClampNeg) := inb_of Sz3 ⟨by decide, by decide⟩
  obtain ⟨T4, h4, X4, e4, W4, st4⟩ := stB X2 hx hZ e2 Ar3 (j := (0 : Int32)) hin3_0 (g := (mkF m 43 #[va o0, vi 1, vi p0] [(.int (bb (p0 >>> ((0 : Int32) &&& 31)))), (.int 0), (.ref o0)])) rfl rfl (hb hby d16_43)
  have V4 : Arv Z h4 o0 kk_o0 .byte (6 : Int32) [(.int (bb (bb (p0 >>> ((0 : Int32) &&& 31))))), (.int 0), (.int 0), (.int 0), (.int 0), (.int 0)] (.int 0) := Arv.set Ar3 qk3 Sz3 Ng3 Hh3 Gg3 (fits_nar_byte _) W4 0 rfl (Nat.le_of_ble_eq_true rfl)
  have O4 := O0.wr W4 g_o0
  have K4 : Keep h0 h4 [o0] := K0.wr W4 (Or.inl (List.mem_of_getElem? (i := 0) rfl))
  have N4 := Fr.snoc X4 N0 g_o0
  obtain ⟨T5, X5, e5, st5⟩ := getS2 X4 hx hZ hown (host := "") (Or.inl (ww hw 76 rfl)) Via.refl e4 (S_StringUTF16_LO_BYTE_SHIFT.ext O4.2) (g := (mkF m 47 #[va o0, vi 1, vi p0] [(.int p0), (.int 1), (.ref o0)])) rfl (hb hby d16_47)
  obtain ⟨cl6, Ar6, qk6, Sz6, Ng6, Hh6, Gg6⟩ := id V4
  have hin6_1 : ¬ ((1 : Int32) < 0 ∨ cl6.slots.size ≤ ((1 : Int32)).toNatClampNeg) := inb_of Sz6 ⟨by decide, by decide⟩
  obtain ⟨T7, h7, X7, e7, W7, st7⟩ := stB X5 hx hZ e5 Ar6 (j := (1 : Int32)) hin6_1 (g := (mkF m 52 #[va o0, vi 1, vi p0] [(.int (bb (p0 >>> ((8 : Int32) &&& 31)))), (.int 1), (.ref o0)])) rfl rfl (hb hby d16_52)
  have V7 : Arv Z h7 o0 kk_o0 .byte (6 : Int32) [(.int (bb (bb (p0 >>> ((0 : Int32) &&& 31))))), (.int (bb (bb (p0 >>> ((8 : Int32) &&& 31))))), (.int 0), (.int 0), (.int 0), (.int 0)] (.int 0) := Arv.set Ar6 qk6 Sz6 Ng6 Hh6 Gg6 (fits_nar_byte _) W7 1 rfl (Nat.le_of_ble_eq_true rfl)
  have O7 := O4.wr W7 g_o0
  have K7 : Keep h0 h7 [o0] := K4.wr W7 (Or.inl (List.mem_of_getElem? (i := 0) rfl))
  have N7 := Fr.snoc X7 N4 g_o0
  obtain ⟨fs, hr, hrun, hended, hW, hsame⟩ := X7.leave (v := none) (fun _ => rfl)
  refine ⟨_, _, ?_, hrun, hended, _, _, rfl, ?_, ⟨_, rfl⟩, hW, hsame.mono (by decide) (by decide)⟩
  · show Steps p.tables e below (s₁.setTop (mkF m 0 #[va o0, vi 0, vi p0] [])) _
    refine st1 _ ?_
    refine XS.ifYes X1.here hx rfl (pc0 := 3) (pc' := 28) rfl (hb hby d16_3) rfl ((if0 _ _).trans (feq (by decide : ¬ ((1 : Int32) = (0 : Int32)))).2) (by decide) (by decide) ?_
    refine XS.iloadN X1.here hx rfl (hb hby d16_28) rfl ?_
    refine XS.iconst X1.here hx rfl (hb hby d16_29) ?_
    refine XS.ishl X1.here hx rfl (hb hby d16_30) rfl ?_
    show Steps p.tables e below (T1.setTop (mkF m 31 #[va o0, vi 0, vi p0] [(.int ((0 : Int32) <<< ((1 : Int32) &&& 31)))])) _
    rw [show (((0 : Int32) <<< ((1 : Int32) &&& 31)) : Int32) = (0 : Int32) from by decide]
    refine XS.istoreN X1.here hx rfl (hb hby d16_31) rfl (l' := #[va o0, vi 0, vi p0]) rfl ?_
    refine XS.aloadN X1.here hx rfl (hb hby d16_32) rfl rfl ?_
    refine XS.iloadN X1.here hx rfl (hb hby d16_33) rfl ?_
    refine XS.iinc X1.here hx rfl (hb hby d16_34) rfl (l' := #[va o0, vi ((0 : Int32) + (1 : Int32)), vi p0]) rfl ?_
    show Steps p.tables e below (T1.setTop (mkF m 37 #[va o0, vi ((0 : Int32) + (1 : Int32)), vi p0] [(.int 0), (.ref o0)])) _
    rw [show (((0 : Int32) + (1 : Int32)) : Int32) = (1 : Int32) from by decide]
    refine XS.iloadN X1.here hx rfl (hb hby d16_37) rfl ?_
    refine st2 _ ?_
    refine XS.ishr X2.here hx rfl (hb hby d16_41) rfl ?_
    refine XS.i2b X2.here hx rfl (hb hby d16_42) rfl ?_
    refine st4 _ ?_
    refine XS.aloadN X4.here hx rfl (hb hby d16_44) rfl rfl ?_
    refine XS.iloadN X4.here hx rfl (hb hby d16_45) rfl ?_
    show Steps p.tables e below (T4.setTop (mkF m 46 #[va o0, vi 1, vi p0] [(.int 1), (.ref o0)])) _
    refine XS.iloadN X4.here hx rfl (hb hby d16_46) rfl ?_
    refine st5 _ ?_
    refine XS.ishr X5.here hx rfl (hb hby d16_50) rfl ?_
    refine XS.i2b X5.here hx rfl (hb hby d16_51) rfl ?_
    refine st7 _ ?_
    exact X7.returnOut hx hrt (hb hby d16_53) hr
  · show Q16_7 Z z_COMPACT_STRINGS o0 kk_o0 p0 h0 n0 none T7.heap _
    rw [e7]; exact ⟨rfl, N7, K7, V7⟩
def Q16_8 (Z : State) (z_COMPACT_STRINGS : Int32) (o0 : Addr) (kk_o0 : ClassId) (p2 : Int32) (p0 : Int32) (p1 : Int32) (h0 : Heap) (n0 : Nat) (v : Option Value) (h : Heap) (L : List Loc) : Prop := v = none ∧ Fr n0 L ∧ Keep h0 h [o0] ∧ Arv Z h o0 kk_o0 .byte (6 : Int32) [(.int p0), (.int p1), (.int (bb (bb (p2 >>> ((0 : Int32) &&& 31))))), (.int (bb (bb (p2 >>> ((8 : Int32) &&& 31))))), (.int 0), (.int 0)] (.int 0)
theorem rm16_8 (l : Launch) (Z : State) (a0 : Array Value) (hw : HW Z a0) (ws : List Jvm.Cond) (z_COMPACT_STRINGS : Int32) (o0 : Addr) (kk_o0 : ClassId) (p2 : Int32) (p0 : Int32) (p1 : Int32) (h0 : Heap) (n0 : Nat) (O0 : Old Z n0 h0) (S : SF Z z_COMPACT_STRINGS) (V_o0 : Arv Z h0 o0 kk_o0 .byte (6 : Int32) [(.int p0), (.int p1), (.int 0), (.int 0), (.int 0), (.int 0)] (.int 0)) (g_o0 : n0 ≤ o0) :
    Pay l Z My16 ws jdk_52_method_4_code 3 none #[(.ref o0), (.int 1), (.int p2)] h0 ({ frames := 0, cells := 0, slots := 0, locals := 0 } : Room) (Q16_8 Z z_COMPACT_STRINGS o0 kk_o0 p2 p0 p1 h0 n0) := by
  obtain ⟨-, -, S_StringUTF16__assertionsDisabled, S_StringUTF16_HI_BYTE_SHIFT, S_StringUTF16_LO_BYTE_SHIFT, -⟩ := id S
  refine own_body (plainFor_of_name pn_2) (L0 := #[va o0, vi 1, vi p2]) (fun _ => by first | rfl | (simp [entryFrame, mkF, argsToLocals, Value.category]; done)) ?_
  intro p e s m below meth c s₁ hrt hlk hx hby hml hZ hown0 hnm X0 e0
  have hown : s.vm.findClass sC1 = some m.cls := hown0
  have N0 := Fr.nil n0
  have K0 : Keep h0 h0 [o0] := Keep.refl _ _
  obtain ⟨T1, X1, e1, st1⟩ := getS2 X0 hx hZ hown (host := "") (Or.inl (ww hw 74 rfl)) Via.refl e0 (S_StringUTF16__assertionsDisabled.ext O0.2) (g := (mkF m 0 #[va o0, vi 1, vi p2] [])) rfl (hb hby d16_0)
  obtain ⟨T2, X2, e2, st2⟩ := getS2 X1 hx hZ hown (host := "") (Or.inl (ww hw 75 rfl)) Via.refl e1 (S_StringUTF16_HI_BYTE_SHIFT.ext O0.2) (g := (mkF m 38 #[va o0, vi 3, vi p2] [(.int p2), (.int 2), (.ref o0)])) rfl (hb hby d16_38)
  obtain ⟨cl3, Ar3, qk3, Sz3, Ng3, Hh3, Gg3⟩ := id V_o0
  have hin3_2 : ¬ ((2 : Int32) < 0 ∨ cl3.slots.size ≤ ((2 : Int32)).toNatClampNeg) := inb_of Sz3 ⟨by decide, by decide⟩
  obtain ⟨T4, h4, X4, e4, W4, st4⟩ := stB X2 hx hZ e2 Ar3 (j := (2 : Int32)) hin3_2 (g := (mkF m 43 #[va o0, vi 3, vi p2] [(.int (bb (p2 >>> ((0 : Int32) &&& 31)))), (.int 2), (.ref o0)])) rfl rfl (hb hby d16_43)
  have V4 : Arv Z h4 o0 kk_o0 .byte (6 : Int32) [(.int p0), (.int p1), (.int (bb (bb (p2 >>> ((0 : Int32) &&& 31))))), (.int 0), (.int 0), (.int 0)] (.int 0) := Arv.set Ar3 qk3 Sz3 Ng3 Hh3 Gg3 (fits_nar_byte _) W4 2 rfl (Nat.le_of_ble_eq_true rfl)
  have O4 := O0.wr W4 g_o0
  have K4 : Keep h0 h4 [o0] := K0.wr W4 (Or.inl (List.mem_of_getElem? (i := 0) rfl))
  have N4 := Fr.snoc X4 N0 g_o0
  obtain ⟨T5, X5, e5, st5⟩ := getS2 X4 hx hZ hown (host := "") (Or.inl (ww hw 76 rfl)) Via.refl e4 (S_StringUTF16_LO_BYTE_SHIFT.ext O4.2) (g := (mkF m 47 #[va o0, vi 3, vi p2] [(.int p2), (.int 3), (.ref o0)])) rfl (hb hby d16_47)
  obtain ⟨cl6, Ar6, qk6, Sz6, Ng6, Hh6, Gg6⟩ := id V4
  have hin6_3 : ¬ ((3 : Int32) < 0 ∨ cl6.slots.size ≤ ((3 : Int32)).toNatClampNeg) := inb_of Sz6 ⟨by decide, by decide⟩
  obtain ⟨T7, h7, X7, e7, W7, st7⟩ := stB X5 hx hZ e5 Ar6 (j := (3 : Int32)) hin6_3 (g := (mkF m 52 #[va o0, vi 3, vi p2] [(.int (bb (p2 >>> ((8 : Int32) &&& 31)))), (.int 3), (.ref o0)])) rfl rfl (hb hby d16_52)
  have V7 : Arv Z h7 o0 kk_o0 .byte (6 : Int32) [(.int p0), (.int p1), (.int (bb (bb (p2 >>> ((0 : Int32) &&& 31))))), (.int (bb (bb (p2 >>> ((8 : Int32) &&& 31))))), (.int 0), (.int 0)] (.int 0) := Arv.set Ar6 qk6 Sz6 Ng6 Hh6 Gg6 (fits_nar_byte _) W7 3 rfl (Nat.le_of_ble_eq_true rfl)
  have O7 := O4.wr W7 g_o0
  have K7 : Keep h0 h7 [o0] := K4.wr W7 (Or.inl (List.mem_of_getElem? (i := 0) rfl))
  have N7 := Fr.snoc X7 N4 g_o0
  obtain ⟨fs, hr, hrun, hended, hW, hsame⟩ := X7.leave (v := none) (fun _ => rfl)
  refine ⟨_, _, ?_, hrun, hended, _, _, rfl, ?_, ⟨_, rfl⟩, hW, hsame.mono (by decide) (by decide)⟩
  · show Steps p.tables e below (s₁.setTop (mkF m 0 #[va o0, vi 1, vi p2] [])) _
    refine st1 _ ?_
    refine XS.ifYes X1.here hx rfl (pc0 := 3) (pc' := 28) rfl (hb hby d16_3) rfl ((if0 _ _).trans (feq (by decide : ¬ ((1 : Int32) = (0 : Int32)))).2) (by decide) (by decide) ?_
    refine XS.iloadN X1.here hx rfl (hb hby d16_28) rfl ?_
    refine XS.iconst X1.here hx rfl (hb hby d16_29) ?_
    refine XS.ishl X1.here hx rfl (hb hby d16_30) rfl ?_
    show Steps p.tables e below (T1.setTop (mkF m 31 #[va o0, vi 1, vi p2] [(.int ((1 : Int32) <<< ((1 : Int32) &&& 31)))])) _
    rw [show (((1 : Int32) <<< ((1 : Int32) &&& 31)) : Int32) = (2 : Int32) from by decide]
    refine XS.istoreN X1.here hx rfl (hb hby d16_31) rfl (l' := #[va o0, vi 2, vi p2]) rfl ?_
    refine XS.aloadN X1.here hx rfl (hb hby d16_32) rfl rfl ?_
    refine XS.iloadN X1.here hx rfl (hb hby d16_33) rfl ?_
    refine XS.iinc X1.here hx rfl (hb hby d16_34) rfl (l' := #[va o0, vi ((2 : Int32) + (1 : Int32)), vi p2]) rfl ?_
    show Steps p.tables e below (T1.setTop (mkF m 37 #[va o0, vi ((2 : Int32) + (1 : Int32)), vi p2] [(.int 2), (.ref o0)])) _
    rw [show (((2 : Int32) + (1 : Int32)) : Int32) = (3 : Int32) from by decide]
    refine XS.iloadN X1.here hx rfl (hb hby d16_37) rfl ?_
    refine st2 _ ?_
    refine XS.ishr X2.here hx rfl (hb hby d16_41) rfl ?_
    refine XS.i2b X2.here hx rfl (hb hby d16_42) rfl ?_
    refine st4 _ ?_
    refine XS.aloadN X4.here hx rfl (hb hby d16_44) rfl rfl ?_
    refine XS.iloadN X4.here hx rfl (hb hby d16_45) rfl ?_
    show Steps p.tables e below (T4.setTop (mkF m 46 #[va o0, vi 3, vi p2] [(.int 3), (.ref o0)])) _
    refine XS.iloadN X4.here hx rfl (hb hby d16_46) rfl ?_
    refine st5 _ ?_
    refine XS.ishr X5.here hx rfl (hb hby d16_50) rfl ?_
    refine XS.i2b X5.here hx rfl (hb hby d16_51) rfl ?_
    refine st7 _ ?_
    exact X7.returnOut hx hrt (hb hby d16_53) hr
  · show Q16_8 Z z_COMPACT_STRINGS o0 kk_o0 p2 p0 p1 h0 n0 none T7.heap _
    rw [e7]; exact ⟨rfl, N7, K7, V7⟩
def Q16_9 (Z : State) (z_COMPACT_STRINGS : Int32) (o0 : Addr) (kk_o0 : ClassId) (p4 : Int32) (p0 : Int32) (p1 : Int32) (p2 : Int32) (p3 : Int32) (h0 : Heap) (n0 : Nat) (v : Option Value) (h : Heap) (L : List Loc) : Prop := v = none ∧ Fr n0 L ∧ Keep h0 h [o0] ∧ Arv Z h o0 kk_o0 .byte (6 : Int32) [(.int p0), (.int p1), (.int p2), (.int p3), (.int (bb (bb (p4 >>> ((0 : Int32) &&& 31))))), (.int (bb (bb (p4 >>> ((8 : Int32) &&& 31)))))] (.int 0)
theorem rm16_9 (l : Launch) (Z : State) (a0 : Array Value) (hw : HW Z a0) (ws : List Jvm.Cond) (z_COMPACT_STRINGS : Int32) (o0 : Addr) (kk_o0 : ClassId) (p4 : Int32) (p0 : Int32) (p1 : Int32) (p2 : Int32) (p3 : Int32) (h0 : Heap) (n0 : Nat) (O0 : Old Z n0 h0) (S : SF Z z_COMPACT_STRINGS) (V_o0 : Arv Z h0 o0 kk_o0 .byte (6 : Int32) [(.int p0), (.int p1), (.int p2), (.int p3), (.int 0), (.int 0)] (.int 0)) (g_o0 : n0 ≤ o0) :
    Pay l Z My16 ws jdk_52_method_4_code 3 none #[(.ref o0), (.int 2), (.int p4)] h0 ({ frames := 0, cells := 0, slots := 0, locals := 0 } : Room) (Q16_9 Z z_COMPACT_STRINGS o0 kk_o0 p4 p0 p1 p2 p3 h0 n0) := by
  obtain ⟨-, -, S_StringUTF16__assertionsDisabled, S_StringUTF16_HI_BYTE_SHIFT, S_StringUTF16_LO_BYTE_SHIFT, -⟩ := id S
  refine own_body (plainFor_of_name pn_2) (L0 := #[va o0, vi 2, vi p4]) (fun _ => by first | rfl | (simp [entryFrame, mkF, argsToLocals, Value.category]; done)) ?_
  intro p e s m below meth c s₁ hrt hlk hx hby hml hZ hown0 hnm X0 e0
  have hown : s.vm.findClass sC1 = some m.cls := hown0
  have N0 := Fr.nil n0
  have K0 : Keep h0 h0 [o0] := Keep.refl _ _
  obtain ⟨T1, X1, e1, st1⟩ := getS2 X0 hx hZ hown (host := "") (Or.inl (ww hw 74 rfl)) Via.refl e0 (S_StringUTF16__assertionsDisabled.ext O0.2) (g := (mkF m 0 #[va o0, vi 2, vi p4] [])) rfl (hb hby d16_0)
  obtain ⟨T2, X2, e2, st2⟩ := getS2 X1 hx hZ hown (host := "") (Or.inl (ww hw 75 rfl)) Via.refl e1 (S_StringUTF16_HI_BYTE_SHIFT.ext O0.2) (g := (mkF m 38 #[va o0, vi 5, vi p4] [(.int p4), (.int 4), (.ref o0)])) rfl (hb hby d16_38)
  obtain ⟨cl3, Ar3, qk3, Sz3, Ng3, Hh3, Gg3⟩ := id V_o0
  have hin3_4 : ¬ ((4 : Int32) < 0 ∨ cl3.slots.size ≤ ((4 : Int32)).toNatClampNeg) := inb_of Sz3 ⟨by decide, by decide⟩
  obtain ⟨T4, h4, X4, e4, W4, st4⟩ := stB X2 hx hZ e2 Ar3 (j := (4 : Int32)) hin3_4 (g := (mkF m 43 #[va o0, vi 5, vi p4] [(.int (bb (p4 >>> ((0 : Int32) &&& 31)))), (.int 4), (.ref o0)])) rfl rfl (hb hby d16_43)
  have V4 : Arv Z h4 o0 kk_o0 .byte (6 : Int32) [(.int p0), (.int p1), (.int p2), (.int p3), (.int (bb (bb (p4 >>> ((0 : Int32) &&& 31))))), (.int 0)] (.int 0) := Arv.set Ar3 qk3 Sz3 Ng3 Hh3 Gg3 (fits_nar_byte _) W4 4 rfl (Nat.le_of_ble_eq_true rfl)
  have O4 := O0.wr W4 g_o0
  have K4 : Keep h0 h4 [o0] := K0.wr W4 (Or.inl (List.mem_of_getElem? (i := 0) rfl))
  have N4 := Fr.snoc X4 N0 g_o0
  obtain ⟨T5, X5, e5, st5⟩ := getS2 X4 hx hZ hown (host := "") (Or.inl (ww hw 76 rfl)) Via.refl e4 (S_StringUTF16_LO_BYTE_SHIFT.ext O4.2) (g := (mkF m 47 #[va o0, vi 5, vi p4] [(.int p4), (.int 5), (.ref o0)])) rfl (hb hby d16_47)
  obtain ⟨cl6, Ar6, qk6, Sz6, Ng6, Hh6, Gg6⟩ := id V4
  have hin6_5 : ¬ ((5 : Int32) < 0 ∨ cl6.slots.size ≤ ((5 : Int32)).toNatClampNeg) := inb_of Sz6 ⟨by decide, by decide⟩
  obtain ⟨T7, h7, X7, e7, W7, st7⟩ := stB X5 hx hZ e5 Ar6 (j := (5 : Int32)) hin6_5 (g := (mkF m 52 #[va o0, vi 5, vi p4] [(.int (bb (p4 >>> ((8 : Int32) &&& 31)))), (.int 5), (.ref o0)])) rfl rfl (hb hby d16_52)
  have V7 : Arv Z h7 o0 kk_o0 .byte (6 : Int32) [(.int p0), (.int p1), (.int p2), (.int p3), (.int (bb (bb (p4 >>> ((0 : Int32) &&& 31))))), (.int (bb (bb (p4 >>> ((8 : Int32) &&& 31)))))] (.int 0) := Arv.set Ar6 qk6 Sz6 Ng6 Hh6 Gg6 (fits_nar_byte _) W7 5 rfl (Nat.le_of_ble_eq_true rfl)
  have O7 := O4.wr W7 g_o0
  have K7 : Keep h0 h7 [o0] := K4.wr W7 (Or.inl (List.mem_of_getElem? (i := 0) rfl))
  have N7 := Fr.snoc X7 N4 g_o0
  obtain ⟨fs, hr, hrun, hended, hW, hsame⟩ := X7.leave (v := none) (fun _ => rfl)
  refine ⟨_, _, ?_, hrun, hended, _, _, rfl, ?_, ⟨_, rfl⟩, hW, hsame.mono (by decide) (by decide)⟩
  · show Steps p.tables e below (s₁.setTop (mkF m 0 #[va o0, vi 2, vi p4] [])) _
    refine st1 _ ?_
    refine XS.ifYes X1.here hx rfl (pc0 := 3) (pc' := 28) rfl (hb hby d16_3) rfl ((if0 _ _).trans (feq (by decide : ¬ ((1 : Int32) = (0 : Int32)))).2) (by decide) (by decide) ?_
    refine XS.iloadN X1.here hx rfl (hb hby d16_28) rfl ?_
    refine XS.iconst X1.here hx rfl (hb hby d16_29) ?_
    refine XS.ishl X1.here hx rfl (hb hby d16_30) rfl ?_
    show Steps p.tables e below (T1.setTop (mkF m 31 #[va o0, vi 2, vi p4] [(.int ((2 : Int32) <<< ((1 : Int32) &&& 31)))])) _
    rw [show (((2 : Int32) <<< ((1 : Int32) &&& 31)) : Int32) = (4 : Int32) from by decide]
    refine XS.istoreN X1.here hx rfl (hb hby d16_31) rfl (l' := #[va o0, vi 4, vi p4]) rfl ?_
    refine XS.aloadN X1.here hx rfl (hb hby d16_32) rfl rfl ?_
    refine XS.iloadN X1.here hx rfl (hb hby d16_33) rfl ?_
    refine XS.iinc X1.here hx rfl (hb hby d16_34) rfl (l' := #[va o0, vi ((4 : Int32) + (1 : Int32)), vi p4]) rfl ?_
    show Steps p.tables e below (T1.setTop (mkF m 37 #[va o0, vi ((4 : Int32) + (1 : Int32)), vi p4] [(.int 4), (.ref o0)])) _
    rw [show (((4 : Int32) + (1 : Int32)) : Int32) = (5 : Int32) from by decide]
    refine XS.iloadN X1.here hx rfl (hb hby d16_37) rfl ?_
    refine st2 _ ?_
    refine XS.ishr X2.here hx rfl (hb hby d16_41) rfl ?_
    refine XS.i2b X2.here hx rfl (hb hby d16_42) rfl ?_
    refine st4 _ ?_
    refine XS.aloadN X4.here hx rfl (hb hby d16_44) rfl rfl ?_
    refine XS.iloadN X4.here hx rfl (hb hby d16_45) rfl ?_
    show Steps p.tables e below (T4.setTop (mkF m 46 #[va o0, vi 5, vi p4] [(.int 5), (.ref o0)])) _
    refine XS.iloadN X4.here hx rfl (hb hby d16_46) rfl ?_
    refine st5 _ ?_
    refine XS.ishr X5.here hx rfl (hb hby d16_50) rfl ?_
    refine XS.i2b X5.here hx rfl (hb hby d16_51) rfl ?_
    refine st7 _ ?_
    exact X7.returnOut hx hrt (hb hby d16_53) hr
  · show Q16_9 Z z_COMPACT_STRINGS o0 kk_o0 p4 p0 p1 p2 p3 h0 n0 none T7.heap _
    rw [e7]; exact ⟨rfl, N7, K7, V7⟩
def Q13_3 (Z : State) (z_COMPACT_STRINGS : Int32) (o0 : Addr) (kk_o0 : ClassId) (p0 : Int32) (p1 : Int32) (p2 : Int32) (h0 : Heap) (n0 : Nat) (v : Option Value) (h : Heap) (L : List Loc) : Prop := ∃ (b2_1 : Addr), ∃ (k2_1 : ClassId), v = (some (.ref b2_1)) ∧ Fr n0 L ∧ Keep h0 h [] ∧ Arv Z h b2_1 k2_1 .byte (6 : Int32) [(.int (bb (bb (p0 >>> ((0 : Int32) &&& 31))))), (.int (bb (bb (p0 >>> ((8 : Int32) &&& 31))))), (.int (bb (bb (p1 >>> ((0 : Int32) &&& 31))))), (.int (bb (bb (p1 >>> ((8 : Int32) &&& 31))))), (.int (bb (bb (p2 >>> ((0 : Int32) &&& 31))))), (.int (bb (bb (p2 >>> ((8 : Int32) &&& 31)))))] (.int 0) ∧ h0.size ≤ b2_1
theorem rm13_3 (l : Launch) (Z : State) (a0 : Array Value) (hw : HW Z a0) (ws : List Jvm.Cond) (z_COMPACT_STRINGS : Int32) (o0 : Addr) (kk_o0 : ClassId) (p0 : Int32) (p1 : Int32) (p2 : Int32) (h0 : Heap) (n0 : Nat) (O0 : Old Z n0 h0) (S : SF Z z_COMPACT_STRINGS) (V_o0 : Arv Z h0 o0 kk_o0 .char (3 : Int32) [(.int p0), (.int p1), (.int p2)] (.int 0)) :
    Pay l Z My13 ws jdk_52_method_14_code 5 (some (.array .byte)) #[(.ref o0), (.int 0), (.int 3)] h0 ({ frames := 2, cells := 1, slots := 6, locals := 24 } : Room) (Q13_3 Z z_COMPACT_STRINGS o0 kk_o0 p0 p1 p2 h0 n0) := by
  refine own_body (plainFor_of_name pn_2) (L0 := #[va o0, vi 0, vi 3, uu, uu]) (fun _ => by first | rfl | (simp [entryFrame, mkF, argsToLocals, Value.category]; done)) ?_
  intro p e s m below meth c s₁ hrt hlk hx hby hml hZ hown0 hnm X0 e0
  have hown : s.vm.findClass sC1 = some m.cls := hown0
  have N0 := Fr.nil n0
  have K0 : Keep h0 h0 [] := Keep.refl _ _
  obtain ⟨_, _, ⟨T1, L1, k1, n1⟩, -, X1, ⟨Lc1, hQ1, l1, y1, z1⟩, st1⟩ := Jvm.LawKit.callS X0 hx (y := My14) hown (mvT hZ (ww hw 64 rfl)) (mvT hZ (ww hw 65 rfl)) (mvT hZ (ww hw 22 rfl)) (mvT hZ (ww hw 66 rfl)) (by decide) (backOf (W := 0) (rm14_3 l Z a0 hw [] z_COMPACT_STRINGS h0 n0 O0 S) hZ (ww hw 66 rfl) (ww hw 22 rfl) (by decide) (by decide)) (g := (mkF m 1 #[va o0, vi 0, vi 3, uu, uu] [(.int 3)])) rfl (by rw [hml]; rfl) (argsL := [(.int 3)]) (rest := []) (lenOf pd_2 rfl) rfl (by show 2 * 0 + _ ≤ _; exact Nat.le_of_eq rfl) (hb hby d13_1) (fun _ _ => ⟨rfl, e0, (by decide : 0 + 1 ≤ _), (by decide : 0 + 6 ≤ _)⟩)
  dsimp only [Pt.U, Pt.locs, Pt.cells, Pt.slots] at X1 l1 y1 z1 st1 hQ1
  subst l1 y1 z1
  obtain ⟨b2_1, k2_1, rfl, Nq1, Kc1, P0_1, P1_1⟩ := hQ1
  have N1 := Fr.app N0 Nq1
  have ne_o0_b2_1 : o0 ≠ b2_1 := Nat.ne_of_lt (Nat.lt_of_lt_of_le V_o0.lt P1_1)
  have g_b2_1 : n0 ≤ b2_1 := Nat.le_trans (own_old O0) P1_1
  have sz_b2_1 : h0.size ≤ b2_1 := Nat.le_trans K0.1 P1_1
  have O1 := O0.keep Kc1 all0
  have K1 : Keep h0 T1.heap [] := K0.trans Kc1 all0
  have fc2 := (V_o0.keep Kc1 nin0)
  obtain ⟨cl3, Ar3, qk3, Sz3, Ng3, Hh3, Gg3⟩ := id fc2
  have hin3_0 : ¬ ((0 : Int32) < 0 ∨ cl3.slots.size ≤ ((0 : Int32)).toNatClampNeg) := inb_of Sz3 ⟨by decide, by decide⟩
  obtain ⟨_, _, ⟨T4, L4, k4, n4⟩, -, X4, ⟨Lc4, hQ4, l4, y4, z4⟩, st4⟩ := Jvm.LawKit.callS X1 hx (y := My16) hown (mvT hZ (ww hw 71 rfl)) (mvT hZ (ww hw 72 rfl)) (mvT hZ (ww hw 22 rfl)) (mvT hZ (ww hw 73 rfl)) (by decide) (backOf (W := 0) (rm16_7 l Z a0 hw [] z_COMPACT_STRINGS b2_1 k2_1 p0 T1.heap n0 O1 S P0_1 g_b2_1) hZ (ww hw 73 rfl) (ww hw 22 rfl) (by decide) (by decide)) (g := (mkF m 20 #[va o0, vi 0, vi 3, va b2_1, vi 0] [(.int p0), (.int 0), (.ref b2_1)])) rfl (by rw [hml]; rfl) (argsL := [(.ref b2_1), (.int 0), (.int p0)]) (rest := []) (lenOf pd_3 rfl) rfl (by show 2 * 0 + _ ≤ _; exact Nat.le_of_eq rfl) (hb hby d13_20) (fun _ _ => ⟨rfl, rfl, (by decide : 1 + 0 ≤ _), (by decide : 6 + 0 ≤ _)⟩)
  dsimp only [Pt.U, Pt.locs, Pt.cells, Pt.slots] at X4 l4 y4 z4 st4 hQ4
  subst l4 y4 z4
  obtain ⟨rfl, Nq4, Kc4, P0_4⟩ := hQ4
  have N4 := Fr.app N1 Nq4
  have O4 := O1.keep Kc4 (allS g_b2_1 all0)
  have K4 : Keep h0 T4.heap [] := K1.trans Kc4 (allS (Or.inr sz_b2_1) all0)
  have fc5 := (fc2.keep Kc4 (ninS ne_o0_b2_1 nin0))
  obtain ⟨cl6, Ar6, qk6, Sz6, Ng6, Hh6, Gg6⟩ := id fc5
  have hin6_1 : ¬ ((1 : Int32) < 0 ∨ cl6.slots.size ≤ ((1 : Int32)).toNatClampNeg) := inb_of Sz6 ⟨by decide, by decide⟩
  obtain ⟨_, _, ⟨T7, L7, k7, n7⟩, -, X7, ⟨Lc7, hQ7, l7, y7, z7⟩, st7⟩ := Jvm.LawKit.callS X4 hx (y := My16) hown (mvT hZ (ww hw 71 rfl)) (mvT hZ (ww hw 72 rfl)) (mvT hZ (ww hw 22 rfl)) (mvT hZ (ww hw 73 rfl)) (by decide) (backOf (W := 0) (rm16_8 l Z a0 hw [] z_COMPACT_STRINGS b2_1 k2_1 p1 (bb (bb (p0 >>> ((0 : Int32) &&& 31)))) (bb (bb (p0 >>> ((8 : Int32) &&& 31)))) T4.heap n0 O4 S P0_4 g_b2_1) hZ (ww hw 73 rfl) (ww hw 22 rfl) (by decide) (by decide)) (g := (mkF m 20 #[va o0, vi 1, vi 3, va b2_1, vi 1] [(.int p1), (.int 1), (.ref b2_1)])) rfl (by rw [hml]; rfl) (argsL := [(.ref b2_1), (.int 1), (.int p1)]) (rest := []) (lenOf pd_3 rfl) rfl (by show 2 * 0 + _ ≤ _; exact Nat.le_of_eq rfl) (hb hby d13_20) (fun _ _ => ⟨rfl, rfl, (by decide : 1 + 0 ≤ _), (by decide : 6 + 0 ≤ _)⟩)
  dsimp only [Pt.U, Pt.locs, Pt.cells, Pt.slots] at X7 l7 y7 z7 st7 hQ7
  subst l7 y7 z7
  obtain ⟨rfl, Nq7, Kc7, P0_7⟩ := hQ7
  have N7 := Fr.app N4 Nq7
  have O7 := O4.keep Kc7 (allS g_b2_1 all0)
  have K7 : Keep h0 T7.heap [] := K4.trans Kc7 (allS (Or.inr sz_b2_1) all0)
  have fc8 := (fc5.keep Kc7 (ninS ne_o0_b2_1 nin0))
  obtain ⟨cl9, Ar9, qk9, Sz9, Ng9, Hh9, Gg9⟩ := id fc8
  have hin9_2 : ¬ ((2 : Int32) < 0 ∨ cl9.slots.size ≤ ((2 : Int32)).toNatClampNeg) := inb_of Sz9 ⟨by decide, by decide⟩
  obtain ⟨_, _, ⟨T10, L10, k10, n10⟩, -, X10, ⟨Lc10, hQ10, l10, y10, z10⟩, st10⟩ := Jvm.LawKit.callS X7 hx (y := My16) hown (mvT hZ (ww hw 71 rfl)) (mvT hZ (ww hw 72 rfl)) (mvT hZ (ww hw 22 rfl)) (mvT hZ (ww hw 73 rfl)) (by decide) (backOf (W := 0) (rm16_9 l Z a0 hw [] z_COMPACT_STRINGS b2_1 k2_1 p2 (bb (bb (p0 >>> ((0 : Int32) &&& 31)))) (bb (bb (p0 >>> ((8 : Int32) &&& 31)))) (bb (bb (p1 >>> ((0 : Int32) &&& 31)))) (bb (bb (p1 >>> ((8 : Int32) &&& 31)))) T7.heap n0 O7 S P0_7 g_b2_1) hZ (ww hw 73 rfl) (ww hw 22 rfl) (by decide) (by decide)) (g := (mkF m 20 #[va o0, vi 2, vi 3, va b2_1, vi 2] [(.int p2), (.int 2), (.ref b2_1)])) rfl (by rw [hml]; rfl) (argsL := [(.ref b2_1), (.int 2), (.int p2)]) (rest := []) (lenOf pd_3 rfl) rfl (by show 2 * 0 + _ ≤ _; exact Nat.le_of_eq rfl) (hb hby d13_20) (fun _ _ => ⟨rfl, rfl, (by decide : 1 + 0 ≤ _), (by decide : 6 + 0 ≤ _)⟩)
  dsimp only [Pt.U, Pt.locs, Pt.cells, Pt.slots] at X10 l10 y10 z10 st10 hQ10
  subst l10 y10 z10
  obtain ⟨rfl, Nq10, Kc10, P0_10⟩ := hQ10
  have N10 := Fr.app N7 Nq10
  have O10 := O7.keep Kc10 (allS g_b2_1 all0)
  have K10 : Keep h0 T10.heap [] := K7.trans Kc10 (allS (Or.inr sz_b2_1) all0)
  obtain ⟨fs, hr, hrun, hended, hW, hsame⟩ := X10.leave (v := (some (.ref b2_1))) (fun h => by rw [hrt] at h; cases h)
  refine ⟨_, _, ?_, hrun, hended, _, _, rfl, ?_, ⟨_, rfl⟩, hW, hsame.mono (by decide) (by decide)⟩
  · show Steps p.tables e below (s₁.setTop (mkF m 0 #[va o0, vi 0, vi 3, uu, uu] [])) _
    refine XS.iloadN X0.here hx rfl (hb hby d13_0) rfl ?_
    refine st1 _ ?_
    refine XS.astoreN X1.here hx rfl (hb hby d13_4) rfl rfl (l' := #[va o0, vi 0, vi 3, va b2_1, uu]) rfl ?_
    refine XS.iconst X1.here hx rfl (hb hby d13_5) ?_
    refine XS.istore X1.here hx rfl (hb hby d13_6) rfl (l' := #[va o0, vi 0, vi 3, va b2_1, vi 0]) rfl ?_
    refine XS.iload X1.here hx rfl (hb hby d13_8) rfl ?_
    refine XS.iloadN X1.here hx rfl (hb hby d13_10) rfl ?_
    refine XS.icmpNo X1.here hx rfl (hb hby d13_11) rfl (tlt (by decide : (0 : Int32) < (3 : Int32))).2.1 ?_
    show Steps p.tables e below (T1.setTop (mkF m 14 #[va o0, vi 0, vi 3, va b2_1, vi 0] [])) _
    refine XS.aloadN X1.here hx rfl (hb hby d13_14) rfl rfl ?_
    refine XS.iload X1.here hx rfl (hb hby d13_15) rfl ?_
    refine XS.aloadN X1.here hx rfl (hb hby d13_17) rfl rfl ?_
    refine XS.iloadN X1.here hx rfl (hb hby d13_18) rfl ?_
    refine X1.caload hx (j := (0 : Int32)) (v := (.int p0)) Ar3.1 (State.isArrayOf_alike hZ.alike Ar3.2.1) Ar3.2.2 hin3_0 (Has.at Hh3 hin3_0 rfl) (g := (mkF m 19 #[va o0, vi 0, vi 3, va b2_1, vi 0] [(.int 0), (.ref o0), (.int 0), (.ref b2_1)])) rfl rfl (hb hby d13_19) _ ?_
    refine st4 _ ?_
    refine XS.iinc X4.here hx rfl (hb hby d13_23) rfl (l' := #[va o0, vi ((0 : Int32) + (1 : Int32)), vi 3, va b2_1, vi 0]) rfl ?_
    show Steps p.tables e below (T4.setTop (mkF m 26 #[va o0, vi ((0 : Int32) + (1 : Int32)), vi 3, va b2_1, vi 0] [])) _
    rw [show (((0 : Int32) + (1 : Int32)) : Int32) = (1 : Int32) from by decide]
    refine XS.iinc X4.here hx rfl (hb hby d13_26) rfl (l' := #[va o0, vi 1, vi 3, va b2_1, vi ((0 : Int32) + (1 : Int32))]) rfl ?_
    show Steps p.tables e below (T4.setTop (mkF m 29 #[va o0, vi 1, vi 3, va b2_1, vi ((0 : Int32) + (1 : Int32))] [])) _
    rw [show (((0 : Int32) + (1 : Int32)) : Int32) = (1 : Int32) from by decide]
    refine XS.goto X4.here hx rfl (pc0 := 29) (pc' := 8) rfl (hb hby d13_29) (by decide) (by decide) ?_
    refine XS.iload X4.here hx rfl (hb hby d13_8) rfl ?_
    refine XS.iloadN X4.here hx rfl (hb hby d13_10) rfl ?_
    refine XS.icmpNo X4.here hx rfl (hb hby d13_11) rfl (tlt (by decide : (1 : Int32) < (3 : Int32))).2.1 ?_
    refine XS.aloadN X4.here hx rfl (hb hby d13_14) rfl rfl ?_
    refine XS.iload X4.here hx rfl (hb hby d13_15) rfl ?_
    refine XS.aloadN X4.here hx rfl (hb hby d13_17) rfl rfl ?_
    show Steps p.tables e below (T4.setTop (mkF m 18 #[va o0, vi 1, vi 3, va b2_1, vi 1] [(.ref o0), (.int 1), (.ref b2_1)])) _
    refine XS.iloadN X4.here hx rfl (hb hby d13_18) rfl ?_
    refine X4.caload hx (j := (1 : Int32)) (v := (.int p1)) Ar6.1 (State.isArrayOf_alike hZ.alike Ar6.2.1) Ar6.2.2 hin6_1 (Has.at Hh6 hin6_1 rfl) (g := (mkF m 19 #[va o0, vi 1, vi 3, va b2_1, vi 1] [(.int 1), (.ref o0), (.int 1), (.ref b2_1)])) rfl rfl (hb hby d13_19) _ ?_
    refine st7 _ ?_
    refine XS.iinc X7.here hx rfl (hb hby d13_23) rfl (l' := #[va o0, vi ((1 : Int32) + (1 : Int32)), vi 3, va b2_1, vi 1]) rfl ?_
    show Steps p.tables e below (T7.setTop (mkF m 26 #[va o0, vi ((1 : Int32) + (1 : Int32)), vi 3, va b2_1, vi 1] [])) _
    rw [show (((1 : Int32) + (1 : Int32)) : Int32) = (2 : Int32) from by decide]
    refine XS.iinc X7.here hx rfl (hb hby d13_26) rfl (l' := #[va o0, vi 2, vi 3, va b2_1, vi ((1 : Int32) + (1 : Int32))]) rfl ?_
    show Steps p.tables e below (T7.setTop (mkF m 29 #[va o0, vi 2, vi 3, va b2_1, vi ((1 : Int32) + (1 : Int32))] [])) _
    rw [show (((1 : Int32) + (1 : Int32)) : Int32) = (2 : Int32) from by decide]
    refine XS.goto X7.here hx rfl (pc0 := 29) (pc' := 8) rfl (hb hby d13_29) (by decide) (by decide) ?_
    refine XS.iload X7.here hx rfl (hb hby d13_8) rfl ?_
    refine XS.iloadN X7.here hx rfl (hb hby d13_10) rfl ?_
    refine XS.icmpNo X7.here hx rfl (hb hby d13_11) rfl (tlt (by decide : (2 : Int32) < (3 : Int32))).2.1 ?_
    refine XS.aloadN X7.here hx rfl (hb hby d13_14) rfl rfl ?_
    refine XS.iload X7.here hx rfl (hb hby d13_15) rfl ?_
    refine XS.aloadN X7.here hx rfl (hb hby d13_17) rfl rfl ?_
    show Steps p.tables e below (T7.setTop (mkF m 18 #[va o0, vi 2, vi 3, va b2_1, vi 2] [(.ref o0), (.int 2), (.ref b2_1)])) _
    refine XS.iloadN X7.here hx rfl (hb hby d13_18) rfl ?_
    refine X7.caload hx (j := (2 : Int32)) (v := (.int p2)) Ar9.1 (State.isArrayOf_alike hZ.alike Ar9.2.1) Ar9.2.2 hin9_2 (Has.at Hh9 hin9_2 rfl) (g := (mkF m 19 #[va o0, vi 2, vi 3, va b2_1, vi 2] [(.int 2), (.ref o0), (.int 2), (.ref b2_1)])) rfl rfl (hb hby d13_19) _ ?_
    refine st10 _ ?_
    refine XS.iinc X10.here hx rfl (hb hby d13_23) rfl (l' := #[va o0, vi ((2 : Int32) + (1 : Int32)), vi 3, va b2_1, vi 2]) rfl ?_
    show Steps p.tables e below (T10.setTop (mkF m 26 #[va o0, vi ((2 : Int32) + (1 : Int32)), vi 3, va b2_1, vi 2] [])) _
    rw [show (((2 : Int32) + (1 : Int32)) : Int32) = (3 : Int32) from by decide]
    refine XS.iinc X10.here hx rfl (hb hby d13_26) rfl (l' := #[va o0, vi 3, vi 3, va b2_1, vi ((2 : Int32) + (1 : Int32))]) rfl ?_
    show Steps p.tables e below (T10.setTop (mkF m 29 #[va o0, vi 3, vi 3, va b2_1, vi ((2 : Int32) + (1 : Int32))] [])) _
    rw [show (((2 : Int32) + (1 : Int32)) : Int32) = (3 : Int32) from by decide]
    refine XS.goto X10.here hx rfl (pc0 := 29) (pc' := 8) rfl (hb hby d13_29) (by decide) (by decide) ?_
    refine XS.iload X10.here hx rfl (hb hby d13_8) rfl ?_
    refine XS.iloadN X10.here hx rfl (hb hby d13_10) rfl ?_
    refine XS.icmpYes X10.here hx rfl (pc0 := 11) (pc' := 32) rfl (hb hby d13_11) rfl (flt (by decide : ¬ ((3 : Int32) < (3 : Int32)))).2.1 (by decide) (by decide) ?_
    refine XS.aloadN X10.here hx rfl (hb hby d13_32) rfl rfl ?_
    exact retOut X10 hx (t := (.array .byte)) (i := .areturn) hrt rfl (Or.inr (Or.inr (Or.inr (Or.inr ⟨rfl, rfl, rfl⟩)))) (hb hby d13_33) hr
  · show Q13_3 Z z_COMPACT_STRINGS o0 kk_o0 p0 p1 p2 h0 n0 (some (.ref b2_1)) T10.heap _
    exact (⟨b2_1, k2_1, rfl, N10, K10, P0_10, sz_b2_1⟩)
def Q17_7 (Z : State) (z_COMPACT_STRINGS : Int32) (o0 : Addr) (kk_o0 : ClassId) (p0 : Int32) (p1 : Int32) (p2 : Int32) (p3 : Int32) (p4 : Int32) (p5 : Int32) (h0 : Heap) (n0 : Nat) (v : Option Value) (h : Heap) (L : List Loc) : Prop := v = (some (.int (cc (cc (((p4 &&& (255 : Int32)) <<< ((0 : Int32) &&& 31)) ||| ((p5 &&& (255 : Int32)) <<< ((8 : Int32) &&& 31))))))) ∧ Fr n0 L ∧ h = h0
theorem rm17_7 (l : Launch) (Z : State) (a0 : Array Value) (hw : HW Z a0) (ws : List Jvm.Cond) (z_COMPACT_STRINGS : Int32) (o0 : Addr) (kk_o0 : ClassId) (p0 : Int32) (p1 : Int32) (p2 : Int32) (p3 : Int32) (p4 : Int32) (p5 : Int32) (h0 : Heap) (n0 : Nat) (O0 : Old Z n0 h0) (S : SF Z z_COMPACT_STRINGS) (V_o0 : Arv Z h0 o0 kk_o0 .byte (6 : Int32) [(.int p0), (.int p1), (.int p2), (.int p3), (.int p4), (.int p5)] (.int 0)) :
    Pay l Z My17 ws jdk_52_method_5_code 2 (some .char) #[(.ref o0), (.int 2)] h0 ({ frames := 0, cells := 0, slots := 0, locals := 0 } : Room) (Q17_7 Z z_COMPACT_STRINGS o0 kk_o0 p0 p1 p2 p3 p4 p5 h0 n0) := by
  obtain ⟨-, -, S_StringUTF16__assertionsDisabled, S_StringUTF16_HI_BYTE_SHIFT, S_StringUTF16_LO_BYTE_SHIFT, -⟩ := id S
  refine own_body (plainFor_of_name pn_2) (L0 := #[va o0, vi 2]) (fun _ => by first | rfl | (simp [entryFrame, mkF, argsToLocals, Value.category]; done)) ?_
  intro p e s m below meth c s₁ hrt hlk hx hby hml hZ hown0 hnm X0 e0
  have hown : s.vm.findClass sC1 = some m.cls := hown0
  have N0 := Fr.nil n0
  have K0 : Keep h0 h0 [] := Keep.refl _ _
  obtain ⟨T1, X1, e1, st1⟩ := getS2 X0 hx hZ hown (host := "") (Or.inl (ww hw 74 rfl)) Via.refl e0 (S_StringUTF16__assertionsDisabled.ext O0.2) (g := (mkF m 0 #[va o0, vi 2] [])) rfl (hb hby d17_0)
  obtain ⟨cl2, Ar2, qk2, Sz2, Ng2, Hh2, Gg2⟩ := id V_o0
  have hin2_4 : ¬ ((4 : Int32) < 0 ∨ cl2.slots.size ≤ ((4 : Int32)).toNatClampNeg) := inb_of Sz2 ⟨by decide, by decide⟩
  obtain ⟨T3, X3, e3, st3⟩ := getS2 X1 hx hZ hown (host := "") (Or.inl (ww hw 75 rfl)) Via.refl e1 (S_StringUTF16_HI_BYTE_SHIFT.ext O0.2) (g := (mkF m 42 #[va o0, vi 5] [(.int (p4 &&& (255 : Int32)))])) rfl (hb hby d17_42)
  have hin2_5 : ¬ ((5 : Int32) < 0 ∨ cl2.slots.size ≤ ((5 : Int32)).toNatClampNeg) := inb_of Sz2 ⟨by decide, by decide⟩
  obtain ⟨T4, X4, e4, st4⟩ := getS2 X3 hx hZ hown (host := "") (Or.inl (ww hw 76 rfl)) Via.refl e3 (S_StringUTF16_LO_BYTE_SHIFT.ext O0.2) (g := (mkF m 53 #[va o0, vi 5] [(.int (p5 &&& (255 : Int32))), (.int ((p4 &&& (255 : Int32)) <<< ((0 : Int32) &&& 31)))])) rfl (hb hby d17_53)
  obtain ⟨fs, hr, hrun, hended, hW, hsame⟩ := X4.leave (v := (some (.int (cc (cc (((p4 &&& (255 : Int32)) <<< ((0 : Int32) &&& 31)) ||| ((p5 &&& (255 : Int32)) <<< ((8 : Int32) &&& 31)))))))) (fun h => by rw [hrt] at h; cases h)
  refine ⟨_, _, ?_, hrun, hended, _, _, rfl, ?_, ⟨_, rfl⟩, hW, hsame.mono (by decide) (by decide)⟩
  · show Steps p.tables e below (s₁.setTop (mkF m 0 #[va o0, vi 2] [])) _
    refine st1 _ ?_
    refine XS.ifYes X1.here hx rfl (pc0 := 3) (pc' := 28) rfl (hb hby d17_3) rfl ((if0 _ _).trans (feq (by decide : ¬ ((1 : Int32) = (0 : Int32)))).2) (by decide) (by decide) ?_
    refine XS.iloadN X1.here hx rfl (hb hby d17_28) rfl ?_
    refine XS.iconst X1.here hx rfl (hb hby d17_29) ?_
    refine XS.ishl X1.here hx rfl (hb hby d17_30) rfl ?_
    show Steps p.tables e below (T1.setTop (mkF m 31 #[va o0, vi 2] [(.int ((2 : Int32) <<< ((1 : Int32) &&& 31)))])) _
    rw [show (((2 : Int32) <<< ((1 : Int32) &&& 31)) : Int32) = (4 : Int32) from by decide]
    refine XS.istoreN X1.here hx rfl (hb hby d17_31) rfl (l' := #[va o0, vi 4]) rfl ?_
    refine XS.aloadN X1.here hx rfl (hb hby d17_32) rfl rfl ?_
    refine XS.iloadN X1.here hx rfl (hb hby d17_33) rfl ?_
    refine XS.iinc X1.here hx rfl (hb hby d17_34) rfl (l' := #[va o0, vi ((4 : Int32) + (1 : Int32))]) rfl ?_
    show Steps p.tables e below (T1.setTop (mkF m 37 #[va o0, vi ((4 : Int32) + (1 : Int32))] [(.int 4), (.ref o0)])) _
    rw [show (((4 : Int32) + (1 : Int32)) : Int32) = (5 : Int32) from by decide]
    refine X1.baloadBytes hx (j := (4 : Int32)) (v := (.int p4)) (by rw [e1]; exact Ar2.1) (State.isArrayOf_alike hZ.alike Ar2.2.1) Ar2.2.2 hin2_4 (Has.at Hh2 hin2_4 rfl) (g := (mkF m 37 #[va o0, vi 5] [(.int 4), (.ref o0)])) rfl rfl (hb hby d17_37) _ ?_
    refine XS.sipush X1.here hx rfl (hb hby d17_38) ?_
    refine XS.iand X1.here hx rfl (hb hby d17_41) rfl ?_
    refine st3 _ ?_
    refine XS.ishl X3.here hx rfl (hb hby d17_45) rfl ?_
    refine XS.aloadN X3.here hx rfl (hb hby d17_46) rfl rfl ?_
    refine XS.iloadN X3.here hx rfl (hb hby d17_47) rfl ?_
    show Steps p.tables e below (T3.setTop (mkF m 48 #[va o0, vi 5] [(.int 5), (.ref o0), (.int ((p4 &&& (255 : Int32)) <<< ((0 : Int32) &&& 31)))])) _
    refine X3.baloadBytes hx (j := (5 : Int32)) (v := (.int p5)) (by rw [e3]; exact Ar2.1) (State.isArrayOf_alike hZ.alike Ar2.2.1) Ar2.2.2 hin2_5 (Has.at Hh2 hin2_5 rfl) (g := (mkF m 48 #[va o0, vi 5] [(.int 5), (.ref o0), (.int ((p4 &&& (255 : Int32)) <<< ((0 : Int32) &&& 31)))])) rfl rfl (hb hby d17_48) _ ?_
    refine XS.sipush X3.here hx rfl (hb hby d17_49) ?_
    refine XS.iand X3.here hx rfl (hb hby d17_52) rfl ?_
    refine st4 _ ?_
    refine XS.ishl X4.here hx rfl (hb hby d17_56) rfl ?_
    refine XS.ior X4.here hx rfl (hb hby d17_57) rfl ?_
    refine XS.i2c X4.here hx rfl (hb hby d17_58) rfl ?_
    exact retN X4 hx (t := .char) hrt (by simp) (hb hby d17_59) hr
  · show Q17_7 Z z_COMPACT_STRINGS o0 kk_o0 p0 p1 p2 p3 p4 p5 h0 n0 (some (.int (cc (cc (((p4 &&& (255 : Int32)) <<< ((0 : Int32) &&& 31)) ||| ((p5 &&& (255 : Int32)) <<< ((8 : Int32) &&& 31))))))) T4.heap _
    exact (⟨rfl, N0, e4⟩)
def Q5_11 (Z : State) (z_COMPACT_STRINGS : Int32) (o0 : Addr) (kk_o0 : ClassId) (p0 : Int32) (p1 : Int32) (p2 : Int32) (h0 : Heap) (n0 : Nat) (v : Option Value) (h : Heap) (L : List Loc) : Prop := ∃ (b2_1_5 : Addr), ∃ (k2_1_5 : ClassId), v = (some (.ref b2_1_5)) ∧ Fr n0 L ∧ Keep h0 h [] ∧ Arv Z h b2_1_5 k2_1_5 .byte (6 : Int32) [(.int (bb (bb (p0 >>> ((0 : Int32) &&& 31))))), (.int (bb (bb (p0 >>> ((8 : Int32) &&& 31))))), (.int (bb (bb (p1 >>> ((0 : Int32) &&& 31))))), (.int (bb (bb (p1 >>> ((8 : Int32) &&& 31))))), (.int (bb (bb (p2 >>> ((0 : Int32) &&& 31))))), (.int (bb (bb (p2 >>> ((8 : Int32) &&& 31)))))] (.int 0) ∧ h0.size ≤ b2_1_5
theorem rm5_11 (l : Launch) (Z : State) (a0 : Array Value) (hw : HW Z a0) (ws : List Jvm.Cond) (z_COMPACT_STRINGS : Int32) (o0 : Addr) (kk_o0 : ClassId) (p0 : Int32) (p1 : Int32) (p2 : Int32) (h0 : Heap) (n0 : Nat) (O0 : Old Z n0 h0) (S : SF Z z_COMPACT_STRINGS) (V_o0 : Arv Z h0 o0 kk_o0 .char (3 : Int32) [(.int p0), (.int p1), (.int p2)] (.int 0)) (hc0 : ¬ ((255 : Int32) < p0)) (hc1 : ¬ ((255 : Int32) < p1)) (hc2 : (255 : Int32) < p2) :
    Pay l Z My5 ws jdk_52_method_16_code 6 (some (.array .byte)) #[(.ref o0), (.int 0), (.int 3)] h0 ({ frames := 3, cells := 2, slots := 9, locals := 40 } : Room) (Q5_11 Z z_COMPACT_STRINGS o0 kk_o0 p0 p1 p2 h0 n0) := by
  refine own_body (plainFor_of_name pn_2) (L0 := #[va o0, vi 0, vi 3, uu, uu, uu]) (fun _ => by first | rfl | (simp [entryFrame, mkF, argsToLocals, Value.category]; done)) ?_
  intro p e s m below meth c s₁ hrt hlk hx hby hml hZ hown0 hnm X0 e0
  have hown : s.vm.findClass sC1 = some m.cls := hown0
  have N0 := Fr.nil n0
  have K0 : Keep h0 h0 [] := Keep.refl _ _
  obtain ⟨T1, h1, k1, X1, e1, E1, A1, st1⟩ := newP X0 hx hZ (ww hw 24 rfl) e0 (g := (mkF m 1 #[va o0, vi 0, vi 3, uu, uu, uu] [(.int 3)])) rfl (hb hby d5_1) rfl (by decide) (cap := 3) (by decide) (by decide) (by decide) (by decide)
  obtain ⟨b1, qs1⟩ : ∃ z, z = h0.size := ⟨_, rfl⟩
  rw [← qs1] at A1 st1
  have ne_o0_b1 : o0 ≠ b1 := Nat.ne_of_lt (Nat.lt_of_lt_of_le V_o0.lt (Nat.le_of_eq qs1.symm))
  have g_b1 : n0 ≤ b1 := Nat.le_trans (own_old O0) (Nat.le_of_eq qs1.symm)
  have sz_b1 : h0.size ≤ b1 := Nat.le_trans K0.1 (Nat.le_of_eq qs1.symm)
  have O1 := O0.ext E1
  have K1 : Keep h0 h1 [] := K0.ext E1
  have V_b1 : Arv Z h1 b1 k1 .byte (3 : Int32) [(.int 0), (.int 0), (.int 0)] (.int 0) := (Arv.new A1 (by decide)).pad (pad_rep [] (.int 0) 3)
  have fc2 := (V_o0.ext E1)
  obtain ⟨_, _, ⟨T3, L3, k3, n3⟩, -, X3, ⟨Lc3, hQ3, l3, y3, z3⟩, st3⟩ := Jvm.LawKit.callS X1 hx (y := My6) hown (mvT hZ (ww hw 25 rfl)) (mvT hZ (ww hw 26 rfl)) (mvT hZ (ww hw 22 rfl)) (mvT hZ (ww hw 27 rfl)) (by decide) (backOf (W := 0) (rm6_11 l Z a0 hw [] z_COMPACT_STRINGS o0 b1 kk_o0 k1 p0 p1 p2 h1 n0 O1 S fc2 V_b1 ne_o0_b1 g_b1 hc0 hc1 hc2) hZ (ww hw 27 rfl) (ww hw 22 rfl) (by decide) (by decide)) (g := (mkF m 9 #[va o0, vi 0, vi 3, va b1, uu, uu] [(.int 3), (.int 0), (.ref b1), (.int 0), (.ref o0)])) rfl (by rw [hml]; rfl) (argsL := [(.ref o0), (.int 0), (.ref b1), (.int 0), (.int 3)]) (rest := []) (lenOf pd_0 rfl) rfl (by show 2 * 0 + _ ≤ _; exact Nat.le_of_eq rfl) (hb hby d5_9) (fun _ _ => ⟨rfl, e1, (by decide : 1 + 0 ≤ _), (by decide : 3 + 0 ≤ _)⟩)
  dsimp only [Pt.U, Pt.locs, Pt.cells, Pt.slots] at X3 l3 y3 z3 st3 hQ3
  subst l3 y3 z3
  obtain ⟨rfl, Nq3, Kc3, P0_3⟩ := hQ3
  have N3 := Fr.app N0 Nq3
  have O3 := O1.keep Kc3 (allS g_b1 all0)
  have K3 : Keep h0 T3.heap [] := K1.trans Kc3 (allS (Or.inr sz_b1) all0)
  have fc4 := (fc2.keep Kc3 (ninS ne_o0_b1 nin0))
  obtain ⟨_, _, ⟨T5, L5, k5, n5⟩, -, X5, ⟨Lc5, hQ5, l5, y5, z5⟩, st5⟩ := Jvm.LawKit.callS X3 hx (y := My13) hown (mvT hZ (ww hw 61 rfl)) (mvT hZ (ww hw 62 rfl)) (mvT hZ (ww hw 22 rfl)) (mvT hZ (ww hw 63 rfl)) (by decide) (backOf (W := 0) (rm13_3 l Z a0 hw [] z_COMPACT_STRINGS o0 kk_o0 p0 p1 p2 T3.heap n0 O3 S fc4) hZ (ww hw 63 rfl) (ww hw 22 rfl) (by decide) (by decide)) (g := (mkF m 23 #[va o0, vi 0, vi 3, va b1, vi 2, uu] [(.int 3), (.int 0), (.ref o0)])) rfl (by rw [hml]; rfl) (argsL := [(.ref o0), (.int 0), (.int 3)]) (rest := []) (lenOf pd_4 rfl) rfl (by show 2 * 0 + _ ≤ _; exact Nat.le_of_eq rfl) (hb hby d5_23) (fun _ _ => ⟨rfl, rfl, (by decide : 1 + 1 ≤ _), (by decide : 3 + 6 ≤ _)⟩)
  dsimp only [Pt.U, Pt.locs, Pt.cells, Pt.slots] at X5 l5 y5 z5 st5 hQ5
  subst l5 y5 z5
  obtain ⟨b2_1_5, k2_1_5, rfl, Nq5, Kc5, P0_5, P1_5⟩ := hQ5
  have N5 := Fr.app N3 Nq5
  have ne_o0_b2_1_5 : o0 ≠ b2_1_5 := Nat.ne_of_lt (Nat.lt_of_lt_of_le fc4.lt P1_5)
  have ne_b1_b2_1_5 : b1 ≠ b2_1_5 := Nat.ne_of_lt (Nat.lt_of_lt_of_le P0_3.lt P1_5)
  have g_b2_1_5 : n0 ≤ b2_1_5 := Nat.le_trans (own_old O3) P1_5
  have sz_b2_1_5 : h0.size ≤ b2_1_5 := Nat.le_trans K3.1 P1_5
  have O5 := O3.keep Kc5 all0
  have K5 : Keep h0 T5.heap [] := K3.trans Kc5 all0
  obtain ⟨_, _, ⟨T6, L6, k6, n6⟩, -, X6, ⟨Lc6, hQ6, l6, y6, z6⟩, st6⟩ := Jvm.LawKit.callS X5 hx (y := My17) hown (mvT hZ (ww hw 77 rfl)) (mvT hZ (ww hw 78 rfl)) (mvT hZ (ww hw 22 rfl)) (mvT hZ (ww hw 79 rfl)) (by decide) (backOf (W := 0) (rm17_7 l Z a0 hw [] z_COMPACT_STRINGS b2_1_5 k2_1_5 (bb (bb (p0 >>> ((0 : Int32) &&& 31)))) (bb (bb (p0 >>> ((8 : Int32) &&& 31)))) (bb (bb (p1 >>> ((0 : Int32) &&& 31)))) (bb (bb (p1 >>> ((8 : Int32) &&& 31)))) (bb (bb (p2 >>> ((0 : Int32) &&& 31)))) (bb (bb (p2 >>> ((8 : Int32) &&& 31)))) T5.heap n0 O5 S P0_5) hZ (ww hw 79 rfl) (ww hw 22 rfl) (by decide) (by decide)) (g := (mkF m 32 #[va o0, vi 0, vi 3, va b1, vi 2, va b2_1_5] [(.int 2), (.ref b2_1_5)])) rfl (by rw [hml]; rfl) (argsL := [(.ref b2_1_5), (.int 2)]) (rest := []) (lenOf pd_5 rfl) rfl (by show 2 * 0 + _ ≤ _; exact Nat.le_of_eq rfl) (hb hby d5_32) (fun _ _ => ⟨rfl, rfl, (by decide : 2 + 0 ≤ _), (by decide : 9 + 0 ≤ _)⟩)
  dsimp only [Pt.U, Pt.locs, Pt.cells, Pt.slots] at X6 l6 y6 z6 st6 hQ6
  subst l6 y6 z6
  obtain ⟨rfl, Nq6, e6⟩ := hQ6
  have N6 := Fr.app N5 Nq6
  obtain ⟨fs, hr, hrun, hended, hW, hsame⟩ := X6.leave (v := (some (.ref b2_1_5))) (fun h => by rw [hrt] at h; cases h)
  refine ⟨_, _, ?_, hrun, hended, _, _, rfl, ?_, ⟨_, rfl⟩, hW, hsame.mono (by decide) (by decide)⟩
  · show Steps p.tables e below (s₁.setTop (mkF m 0 #[va o0, vi 0, vi 3, uu, uu, uu] [])) _
    refine XS.iloadN X0.here hx rfl (hb hby d5_0) rfl ?_
    refine st1 _ ?_
    refine XS.astoreN X1.here hx rfl (hb hby d5_3) rfl rfl (l' := #[va o0, vi 0, vi 3, va b1, uu, uu]) rfl ?_
    refine XS.aloadN X1.here hx rfl (hb hby d5_4) rfl rfl ?_
    refine XS.iloadN X1.here hx rfl (hb hby d5_5) rfl ?_
    refine XS.aloadN X1.here hx rfl (hb hby d5_6) rfl rfl ?_
    refine XS.iconst X1.here hx rfl (hb hby d5_7) ?_
    refine XS.iloadN X1.here hx rfl (hb hby d5_8) rfl ?_
    show Steps p.tables e below (T1.setTop (mkF m 9 #[va o0, vi 0, vi 3, va b1, uu, uu] [(.int 3), (.int 0), (.ref b1), (.int 0), (.ref o0)])) _
    refine st3 _ ?_
    refine XS.istore X3.here hx rfl (hb hby d5_12) rfl (l' := #[va o0, vi 0, vi 3, va b1, vi 2, uu]) rfl ?_
    refine XS.iload X3.here hx rfl (hb hby d5_14) rfl ?_
    refine XS.iloadN X3.here hx rfl (hb hby d5_16) rfl ?_
    refine XS.icmpNo X3.here hx rfl (hb hby d5_17) rfl (feq (by decide : ¬ ((2 : Int32) = (3 : Int32)))).1 ?_
    refine XS.aloadN X3.here hx rfl (hb hby d5_20) rfl rfl ?_
    refine XS.iloadN X3.here hx rfl (hb hby d5_21) rfl ?_
    refine XS.iloadN X3.here hx rfl (hb hby d5_22) rfl ?_
    show Steps p.tables e below (T3.setTop (mkF m 23 #[va o0, vi 0, vi 3, va b1, vi 2, uu] [(.int 3), (.int 0), (.ref o0)])) _
    refine st5 _ ?_
    refine XS.astore X5.here hx rfl (hb hby d5_26) rfl rfl (l' := #[va o0, vi 0, vi 3, va b1, vi 2, va b2_1_5]) rfl ?_
    refine XS.aload X5.here hx rfl (hb hby d5_28) rfl rfl ?_
    refine XS.iload X5.here hx rfl (hb hby d5_30) rfl ?_
    refine st6 _ ?_
    refine XS.sipush X6.here hx rfl (hb hby d5_35) ?_
    refine XS.icmpYes X6.here hx rfl (pc0 := 38) (pc' := 54) rfl (hb hby d5_38) rfl (tlt (own_getChar (own_fitsC V_o0 2 (by decide)) hc2)).2.2.1 (by decide) (by decide) ?_
    refine XS.aload X6.here hx rfl (hb hby d5_54) rfl rfl ?_
    show Steps p.tables e below (T6.setTop (mkF m 56 #[va o0, vi 0, vi 3, va b1, vi 2, va b2_1_5] [(.ref b2_1_5)])) _
    exact retOut X6 hx (t := (.array .byte)) (i := .areturn) hrt rfl (Or.inr (Or.inr (Or.inr (Or.inr ⟨rfl, rfl, rfl⟩)))) (hb hby d5_56) hr
  · show Q5_11 Z z_COMPACT_STRINGS o0 kk_o0 p0 p1 p2 h0 n0 (some (.ref b2_1_5)) T6.heap _
    rw [e6]; exact ⟨b2_1_5, k2_1_5, rfl, N6, K5, P0_5, sz_b2_1_5⟩
def Q6_12 (Z : State) (z_COMPACT_STRINGS : Int32) (o0 : Addr) (o1 : Addr) (kk_o0 : ClassId) (kk_o1 : ClassId) (p0 : Int32) (p1 : Int32) (p2 : Int32) (h0 : Heap) (n0 : Nat) (v : Option Value) (h : Heap) (L : List Loc) : Prop := v = (some (.int 1)) ∧ Fr n0 L ∧ Keep h0 h [o1] ∧ Arv Z h o1 kk_o1 .byte (3 : Int32) [(.int (bb (bb p0))), (.int 0), (.int 0)] (.int 0)
theorem rm6_12 (l : Launch) (Z : State) (a0 : Array Value) (hw : HW Z a0) (ws : List Jvm.Cond) (z_COMPACT_STRINGS : Int32) (o0 : Addr) (o1 : Addr) (kk_o0 : ClassId) (kk_o1 : ClassId) (p0 : Int32) (p1 : Int32) (p2 : Int32) (h0 : Heap) (n0 : Nat) (O0 : Old Z n0 h0) (S : SF Z z_COMPACT_STRINGS) (V_o0 : Arv Z h0 o0 kk_o0 .char (3 : Int32) [(.int p0), (.int p1), (.int p2)] (.int 0)) (V_o1 : Arv Z h0 o1 kk_o1 .byte (3 : Int32) [(.int 0), (.int 0), (.int 0)] (.int 0)) (ne_o0_o1 : o0 ≠ o1) (g_o1 : n0 ≤ o1) (hc0 : ¬ ((255 : Int32) < p0)) (hc1 : (255 : Int32) < p1) :
    Pay l Z My6 ws jdk_52_method_21_code 7 (some .int) #[(.ref o0), (.int 0), (.ref o1), (.int 0), (.int 3)] h0 ({ frames := 0, cells := 0, slots := 0, locals := 0 } : Room) (Q6_12 Z z_COMPACT_STRINGS o0 o1 kk_o0 kk_o1 p0 p1 p2 h0 n0) := by
  refine own_body (plainFor_of_name pn_2) (L0 := #[va o0, vi 0, va o1, vi 0, vi 3, uu, uu]) (fun _ => by first | rfl | (simp [entryFrame, mkF, argsToLocals, Value.category]; done)) ?_
  intro p e s m below meth c s₁ hrt hlk hx hby hml hZ hown0 hnm X0 e0
  have hown : s.vm.findClass sC1 = some m.cls := hown0
  have N0 := Fr.nil n0
  have K0 : Keep h0 h0 [o1] := Keep.refl _ _
  obtain ⟨cl1, Ar1, qk1, Sz1, Ng1, Hh1, Gg1⟩ := id V_o0
  have hin1_0 : ¬ ((0 : Int32) < 0 ∨ cl1.slots.size ≤ ((0 : Int32)).toNatClampNeg) := inb_of Sz1 ⟨by decide, by decide⟩
  obtain ⟨cl2, Ar2, qk2, Sz2, Ng2, Hh2, Gg2⟩ := id V_o1
  have hin2_0 : ¬ ((0 : Int32) < 0 ∨ cl2.slots.size ≤ ((0 : Int32)).toNatClampNeg) := inb_of Sz2 ⟨by decide, by decide⟩
  obtain ⟨T3, h3, X3, e3, W3, st3⟩ := stB X0 hx hZ e0 Ar2 (j := (0 : Int32)) hin2_0 (g := (mkF m 31 #[va o0, vi 0, va o1, vi 0, vi 3, vi 0, vi p0] [(.int (bb p0)), (.int 0), (.ref o1)])) rfl rfl (hb hby d6_31)
  have V3 : Arv Z h3 o1 kk_o1 .byte (3 : Int32) [(.int (bb (bb p0))), (.int 0), (.int 0)] (.int 0) := Arv.set Ar2 qk2 Sz2 Ng2 Hh2 Gg2 (fits_nar_byte _) W3 0 rfl (Nat.le_of_ble_eq_true rfl)
  have O3 := O0.wr W3 g_o1
  have K3 : Keep h0 h3 [o1] := K0.wr W3 (Or.inl (List.mem_of_getElem? (i := 0) rfl))
  have N3 := Fr.snoc X3 N0 g_o1
  have fc4 := (V_o0.other W3 ne_o0_o1)
  obtain ⟨cl5, Ar5, qk5, Sz5, Ng5, Hh5, Gg5⟩ := id fc4
  have hin5_1 : ¬ ((1 : Int32) < 0 ∨ cl5.slots.size ≤ ((1 : Int32)).toNatClampNeg) := inb_of Sz5 ⟨by decide, by decide⟩
  obtain ⟨fs, hr, hrun, hended, hW, hsame⟩ := X3.leave (v := (some (.int 1))) (fun h => by rw [hrt] at h; cases h)
  refine ⟨_, _, ?_, hrun, hended, _, _, rfl, ?_, ⟨_, rfl⟩, hW, hsame.mono (by decide) (by decide)⟩
  · show Steps p.tables e below (s₁.setTop (mkF m 0 #[va o0, vi 0, va o1, vi 0, vi 3, uu, uu] [])) _
    refine XS.iconst X0.here hx rfl (hb hby d6_0) ?_
    refine XS.istore X0.here hx rfl (hb hby d6_1) rfl (l' := #[va o0, vi 0, va o1, vi 0, vi 3, vi 0, uu]) rfl ?_
    refine XS.iload X0.here hx rfl (hb hby d6_3) rfl ?_
    refine XS.iload X0.here hx rfl (hb hby d6_5) rfl ?_
    refine XS.icmpNo X0.here hx rfl (hb hby d6_7) rfl (tlt (by decide : (0 : Int32) < (3 : Int32))).2.1 ?_
    refine XS.aloadN X0.here hx rfl (hb hby d6_10) rfl rfl ?_
    refine XS.iloadN X0.here hx rfl (hb hby d6_11) rfl ?_
    refine X0.caload hx (j := (0 : Int32)) (v := (.int p0)) (by rw [e0]; exact Ar1.1) (State.isArrayOf_alike hZ.alike Ar1.2.1) Ar1.2.2 hin1_0 (Has.at Hh1 hin1_0 rfl) (g := (mkF m 12 #[va o0, vi 0, va o1, vi 0, vi 3, vi 0, uu] [(.int 0), (.ref o0)])) rfl rfl (hb hby d6_12) _ ?_
    show Steps p.tables e below (s₁.setTop (mkF m 13 #[va o0, vi 0, va o1, vi 0, vi 3, vi 0, uu] [(.int p0)])) _
    refine XS.istore X0.here hx rfl (hb hby d6_13) rfl (l' := #[va o0, vi 0, va o1, vi 0, vi 3, vi 0, vi p0]) rfl ?_
    refine XS.iload X0.here hx rfl (hb hby d6_15) rfl ?_
    refine XS.sipush X0.here hx rfl (hb hby d6_17) ?_
    refine XS.icmpYes X0.here hx rfl (pc0 := 20) (pc' := 26) rfl (hb hby d6_20) rfl (flt hc0).2.2.2 (by decide) (by decide) ?_
    refine XS.aloadN X0.here hx rfl (hb hby d6_26) rfl rfl ?_
    refine XS.iloadN X0.here hx rfl (hb hby d6_27) rfl ?_
    refine XS.iload X0.here hx rfl (hb hby d6_28) rfl ?_
    refine XS.i2b X0.here hx rfl (hb hby d6_30) rfl ?_
    show Steps p.tables e below (s₁.setTop (mkF m 31 #[va o0, vi 0, va o1, vi 0, vi 3, vi 0, vi p0] [(.int (bb p0)), (.int 0), (.ref o1)])) _
    refine st3 _ ?_
    refine XS.iinc X3.here hx rfl (hb hby d6_32) rfl (l' := #[va o0, vi ((0 : Int32) + (1 : Int32)), va o1, vi 0, vi 3, vi 0, vi p0]) rfl ?_
    show Steps p.tables e below (T3.setTop (mkF m 35 #[va o0, vi ((0 : Int32) + (1 : Int32)), va o1, vi 0, vi 3, vi 0, vi p0] [])) _
    rw [show (((0 : Int32) + (1 : Int32)) : Int32) = (1 : Int32) from by decide]
    refine XS.iinc X3.here hx rfl (hb hby d6_35) rfl (l' := #[va o0, vi 1, va o1, vi ((0 : Int32) + (1 : Int32)), vi 3, vi 0, vi p0]) rfl ?_
    show Steps p.tables e below (T3.setTop (mkF m 38 #[va o0, vi 1, va o1, vi ((0 : Int32) + (1 : Int32)), vi 3, vi 0, vi p0] [])) _
    rw [show (((0 : Int32) + (1 : Int32)) : Int32) = (1 : Int32) from by decide]
    refine XS.iinc X3.here hx rfl (hb hby d6_38) rfl (l' := #[va o0, vi 1, va o1, vi 1, vi 3, vi ((0 : Int32) + (1 : Int32)), vi p0]) rfl ?_
    show Steps p.tables e below (T3.setTop (mkF m 41 #[va o0, vi 1, va o1, vi 1, vi 3, vi ((0 : Int32) + (1 : Int32)), vi p0] [])) _
    rw [show (((0 : Int32) + (1 : Int32)) : Int32) = (1 : Int32) from by decide]
    refine XS.goto X3.here hx rfl (pc0 := 41) (pc' := 3) rfl (hb hby d6_41) (by decide) (by decide) ?_
    refine XS.iload X3.here hx rfl (hb hby d6_3) rfl ?_
    refine XS.iload X3.here hx rfl (hb hby d6_5) rfl ?_
    refine XS.icmpNo X3.here hx rfl (hb hby d6_7) rfl (tlt (by decide : (1 : Int32) < (3 : Int32))).2.1 ?_
    refine XS.aloadN X3.here hx rfl (hb hby d6_10) rfl rfl ?_
    refine XS.iloadN X3.here hx rfl (hb hby d6_11) rfl ?_
    refine X3.caload hx (j := (1 : Int32)) (v := (.int p1)) (by rw [e3]; exact Ar5.1) (State.isArrayOf_alike hZ.alike Ar5.2.1) Ar5.2.2 hin5_1 (Has.at Hh5 hin5_1 rfl) (g := (mkF m 12 #[va o0, vi 1, va o1, vi 1, vi 3, vi 1, vi p0] [(.int 1), (.ref o0)])) rfl rfl (hb hby d6_12) _ ?_
    show Steps p.tables e below (T3.setTop (mkF m 13 #[va o0, vi 1, va o1, vi 1, vi 3, vi 1, vi p0] [(.int p1)])) _
    refine XS.istore X3.here hx rfl (hb hby d6_13) rfl (l' := #[va o0, vi 1, va o1, vi 1, vi 3, vi 1, vi p1]) rfl ?_
    refine XS.iload X3.here hx rfl (hb hby d6_15) rfl ?_
    refine XS.sipush X3.here hx rfl (hb hby d6_17) ?_
    refine XS.icmpNo X3.here hx rfl (hb hby d6_20) rfl (tlt hc1).2.2.2 ?_
    refine XS.iload X3.here hx rfl (hb hby d6_23) rfl ?_
    exact retOut X3 hx (t := .int) (i := .ireturn) hrt rfl (Or.inl ⟨rfl, Or.inl rfl, _, rfl⟩) (hb hby d6_25) hr
  · show Q6_12 Z z_COMPACT_STRINGS o0 o1 kk_o0 kk_o1 p0 p1 p2 h0 n0 (some (.int 1)) T3.heap _
    rw [e3]; exact ⟨rfl, N3, K3, V3⟩
def Q17_8 (Z : State) (z_COMPACT_STRINGS : Int32) (o0 : Addr) (kk_o0 : ClassId) (p0 : Int32) (p1 : Int32) (p2 : Int32) (p3 : Int32) (p4 : Int32) (p5 : Int32) (h0 : Heap) (n0 : Nat) (v : Option Value) (h : Heap) (L : List Loc) : Prop := v = (some (.int (cc (cc (((p2 &&& (255 : Int32)) <<< ((0 : Int32) &&& 31)) ||| ((p3 &&& (255 : Int32)) <<< ((8 : Int32) &&& 31))))))) ∧ Fr n0 L ∧ h = h0
theorem rm17_8 (l : Launch) (Z : State) (a0 : Array Value) (hw : HW Z a0) (ws : List Jvm.Cond) (z_COMPACT_STRINGS : Int32) (o0 : Addr) (kk_o0 : ClassId) (p0 : Int32) (p1 : Int32) (p2 : Int32) (p3 : Int32) (p4 : Int32) (p5 : Int32) (h0 : Heap) (n0 : Nat) (O0 : Old Z n0 h0) (S : SF Z z_COMPACT_STRINGS) (V_o0 : Arv Z h0 o0 kk_o0 .byte (6 : Int32) [(.int p0), (.int p1), (.int p2), (.int p3), (.int p4), (.int p5)] (.int 0)) :
    Pay l Z My17 ws jdk_52_method_5_code 2 (some .char) #[(.ref o0), (.int 1)] h0 ({ frames := 0, cells := 0, slots := 0, locals := 0 } : Room) (Q17_8 Z z_COMPACT_STRINGS o0 kk_o0 p0 p1 p2 p3 p4 p5 h0 n0) := by
  obtain ⟨-, -, S_StringUTF16__assertionsDisabled, S_StringUTF16_HI_BYTE_SHIFT, S_StringUTF16_LO_BYTE_SHIFT, -⟩ := id S
  refine own_body (plainFor_of_name pn_2) (L0 := #[va o0, vi 1]) (fun _ => by first | rfl | (simp [entryFrame, mkF, argsToLocals, Value.category]; done)) ?_
  intro p e s m below meth c s₁ hrt hlk hx hby hml hZ hown0 hnm X0 e0
  have hown : s.vm.findClass sC1 = some m.cls := hown0
  have N0 := Fr.nil n0
  have K0 : Keep h0 h0 [] := Keep.refl _ _
  obtain ⟨T1, X1, e1, st1⟩ := getS2 X0 hx hZ hown (host := "") (Or.inl (ww hw 74 rfl)) Via.refl e0 (S_StringUTF16__assertionsDisabled.ext O0.2) (g := (mkF m 0 #[va o0, vi 1] [])) rfl (hb hby d17_0)
  obtain ⟨cl2, Ar2, qk2, Sz2, Ng2, Hh2, Gg2⟩ := id V_o0
  have hin2_2 : ¬ ((2 : Int32) < 0 ∨ cl2.slots.size ≤ ((2 : Int32)).toNatClampNeg) := inb_of Sz2 ⟨by decide, by decide⟩
  obtain ⟨T3, X3, e3, st3⟩ := getS2 X1 hx hZ hown (host := "") (Or.inl (ww hw 75 rfl)) Via.refl e1 (S_StringUTF16_HI_BYTE_SHIFT.ext O0.2) (g := (mkF m 42 #[va o0, vi 3] [(.int (p2 &&& (255 : Int32)))])) rfl (hb hby d17_42)
  have hin2_3 : ¬ ((3 : Int32) < 0 ∨ cl2.slots.size ≤ ((3 : Int32)).toNatClampNeg) := inb_of Sz2 ⟨by decide, by decide⟩
  obtain ⟨T4, X4, e4, st4⟩ := getS2 X3 hx hZ hown (host := "") (Or.inl (ww hw 76 rfl)) Via.refl e3 (S_StringUTF16_LO_BYTE_SHIFT.ext O0.2) (g := (mkF m 53 #[va o0, vi 3] [(.int (p3 &&& (255 : Int32))), (.int ((p2 &&& (255 : Int32)) <<< ((0 : Int32) &&& 31)))])) rfl (hb hby d17_53)
  obtain ⟨fs, hr, hrun, hended, hW, hsame⟩ := X4.leave (v := (some (.int (cc (cc (((p2 &&& (255 : Int32)) <<< ((0 : Int32) &&& 31)) ||| ((p3 &&& (255 : Int32)) <<< ((8 : Int32) &&& 31)))))))) (fun h => by rw [hrt] at h; cases h)
  refine ⟨_, _, ?_, hrun, hended, _, _, rfl, ?_, ⟨_, rfl⟩, hW, hsame.mono (by decide) (by decide)⟩
  · show Steps p.tables e below (s₁.setTop (mkF m 0 #[va o0, vi 1] [])) _
    refine st1 _ ?_
    refine XS.ifYes X1.here hx rfl (pc0 := 3) (pc' := 28) rfl (hb hby d17_3) rfl ((if0 _ _).trans (feq (by decide : ¬ ((1 : Int32) = (0 : Int32)))).2) (by decide) (by decide) ?_
    refine XS.iloadN X1.here hx rfl (hb hby d17_28) rfl ?_
    refine XS.iconst X1.here hx rfl (hb hby d17_29) ?_
    refine XS.ishl X1.here hx rfl (hb hby d17_30) rfl ?_
    show Steps p.tables e below (T1.setTop (mkF m 31 #[va o0, vi 1] [(.int ((1 : Int32) <<< ((1 : Int32) &&& 31)))])) _
    rw [show (((1 : Int32) <<< ((1 : Int32) &&& 31)) : Int32) = (2 : Int32) from by decide]
    refine XS.istoreN X1.here hx rfl (hb hby d17_31) rfl (l' := #[va o0, vi 2]) rfl ?_
    refine XS.aloadN X1.here hx rfl (hb hby d17_32) rfl rfl ?_
    refine XS.iloadN X1.here hx rfl (hb hby d17_33) rfl ?_
    refine XS.iinc X1.here hx rfl (hb hby d17_34) rfl (l' := #[va o0, vi ((2 : Int32) + (1 : Int32))]) rfl ?_
    show Steps p.tables e below (T1.setTop (mkF m 37 #[va o0, vi ((2 : Int32) + (1 : Int32))] [(.int 2), (.ref o0)])) _
    rw [show (((2 : Int32) + (1 : Int32)) : Int32) = (3 : Int32) from by decide]
    refine X1.baloadBytes hx (j := (2 : Int32)) (v := (.int p2)) (by rw [e1]; exact Ar2.1) (State.isArrayOf_alike hZ.alike Ar2.2.1) Ar2.2.2 hin2_2 (Has.at Hh2 hin2_2 rfl) (g := (mkF m 37 #[va o0, vi 3] [(.int 2), (.ref o0)])) rfl rfl (hb hby d17_37) _ ?_
    refine XS.sipush X1.here hx rfl (hb hby d17_38) ?_
    refine XS.iand X1.here hx rfl (hb hby d17_41) rfl ?_
    refine st3 _ ?_
    refine XS.ishl X3.here hx rfl (hb hby d17_45) rfl ?_
    refine XS.aloadN X3.here hx rfl (hb hby d17_46) rfl rfl ?_
    refine XS.iloadN X3.here hx rfl (hb hby d17_47) rfl ?_
    show Steps p.tables e below (T3.setTop (mkF m 48 #[va o0, vi 3] [(.int 3), (.ref o0), (.int ((p2 &&& (255 : Int32)) <<< ((0 : Int32) &&& 31)))])) _
    refine X3.baloadBytes hx (j := (3 : Int32)) (v := (.int p3)) (by rw [e3]; exact Ar2.1) (State.isArrayOf_alike hZ.alike Ar2.2.1) Ar2.2.2 hin2_3 (Has.at Hh2 hin2_3 rfl) (g := (mkF m 48 #[va o0, vi 3] [(.int 3), (.ref o0), (.int ((p2 &&& (255 : Int32)) <<< ((0 : Int32) &&& 31)))])) rfl rfl (hb hby d17_48) _ ?_
    refine XS.sipush X3.here hx rfl (hb hby d17_49) ?_
    refine XS.iand X3.here hx rfl (hb hby d17_52) rfl ?_
    refine st4 _ ?_
    refine XS.ishl X4.here hx rfl (hb hby d17_56) rfl ?_
    refine XS.ior X4.here hx rfl (hb hby d17_57) rfl ?_
    refine XS.i2c X4.here hx rfl (hb hby d17_58) rfl ?_
    exact retN X4 hx (t := .char) hrt (by simp) (hb hby d17_59) hr
  · show Q17_8 Z z_COMPACT_STRINGS o0 kk_o0 p0 p1 p2 p3 p4 p5 h0 n0 (some (.int (cc (cc (((p2 &&& (255 : Int32)) <<< ((0 : Int32) &&& 31)) ||| ((p3 &&& (255 : Int32)) <<< ((8 : Int32) &&& 31))))))) T4.heap _
    exact (⟨rfl, N0, e4⟩)
def Q5_12 (Z : State) (z_COMPACT_STRINGS : Int32) (o0 : Addr) (kk_o0 : ClassId) (p0 : Int32) (p1 : Int32) (p2 : Int32) (h0 : Heap) (n0 : Nat) (v : Option Value) (h : Heap) (L : List Loc) : Prop := ∃ (b2_1_5 : Addr), ∃ (k2_1_5 : ClassId), v = (some (.ref b2_1_5)) ∧ Fr n0 L ∧ Keep h0 h [] ∧ Arv Z h b2_1_5 k2_1_5 .byte (6 : Int32) [(.int (bb (bb (p0 >>> ((0 : Int32) &&& 31))))), (.int (bb (bb (p0 >>> ((8 : Int32) &&& 31))))), (.int (bb (bb (p1 >>> ((0 : Int32) &&& 31))))), (.int (bb (bb (p1 >>> ((8 : Int32) &&& 31))))), (.int (bb (bb (p2 >>> ((0 : Int32) &&& 31))))), (.int (bb (bb (p2 >>> ((8 : Int32) &&& 31)))))] (.int 0) ∧ h0.size ≤ b2_1_5
theorem rm5_12 (l : Launch) (Z : State) (a0 : Array Value) (hw : HW Z a0) (ws : List Jvm.Cond) (z_COMPACT_STRINGS : Int32) (o0 : Addr) (kk_o0 : ClassId) (p0 : Int32) (p1 : Int32) (p2 : Int32) (h0 : Heap) (n0 : Nat) (O0 : Old Z n0 h0) (S : SF Z z_COMPACT_STRINGS) (V_o0 : Arv Z h0 o0 kk_o0 .char (3 : Int32) [(.int p0), (.int p1), (.int p2)] (.int 0)) (hc0 : ¬ ((255 : Int32) < p0)) (hc1 : (255 : Int32) < p1) :
    Pay l Z My5 ws jdk_52_method_16_code 6 (some (.array .byte)) #[(.ref o0), (.int 0), (.int 3)] h0 ({ frames := 3, cells := 2, slots := 9, locals := 40 } : Room) (Q5_12 Z z_COMPACT_STRINGS o0 kk_o0 p0 p1 p2 h0 n0) := by
  refine own_body (plainFor_of_name pn_2) (L0 := #[va o0, vi 0, vi 3, uu, uu, uu]) (fun _ => by first | rfl | (simp [entryFrame, mkF, argsToLocals, Value.category]; done)) ?_
  intro p e s m below meth c s₁ hrt hlk hx hby hml hZ hown0 hnm X0 e0
  have hown : s.vm.findClass sC1 = some m.cls := hown0
  have N0 := Fr.nil n0
  have K0 : Keep h0 h0 [] := Keep.refl _ _
  obtain ⟨T1, h1, k1, X1, e1, E1, A1, st1⟩ := newP X0 hx hZ (ww hw 24 rfl) e0 (g := (mkF m 1 #[va o0, vi 0, vi 3, uu, uu, uu] [(.int 3)])) rfl (hb hby d5_1) rfl (by decide) (cap := 3) (by decide) (by decide) (by decide) (by decide)
  obtain ⟨b1, qs1⟩ : ∃ z, z = h0.size := ⟨_, rfl⟩
  rw [← qs1] at A1 st1
  have ne_o0_b1 : o0 ≠ b1 := Nat.ne_of_lt (Nat.lt_of_lt_of_le V_o0.lt (Nat.le_of_eq qs1.symm))
  have g_b1 : n0 ≤ b1 := Nat.le_trans (own_old O0) (Nat.le_of_eq qs1.symm)
  have sz_b1 : h0.size ≤ b1 := Nat.le_trans K0.1 (Nat.le_of_eq qs1.symm)
  have O1 := O0.ext E1
  have K1 : Keep h0 h1 [] := K0.ext E1
  have V_b1 : Arv Z h1 b1 k1 .byte (3 : Int32) [(.int 0), (.int 0), (.int 0)] (.int 0) := (Arv.new A1 (by decide)).pad (pad_rep [] (.int 0) 3)
  have fc2 := (V_o0.ext E1)
  obtain ⟨_, _, ⟨T3, L3, k3, n3⟩, -, X3, ⟨Lc3, hQ3, l3, y3, z3⟩, st3⟩ := Jvm.LawKit.callS X1 hx (y := My6) hown (mvT hZ (ww hw 25 rfl)) (mvT hZ (ww hw 26 rfl)) (mvT hZ (ww hw 22 rfl)) (mvT hZ (ww hw 27 rfl)) (by decide) (backOf (W := 0) (rm6_12 l Z a0 hw [] z_COMPACT_STRINGS o0 b1 kk_o0 k1 p0 p1 p2 h1 n0 O1 S fc2 V_b1 ne_o0_b1 g_b1 hc0 hc1) hZ (ww hw 27 rfl) (ww hw 22 rfl) (by decide) (by decide)) (g := (mkF m 9 #[va o0, vi 0, vi 3, va b1, uu, uu] [(.int 3), (.int 0), (.ref b1), (.int 0), (.ref o0)])) rfl (by rw [hml]; rfl) (argsL := [(.ref o0), (.int 0), (.ref b1), (.int 0), (.int 3)]) (rest := []) (lenOf pd_0 rfl) rfl (by show 2 * 0 + _ ≤ _; exact Nat.le_of_eq rfl) (hb hby d5_9) (fun _ _ => ⟨rfl, e1, (by decide : 1 + 0 ≤ _), (by decide : 3 + 0 ≤ _)⟩)
  dsimp only [Pt.U, Pt.locs, Pt.cells, Pt.slots] at X3 l3 y3 z3 st3 hQ3
  subst l3 y3 z3
  obtain ⟨rfl, Nq3, Kc3, P0_3⟩ := hQ3
  have N3 := Fr.app N0 Nq3
  have O3 := O1.keep Kc3 (allS g_b1 all0)
  have K3 : Keep h0 T3.heap [] := K1.trans Kc3 (allS (Or.inr sz_b1) all0)
  have fc4 := (fc2.keep Kc3 (ninS ne_o0_b1 nin0))
  obtain ⟨_, _, ⟨T5, L5, k5, n5⟩, -, X5, ⟨Lc5, hQ5, l5, y5, z5⟩, st5⟩ := Jvm.LawKit.callS X3 hx (y := My13) hown (mvT hZ (ww hw 61 rfl)) (mvT hZ (ww hw 62 rfl)) (mvT hZ (ww hw 22 rfl)) (mvT hZ (ww hw 63 rfl)) (by decide) (backOf (W := 0) (rm13_3 l Z a0 hw [] z_COMPACT_STRINGS o0 kk_o0 p0 p1 p2 T3.heap n0 O3 S fc4) hZ (ww hw 63 rfl) (ww hw 22 rfl) (by decide) (by decide)) (g := (mkF m 23 #[va o0, vi 0, vi 3, va b1, vi 1, uu] [(.int 3), (.int 0), (.ref o0)])) rfl (by rw [hml]; rfl) (argsL := [(.ref o0), (.int 0), (.int 3)]) (rest := []) (lenOf pd_4 rfl) rfl (by show 2 * 0 + _ ≤ _; exact Nat.le_of_eq rfl) (hb hby d5_23) (fun _ _ => ⟨rfl, rfl, (by decide : 1 + 1 ≤ _), (by decide : 3 + 6 ≤ _)⟩)
  dsimp only [Pt.U, Pt.locs, Pt.cells, Pt.slots] at X5 l5 y5 z5 st5 hQ5
  subst l5 y5 z5
  obtain ⟨b2_1_5, k2_1_5, rfl, Nq5, Kc5, P0_5, P1_5⟩ := hQ5
  have N5 := Fr.app N3 Nq5
  have ne_o0_b2_1_5 : o0 ≠ b2_1_5 := Nat.ne_of_lt (Nat.lt_of_lt_of_le fc4.lt P1_5)
  have ne_b1_b2_1_5 : b1 ≠ b2_1_5 := Nat.ne_of_lt (Nat.lt_of_lt_of_le P0_3.lt P1_5)
  have g_b2_1_5 : n0 ≤ b2_1_5 := Nat.le_trans (own_old O3) P1_5
  have sz_b2_1_5 : h0.size ≤ b2_1_5 := Nat.le_trans K3.1 P1_5
  have O5 := O3.keep Kc5 all0
  have K5 : Keep h0 T5.heap [] := K3.trans Kc5 all0
  obtain ⟨_, _, ⟨T6, L6, k6, n6⟩, -, X6, ⟨Lc6, hQ6, l6, y6, z6⟩, st6⟩ := Jvm.LawKit.callS X5 hx (y := My17) hown (mvT hZ (ww hw 77 rfl)) (mvT hZ (ww hw 78 rfl)) (mvT hZ (ww hw 22 rfl)) (mvT hZ (ww hw 79 rfl)) (by decide) (backOf (W := 0) (rm17_8 l Z a0 hw [] z_COMPACT_STRINGS b2_1_5 k2_1_5 (bb (bb (p0 >>> ((0 : Int32) &&& 31)))) (bb (bb (p0 >>> ((8 : Int32) &&& 31)))) (bb (bb (p1 >>> ((0 : Int32) &&& 31)))) (bb (bb (p1 >>> ((8 : Int32) &&& 31)))) (bb (bb (p2 >>> ((0 : Int32) &&& 31)))) (bb (bb (p2 >>> ((8 : Int32) &&& 31)))) T5.heap n0 O5 S P0_5) hZ (ww hw 79 rfl) (ww hw 22 rfl) (by decide) (by decide)) (g := (mkF m 32 #[va o0, vi 0, vi 3, va b1, vi 1, va b2_1_5] [(.int 1), (.ref b2_1_5)])) rfl (by rw [hml]; rfl) (argsL := [(.ref b2_1_5), (.int 1)]) (rest := []) (lenOf pd_5 rfl) rfl (by show 2 * 0 + _ ≤ _; exact Nat.le_of_eq rfl) (hb hby d5_32) (fun _ _ => ⟨rfl, rfl, (by decide : 2 + 0 ≤ _), (by decide : 9 + 0 ≤ _)⟩)
  dsimp only [Pt.U, Pt.locs, Pt.cells, Pt.slots] at X6 l6 y6 z6 st6 hQ6
  subst l6 y6 z6
  obtain ⟨rfl, Nq6, e6⟩ := hQ6
  have N6 := Fr.app N5 Nq6
  obtain ⟨fs, hr, hrun, hended, hW, hsame⟩ := X6.leave (v := (some (.ref b2_1_5))) (fun h => by rw [hrt] at h; cases h)
  refine ⟨_, _, ?_, hrun, hended, _, _, rfl, ?_, ⟨_, rfl⟩, hW, hsame.mono (by decide) (by decide)⟩
  · show Steps p.tables e below (s₁.setTop (mkF m 0 #[va o0, vi 0, vi 3, uu, uu, uu] [])) _
    refine XS.iloadN X0.here hx rfl (hb hby d5_0) rfl ?_
    refine st1 _ ?_
    refine XS.astoreN X1.here hx rfl (hb hby d5_3) rfl rfl (l' := #[va o0, vi 0, vi 3, va b1, uu, uu]) rfl ?_
    refine XS.aloadN X1.here hx rfl (hb hby d5_4) rfl rfl ?_
    refine XS.iloadN X1.here hx rfl (hb hby d5_5) rfl ?_
    refine XS.aloadN X1.here hx rfl (hb hby d5_6) rfl rfl ?_
    refine XS.iconst X1.here hx rfl (hb hby d5_7) ?_
    refine XS.iloadN X1.here hx rfl (hb hby d5_8) rfl ?_
    show Steps p.tables e below (T1.setTop (mkF m 9 #[va o0, vi 0, vi 3, va b1, uu, uu] [(.int 3), (.int 0), (.ref b1), (.int 0), (.ref o0)])) _
    refine st3 _ ?_
    refine XS.istore X3.here hx rfl (hb hby d5_12) rfl (l' := #[va o0, vi 0, vi 3, va b1, vi 1, uu]) rfl ?_
    refine XS.iload X3.here hx rfl (hb hby d5_14) rfl ?_
    refine XS.iloadN X3.here hx rfl (hb hby d5_16) rfl ?_
    refine XS.icmpNo X3.here hx rfl (hb hby d5_17) rfl (feq (by decide : ¬ ((1 : Int32) = (3 : Int32)))).1 ?_
    refine XS.aloadN X3.here hx rfl (hb hby d5_20) rfl rfl ?_
    refine XS.iloadN X3.here hx rfl (hb hby d5_21) rfl ?_
    refine XS.iloadN X3.here hx rfl (hb hby d5_22) rfl ?_
    show Steps p.tables e below (T3.setTop (mkF m 23 #[va o0, vi 0, vi 3, va b1, vi 1, uu] [(.int 3), (.int 0), (.ref o0)])) _
    refine st5 _ ?_
    refine XS.astore X5.here hx rfl (hb hby d5_26) rfl rfl (l' := #[va o0, vi 0, vi 3, va b1, vi 1, va b2_1_5]) rfl ?_
    refine XS.aload X5.here hx rfl (hb hby d5_28) rfl rfl ?_
    refine XS.iload X5.here hx rfl (hb hby d5_30) rfl ?_
    refine st6 _ ?_
    refine XS.sipush X6.here hx rfl (hb hby d5_35) ?_
    refine XS.icmpYes X6.here hx rfl (pc0 := 38) (pc' := 54) rfl (hb hby d5_38) rfl (tlt (own_getChar (own_fitsC V_o0 1 (by decide)) hc1)).2.2.1 (by decide) (by decide) ?_
    refine XS.aload X6.here hx rfl (hb hby d5_54) rfl rfl ?_
    show Steps p.tables e below (T6.setTop (mkF m 56 #[va o0, vi 0, vi 3, va b1, vi 1, va b2_1_5] [(.ref b2_1_5)])) _
    exact retOut X6 hx (t := (.array .byte)) (i := .areturn) hrt rfl (Or.inr (Or.inr (Or.inr (Or.inr ⟨rfl, rfl, rfl⟩)))) (hb hby d5_56) hr
  · show Q5_12 Z z_COMPACT_STRINGS o0 kk_o0 p0 p1 p2 h0 n0 (some (.ref b2_1_5)) T6.heap _
    rw [e6]; exact ⟨b2_1_5, k2_1_5, rfl, N6, K5, P0_5, sz_b2_1_5⟩
def Q6_13 (Z : State) (z_COMPACT_STRINGS : Int32) (o0 : Addr) (o1 : Addr) (kk_o0 : ClassId) (kk_o1 : ClassId) (p0 : Int32) (p1 : Int32) (p2 : Int32) (h0 : Heap) (n0 : Nat) (v : Option Value) (h : Heap) (L : List Loc) : Prop := v = (some (.int 0)) ∧ Fr n0 L ∧ h = h0
theorem rm6_13 (l : Launch) (Z : State) (a0 : Array Value) (hw : HW Z a0) (ws : List Jvm.Cond) (z_COMPACT_STRINGS : Int32) (o0 : Addr) (o1 : Addr) (kk_o0 : ClassId) (kk_o1 : ClassId) (p0 : Int32) (p1 : Int32) (p2 : Int32) (h0 : Heap) (n0 : Nat) (O0 : Old Z n0 h0) (S : SF Z z_COMPACT_STRINGS) (V_o0 : Arv Z h0 o0 kk_o0 .char (3 : Int32) [(.int p0), (.int p1), (.int p2)] (.int 0)) (hc0 : (255 : Int32) < p0) :
    Pay l Z My6 ws jdk_52_method_21_code 7 (some .int) #[(.ref o0), (.int 0), (.ref o1), (.int 0), (.int 3)] h0 ({ frames := 0, cells := 0, slots := 0, locals := 0 } : Room) (Q6_13 Z z_COMPACT_STRINGS o0 o1 kk_o0 kk_o1 p0 p1 p2 h0 n0) := by
  refine own_body (plainFor_of_name pn_2) (L0 := #[va o0, vi 0, va o1, vi 0, vi 3, uu, uu]) (fun _ => by first | rfl | (simp [entryFrame, mkF, argsToLocals, Value.category]; done)) ?_
  intro p e s m below meth c s₁ hrt hlk hx hby hml hZ hown0 hnm X0 e0
  have hown : s.vm.findClass sC1 = some m.cls := hown0
  have N0 := Fr.nil n0
  have K0 : Keep h0 h0 [] := Keep.refl _ _
  obtain ⟨cl1, Ar1, qk1, Sz1, Ng1, Hh1, Gg1⟩ := id V_o0
  have hin1_0 : ¬ ((0 : Int32) < 0 ∨ cl1.slots.size ≤ ((0 : Int32)).toNatClampNeg) := inb_of Sz1 ⟨by decide, by decide⟩
  obtain ⟨fs, hr, hrun, hended, hW, hsame⟩ := X0.leave (v := (some (.int 0))) (fun h => by rw [hrt] at h; cases h)
  refine ⟨_, _, ?_, hrun, hended, _, _, rfl, ?_, ⟨_, rfl⟩, hW, hsame.mono (by decide) (by decide)⟩
  · show Steps p.tables e below (s₁.setTop (mkF m 0 #[va o0, vi 0, va o1, vi 0, vi 3, uu, uu] [])) _
    refine XS.iconst X0.here hx rfl (hb hby d6_0) ?_
    refine XS.istore X0.here hx rfl (hb hby d6_1) rfl (l' := #[va o0, vi 0, va o1, vi 0, vi 3, vi 0, uu]) rfl ?_
    refine XS.iload X0.here hx rfl (hb hby d6_3) rfl ?_
    refine XS.iload X0.here hx rfl (hb hby d6_5) rfl ?_
    refine XS.icmpNo X0.here hx rfl (hb hby d6_7) rfl (tlt (by decide : (0 : Int32) < (3 : Int32))).2.1 ?_
    refine XS.aloadN X0.here hx rfl (hb hby d6_10) rfl rfl ?_
    refine XS.iloadN X0.here hx rfl (hb hby d6_11) rfl ?_
    refine X0.caload hx (j := (0 : Int32)) (v := (.int p0)) (by rw [e0]; exact Ar1.1) (State.isArrayOf_alike hZ.alike Ar1.2.1) Ar1.2.2 hin1_0 (Has.at Hh1 hin1_0 rfl) (g := (mkF m 12 #[va o0, vi 0, va o1, vi 0, vi 3, vi 0, uu] [(.int 0), (.ref o0)])) rfl rfl (hb hby d6_12) _ ?_
    show Steps p.tables e below (s₁.setTop (mkF m 13 #[va o0, vi 0, va o1, vi 0, vi 3, vi 0, uu] [(.int p0)])) _
    refine XS.istore X0.here hx rfl (hb hby d6_13) rfl (l' := #[va o0, vi 0, va o1, vi 0, vi 3, vi 0, vi p0]) rfl ?_
    refine XS.iload X0.here hx rfl (hb hby d6_15) rfl ?_
    refine XS.sipush X0.here hx rfl (hb hby d6_17) ?_
    refine XS.icmpNo X0.here hx rfl (hb hby d6_20) rfl (tlt hc0).2.2.2 ?_
    refine XS.iload X0.here hx rfl (hb hby d6_23) rfl ?_
    exact retOut X0 hx (t := .int) (i := .ireturn) hrt rfl (Or.inl ⟨rfl, Or.inl rfl, _, rfl⟩) (hb hby d6_25) hr
  · show Q6_13 Z z_COMPACT_STRINGS o0 o1 kk_o0 kk_o1 p0 p1 p2 h0 n0 (some (.int 0)) s₁.heap _
    exact (⟨rfl, N0, e0⟩)
def Q17_9 (Z : State) (z_COMPACT_STRINGS : Int32) (o0 : Addr) (kk_o0 : ClassId) (p0 : Int32) (p1 : Int32) (p2 : Int32) (p3 : Int32) (p4 : Int32) (p5 : Int32) (h0 : Heap) (n0 : Nat) (v : Option Value) (h : Heap) (L : List Loc) : Prop := v = (some (.int (cc (cc (((p0 &&& (255 : Int32)) <<< ((0 : Int32) &&& 31)) ||| ((p1 &&& (255 : Int32)) <<< ((8 : Int32) &&& 31))))))) ∧ Fr n0 L ∧ h = h0
theorem rm17_9 (l : Launch) (Z : State) (a0 : Array Value) (hw : HW Z a0) (ws : List Jvm.Cond) (z_COMPACT_STRINGS : Int32) (o0 : Addr) (kk_o0 : ClassId) (p0 : Int32) (p1 : Int32) (p2 : Int32) (p3 : Int32) (p4 : Int32) (p5 : Int32) (h0 : Heap) (n0 : Nat) (O0 : Old Z n0 h0) (S : SF Z z_COMPACT_STRINGS) (V_o0 : Arv Z h0 o0 kk_o0 .byte (6 : Int32) [(.int p0), (.int p1), (.int p2), (.int p3), (.int p4), (.int p5)] (.int 0)) :
    Pay l Z My17 ws jdk_52_method_5_code 2 (some .char) #[(.ref o0), (.int 0)] h0 ({ frames := 0, cells := 0, slots := 0, locals := 0 } : Room) (Q17_9 Z z_COMPACT_STRINGS o0 kk_o0 p0 p1 p2 p3 p4 p5 h0 n0) := by
  obtain ⟨-, -, S_StringUTF16__assertionsDisabled, S_StringUTF16_HI_BYTE_SHIFT, S_StringUTF16_LO_BYTE_SHIFT, -⟩ := id S
  refine own_body (plainFor_of_name pn_2) (L0 := #[va o0, vi 0]) (fun _ => by first | rfl | (simp [entryFrame, mkF, argsToLocals, Value.category]; done)) ?_
  intro p e s m below meth c s₁ hrt hlk hx hby hml hZ hown0 hnm X0 e0
  have hown : s.vm.findClass sC1 = some m.cls := hown0
  have N0 := Fr.nil n0
  have K0 : Keep h0 h0 [] := Keep.refl _ _
  obtain ⟨T1, X1, e1, st1⟩ := getS2 X0 hx hZ hown (host := "") (Or.inl (ww hw 74 rfl)) Via.refl e0 (S_StringUTF16__assertionsDisabled.ext O0.2) (g := (mkF m 0 #[va o0, vi 0] [])) rfl (hb hby d17_0)
  obtain ⟨cl2, Ar2, qk2, Sz2, Ng2, Hh2, Gg2⟩ := id V_o0
  have hin2_0 : ¬ ((0 : Int32) < 0 ∨ cl2.slots.size ≤ ((0 : Int32)).toNatClampNeg) := inb_of Sz2 ⟨by decide, by decide⟩
  obtain ⟨T3, X3, e3, st3⟩ := getS2 X1 hx hZ hown (host := "") (Or.inl (ww hw 75 rfl)) Via.refl e1 (S_StringUTF16_HI_BYTE_SHIFT.ext O0.2) (g := (mkF m 42 #[va o0, vi 1] [(.int (p0 &&& (255 : Int32)))])) rfl (hb hby d17_42)
  have hin2_1 : ¬ ((1 : Int32) < 0 ∨ cl2.slots.size ≤ ((1 : Int32)).toNatClampNeg) := inb_of Sz2 ⟨by decide, by decide⟩
  obtain ⟨T4, X4, e4, st4⟩ := getS2 X3 hx hZ hown (host := "") (Or.inl (ww hw 76 rfl)) Via.refl e3 (S_StringUTF16_LO_BYTE_SHIFT.ext O0.2) (g := (mkF m 53 #[va o0, vi 1] [(.int (p1 &&& (255 : Int32))), (.int ((p0 &&& (255 : Int32)) <<< ((0 : Int32) &&& 31)))])) rfl (hb hby d17_53)
  obtain ⟨fs, hr, hrun, hended, hW, hsame⟩ := X4.leave (v := (some (.int (cc (cc (((p0 &&& (255 : Int32)) <<< ((0 : Int32) &&& 31)) ||| ((p1 &&& (255 : Int32)) <<< ((8 : Int32) &&& 31)))))))) (fun h => by rw [hrt] at h; cases h)
  refine ⟨_, _, ?_, hrun, hended, _, _, rfl, ?_, ⟨_, rfl⟩, hW, hsame.mono (by decide) (by decide)⟩
  · show Steps p.tables e below (s₁.setTop (mkF m 0 #[va o0, vi 0] [])) _
    refine st1 _ ?_
    refine XS.ifYes X1.here hx rfl (pc0 := 3) (pc' := 28) rfl (hb hby d17_3) rfl ((if0 _ _).trans (feq (by decide : ¬ ((1 : Int32) = (0 : Int32)))).2) (by decide) (by decide) ?_
    refine XS.iloadN X1.here hx rfl (hb hby d17_28) rfl ?_
    refine XS.iconst X1.here hx rfl (hb hby d17_29) ?_
    refine XS.ishl X1.here hx rfl (hb hby d17_30) rfl ?_
    show Steps p.tables e below (T1.setTop (mkF m 31 #[va o0, vi 0] [(.int ((0 : Int32) <<< ((1 : Int32) &&& 31)))])) _
    rw [show (((0 : Int32) <<< ((1 : Int32) &&& 31)) : Int32) = (0 : Int32) from by decide]
    refine XS.istoreN X1.here hx rfl (hb hby d17_31) rfl (l' := #[va o0, vi 0]) rfl ?_
    refine XS.aloadN X1.here hx rfl (hb hby d17_32) rfl rfl ?_
    refine XS.iloadN X1.here hx rfl (hb hby d17_33) rfl ?_
    refine XS.iinc X1.here hx rfl (hb hby d17_34) rfl (l' := #[va o0, vi ((0 : Int32) + (1 : Int32))]) rfl ?_
    show Steps p.tables e below (T1.setTop (mkF m 37 #[va o0, vi ((0 : Int32) + (1 : Int32))] [(.int 0), (.ref o0)])) _
    rw [show (((0 : Int32) + (1 : Int32)) : Int32) = (1 : Int32) from by decide]
    refine X1.baloadBytes hx (j := (0 : Int32)) (v := (.int p0)) (by rw [e1]; exact Ar2.1) (State.isArrayOf_alike hZ.alike Ar2.2.1) Ar2.2.2 hin2_0 (Has.at Hh2 hin2_0 rfl) (g := (mkF m 37 #[va o0, vi 1] [(.int 0), (.ref o0)])) rfl rfl (hb hby d17_37) _ ?_
    refine XS.sipush X1.here hx rfl (hb hby d17_38) ?_
    refine XS.iand X1.here hx rfl (hb hby d17_41) rfl ?_
    refine st3 _ ?_
    refine XS.ishl X3.here hx rfl (hb hby d17_45) rfl ?_
    refine XS.aloadN X3.here hx rfl (hb hby d17_46) rfl rfl ?_
    refine XS.iloadN X3.here hx rfl (hb hby d17_47) rfl ?_
    show Steps p.tables e below (T3.setTop (mkF m 48 #[va o0, vi 1] [(.int 1), (.ref o0), (.int ((p0 &&& (255 : Int32)) <<< ((0 : Int32) &&& 31)))])) _
    refine X3.baloadBytes hx (j := (1 : Int32)) (v := (.int p1)) (by rw [e3]; exact Ar2.1) (State.isArrayOf_alike hZ.alike Ar2.2.1) Ar2.2.2 hin2_1 (Has.at Hh2 hin2_1 rfl) (g := (mkF m 48 #[va o0, vi 1] [(.int 1), (.ref o0), (.int ((p0 &&& (255 : Int32)) <<< ((0 : Int32) &&& 31)))])) rfl rfl (hb hby d17_48) _ ?_
    refine XS.sipush X3.here hx rfl (hb hby d17_49) ?_
    refine XS.iand X3.here hx rfl (hb hby d17_52) rfl ?_
    refine st4 _ ?_
    refine XS.ishl X4.here hx rfl (hb hby d17_56) rfl ?_
    refine XS.ior X4.here hx rfl (hb hby d17_57) rfl ?_
    refine XS.i2c X4.here hx rfl (hb hby d17_58) rfl ?_
    exact retN X4 hx (t := .char) hrt (by simp) (hb hby d17_59) hr
  · show Q17_9 Z z_COMPACT_STRINGS o0 kk_o0 p0 p1 p2 p3 p4 p5 h0 n0 (some (.int (cc (cc (((p0 &&& (255 : Int32)) <<< ((0 : Int32) &&& 31)) ||| ((p1 &&& (255 : Int32)) <<< ((8 : Int32) &&& 31))))))) T4.heap _
    exact (⟨rfl, N0, e4⟩)
def Q5_13 (Z : State) (z_COMPACT_STRINGS : Int32) (o0 : Addr) (kk_o0 : ClassId) (p0 : Int32) (p1 : Int32) (p2 : Int32) (h0 : Heap) (n0 : Nat) (v : Option Value) (h : Heap) (L : List Loc) : Prop := ∃ (b2_1_4 : Addr), ∃ (k2_1_4 : ClassId), v = (some (.ref b2_1_4)) ∧ Fr n0 L ∧ Keep h0 h [] ∧ Arv Z h b2_1_4 k2_1_4 .byte (6 : Int32) [(.int (bb (bb (p0 >>> ((0 : Int32) &&& 31))))), (.int (bb (bb (p0 >>> ((8 : Int32) &&& 31))))), (.int (bb (bb (p1 >>> ((0 : Int32) &&& 31))))), (.int (bb (bb (p1 >>> ((8 : Int32) &&& 31))))), (.int (bb (bb (p2 >>> ((0 : Int32) &&& 31))))), (.int (bb (bb (p2 >>> ((8 : Int32) &&& 31)))))] (.int 0) ∧ h0.size ≤ b2_1_4
theorem rm5_13 (l : Launch) (Z : State) (a0 : Array Value) (hw : HW Z a0) (ws : List Jvm.Cond) (z_COMPACT_STRINGS : Int32) (o0 : Addr) (kk_o0 : ClassId) (p0 : Int32) (p1 : Int32) (p2 : Int32) (h0 : Heap) (n0 : Nat) (O0 : Old Z n0 h0) (S : SF Z z_COMPACT_STRINGS) (V_o0 : Arv Z h0 o0 kk_o0 .char (3 : Int32) [(.int p0), (.int p1), (.int p2)] (.int 0)) (hc0 : (255 : Int32) < p0) :
    Pay l Z My5 ws jdk_52_method_16_code 6 (some (.array .byte)) #[(.ref o0), (.int 0), (.int 3)] h0 ({ frames := 3, cells := 2, slots := 9, locals := 40 } : Room) (Q5_13 Z z_COMPACT_STRINGS o0 kk_o0 p0 p1 p2 h0 n0) := by
  refine own_body (plainFor_of_name pn_2) (L0 := #[va o0, vi 0, vi 3, uu, uu, uu]) (fun _ => by first | rfl | (simp [entryFrame, mkF, argsToLocals, Value.category]; done)) ?_
  intro p e s m below meth c s₁ hrt hlk hx hby hml hZ hown0 hnm X0 e0
  have hown : s.vm.findClass sC1 = some m.cls := hown0
  have N0 := Fr.nil n0
  have K0 : Keep h0 h0 [] := Keep.refl _ _
  obtain ⟨T1, h1, k1, X1, e1, E1, A1, st1⟩ := newP X0 hx hZ (ww hw 24 rfl) e0 (g := (mkF m 1 #[va o0, vi 0, vi 3, uu, uu, uu] [(.int 3)])) rfl (hb hby d5_1) rfl (by decide) (cap := 3) (by decide) (by decide) (by decide) (by decide)
  obtain ⟨b1, qs1⟩ : ∃ z, z = h0.size := ⟨_, rfl⟩
  rw [← qs1] at A1 st1
  have ne_o0_b1 : o0 ≠ b1 := Nat.ne_of_lt (Nat.lt_of_lt_of_le V_o0.lt (Nat.le_of_eq qs1.symm))
  have g_b1 : n0 ≤ b1 := Nat.le_trans (own_old O0) (Nat.le_of_eq qs1.symm)
  have sz_b1 : h0.size ≤ b1 := Nat.le_trans K0.1 (Nat.le_of_eq qs1.symm)
  have O1 := O0.ext E1
  have K1 : Keep h0 h1 [] := K0.ext E1
  have V_b1 : Arv Z h1 b1 k1 .byte (3 : Int32) [(.int 0), (.int 0), (.int 0)] (.int 0) := (Arv.new A1 (by decide)).pad (pad_rep [] (.int 0) 3)
  have fc2 := (V_o0.ext E1)
  obtain ⟨_, _, ⟨T3, L3, k3, n3⟩, -, X3, ⟨Lc3, hQ3, l3, y3, z3⟩, st3⟩ := Jvm.LawKit.callS X1 hx (y := My6) hown (mvT hZ (ww hw 25 rfl)) (mvT hZ (ww hw 26 rfl)) (mvT hZ (ww hw 22 rfl)) (mvT hZ (ww hw 27 rfl)) (by decide) (backOf (W := 0) (rm6_13 l Z a0 hw [] z_COMPACT_STRINGS o0 b1 kk_o0 k1 p0 p1 p2 h1 n0 O1 S fc2 hc0) hZ (ww hw 27 rfl) (ww hw 22 rfl) (by decide) (by decide)) (g := (mkF m 9 #[va o0, vi 0, vi 3, va b1, uu, uu] [(.int 3), (.int 0), (.ref b1), (.int 0), (.ref o0)])) rfl (by rw [hml]; rfl) (argsL := [(.ref o0), (.int 0), (.ref b1), (.int 0), (.int 3)]) (rest := []) (lenOf pd_0 rfl) rfl (by show 2 * 0 + _ ≤ _; exact Nat.le_of_eq rfl) (hb hby d5_9) (fun _ _ => ⟨rfl, e1, (by decide : 1 + 0 ≤ _), (by decide : 3 + 0 ≤ _)⟩)
  dsimp only [Pt.U, Pt.locs, Pt.cells, Pt.slots] at X3 l3 y3 z3 st3 hQ3
  subst l3 y3 z3
  obtain ⟨rfl, Nq3, e3⟩ := hQ3
  have N3 := Fr.app N0 Nq3
  obtain ⟨_, _, ⟨T4, L4, k4, n4⟩, -, X4, ⟨Lc4, hQ4, l4, y4, z4⟩, st4⟩ := Jvm.LawKit.callS X3 hx (y := My13) hown (mvT hZ (ww hw 61 rfl)) (mvT hZ (ww hw 62 rfl)) (mvT hZ (ww hw 22 rfl)) (mvT hZ (ww hw 63 rfl)) (by decide) (backOf (W := 0) (rm13_3 l Z a0 hw [] z_COMPACT_STRINGS o0 kk_o0 p0 p1 p2 h1 n0 O1 S fc2) hZ (ww hw 63 rfl) (ww hw 22 rfl) (by decide) (by decide)) (g := (mkF m 23 #[va o0, vi 0, vi 3, va b1, vi 0, uu] [(.int 3), (.int 0), (.ref o0)])) rfl (by rw [hml]; rfl) (argsL := [(.ref o0), (.int 0), (.int 3)]) (rest := []) (lenOf pd_4 rfl) rfl (by show 2 * 0 + _ ≤ _; exact Nat.le_of_eq rfl) (hb hby d5_23) (fun _ _ => ⟨rfl, e3, (by decide : 1 + 1 ≤ _), (by decide : 3 + 6 ≤ _)⟩)
  dsimp only [Pt.U, Pt.locs, Pt.cells, Pt.slots] at X4 l4 y4 z4 st4 hQ4
  subst l4 y4 z4
  obtain ⟨b2_1_4, k2_1_4, rfl, Nq4, Kc4, P0_4, P1_4⟩ := hQ4
  have N4 := Fr.app N3 Nq4
  have ne_o0_b2_1_4 : o0 ≠ b2_1_4 := Nat.ne_of_lt (Nat.lt_of_lt_of_le fc2.lt P1_4)
  have ne_b1_b2_1_4 : b1 ≠ b2_1_4 := Nat.ne_of_lt (Nat.lt_of_lt_of_le V_b1.lt P1_4)
  have g_b2_1_4 : n0 ≤ b2_1_4 := Nat.le_trans (own_old O1) P1_4
  have sz_b2_1_4 : h0.size ≤ b2_1_4 := Nat.le_trans K1.1 P1_4
  have O4 := O1.keep Kc4 all0
  have K4 : Keep h0 T4.heap [] := K1.trans Kc4 all0
  obtain ⟨_, _, ⟨T5, L5, k5, n5⟩, -, X5, ⟨Lc5, hQ5, l5, y5, z5⟩, st5⟩ := Jvm.LawKit.callS X4 hx (y := My17) hown (mvT hZ (ww hw 77 rfl)) (mvT hZ (ww hw 78 rfl)) (mvT hZ (ww hw 22 rfl)) (mvT hZ (ww hw 79 rfl)) (by decide) (backOf (W := 0) (rm17_9 l Z a0 hw [] z_COMPACT_STRINGS b2_1_4 k2_1_4 (bb (bb (p0 >>> ((0 : Int32) &&& 31)))) (bb (bb (p0 >>> ((8 : Int32) &&& 31)))) (bb (bb (p1 >>> ((0 : Int32) &&& 31)))) (bb (bb (p1 >>> ((8 : Int32) &&& 31)))) (bb (bb (p2 >>> ((0 : Int32) &&& 31)))) (bb (bb (p2 >>> ((8 : Int32) &&& 31)))) T4.heap n0 O4 S P0_4) hZ (ww hw 79 rfl) (ww hw 22 rfl) (by decide) (by decide)) (g := (mkF m 32 #[va o0, vi 0, vi 3, va b1, vi 0, va b2_1_4] [(.int 0), (.ref b2_1_4)])) rfl (by rw [hml]; rfl) (argsL := [(.ref b2_1_4), (.int 0)]) (rest := []) (lenOf pd_5 rfl) rfl (by show 2 * 0 + _ ≤ _; exact Nat.le_of_eq rfl) (hb hby d5_32) (fun _ _ => ⟨rfl, rfl, (by decide : 2 + 0 ≤ _), (by decide : 9 + 0 ≤ _)⟩)
  dsimp only [Pt.U, Pt.locs, Pt.cells, Pt.slots] at X5 l5 y5 z5 st5 hQ5
  subst l5 y5 z5
  obtain ⟨rfl, Nq5, e5⟩ := hQ5
  have N5 := Fr.app N4 Nq5
  obtain ⟨fs, hr, hrun, hended, hW, hsame⟩ := X5.leave (v := (some (.ref b2_1_4))) (fun h => by rw [hrt] at h; cases h)
  refine ⟨_, _, ?_, hrun, hended, _, _, rfl, ?_, ⟨_, rfl⟩, hW, hsame.mono (by decide) (by decide)⟩
  · show Steps p.tables e below (s₁.setTop (mkF m 0 #[va o0, vi 0, vi 3, uu, uu, uu] [])) _
    refine XS.iloadN X0.here hx rfl (hb hby d5_0) rfl ?_
    refine st1 _ ?_
    refine XS.astoreN X1.here hx rfl (hb hby d5_3) rfl rfl (l' := #[va o0, vi 0, vi 3, va b1, uu, uu]) rfl ?_
    refine XS.aloadN X1.here hx rfl (hb hby d5_4) rfl rfl ?_
    refine XS.iloadN X1.here hx rfl (hb hby d5_5) rfl ?_
    refine XS.aloadN X1.here hx rfl (hb hby d5_6) rfl rfl ?_
    refine XS.iconst X1.here hx rfl (hb hby d5_7) ?_
    refine XS.iloadN X1.here hx rfl (hb hby d5_8) rfl ?_
    show Steps p.tables e below (T1.setTop (mkF m 9 #[va o0, vi 0, vi 3, va b1, uu, uu] [(.int 3), (.int 0), (.ref b1), (.int 0), (.ref o0)])) _
    refine st3 _ ?_
    refine XS.istore X3.here hx rfl (hb hby d5_12) rfl (l' := #[va o0, vi 0, vi 3, va b1, vi 0, uu]) rfl ?_
    refine XS.iload X3.here hx rfl (hb hby d5_14) rfl ?_
    refine XS.iloadN X3.here hx rfl (hb hby d5_16) rfl ?_
    refine XS.icmpNo X3.here hx rfl (hb hby d5_17) rfl (feq (by decide : ¬ ((0 : Int32) = (3 : Int32)))).1 ?_
    refine XS.aloadN X3.here hx rfl (hb hby d5_20) rfl rfl ?_
    refine XS.iloadN X3.here hx rfl (hb hby d5_21) rfl ?_
    refine XS.iloadN X3.here hx rfl (hb hby d5_22) rfl ?_
    show Steps p.tables e below (T3.setTop (mkF m 23 #[va o0, vi 0, vi 3, va b1, vi 0, uu] [(.int 3), (.int 0), (.ref o0)])) _
    refine st4 _ ?_
    refine XS.astore X4.here hx rfl (hb hby d5_26) rfl rfl (l' := #[va o0, vi 0, vi 3, va b1, vi 0, va b2_1_4]) rfl ?_
    refine XS.aload X4.here hx rfl (hb hby d5_28) rfl rfl ?_
    refine XS.iload X4.here hx rfl (hb hby d5_30) rfl ?_
    refine st5 _ ?_
    refine XS.sipush X5.here hx rfl (hb hby d5_35) ?_
    refine XS.icmpYes X5.here hx rfl (pc0 := 38) (pc' := 54) rfl (hb hby d5_38) rfl (tlt (own_getChar (own_fitsC V_o0 0 (by decide)) hc0)).2.2.1 (by decide) (by decide) ?_
    refine XS.aload X5.here hx rfl (hb hby d5_54) rfl rfl ?_
    show Steps p.tables e below (T5.setTop (mkF m 56 #[va o0, vi 0, vi 3, va b1, vi 0, va b2_1_4] [(.ref b2_1_4)])) _
    exact retOut X5 hx (t := (.array .byte)) (i := .areturn) hrt rfl (Or.inr (Or.inr (Or.inr (Or.inr ⟨rfl, rfl, rfl⟩)))) (hb hby d5_56) hr
  · show Q5_13 Z z_COMPACT_STRINGS o0 kk_o0 p0 p1 p2 h0 n0 (some (.ref b2_1_4)) T5.heap _
    rw [e5]; exact ⟨b2_1_4, k2_1_4, rfl, N5, K4, P0_4, sz_b2_1_4⟩
def gp3 (p0 : Int32) (p1 : Int32) (p2 : Int32) : Prop := ((¬ ((255 : Int32) < p0)) ∧ (¬ ((255 : Int32) < p1)) ∧ (¬ ((255 : Int32) < p2)))
def Qg3_0 (Z : State) (z_COMPACT_STRINGS : Int32) (o0 : Addr) (kk_o0 : ClassId) (p0 : Int32) (p1 : Int32) (p2 : Int32) (h0 : Heap) (n0 : Nat) (v : Option Value) (h : Heap) (L : List Loc) : Prop := ∃ (b1 : Addr), ∃ (k1 : ClassId), ∃ (ce0 : Int32), ∃ (ce1 : Int32), ∃ (ce2 : Int32), v = (some (.ref b1)) ∧ Fr n0 L ∧ Keep h0 h [] ∧ Arv Z h b1 k1 .byte (3 : Int32) [(.int ce0), (.int ce1), (.int ce2)] (.int 0) ∧ h0.size ≤ b1
theorem gm3_0 (l : Launch) (Z : State) (a0 : Array Value) (hw : HW Z a0) (ws : List Jvm.Cond) (z_COMPACT_STRINGS : Int32) (o0 : Addr) (kk_o0 : ClassId) (p0 : Int32) (p1 : Int32) (p2 : Int32) (h0 : Heap) (n0 : Nat) (O0 : Old Z n0 h0) (S : SF Z z_COMPACT_STRINGS) (V_o0 : Arv Z h0 o0 kk_o0 .char (3 : Int32) [(.int p0), (.int p1), (.int p2)] (.int 0)) (hP : gp3 p0 p1 p2) :
    Pay l Z My5 ws jdk_52_method_16_code 6 (some (.array .byte)) #[(.ref o0), (.int 0), (.int 3)] h0 ({ frames := 1, cells := 1, slots := 3, locals := 18 } : Room) (Qg3_0 Z z_COMPACT_STRINGS o0 kk_o0 p0 p1 p2 h0 n0) := by
  by_cases hm0 : (255 : Int32) < p0
  · exact absurd hP (by simp [gp3, hm0])
  · by_cases hm1 : (255 : Int32) < p1
    · exact absurd hP (by simp [gp3, hm0, hm1])
    · by_cases hm2 : (255 : Int32) < p2
      · exact absurd hP (by simp [gp3, hm0, hm1, hm2])
      · refine MetFree.mono (rm5_10 l Z a0 hw ws z_COMPACT_STRINGS o0 kk_o0 p0 p1 p2 h0 n0 O0 S V_o0 hm0 hm1 hm2) (fun _ _ q => q) (fun _ _ _ _ _ q => q) ?_
        rintro _ U o U' - ⟨v, L, rfl, ⟨f0, k0, rfl, N, K, r0, r1⟩, fe⟩
        exact ⟨_, L, rfl, ⟨f0, k0, _, _, _, rfl, N, K, r0, r1⟩, fe⟩
def Qg3_1 (Z : State) (z_COMPACT_STRINGS : Int32) (o0 : Addr) (kk_o0 : ClassId) (p0 : Int32) (p1 : Int32) (p2 : Int32) (h0 : Heap) (n0 : Nat) (v : Option Value) (h : Heap) (L : List Loc) : Prop := ∃ (b2_1_5 : Addr), ∃ (k2_1_5 : ClassId), ∃ (ce0 : Int32), ∃ (ce1 : Int32), ∃ (ce2 : Int32), ∃ (ce3 : Int32), ∃ (ce4 : Int32), ∃ (ce5 : Int32), v = (some (.ref b2_1_5)) ∧ Fr n0 L ∧ Keep h0 h [] ∧ Arv Z h b2_1_5 k2_1_5 .byte (6 : Int32) [(.int ce0), (.int ce1), (.int ce2), (.int ce3), (.int ce4), (.int ce5)] (.int 0) ∧ h0.size ≤ b2_1_5
theorem gm3_1 (l : Launch) (Z : State) (a0 : Array Value) (hw : HW Z a0) (ws : List Jvm.Cond) (z_COMPACT_STRINGS : Int32) (o0 : Addr) (kk_o0 : ClassId) (p0 : Int32) (p1 : Int32) (p2 : Int32) (h0 : Heap) (n0 : Nat) (O0 : Old Z n0 h0) (S : SF Z z_COMPACT_STRINGS) (V_o0 : Arv Z h0 o0 kk_o0 .char (3 : Int32) [(.int p0), (.int p1), (.int p2)] (.int 0)) (hP : ¬ (gp3 p0 p1 p2)) :
    Pay l Z My5 ws jdk_52_method_16_code 6 (some (.array .byte)) #[(.ref o0), (.int 0), (.int 3)] h0 ({ frames := 3, cells := 2, slots := 9, locals := 40 } : Room) (Qg3_1 Z z_COMPACT_STRINGS o0 kk_o0 p0 p1 p2 h0 n0) := by
  by_cases hm0 : (255 : Int32) < p0
  · refine MetFree.mono (rm5_13 l Z a0 hw ws z_COMPACT_STRINGS o0 kk_o0 p0 p1 p2 h0 n0 O0 S V_o0 hm0) (fun _ _ q => q) (fun _ _ _ _ _ q => q) ?_
    rintro _ U o U' - ⟨v, L, rfl, ⟨f0, k0, rfl, N, K, r0, r1⟩, fe⟩
    exact ⟨_, L, rfl, ⟨f0, k0, _, _, _, _, _, _, rfl, N, K, r0, r1⟩, fe⟩
  · by_cases hm1 : (255 : Int32) < p1
    · refine MetFree.mono (rm5_12 l Z a0 hw ws z_COMPACT_STRINGS o0 kk_o0 p0 p1 p2 h0 n0 O0 S V_o0 hm0 hm1) (fun _ _ q => q) (fun _ _ _ _ _ q => q) ?_
      rintro _ U o U' - ⟨v, L, rfl, ⟨f0, k0, rfl, N, K, r0, r1⟩, fe⟩
      exact ⟨_, L, rfl, ⟨f0, k0, _, _, _, _, _, _, rfl, N, K, r0, r1⟩, fe⟩
    · by_cases hm2 : (255 : Int32) < p2
      · refine MetFree.mono (rm5_11 l Z a0 hw ws z_COMPACT_STRINGS o0 kk_o0 p0 p1 p2 h0 n0 O0 S V_o0 hm0 hm1 hm2) (fun _ _ q => q) (fun _ _ _ _ _ q => q) ?_
        rintro _ U o U' - ⟨v, L, rfl, ⟨f0, k0, rfl, N, K, r0, r1⟩, fe⟩
        exact ⟨_, L, rfl, ⟨f0, k0, _, _, _, _, _, _, rfl, N, K, r0, r1⟩, fe⟩
      · exact absurd (by simp [gp3, hm0, hm1, hm2]) hP
def Q7_5 (Z : State) (z_COMPACT_STRINGS : Int32) (o0 : Addr) (kk_o0 : ClassId) (p0 : Int32) (p1 : Int32) (p2 : Int32) (p3 : Int32) (p4 : Int32) (p5 : Int32) (h0 : Heap) (n0 : Nat) (v : Option Value) (h : Heap) (L : List Loc) : Prop := v = (some (.int 1)) ∧ Fr n0 L ∧ h = h0
theorem rm7_5 (l : Launch) (Z : State) (a0 : Array Value) (hw : HW Z a0) (ws : List Jvm.Cond) (z_COMPACT_STRINGS : Int32) (o0 : Addr) (kk_o0 : ClassId) (p0 : Int32) (p1 : Int32) (p2 : Int32) (p3 : Int32) (p4 : Int32) (p5 : Int32) (h0 : Heap) (n0 : Nat) (O0 : Old Z n0 h0) (S : SF Z z_COMPACT_STRINGS) (V_o0 : Arv Z h0 o0 kk_o0 .byte (6 : Int32) [(.int p0), (.int p1), (.int p2), (.int p3), (.int p4), (.int p5)] (.int 0)) :
    Pay l Z My7 ws jdk_52_method_15_code 2 (some .byte) #[(.ref o0), (.int 3)] h0 ({ frames := 0, cells := 0, slots := 0, locals := 0 } : Room) (Q7_5 Z z_COMPACT_STRINGS o0 kk_o0 p0 p1 p2 p3 p4 p5 h0 n0) := by
  refine own_body (plainFor_of_name pn_2) (L0 := #[va o0, vi 3]) (fun _ => by first | rfl | (simp [entryFrame, mkF, argsToLocals, Value.category]; done)) ?_
  intro p e s m below meth c s₁ hrt hlk hx hby hml hZ hown0 hnm X0 e0
  have hown : s.vm.findClass sC1 = some m.cls := hown0
  have N0 := Fr.nil n0
  have K0 : Keep h0 h0 [] := Keep.refl _ _
  obtain ⟨cl1, Ar1, qk1, Sz1, Ng1, Hh1, Gg1⟩ := id V_o0
  obtain ⟨fs, hr, hrun, hended, hW, hsame⟩ := X0.leave (v := (some (.int 1))) (fun h => by rw [hrt] at h; cases h)
  refine ⟨_, _, ?_, hrun, hended, _, _, rfl, ?_, ⟨_, rfl⟩, hW, hsame.mono (by decide) (by decide)⟩
  · show Steps p.tables e below (s₁.setTop (mkF m 0 #[va o0, vi 3] [])) _
    refine XS.iloadN X0.here hx rfl (hb hby d7_0) rfl ?_
    refine XS.aloadN X0.here hx rfl (hb hby d7_1) rfl rfl ?_
    refine X0.arraylength hx (by rw [e0]; exact Ar1.1) (State.isArrayOf_alike hZ.alike Ar1.2.1) (g := (mkF m 2 #[va o0, vi 3] [(.ref o0), (.int 3)])) rfl rfl (hb hby d7_2) _ ?_
    rw [len_of Sz1 Ng1]
    refine XS.isub X0.here hx rfl (hb hby d7_3) rfl ?_
    show Steps p.tables e below (s₁.setTop (mkF m 4 #[va o0, vi 3] [(.int ((3 : Int32) - (6 : Int32)))])) _
    rw [show (((3 : Int32) - (6 : Int32)) : Int32) = (-3 : Int32) from by decide]
    refine XS.bipush X0.here hx rfl (hb hby d7_4) ?_
    refine XS.iushr X0.here hx rfl (hb hby d7_6) rfl ?_
    show Steps p.tables e below (s₁.setTop (mkF m 7 #[va o0, vi 3] [(.int (((-3 : Int32).toUInt32 >>> ((31 : Int32) &&& 31).toUInt32).toInt32))])) _
    rw [show ((((-3 : Int32).toUInt32 >>> ((31 : Int32) &&& 31).toUInt32).toInt32) : Int32) = (1 : Int32) from by decide]
    refine XS.i2b X0.here hx rfl (hb hby d7_7) rfl ?_
    show Steps p.tables e below (s₁.setTop (mkF m 8 #[va o0, vi 3] [(.int (bb (1 : Int32)))])) _
    rw [show ((bb (1 : Int32)) : Int32) = (1 : Int32) from by decide]
    exact retN X0 hx (t := .byte) hrt (by simp) (hb hby d7_8) hr
  · show Q7_5 Z z_COMPACT_STRINGS o0 kk_o0 p0 p1 p2 p3 p4 p5 h0 n0 (some (.int 1)) s₁.heap _
    exact (⟨rfl, N0, e0⟩)
def Q3_5 (Z : State) (z_COMPACT_STRINGS : Int32) (o0 : Addr) (o1 : Addr) (kk_o1 : ClassId) (p0 : Int32) (p1 : Int32) (p2 : Int32) (h0 : Heap) (n0 : Nat) (v : Option Value) (h : Heap) (L : List Loc) : Prop := ∃ (b2_1_5_3 : Addr), ∃ (k2_1_5_3 : ClassId), ∃ (ce0_3 : Int32), ∃ (ce1_3 : Int32), ∃ (ce2_3 : Int32), ∃ (ce3_3 : Int32), ∃ (ce4_3 : Int32), ∃ (ce5_3 : Int32), v = none ∧ Fr n0 L ∧ Keep h0 h [o0] ∧ Exa Z h o0 sC0 ∧ Fld Z h o0 sC0 "coder" "B" (.int 1) ∧ Fld Z h o0 sC0 "value" "[B" (.ref b2_1_5_3) ∧ Arv Z h b2_1_5_3 k2_1_5_3 .byte (6 : Int32) [(.int ce0_3), (.int ce1_3), (.int ce2_3), (.int ce3_3), (.int ce4_3), (.int ce5_3)] (.int 0) ∧ h0.size ≤ b2_1_5_3
theorem rm3_5 (l : Launch) (Z : State) (a0 : Array Value) (hw : HW Z a0) (ws : List Jvm.Cond) (z_COMPACT_STRINGS : Int32) (o0 : Addr) (o1 : Addr) (kk_o1 : ClassId) (p0 : Int32) (p1 : Int32) (p2 : Int32) (h0 : Heap) (n0 : Nat) (O0 : Old Z n0 h0) (S : SF Z z_COMPACT_STRINGS) (E_o0 : Exa Z h0 o0 sC0) (F_coder_o0 : Fld Z h0 o0 sC0 "coder" "B" (.int 0)) (F_value_o0 : Fld Z h0 o0 sC0 "value" "[B" .null) (V_o1 : Arv Z h0 o1 kk_o1 .char (3 : Int32) [(.int p0), (.int p1), (.int p2)] (.int 0)) (g_o0 : n0 ≤ o0) (hc0 : ¬ (gp3 p0 p1 p2)) :
    Pay l Z My3 ws jdk_42_method_149_code 6 none #[(.ref o0), (.ref o1), (.int 0), (.int 3), .null] h0 ({ frames := 4, cells := 2, slots := 9, locals := 57 } : Room) (Q3_5 Z z_COMPACT_STRINGS o0 o1 kk_o1 p0 p1 p2 h0 n0) := by
  obtain ⟨S_z_COMPACT_STRINGS, hz_z_COMPACT_STRINGS, -⟩ := id S
  refine own_body (plainFor_of_name pn_1) (L0 := #[va o0, va o1, vi 0, vi 3, .val .null, uu]) (fun _ => by first | rfl | (simp [entryFrame, mkF, argsToLocals, Value.category]; done)) ?_
  intro p e s m below meth c s₁ hrt hlk hx hby hml hZ hown0 hnm X0 e0
  have hown : s.vm.findClass sC0 = some m.cls := hown0
  have N0 := Fr.nil n0
  have K0 : Keep h0 h0 [o0] := Keep.refl _ _
  obtain ⟨T1, X1, e1, st1⟩ := initO X0 hx hZ hown (ww hw 16 rfl) (ww hw 17 rfl) (ww hw 18 rfl) e0 (g := (mkF m 1 #[va o0, va o1, vi 0, vi 3, .val .null, uu] [(.ref o0)])) rfl (by rw [hml]; rfl) rfl (hb hby d3_1) (by decide) (W := 0) (by show 2 * 0 + _ ≤ _; exact Nat.le_of_eq rfl) (by decide)
  obtain ⟨T2, X2, e2, st2⟩ := getS2 X1 hx hZ hown (host := "") (Or.inl (ww hw 19 rfl)) Via.refl e1 (S_z_COMPACT_STRINGS.ext O0.2) (g := (mkF m 27 #[va o0, va o1, vi 0, vi 3, .val .null, uu] [])) rfl (hb hby d3_27)
  obtain ⟨_, _, ⟨T3, L3, k3, n3⟩, -, X3, ⟨Lc3, hQ3, l3, y3, z3⟩, st3⟩ := Jvm.LawKit.callS X2 hx (y := My5) hown (mvT hZ (ww hw 20 rfl)) (mvT hZ (ww hw 21 rfl)) (mvT hZ (ww hw 22 rfl)) (mvT hZ (ww hw 23 rfl)) (by decide) (backOf (W := 0) (gm3_1 l Z a0 hw [] z_COMPACT_STRINGS o1 kk_o1 p0 p1 p2 h0 n0 O0 S V_o1 hc0) hZ (ww hw 23 rfl) (ww hw 22 rfl) (by decide) (by decide)) (g := (mkF m 36 #[va o0, va o1, vi 0, vi 3, .val .null, uu] [(.int 3), (.int 0), (.ref o1)])) rfl (by rw [hml]; rfl) (argsL := [(.ref o1), (.int 0), (.int 3)]) (rest := []) (lenOf pd_4 rfl) rfl (by show 2 * 0 + _ ≤ _; exact Nat.le_of_eq rfl) (hb hby d3_36) (fun _ _ => ⟨rfl, e2, (by decide : 0 + 2 ≤ _), (by decide : 0 + 9 ≤ _)⟩)
  dsimp only [Pt.U, Pt.locs, Pt.cells, Pt.slots] at X3 l3 y3 z3 st3 hQ3
  subst l3 y3 z3
  obtain ⟨b2_1_5_3, k2_1_5_3, ce0_3, ce1_3, ce2_3, ce3_3, ce4_3, ce5_3, rfl, Nq3, Kc3, P0_3, P1_3⟩ := hQ3
  have N3 := Fr.app N0 Nq3
  have ne_o0_b2_1_5_3 : o0 ≠ b2_1_5_3 := Nat.ne_of_lt (Nat.lt_of_lt_of_le E_o0.lt P1_3)
  have ne_o1_b2_1_5_3 : o1 ≠ b2_1_5_3 := Nat.ne_of_lt (Nat.lt_of_lt_of_le V_o1.lt P1_3)
  have g_b2_1_5_3 : n0 ≤ b2_1_5_3 := Nat.le_trans (own_old O0) P1_3
  have sz_b2_1_5_3 : h0.size ≤ b2_1_5_3 := Nat.le_trans K0.1 P1_3
  have O3 := O0.keep Kc3 all0
  have K3 : Keep h0 T3.heap [o0] := K0.trans Kc3 all0
  obtain ⟨_, _, ⟨T4, L4, k4, n4⟩, -, X4, ⟨Lc4, hQ4, l4, y4, z4⟩, st4⟩ := Jvm.LawKit.callS X3 hx (y := My7) hown (mvT hZ (ww hw 28 rfl)) (mvT hZ (ww hw 29 rfl)) (mvT hZ (ww hw 22 rfl)) (mvT hZ (ww hw 30 rfl)) (by decide) (backOf (W := 1) (rm7_5 l Z a0 hw [] z_COMPACT_STRINGS b2_1_5_3 k2_1_5_3 ce0_3 ce1_3 ce2_3 ce3_3 ce4_3 ce5_3 T3.heap n0 O3 S P0_3) hZ (ww hw 30 rfl) (ww hw 22 rfl) (by decide) (by decide)) (g := (mkF m 45 #[va o0, va o1, vi 0, vi 3, .val .null, va b2_1_5_3] [(.int 3), (.ref b2_1_5_3), (.ref o0)])) rfl (by rw [hml]; rfl) (argsL := [(.ref b2_1_5_3), (.int 3)]) (rest := [(.ref o0)]) (lenOf pd_6 rfl) rfl (by show 2 * 0 + _ ≤ _; exact Nat.le_of_eq rfl) (hb hby d3_45) (fun _ _ => ⟨rfl, rfl, (by decide : 2 + 0 ≤ _), (by decide : 9 + 0 ≤ _)⟩)
  dsimp only [Pt.U, Pt.locs, Pt.cells, Pt.slots] at X4 l4 y4 z4 st4 hQ4
  subst l4 y4 z4
  obtain ⟨rfl, Nq4, e4⟩ := hQ4
  have N4 := Fr.app N3 Nq4
  have fc5 := (F_coder_o0.keep Kc3 nin0)
  have fc6 := (E_o0.keep Kc3)
  obtain ⟨T7, h7, X7, e7, W7, st7⟩ := putFN X4 hx hZ hown (ww hw 31 rfl) Via.refl e4 fc5 fc6 (Or.inr ⟨(ww hw 32 rfl), rfl, hnm⟩) (ww hw 7 rfl) (ty := .byte) (v' := (.int 1)) (by decide) rfl (by decide) (g := (mkF m 48 #[va o0, va o1, vi 0, vi 3, .val .null, va b2_1_5_3] [(.int 1), (.ref o0)])) rfl rfl (hb hby d3_48)
  have Fw7 := fc5.same W7
  have O7 := O3.wr W7 g_o0
  have K7 : Keep h0 h7 [o0] := K3.wr W7 (Or.inl (List.mem_of_getElem? (i := 0) rfl))
  have N7 := Fr.snoc X7 N4 g_o0
  have fc8 := ((F_value_o0.keep Kc3 nin0).other W7 (Or.inr (slot_ne (Or.inr (ww hw 34 rfl)) (Or.inr (ww hw 32 rfl)) (by decide) (t := (.array .byte)) (t' := .byte) (by decide) (by decide))))
  have fc9 := (fc6.wr W7)
  obtain ⟨T10, h10, X10, e10, W10, st10⟩ := putF X7 hx hZ hown (host := "") (Or.inl (ww hw 33 rfl)) Via.refl e7 fc8 fc9 (Or.inr ⟨(ww hw 34 rfl), rfl, hnm⟩) (ww hw 7 rfl) (ty := (.array .byte)) (by decide) rfl rfl (g := (mkF m 54 #[va o0, va o1, vi 0, vi 3, .val .null, va b2_1_5_3] [(.ref b2_1_5_3), (.ref o0)])) rfl rfl (hb hby d3_54)
  have Fw10 := fc8.same W10
  have O10 := O7.wr W10 g_o0
  have K10 : Keep h0 h10 [o0] := K7.wr W10 (Or.inl (List.mem_of_getElem? (i := 0) rfl))
  have N10 := Fr.snoc X10 N7 g_o0
  obtain ⟨fs, hr, hrun, hended, hW, hsame⟩ := X10.leave (v := none) (fun _ => rfl)
  have fc11 := (fc9.wr W10)
  have fc12 := (Fw7.other W10 (Or.inr (slot_ne (Or.inr (ww hw 32 rfl)) (Or.inr (ww hw 34 rfl)) (by decide) (t := .byte) (t' := (.array .byte)) (by decide) (by decide))))
  have fc13 := ((P0_3.other W7 (Ne.symm ne_o0_b2_1_5_3)).other W10 (Ne.symm ne_o0_b2_1_5_3))
  refine ⟨_, _, ?_, hrun, hended, _, _, rfl, ?_, ⟨_, rfl⟩, hW, hsame.mono (by decide) (by decide)⟩
  · show Steps p.tables e below (s₁.setTop (mkF m 0 #[va o0, va o1, vi 0, vi 3, .val .null, uu] [])) _
    refine XS.aloadN X0.here hx rfl (hb hby d3_0) rfl rfl ?_
    refine st1 _ ?_
    refine XS.iloadN X1.here hx rfl (hb hby d3_4) rfl ?_
    refine XS.ifYes X1.here hx rfl (pc0 := 5) (pc' := 27) rfl (hb hby d3_5) rfl ((if0 _ _).trans (feq (by decide : ¬ ((3 : Int32) = (0 : Int32)))).2) (by decide) (by decide) ?_
    refine st2 _ ?_
    refine XS.ifNo X2.here hx rfl (hb hby d3_30) rfl ((if0 _ _).trans (feq hz_z_COMPACT_STRINGS).1) ?_
    refine XS.aloadN X2.here hx rfl (hb hby d3_33) rfl rfl ?_
    refine XS.iloadN X2.here hx rfl (hb hby d3_34) rfl ?_
    show Steps p.tables e below (T2.setTop (mkF m 35 #[va o0, va o1, vi 0, vi 3, .val .null, uu] [(.int 0), (.ref o1)])) _
    refine XS.iloadN X2.here hx rfl (hb hby d3_35) rfl ?_
    refine st3 _ ?_
    refine XS.astore X3.here hx rfl (hb hby d3_39) rfl rfl (l' := #[va o0, va o1, vi 0, vi 3, .val .null, va b2_1_5_3]) rfl ?_
    refine XS.aloadN X3.here hx rfl (hb hby d3_41) rfl rfl ?_
    refine XS.aload X3.here hx rfl (hb hby d3_42) rfl rfl ?_
    refine XS.iloadN X3.here hx rfl (hb hby d3_44) rfl ?_
    refine st4 _ ?_
    refine st7 _ ?_
    show Steps p.tables e below (T7.setTop (mkF m 51 #[va o0, va o1, vi 0, vi 3, .val .null, va b2_1_5_3] [])) _
    refine XS.aloadN X7.here hx rfl (hb hby d3_51) rfl rfl ?_
    refine XS.aload X7.here hx rfl (hb hby d3_52) rfl rfl ?_
    refine st10 _ ?_
    exact X10.returnOut hx hrt (hb hby d3_57) hr
  · show Q3_5 Z z_COMPACT_STRINGS o0 o1 kk_o1 p0 p1 p2 h0 n0 none T10.heap _
    rw [e10]; exact ⟨b2_1_5_3, k2_1_5_3, ce0_3, ce1_3, ce2_3, ce3_3, ce4_3, ce5_3, rfl, N10, K10, fc11, fc12, Fw10, fc13, sz_b2_1_5_3⟩
def Q2_5 (Z : State) (z_COMPACT_STRINGS : Int32) (o0 : Addr) (o1 : Addr) (kk_o1 : ClassId) (p0 : Int32) (p1 : Int32) (p2 : Int32) (h0 : Heap) (n0 : Nat) (v : Option Value) (h : Heap) (L : List Loc) : Prop := ∃ (b2_1_5_3_2 : Addr), ∃ (k2_1_5_3_2 : ClassId), ∃ (ce0_3_2 : Int32), ∃ (ce1_3_2 : Int32), ∃ (ce2_3_2 : Int32), ∃ (ce3_3_2 : Int32), ∃ (ce4_3_2 : Int32), ∃ (ce5_3_2 : Int32), v = none ∧ Fr n0 L ∧ Keep h0 h [o0] ∧ Exa Z h o0 sC0 ∧ Fld Z h o0 sC0 "coder" "B" (.int 1) ∧ Fld Z h o0 sC0 "value" "[B" (.ref b2_1_5_3_2) ∧ Arv Z h b2_1_5_3_2 k2_1_5_3_2 .byte (6 : Int32) [(.int ce0_3_2), (.int ce1_3_2), (.int ce2_3_2), (.int ce3_3_2), (.int ce4_3_2), (.int ce5_3_2)] (.int 0) ∧ h0.size ≤ b2_1_5_3_2
theorem rm2_5 (l : Launch) (Z : State) (a0 : Array Value) (hw : HW Z a0) (ws : List Jvm.Cond) (z_COMPACT_STRINGS : Int32) (o0 : Addr) (o1 : Addr) (kk_o1 : ClassId) (p0 : Int32) (p1 : Int32) (p2 : Int32) (h0 : Heap) (n0 : Nat) (O0 : Old Z n0 h0) (S : SF Z z_COMPACT_STRINGS) (E_o0 : Exa Z h0 o0 sC0) (F_coder_o0 : Fld Z h0 o0 sC0 "coder" "B" (.int 0)) (F_value_o0 : Fld Z h0 o0 sC0 "value" "[B" .null) (V_o1 : Arv Z h0 o1 kk_o1 .char (3 : Int32) [(.int p0), (.int p1), (.int p2)] (.int 0)) (g_o0 : n0 ≤ o0) (hc0 : ¬ (gp3 p0 p1 p2)) :
    Pay l Z My2 ws jdk_42_method_3_code 2 none #[(.ref o0), (.ref o1)] h0 ({ frames := 5, cells := 2, slots := 9, locals := 74 } : Room) (Q2_5 Z z_COMPACT_STRINGS o0 o1 kk_o1 p0 p1 p2 h0 n0) := by
  refine own_body (plainFor_of_name pn_1) (L0 := #[va o0, va o1]) (fun _ => by first | rfl | (simp [entryFrame, mkF, argsToLocals, Value.category]; done)) ?_
  intro p e s m below meth c s₁ hrt hlk hx hby hml hZ hown0 hnm X0 e0
  have hown : s.vm.findClass sC0 = some m.cls := hown0
  have N0 := Fr.nil n0
  have K0 : Keep h0 h0 [o0] := Keep.refl _ _
  obtain ⟨cl1, Ar1, qk1, Sz1, Ng1, Hh1, Gg1⟩ := id V_o1
  obtain ⟨_, _, ⟨T2, L2, k2, n2⟩, -, X2, ⟨Lc2, hQ2, l2, y2, z2⟩, st2⟩ := X0.specialBack hx (y := My3) rfl hown (mvT hZ (ww hw 12 rfl)) (mvT hZ (ww hw 13 rfl)) (mvT hZ (ww hw 15 rfl)) (by decide) (backOf (W := 0) (rm3_5 l Z a0 hw [] z_COMPACT_STRINGS o0 o1 kk_o1 p0 p1 p2 h0 n0 O0 S E_o0 F_coder_o0 F_value_o0 V_o1 g_o0 hc0) hZ (ww hw 15 rfl) (ww hw 8 rfl) (by decide) (by decide)) (g := (mkF m 6 #[va o0, va o1] [.null, (.int 3), (.int 0), (.ref o1), (.ref o0)])) rfl (by rw [hml]; rfl) (Steps.refl _) (a := o0) (argsL := [(.ref o1), (.int 0), (.int 3), .null]) (rest := []) (lenOf pd_7 rfl) rfl (by show 2 * 0 + _ ≤ _; exact Nat.le_of_eq rfl) (hb hby d2_6) (fun _ _ => ⟨rfl, e0, (by decide : 0 + 2 ≤ _), (by decide : 0 + 9 ≤ _)⟩)
  dsimp only [Pt.U, Pt.locs, Pt.cells, Pt.slots] at X2 l2 y2 z2 st2 hQ2
  subst l2 y2 z2
  obtain ⟨b2_1_5_3_2, k2_1_5_3_2, ce0_3_2, ce1_3_2, ce2_3_2, ce3_3_2, ce4_3_2, ce5_3_2, rfl, Nq2, Kc2, P0_2, P1_2, P2_2, P3_2, P4_2⟩ := hQ2
  have N2 := Fr.app N0 Nq2
  have ne_o0_b2_1_5_3_2 : o0 ≠ b2_1_5_3_2 := Nat.ne_of_lt (Nat.lt_of_lt_of_le E_o0.lt P4_2)
  have ne_o1_b2_1_5_3_2 : o1 ≠ b2_1_5_3_2 := Nat.ne_of_lt (Nat.lt_of_lt_of_le V_o1.lt P4_2)
  have g_b2_1_5_3_2 : n0 ≤ b2_1_5_3_2 := Nat.le_trans (own_old O0) P4_2
  have sz_b2_1_5_3_2 : h0.size ≤ b2_1_5_3_2 := Nat.le_trans K0.1 P4_2
  have O2 := O0.keep Kc2 (allS g_o0 all0)
  have K2 : Keep h0 T2.heap [o0] := K0.trans Kc2 (allS (Or.inl (List.mem_of_getElem? (i := 0) rfl)) all0)
  obtain ⟨fs, hr, hrun, hended, hW, hsame⟩ := X2.leave (v := none) (fun _ => rfl)
  refine ⟨_, _, ?_, hrun, hended, _, _, rfl, ?_, ⟨_, rfl⟩, hW, hsame.mono (by decide) (by decide)⟩
  · show Steps p.tables e below (s₁.setTop (mkF m 0 #[va o0, va o1] [])) _
    refine XS.aloadN X0.here hx rfl (hb hby d2_0) rfl rfl ?_
    refine XS.aloadN X0.here hx rfl (hb hby d2_1) rfl rfl ?_
    refine XS.iconst X0.here hx rfl (hb hby d2_2) ?_
    refine XS.aloadN X0.here hx rfl (hb hby d2_3) rfl rfl ?_
    refine X0.arraylength hx (by rw [e0]; exact Ar1.1) (State.isArrayOf_alike hZ.alike Ar1.2.1) (g := (mkF m 4 #[va o0, va o1] [(.ref o1), (.int 0), (.ref o1), (.ref o0)])) rfl rfl (hb hby d2_4) _ ?_
    rw [len_of Sz1 Ng1]
    refine XS.aconstNull X0.here hx rfl (hb hby d2_5) ?_
    refine st2.trans ?_
    exact X2.returnOut hx hrt (hb hby d2_9) hr
  · show Q2_5 Z z_COMPACT_STRINGS o0 o1 kk_o1 p0 p1 p2 h0 n0 none T2.heap _
    exact (⟨b2_1_5_3_2, k2_1_5_3_2, ce0_3_2, ce1_3_2, ce2_3_2, ce3_3_2, ce4_3_2, ce5_3_2, rfl, N2, K2, P0_2, P1_2, P2_2, P3_2, sz_b2_1_5_3_2⟩)
theorem d1_88 : decode method_3_code 88 = .ok (.areturn, 1) := by decide +kernel
def Q1_5 (Z : State) (z_COMPACT_STRINGS : Int32) (p0 : Int32) (p1 : Int32) (p2 : Int32) (p3 : Int32) (p4 : Int32) (h0 : Heap) (n0 : Nat) (v : Option Value) (h : Heap) (L : List Loc) : Prop := ∃ (b8 : Addr), ∃ (b2_1_5_3_2_10 : Addr), ∃ (k2_1_5_3_2_10 : ClassId), ∃ (ce0_3_2_10 : Int32), ∃ (ce1_3_2_10 : Int32), ∃ (ce2_3_2_10 : Int32), ∃ (ce3_3_2_10 : Int32), ∃ (ce4_3_2_10 : Int32), ∃ (ce5_3_2_10 : Int32), v = (some (.ref b8)) ∧ Fr n0 L ∧ Keep h0 h [] ∧ Exa Z h b8 sC0 ∧ Fld Z h b8 sC0 "coder" "B" (.int 1) ∧ Fld Z h b8 sC0 "value" "[B" (.ref b2_1_5_3_2_10) ∧ Arv Z h b2_1_5_3_2_10 k2_1_5_3_2_10 .byte (6 : Int32) [(.int ce0_3_2_10), (.int ce1_3_2_10), (.int ce2_3_2_10), (.int ce3_3_2_10), (.int ce4_3_2_10), (.int ce5_3_2_10)] (.int 0) ∧ h0.size ≤ b8 ∧ h0.size ≤ b2_1_5_3_2_10 ∧ b8 ≠ b2_1_5_3_2_10
theorem rm1_5 (l : Launch) (Z : State) (a0 : Array Value) (hw : HW Z a0) (ws : List Jvm.Cond) (z_COMPACT_STRINGS : Int32) (p0 : Int32) (p1 : Int32) (p2 : Int32) (p3 : Int32) (p4 : Int32) (h0 : Heap) (n0 : Nat) (O0 : Old Z n0 h0) (S : SF Z z_COMPACT_STRINGS) (hc0 : ¬ (p0 = (0 : Int32))) (hc1 : ¬ (p0 = (1 : Int32))) (hc2 : p0 = (2 : Int32)) (hc3 : ¬ (gp3 (cc p1) (cc p2) (cc p3))) :
    Pay l Z My1 ws method_3_code 6 (some (.object sC0)) #[(.int p0), (.int p1), (.int p2), (.int p3), (.int p4)] h0 ({ frames := 6, cells := 4, slots := 16, locals := 88 } : Room) (Q1_5 Z z_COMPACT_STRINGS p0 p1 p2 p3 p4 h0 n0) := by
  refine own_body (plainFor_of_name pn_0) (L0 := #[vi p0, vi p1, vi p2, vi p3, vi p4, uu]) (fun _ => by first | rfl | (simp [entryFrame, mkF, argsToLocals, Value.category]; done)) ?_
  intro p e s m below meth c s₁ hrt hlk hx hby hml hZ hown0 hnm X0 e0
  have hown : s.vm.findClass sC3 = some m.cls := hown0
  have N0 := Fr.nil n0
  have K0 : Keep h0 h0 [] := Keep.refl _ _
  obtain ⟨T1, h1, k1, X1, e1, E1, A1, st1⟩ := newP X0 hx hZ (ww hw 5 rfl) e0 (g := (mkF m 60 #[vi p0, vi p1, vi p2, vi p3, vi p4, uu] [(.int 3)])) rfl (hb hby d1_60) rfl (by decide) (cap := 3) (by decide) (by decide) (by decide) (by decide)
  obtain ⟨b1, qs1⟩ : ∃ z, z = h0.size := ⟨_, rfl⟩
  rw [← qs1] at A1 st1
  have g_b1 : n0 ≤ b1 := Nat.le_trans (own_old O0) (Nat.le_of_eq qs1.symm)
  have sz_b1 : h0.size ≤ b1 := Nat.le_trans K0.1 (Nat.le_of_eq qs1.symm)
  have O1 := O0.ext E1
  have K1 : Keep h0 h1 [] := K0.ext E1
  have V_b1 : Arv Z h1 b1 k1 .char (3 : Int32) [(.int 0), (.int 0), (.int 0)] (.int 0) := (Arv.new A1 (by decide)).pad (pad_rep [] (.int 0) 3)
  obtain ⟨cl2, Ar2, qk2, Sz2, Ng2, Hh2, Gg2⟩ := id V_b1
  have hin2_0 : ¬ ((0 : Int32) < 0 ∨ cl2.slots.size ≤ ((0 : Int32)).toNatClampNeg) := inb_of Sz2 ⟨by decide, by decide⟩
  obtain ⟨T3, h3, X3, e3, W3, st3⟩ := stC X1 hx hZ e1 Ar2 (j := (0 : Int32)) hin2_0 (g := (mkF m 68 #[vi p0, vi p1, vi p2, vi p3, vi p4, va b1] [(.int p1), (.int 0), (.ref b1)])) rfl rfl (hb hby d1_68)
  have V3 : Arv Z h3 b1 k1 .char (3 : Int32) [(.int (cc p1)), (.int 0), (.int 0)] (.int 0) := Arv.set Ar2 qk2 Sz2 Ng2 Hh2 Gg2 (fits_nar_char _) W3 0 rfl (Nat.le_of_ble_eq_true rfl)
  have O3 := O1.wr W3 g_b1
  have K3 : Keep h0 h3 [] := K1.wr W3 (Or.inr sz_b1)
  have N3 := Fr.snoc X3 N0 g_b1
  obtain ⟨cl4, Ar4, qk4, Sz4, Ng4, Hh4, Gg4⟩ := id V3
  have hin4_1 : ¬ ((1 : Int32) < 0 ∨ cl4.slots.size ≤ ((1 : Int32)).toNatClampNeg) := inb_of Sz4 ⟨by decide, by decide⟩
  obtain ⟨T5, h5, X5, e5, W5, st5⟩ := stC X3 hx hZ e3 Ar4 (j := (1 : Int32)) hin4_1 (g := (mkF m 73 #[vi p0, vi p1, vi p2, vi p3, vi p4, va b1] [(.int p2), (.int 1), (.ref b1)])) rfl rfl (hb hby d1_73)
  have V5 : Arv Z h5 b1 k1 .char (3 : Int32) [(.int (cc p1)), (.int (cc p2)), (.int 0)] (.int 0) := Arv.set Ar4 qk4 Sz4 Ng4 Hh4 Gg4 (fits_nar_char _) W5 1 rfl (Nat.le_of_ble_eq_true rfl)
  have O5 := O3.wr W5 g_b1
  have K5 : Keep h0 h5 [] := K3.wr W5 (Or.inr sz_b1)
  have N5 := Fr.snoc X5 N3 g_b1
  obtain ⟨cl6, Ar6, qk6, Sz6, Ng6, Hh6, Gg6⟩ := id V5
  have hin6_2 : ¬ ((2 : Int32) < 0 ∨ cl6.slots.size ≤ ((2 : Int32)).toNatClampNeg) := inb_of Sz6 ⟨by decide, by decide⟩
  obtain ⟨T7, h7, X7, e7, W7, st7⟩ := stC X5 hx hZ e5 Ar6 (j := (2 : Int32)) hin6_2 (g := (mkF m 78 #[vi p0, vi p1, vi p2, vi p3, vi p4, va b1] [(.int p3), (.int 2), (.ref b1)])) rfl rfl (hb hby d1_78)
  have V7 : Arv Z h7 b1 k1 .char (3 : Int32) [(.int (cc p1)), (.int (cc p2)), (.int (cc p3))] (.int 0) := Arv.set Ar6 qk6 Sz6 Ng6 Hh6 Gg6 (fits_nar_char _) W7 2 rfl (Nat.le_of_ble_eq_true rfl)
  have O7 := O5.wr W7 g_b1
  have K7 : Keep h0 h7 [] := K5.wr W7 (Or.inr sz_b1)
  have N7 := Fr.snoc X7 N5 g_b1
  obtain ⟨T8, h8, X8, e8, E8, A8, D8, -, st8⟩ := newO X7 hx hZ hown (ww hw 6 rfl) (ww hw 7 rfl) (ww hw 8 rfl) e7 (g := (mkF m 79 #[vi p0, vi p1, vi p2, vi p3, vi p4, va b1] [])) rfl (hb hby d1_79) (by decide) (by decide)
  obtain ⟨b8, qs8⟩ : ∃ z, z = h7.size := ⟨_, rfl⟩
  rw [← qs8] at A8 D8 st8
  have ne_b1_b8 : b1 ≠ b8 := Nat.ne_of_lt (Nat.lt_of_lt_of_le V7.lt (Nat.le_of_eq qs8.symm))
  have g_b8 : n0 ≤ b8 := Nat.le_trans (own_old O7) (Nat.le_of_eq qs8.symm)
  have sz_b8 : h0.size ≤ b8 := Nat.le_trans K7.1 (Nat.le_of_eq qs8.symm)
  have O8 := O7.ext E8
  have K8 : Keep h0 h8 [] := K7.ext E8
  have F_coder_b8 : Fld Z h8 b8 sC0 "coder" "B" (.int 0) := D8 (Or.inr (ww hw 32 rfl)) (ty := .byte) (by decide)
  have F_value_b8 : Fld Z h8 b8 sC0 "value" "[B" .null := D8 (Or.inr (ww hw 34 rfl)) (ty := (.array .byte)) (by decide)
  have fc9 := (V7.ext E8)
  obtain ⟨_, _, ⟨T10, L10, k10, n10⟩, -, X10, ⟨Lc10, hQ10, l10, y10, z10⟩, st10⟩ := X8.specialBack hx (y := My2) rfl hown (mvT hZ (ww hw 9 rfl)) (mvT hZ (ww hw 10 rfl)) (mvT hZ (ww hw 11 rfl)) (by decide) (backOf (W := 1) (rm2_5 l Z a0 hw [] z_COMPACT_STRINGS b8 b1 k1 (cc p1) (cc p2) (cc p3) h8 n0 O8 S A8 F_coder_b8 F_value_b8 fc9 g_b8 hc3) hZ (ww hw 11 rfl) (ww hw 8 rfl) (by decide) (by decide)) (g := (mkF m 85 #[vi p0, vi p1, vi p2, vi p3, vi p4, va b1] [(.ref b1), (.ref b8), (.ref b8)])) rfl (by rw [hml]; rfl) (Steps.refl _) (a := b8) (argsL := [(.ref b1)]) (rest := [(.ref b8)]) (lenOf pd_8 rfl) rfl (by show 2 * 0 + _ ≤ _; exact Nat.le_of_eq rfl) (hb hby d1_85) (fun _ _ => ⟨rfl, e8, (by decide : 2 + 2 ≤ _), (by decide : 7 + 9 ≤ _)⟩)
  dsimp only [Pt.U, Pt.locs, Pt.cells, Pt.slots] at X10 l10 y10 z10 st10 hQ10
  subst l10 y10 z10
  obtain ⟨b2_1_5_3_2_10, k2_1_5_3_2_10, ce0_3_2_10, ce1_3_2_10, ce2_3_2_10, ce3_3_2_10, ce4_3_2_10, ce5_3_2_10, rfl, Nq10, Kc10, P0_10, P1_10, P2_10, P3_10, P4_10⟩ := hQ10
  have N10 := Fr.app N7 Nq10
  have ne_b1_b2_1_5_3_2_10 : b1 ≠ b2_1_5_3_2_10 := Nat.ne_of_lt (Nat.lt_of_lt_of_le fc9.lt P4_10)
  have ne_b8_b2_1_5_3_2_10 : b8 ≠ b2_1_5_3_2_10 := Nat.ne_of_lt (Nat.lt_of_lt_of_le A8.lt P4_10)
  have g_b2_1_5_3_2_10 : n0 ≤ b2_1_5_3_2_10 := Nat.le_trans (own_old O8) P4_10
  have sz_b2_1_5_3_2_10 : h0.size ≤ b2_1_5_3_2_10 := Nat.le_trans K8.1 P4_10
  have O10 := O8.keep Kc10 (allS g_b8 all0)
  have K10 : Keep h0 T10.heap [] := K8.trans Kc10 (allS (Or.inr sz_b8) all0)
  obtain ⟨fs, hr, hrun, hended, hW, hsame⟩ := X10.leave (v := (some (.ref b8))) (fun h => by rw [hrt] at h; cases h)
  refine ⟨_, _, ?_, hrun, hended, _, _, rfl, ?_, ⟨_, rfl⟩, hW, hsame.mono (by decide) (by decide)⟩
  · show Steps p.tables e below (s₁.setTop (mkF m 0 #[vi p0, vi p1, vi p2, vi p3, vi p4, uu] [])) _
    refine XS.iloadN X0.here hx rfl (hb hby d1_0) rfl ?_
    refine XS.ifYes X0.here hx rfl (pc0 := 1) (pc' := 24) rfl (hb hby d1_1) rfl ((if0 _ _).trans (feq hc0).2) (by decide) (by decide) ?_
    refine XS.iloadN X0.here hx rfl (hb hby d1_24) rfl ?_
    refine XS.iconst X0.here hx rfl (hb hby d1_25) ?_
    refine XS.icmpYes X0.here hx rfl (pc0 := 26) (pc' := 54) rfl (hb hby d1_26) rfl (feq hc1).2 (by decide) (by decide) ?_
    refine XS.iloadN X0.here hx rfl (hb hby d1_54) rfl ?_
    refine XS.iconst X0.here hx rfl (hb hby d1_55) ?_
    refine XS.icmpNo X0.here hx rfl (hb hby d1_56) rfl (teq hc2).2 ?_
    show Steps p.tables e below (s₁.setTop (mkF m 59 #[vi p0, vi p1, vi p2, vi p3, vi p4, uu] [])) _
    refine XS.iconst X0.here hx rfl (hb hby d1_59) ?_
    refine st1 _ ?_
    refine XS.astore X1.here hx rfl (hb hby d1_62) rfl rfl (l' := #[vi p0, vi p1, vi p2, vi p3, vi p4, va b1]) rfl ?_
    refine XS.aload X1.here hx rfl (hb hby d1_64) rfl rfl ?_
    refine XS.iconst X1.here hx rfl (hb hby d1_66) ?_
    refine XS.iloadN X1.here hx rfl (hb hby d1_67) rfl ?_
    refine st3 _ ?_
    refine XS.aload X3.here hx rfl (hb hby d1_69) rfl rfl ?_
    show Steps p.tables e below (T3.setTop (mkF m 71 #[vi p0, vi p1, vi p2, vi p3, vi p4, va b1] [(.ref b1)])) _
    refine XS.iconst X3.here hx rfl (hb hby d1_71) ?_
    refine XS.iloadN X3.here hx rfl (hb hby d1_72) rfl ?_
    refine st5 _ ?_
    refine XS.aload X5.here hx rfl (hb hby d1_74) rfl rfl ?_
    refine XS.iconst X5.here hx rfl (hb hby d1_76) ?_
    refine XS.iloadN X5.here hx rfl (hb hby d1_77) rfl ?_
    refine st7 _ ?_
    refine st8 _ ?_
    show Steps p.tables e below (T8.setTop (mkF m 82 #[vi p0, vi p1, vi p2, vi p3, vi p4, va b1] [(.ref b8)])) _
    refine XS.dup X8.here hx rfl (hb hby d1_82) rfl rfl ?_
    refine XS.aload X8.here hx rfl (hb hby d1_83) rfl rfl ?_
    refine st10.trans ?_
    exact retOut X10 hx (t := (.object sC0)) (i := .areturn) hrt rfl (Or.inr (Or.inr (Or.inr (Or.inr ⟨rfl, rfl, rfl⟩)))) (hb hby d1_88) hr
  · show Q1_5 Z z_COMPACT_STRINGS p0 p1 p2 p3 p4 h0 n0 (some (.ref b8)) T10.heap _
    exact (⟨b8, b2_1_5_3_2_10, k2_1_5_3_2_10, ce0_3_2_10, ce1_3_2_10, ce2_3_2_10, ce3_3_2_10, ce4_3_2_10, ce5_3_2_10, rfl, N10, K10, P0_10, P1_10, P2_10, P3_10, sz_b8, sz_b2_1_5_3_2_10, ne_b8_b2_1_5_3_2_10⟩)
def Q7_6 (Z : State) (z_COMPACT_STRINGS : Int32) (o0 : Addr) (kk_o0 : ClassId) (p0 : Int32) (p1 : Int32) (p2 : Int32) (h0 : Heap) (n0 : Nat) (v : Option Value) (h : Heap) (L : List Loc) : Prop := v = (some (.int 0)) ∧ Fr n0 L ∧ h = h0
theorem rm7_6 (l : Launch) (Z : State) (a0 : Array Value) (hw : HW Z a0) (ws : List Jvm.Cond) (z_COMPACT_STRINGS : Int32) (o0 : Addr) (kk_o0 : ClassId) (p0 : Int32) (p1 : Int32) (p2 : Int32) (h0 : Heap) (n0 : Nat) (O0 : Old Z n0 h0) (S : SF Z z_COMPACT_STRINGS) (V_o0 : Arv Z h0 o0 kk_o0 .byte (3 : Int32) [(.int p0), (.int p1), (.int p2)] (.int 0)) :
    Pay l Z My7 ws jdk_52_method_15_code 2 (some .byte) #[(.ref o0), (.int 3)] h0 ({ frames := 0, cells := 0, slots := 0, locals := 0 } : Room) (Q7_6 Z z_COMPACT_STRINGS o0 kk_o0 p0 p1 p2 h0 n0) := by
  refine own_body (plainFor_of_name pn_2) (L0 := #[va o0, vi 3]) (fun _ => by first | rfl | (simp [entryFrame, mkF, argsToLocals, Value.category]; done)) ?_
  intro p e s m below meth c s₁ hrt hlk hx hby hml hZ hown0 hnm X0 e0
  have hown : s.vm.findClass sC1 = some m.cls := hown0
  have N0 := Fr.nil n0
  have K0 : Keep h0 h0 [] := Keep.refl _ _
  obtain ⟨cl1, Ar1, qk1, Sz1, Ng1, Hh1, Gg1⟩ := id V_o0
  obtain ⟨fs, hr, hrun, hended, hW, hsame⟩ := X0.leave (v := (some (.int 0))) (fun h => by rw [hrt] at h; cases h)
  refine ⟨_, _, ?_, hrun, hended, _, _, rfl, ?_, ⟨_, rfl⟩, hW, hsame.mono (by decide) (by decide)⟩
  · show Steps p.tables e below (s₁.setTop (mkF m 0 #[va o0, vi 3] [])) _
    refine XS.iloadN X0.here hx rfl (hb hby d7_0) rfl ?_
    refine XS.aloadN X0.here hx rfl (hb hby d7_1) rfl rfl ?_
    refine X0.arraylength hx (by rw [e0]; exact Ar1.1) (State.isArrayOf_alike hZ.alike Ar1.2.1) (g := (mkF m 2 #[va o0, vi 3] [(.ref o0), (.int 3)])) rfl rfl (hb hby d7_2) _ ?_
    rw [len_of Sz1 Ng1]
    refine XS.isub X0.here hx rfl (hb hby d7_3) rfl ?_
    show Steps p.tables e below (s₁.setTop (mkF m 4 #[va o0, vi 3] [(.int ((3 : Int32) - (3 : Int32)))])) _
    rw [show (((3 : Int32) - (3 : Int32)) : Int32) = (0 : Int32) from by decide]
    refine XS.bipush X0.here hx rfl (hb hby d7_4) ?_
    refine XS.iushr X0.here hx rfl (hb hby d7_6) rfl ?_
    show Steps p.tables e below (s₁.setTop (mkF m 7 #[va o0, vi 3] [(.int (((0 : Int32).toUInt32 >>> ((31 : Int32) &&& 31).toUInt32).toInt32))])) _
    rw [show ((((0 : Int32).toUInt32 >>> ((31 : Int32) &&& 31).toUInt32).toInt32) : Int32) = (0 : Int32) from by decide]
    refine XS.i2b X0.here hx rfl (hb hby d7_7) rfl ?_
    show Steps p.tables e below (s₁.setTop (mkF m 8 #[va o0, vi 3] [(.int (bb (0 : Int32)))])) _
    rw [show ((bb (0 : Int32)) : Int32) = (0 : Int32) from by decide]
    exact retN X0 hx (t := .byte) hrt (by simp) (hb hby d7_8) hr
  · show Q7_6 Z z_COMPACT_STRINGS o0 kk_o0 p0 p1 p2 h0 n0 (some (.int 0)) s₁.heap _
    exact (⟨rfl, N0, e0⟩)
def Q3_6 (Z : State) (z_COMPACT_STRINGS : Int32) (o0 : Addr) (o1 : Addr) (kk_o1 : ClassId) (p0 : Int32) (p1 : Int32) (p2 : Int32) (h0 : Heap) (n0 : Nat) (v : Option Value) (h : Heap) (L : List Loc) : Prop := ∃ (b1_3 : Addr), ∃ (k1_3 : ClassId), ∃ (ce0_3 : Int32), ∃ (ce1_3 : Int32), ∃ (ce2_3 : Int32), v = none ∧ Fr n0 L ∧ Keep h0 h [o0] ∧ Exa Z h o0 sC0 ∧ Fld Z h o0 sC0 "coder" "B" (.int 0) ∧ Fld Z h o0 sC0 "value" "[B" (.ref b1_3) ∧ Arv Z h b1_3 k1_3 .byte (3 : Int32) [(.int ce0_3), (.int ce1_3), (.int ce2_3)] (.int 0) ∧ h0.size ≤ b1_3
theorem rm3_6 (l : Launch) (Z : State) (a0 : Array Value) (hw : HW Z a0) (ws : List Jvm.Cond) (z_COMPACT_STRINGS : Int32) (o0 : Addr) (o1 : Addr) (kk_o1 : ClassId) (p0 : Int32) (p1 : Int32) (p2 : Int32) (h0 : Heap) (n0 : Nat) (O0 : Old Z n0 h0) (S : SF Z z_COMPACT_STRINGS) (E_o0 : Exa Z h0 o0 sC0) (F_coder_o0 : Fld Z h0 o0 sC0 "coder" "B" (.int 0)) (F_value_o0 : Fld Z h0 o0 sC0 "value" "[B" .null) (V_o1 : Arv Z h0 o1 kk_o1 .char (3 : Int32) [(.int p0), (.int p1), (.int p2)] (.int 0)) (g_o0 : n0 ≤ o0) (hc0 : gp3 p0 p1 p2) :
    Pay l Z My3 ws jdk_42_method_149_code 6 none #[(.ref o0), (.ref o1), (.int 0), (.int 3), .null] h0 ({ frames := 2, cells := 1, slots := 3, locals := 35 } : Room) (Q3_6 Z z_COMPACT_STRINGS o0 o1 kk_o1 p0 p1 p2 h0 n0) := by
  obtain ⟨S_z_COMPACT_STRINGS, hz_z_COMPACT_STRINGS, -⟩ := id S
  refine own_body (plainFor_of_name pn_1) (L0 := #[va o0, va o1, vi 0, vi 3, .val .null, uu]) (fun _ => by first | rfl | (simp [entryFrame, mkF, argsToLocals, Value.category]; done)) ?_
  intro p e s m below meth c s₁ hrt hlk hx hby hml hZ hown0 hnm X0 e0
  have hown : s.vm.findClass sC0 = some m.cls := hown0
  have N0 := Fr.nil n0
  have K0 : Keep h0 h0 [o0] := Keep.refl _ _
  obtain ⟨T1, X1, e1, st1⟩ := initO X0 hx hZ hown (ww hw 16 rfl) (ww hw 17 rfl) (ww hw 18 rfl) e0 (g := (mkF m 1 #[va o0, va o1, vi 0, vi 3, .val .null, uu] [(.ref o0)])) rfl (by rw [hml]; rfl) rfl (hb hby d3_1) (by decide) (W := 0) (by show 2 * 0 + _ ≤ _; exact Nat.le_of_eq rfl) (by decide)
  obtain ⟨T2, X2, e2, st2⟩ := getS2 X1 hx hZ hown (host := "") (Or.inl (ww hw 19 rfl)) Via.refl e1 (S_z_COMPACT_STRINGS.ext O0.2) (g := (mkF m 27 #[va o0, va o1, vi 0, vi 3, .val .null, uu] [])) rfl (hb hby d3_27)
  obtain ⟨_, _, ⟨T3, L3, k3, n3⟩, -, X3, ⟨Lc3, hQ3, l3, y3, z3⟩, st3⟩ := Jvm.LawKit.callS X2 hx (y := My5) hown (mvT hZ (ww hw 20 rfl)) (mvT hZ (ww hw 21 rfl)) (mvT hZ (ww hw 22 rfl)) (mvT hZ (ww hw 23 rfl)) (by decide) (backOf (W := 0) (gm3_0 l Z a0 hw [] z_COMPACT_STRINGS o1 kk_o1 p0 p1 p2 h0 n0 O0 S V_o1 hc0) hZ (ww hw 23 rfl) (ww hw 22 rfl) (by decide) (by decide)) (g := (mkF m 36 #[va o0, va o1, vi 0, vi 3, .val .null, uu] [(.int 3), (.int 0), (.ref o1)])) rfl (by rw [hml]; rfl) (argsL := [(.ref o1), (.int 0), (.int 3)]) (rest := []) (lenOf pd_4 rfl) rfl (by show 2 * 0 + _ ≤ _; exact Nat.le_of_eq rfl) (hb hby d3_36) (fun _ _ => ⟨rfl, e2, (by decide : 0 + 1 ≤ _), (by decide : 0 + 3 ≤ _)⟩)
  dsimp only [Pt.U, Pt.locs, Pt.cells, Pt.slots] at X3 l3 y3 z3 st3 hQ3
  subst l3 y3 z3
  obtain ⟨b1_3, k1_3, ce0_3, ce1_3, ce2_3, rfl, Nq3, Kc3, P0_3, P1_3⟩ := hQ3
  have N3 := Fr.app N0 Nq3
  have ne_o0_b1_3 : o0 ≠ b1_3 := Nat.ne_of_lt (Nat.lt_of_lt_of_le E_o0.lt P1_3)
  have ne_o1_b1_3 : o1 ≠ b1_3 := Nat.ne_of_lt (Nat.lt_of_lt_of_le V_o1.lt P1_3)
  have g_b1_3 : n0 ≤ b1_3 := Nat.le_trans (own_old O0) P1_3
  have sz_b1_3 : h0.size ≤ b1_3 := Nat.le_trans K0.1 P1_3
  have O3 := O0.keep Kc3 all0
  have K3 : Keep h0 T3.heap [o0] := K0.trans Kc3 all0
  obtain ⟨_, _, ⟨T4, L4, k4, n4⟩, -, X4, ⟨Lc4, hQ4, l4, y4, z4⟩, st4⟩ := Jvm.LawKit.callS X3 hx (y := My7) hown (mvT hZ (ww hw 28 rfl)) (mvT hZ (ww hw 29 rfl)) (mvT hZ (ww hw 22 rfl)) (mvT hZ (ww hw 30 rfl)) (by decide) (backOf (W := 1) (rm7_6 l Z a0 hw [] z_COMPACT_STRINGS b1_3 k1_3 ce0_3 ce1_3 ce2_3 T3.heap n0 O3 S P0_3) hZ (ww hw 30 rfl) (ww hw 22 rfl) (by decide) (by decide)) (g := (mkF m 45 #[va o0, va o1, vi 0, vi 3, .val .null, va b1_3] [(.int 3), (.ref b1_3), (.ref o0)])) rfl (by rw [hml]; rfl) (argsL := [(.ref b1_3), (.int 3)]) (rest := [(.ref o0)]) (lenOf pd_6 rfl) rfl (by show 2 * 0 + _ ≤ _; exact Nat.le_of_eq rfl) (hb hby d3_45) (fun _ _ => ⟨rfl, rfl, (by decide : 1 + 0 ≤ _), (by decide : 3 + 0 ≤ _)⟩)
  dsimp only [Pt.U, Pt.locs, Pt.cells, Pt.slots] at X4 l4 y4 z4 st4 hQ4
  subst l4 y4 z4
  obtain ⟨rfl, Nq4, e4⟩ := hQ4
  have N4 := Fr.app N3 Nq4
  have fc5 := (F_coder_o0.keep Kc3 nin0)
  have fc6 := (E_o0.keep Kc3)
  obtain ⟨T7, h7, X7, e7, W7, st7⟩ := putFN X4 hx hZ hown (ww hw 31 rfl) Via.refl e4 fc5 fc6 (Or.inr ⟨(ww hw 32 rfl), rfl, hnm⟩) (ww hw 7 rfl) (ty := .byte) (v' := (.int 0)) (by decide) rfl (by decide) (g := (mkF m 48 #[va o0, va o1, vi 0, vi 3, .val .null, va b1_3] [(.int 0), (.ref o0)])) rfl rfl (hb hby d3_48)
  have Fw7 := fc5.same W7
  have O7 := O3.wr W7 g_o0
  have K7 : Keep h0 h7 [o0] := K3.wr W7 (Or.inl (List.mem_of_getElem? (i := 0) rfl))
  have N7 := Fr.snoc X7 N4 g_o0
  have fc8 := ((F_value_o0.keep Kc3 nin0).other W7 (Or.inr (slot_ne (Or.inr (ww hw 34 rfl)) (Or.inr (ww hw 32 rfl)) (by decide) (t := (.array .byte)) (t' := .byte) (by decide) (by decide))))
  have fc9 := (fc6.wr W7)
  obtain ⟨T10, h10, X10, e10, W10, st10⟩ := putF X7 hx hZ hown (host := "") (Or.inl (ww hw 33 rfl)) Via.refl e7 fc8 fc9 (Or.inr ⟨(ww hw 34 rfl), rfl, hnm⟩) (ww hw 7 rfl) (ty := (.array .byte)) (by decide) rfl rfl (g := (mkF m 54 #[va o0, va o1, vi 0, vi 3, .val .null, va b1_3] [(.ref b1_3), (.ref o0)])) rfl rfl (hb hby d3_54)
  have Fw10 := fc8.same W10
  have O10 := O7.wr W10 g_o0
  have K10 : Keep h0 h10 [o0] := K7.wr W10 (Or.inl (List.mem_of_getElem? (i := 0) rfl))
  have N10 := Fr.snoc X10 N7 g_o0
  obtain ⟨fs, hr, hrun, hended, hW, hsame⟩ := X10.leave (v := none) (fun _ => rfl)
  have fc11 := (fc9.wr W10)
  have fc12 := (Fw7.other W10 (Or.inr (slot_ne (Or.inr (ww hw 32 rfl)) (Or.inr (ww hw 34 rfl)) (by decide) (t := .byte) (t' := (.array .byte)) (by decide) (by decide))))
  have fc13 := ((P0_3.other W7 (Ne.symm ne_o0_b1_3)).other W10 (Ne.symm ne_o0_b1_3))
  refine ⟨_, _, ?_, hrun, hended, _, _, rfl, ?_, ⟨_, rfl⟩, hW, hsame.mono (by decide) (by decide)⟩
  · show Steps p.tables e below (s₁.setTop (mkF m 0 #[va o0, va o1, vi 0, vi 3, .val .null, uu] [])) _
    refine XS.aloadN X0.here hx rfl (hb hby d3_0) rfl rfl ?_
    refine st1 _ ?_
    refine XS.iloadN X1.here hx rfl (hb hby d3_4) rfl ?_
    refine XS.ifYes X1.here hx rfl (pc0 := 5) (pc' := 27) rfl (hb hby d3_5) rfl ((if0 _ _).trans (feq (by decide : ¬ ((3 : Int32) = (0 : Int32)))).2) (by decide) (by decide) ?_
    refine st2 _ ?_
    refine XS.ifNo X2.here hx rfl (hb hby d3_30) rfl ((if0 _ _).trans (feq hz_z_COMPACT_STRINGS).1) ?_
    refine XS.aloadN X2.here hx rfl (hb hby d3_33) rfl rfl ?_
    refine XS.iloadN X2.here hx rfl (hb hby d3_34) rfl ?_
    show Steps p.tables e below (T2.setTop (mkF m 35 #[va o0, va o1, vi 0, vi 3, .val .null, uu] [(.int 0), (.ref o1)])) _
    refine XS.iloadN X2.here hx rfl (hb hby d3_35) rfl ?_
    refine st3 _ ?_
    refine XS.astore X3.here hx rfl (hb hby d3_39) rfl rfl (l' := #[va o0, va o1, vi 0, vi 3, .val .null, va b1_3]) rfl ?_
    refine XS.aloadN X3.here hx rfl (hb hby d3_41) rfl rfl ?_
    refine XS.aload X3.here hx rfl (hb hby d3_42) rfl rfl ?_
    refine XS.iloadN X3.here hx rfl (hb hby d3_44) rfl ?_
    refine st4 _ ?_
    refine st7 _ ?_
    show Steps p.tables e below (T7.setTop (mkF m 51 #[va o0, va o1, vi 0, vi 3, .val .null, va b1_3] [])) _
    refine XS.aloadN X7.here hx rfl (hb hby d3_51) rfl rfl ?_
    refine XS.aload X7.here hx rfl (hb hby d3_52) rfl rfl ?_
    refine st10 _ ?_
    exact X10.returnOut hx hrt (hb hby d3_57) hr
  · show Q3_6 Z z_COMPACT_STRINGS o0 o1 kk_o1 p0 p1 p2 h0 n0 none T10.heap _
    rw [e10]; exact ⟨b1_3, k1_3, ce0_3, ce1_3, ce2_3, rfl, N10, K10, fc11, fc12, Fw10, fc13, sz_b1_3⟩
def Q2_6 (Z : State) (z_COMPACT_STRINGS : Int32) (o0 : Addr) (o1 : Addr) (kk_o1 : ClassId) (p0 : Int32) (p1 : Int32) (p2 : Int32) (h0 : Heap) (n0 : Nat) (v : Option Value) (h : Heap) (L : List Loc) : Prop := ∃ (b1_3_2 : Addr), ∃ (k1_3_2 : ClassId), ∃ (ce0_3_2 : Int32), ∃ (ce1_3_2 : Int32), ∃ (ce2_3_2 : Int32), v = none ∧ Fr n0 L ∧ Keep h0 h [o0] ∧ Exa Z h o0 sC0 ∧ Fld Z h o0 sC0 "coder" "B" (.int 0) ∧ Fld Z h o0 sC0 "value" "[B" (.ref b1_3_2) ∧ Arv Z h b1_3_2 k1_3_2 .byte (3 : Int32) [(.int ce0_3_2), (.int ce1_3_2), (.int ce2_3_2)] (.int 0) ∧ h0.size ≤ b1_3_2
theorem rm2_6 (l : Launch) (Z : State) (a0 : Array Value) (hw : HW Z a0) (ws : List Jvm.Cond) (z_COMPACT_STRINGS : Int32) (o0 : Addr) (o1 : Addr) (kk_o1 : ClassId) (p0 : Int32) (p1 : Int32) (p2 : Int32) (h0 : Heap) (n0 : Nat) (O0 : Old Z n0 h0) (S : SF Z z_COMPACT_STRINGS) (E_o0 : Exa Z h0 o0 sC0) (F_coder_o0 : Fld Z h0 o0 sC0 "coder" "B" (.int 0)) (F_value_o0 : Fld Z h0 o0 sC0 "value" "[B" .null) (V_o1 : Arv Z h0 o1 kk_o1 .char (3 : Int32) [(.int p0), (.int p1), (.int p2)] (.int 0)) (g_o0 : n0 ≤ o0) (hc0 : gp3 p0 p1 p2) :
    Pay l Z My2 ws jdk_42_method_3_code 2 none #[(.ref o0), (.ref o1)] h0 ({ frames := 3, cells := 1, slots := 3, locals := 52 } : Room) (Q2_6 Z z_COMPACT_STRINGS o0 o1 kk_o1 p0 p1 p2 h0 n0) := by
  refine own_body (plainFor_of_name pn_1) (L0 := #[va o0, va o1]) (fun _ => by first | rfl | (simp [entryFrame, mkF, argsToLocals, Value.category]; done)) ?_
  intro p e s m below meth c s₁ hrt hlk hx hby hml hZ hown0 hnm X0 e0
  have hown : s.vm.findClass sC0 = some m.cls := hown0
  have N0 := Fr.nil n0
  have K0 : Keep h0 h0 [o0] := Keep.refl _ _
  obtain ⟨cl1, Ar1, qk1, Sz1, Ng1, Hh1, Gg1⟩ := id V_o1
  obtain ⟨_, _, ⟨T2, L2, k2, n2⟩, -, X2, ⟨Lc2, hQ2, l2, y2, z2⟩, st2⟩ := X0.specialBack hx (y := My3) rfl hown (mvT hZ (ww hw 12 rfl)) (mvT hZ (ww hw 13 rfl)) (mvT hZ (ww hw 15 rfl)) (by decide) (backOf (W := 0) (rm3_6 l Z a0 hw [] z_COMPACT_STRINGS o0 o1 kk_o1 p0 p1 p2 h0 n0 O0 S E_o0 F_coder_o0 F_value_o0 V_o1 g_o0 hc0) hZ (ww hw 15 rfl) (ww hw 8 rfl) (by decide) (by decide)) (g := (mkF m 6 #[va o0, va o1] [.null, (.int 3), (.int 0), (.ref o1), (.ref o0)])) rfl (by rw [hml]; rfl) (Steps.refl _) (a := o0) (argsL := [(.ref o1), (.int 0), (.int 3), .null]) (rest := []) (lenOf pd_7 rfl) rfl (by show 2 * 0 + _ ≤ _; exact Nat.le_of_eq rfl) (hb hby d2_6) (fun _ _ => ⟨rfl, e0, (by decide : 0 + 1 ≤ _), (by decide : 0 + 3 ≤ _)⟩)
  dsimp only [Pt.U, Pt.locs, Pt.cells, Pt.slots] at X2 l2 y2 z2 st2 hQ2
  subst l2 y2 z2
  obtain ⟨b1_3_2, k1_3_2, ce0_3_2, ce1_3_2, ce2_3_2, rfl, Nq2, Kc2, P0_2, P1_2, P2_2, P3_2, P4_2⟩ := hQ2
  have N2 := Fr.app N0 Nq2
  have ne_o0_b1_3_2 : o0 ≠ b1_3_2 := Nat.ne_of_lt (Nat.lt_of_lt_of_le E_o0.lt P4_2)
  have ne_o1_b1_3_2 : o1 ≠ b1_3_2 := Nat.ne_of_lt (Nat.lt_of_lt_of_le V_o1.lt P4_2)
  have g_b1_3_2 : n0 ≤ b1_3_2 := Nat.le_trans (own_old O0) P4_2
  have sz_b1_3_2 : h0.size ≤ b1_3_2 := Nat.le_trans K0.1 P4_2
  have O2 := O0.keep Kc2 (allS g_o0 all0)
  have K2 : Keep h0 T2.heap [o0] := K0.trans Kc2 (allS (Or.inl (List.mem_of_getElem? (i := 0) rfl)) all0)
  obtain ⟨fs, hr, hrun, hended, hW, hsame⟩ := X2.leave (v := none) (fun _ => rfl)
  refine ⟨_, _, ?_, hrun, hended, _, _, rfl, ?_, ⟨_, rfl⟩, hW, hsame.mono (by decide) (by decide)⟩
  · show Steps p.tables e below (s₁.setTop (mkF m 0 #[va o0, va o1] [])) _
    refine XS.aloadN X0.here hx rfl (hb hby d2_0) rfl rfl ?_
    refine XS.aloadN X0.here hx rfl (hb hby d2_1) rfl rfl ?_
    refine XS.iconst X0.here hx rfl (hb hby d2_2) ?_
    refine XS.aloadN X0.here hx rfl (hb hby d2_3) rfl rfl ?_
    refine X0.arraylength hx (by rw [e0]; exact Ar1.1) (State.isArrayOf_alike hZ.alike Ar1.2.1) (g := (mkF m 4 #[va o0, va o1] [(.ref o1), (.int 0), (.ref o1), (.ref o0)])) rfl rfl (hb hby d2_4) _ ?_
    rw [len_of Sz1 Ng1]
    refine XS.aconstNull X0.here hx rfl (hb hby d2_5) ?_
    refine st2.trans ?_
    exact X2.returnOut hx hrt (hb hby d2_9) hr
  · show Q2_6 Z z_COMPACT_STRINGS o0 o1 kk_o1 p0 p1 p2 h0 n0 none T2.heap _
    exact (⟨b1_3_2, k1_3_2, ce0_3_2, ce1_3_2, ce2_3_2, rfl, N2, K2, P0_2, P1_2, P2_2, P3_2, sz_b1_3_2⟩)
def Q1_6 (Z : State) (z_COMPACT_STRINGS : Int32) (p0 : Int32) (p1 : Int32) (p2 : Int32) (p3 : Int32) (p4 : Int32) (h0 : Heap) (n0 : Nat) (v : Option Value) (h : Heap) (L : List Loc) : Prop := ∃ (b8 : Addr), ∃ (b1_3_2_10 : Addr), ∃ (k1_3_2_10 : ClassId), ∃ (ce0_3_2_10 : Int32), ∃ (ce1_3_2_10 : Int32), ∃ (ce2_3_2_10 : Int32), v = (some (.ref b8)) ∧ Fr n0 L ∧ Keep h0 h [] ∧ Exa Z h b8 sC0 ∧ Fld Z h b8 sC0 "coder" "B" (.int 0) ∧ Fld Z h b8 sC0 "value" "[B" (.ref b1_3_2_10) ∧ Arv Z h b1_3_2_10 k1_3_2_10 .byte (3 : Int32) [(.int ce0_3_2_10), (.int ce1_3_2_10), (.int ce2_3_2_10)] (.int 0) ∧ h0.size ≤ b8 ∧ h0.size ≤ b1_3_2_10 ∧ b8 ≠ b1_3_2_10
theorem rm1_6 (l : Launch) (Z : State) (a0 : Array Value) (hw : HW Z a0) (ws : List Jvm.Cond) (z_COMPACT_STRINGS : Int32) (p0 : Int32) (p1 : Int32) (p2 : Int32) (p3 : Int32) (p4 : Int32) (h0 : Heap) (n0 : Nat) (O0 : Old Z n0 h0) (S : SF Z z_COMPACT_STRINGS) (hc0 : ¬ (p0 = (0 : Int32))) (hc1 : ¬ (p0 = (1 : Int32))) (hc2 : p0 = (2 : Int32)) (hc3 : gp3 (cc p1) (cc p2) (cc p3)) :
    Pay l Z My1 ws method_3_code 6 (some (.object sC0)) #[(.int p0), (.int p1), (.int p2), (.int p3), (.int p4)] h0 ({ frames := 4, cells := 3, slots := 10, locals := 66 } : Room) (Q1_6 Z z_COMPACT_STRINGS p0 p1 p2 p3 p4 h0 n0) := by
  refine own_body (plainFor_of_name pn_0) (L0 := #[vi p0, vi p1, vi p2, vi p3, vi p4, uu]) (fun _ => by first | rfl | (simp [entryFrame, mkF, argsToLocals, Value.category]; done)) ?_
  intro p e s m below meth c s₁ hrt hlk hx hby hml hZ hown0 hnm X0 e0
  have hown : s.vm.findClass sC3 = some m.cls := hown0
  have N0 := Fr.nil n0
  have K0 : Keep h0 h0 [] := Keep.refl _ _
  obtain ⟨T1, h1, k1, X1, e1, E1, A1, st1⟩ := newP X0 hx hZ (ww hw 5 rfl) e0 (g := (mkF m 60 #[vi p0, vi p1, vi p2, vi p3, vi p4, uu] [(.int 3)])) rfl (hb hby d1_60) rfl (by decide) (cap := 3) (by decide) (by decide) (by decide) (by decide)
  obtain ⟨b1, qs1⟩ : ∃ z, z = h0.size := ⟨_, rfl⟩
  rw [← qs1] at A1 st1
  have g_b1 : n0 ≤ b1 := Nat.le_trans (own_old O0) (Nat.le_of_eq qs1.symm)
  have sz_b1 : h0.size ≤ b1 := Nat.le_trans K0.1 (Nat.le_of_eq qs1.symm)
  have O1 := O0.ext E1
  have K1 : Keep h0 h1 [] := K0.ext E1
  have V_b1 : Arv Z h1 b1 k1 .char (3 : Int32) [(.int 0), (.int 0), (.int 0)] (.int 0) := (Arv.new A1 (by decide)).pad (pad_rep [] (.int 0) 3)
  obtain ⟨cl2, Ar2, qk2, Sz2, Ng2, Hh2, Gg2⟩ := id V_b1
  have hin2_0 : ¬ ((0 : Int32) < 0 ∨ cl2.slots.size ≤ ((0 : Int32)).toNatClampNeg) := inb_of Sz2 ⟨by decide, by decide⟩
  obtain ⟨T3, h3, X3, e3, W3, st3⟩ := stC X1 hx hZ e1 Ar2 (j := (0 : Int32)) hin2_0 (g := (mkF m 68 #[vi p0, vi p1, vi p2, vi p3, vi p4, va b1] [(.int p1), (.int 0), (.ref b1)])) rfl rfl (hb hby d1_68)
  have V3 : Arv Z h3 b1 k1 .char (3 : Int32) [(.int (cc p1)), (.int 0), (.int 0)] (.int 0) := Arv.set Ar2 qk2 Sz2 Ng2 Hh2 Gg2 (fits_nar_char _) W3 0 rfl (Nat.le_of_ble_eq_true rfl)
  have O3 := O1.wr W3 g_b1
  have K3 : Keep h0 h3 [] := K1.wr W3 (Or.inr sz_b1)
  have N3 := Fr.snoc X3 N0 g_b1
  obtain ⟨cl4, Ar4, qk4, Sz4, Ng4, Hh4, Gg4⟩ := id V3
  have hin4_1 : ¬ ((1 : Int32) < 0 ∨ cl4.slots.size ≤ ((1 : Int32)).toNatClampNeg) := inb_of Sz4 ⟨by decide, by decide⟩
  obtain ⟨T5, h5, X5, e5, W5, st5⟩ := stC X3 hx hZ e3 Ar4 (j := (1 : Int32)) hin4_1 (g := (mkF m 73 #[vi p0, vi p1, vi p2, vi p3, vi p4, va b1] [(.int p2), (.int 1), (.ref b1)])) rfl rfl (hb hby d1_73)
  have V5 : Arv Z h5 b1 k1 .char (3 : Int32) [(.int (cc p1)), (.int (cc p2)), (.int 0)] (.int 0) := Arv.set Ar4 qk4 Sz4 Ng4 Hh4 Gg4 (fits_nar_char _) W5 1 rfl (Nat.le_of_ble_eq_true rfl)
  have O5 := O3.wr W5 g_b1
  have K5 : Keep h0 h5 [] := K3.wr W5 (Or.inr sz_b1)
  have N5 := Fr.snoc X5 N3 g_b1
  obtain ⟨cl6, Ar6, qk6, Sz6, Ng6, Hh6, Gg6⟩ := id V5
  have hin6_2 : ¬ ((2 : Int32) < 0 ∨ cl6.slots.size ≤ ((2 : Int32)).toNatClampNeg) := inb_of Sz6 ⟨by decide, by decide⟩
  obtain ⟨T7, h7, X7, e7, W7, st7⟩ := stC X5 hx hZ e5 Ar6 (j := (2 : Int32)) hin6_2 (g := (mkF m 78 #[vi p0, vi p1, vi p2, vi p3, vi p4, va b1] [(.int p3), (.int 2), (.ref b1)])) rfl rfl (hb hby d1_78)
  have V7 : Arv Z h7 b1 k1 .char (3 : Int32) [(.int (cc p1)), (.int (cc p2)), (.int (cc p3))] (.int 0) := Arv.set Ar6 qk6 Sz6 Ng6 Hh6 Gg6 (fits_nar_char _) W7 2 rfl (Nat.le_of_ble_eq_true rfl)
  have O7 := O5.wr W7 g_b1
  have K7 : Keep h0 h7 [] := K5.wr W7 (Or.inr sz_b1)
  have N7 := Fr.snoc X7 N5 g_b1
  obtain ⟨T8, h8, X8, e8, E8, A8, D8, -, st8⟩ := newO X7 hx hZ hown (ww hw 6 rfl) (ww hw 7 rfl) (ww hw 8 rfl) e7 (g := (mkF m 79 #[vi p0, vi p1, vi p2, vi p3, vi p4, va b1] [])) rfl (hb hby d1_79) (by decide) (by decide)
  obtain ⟨b8, qs8⟩ : ∃ z, z = h7.size := ⟨_, rfl⟩
  rw [← qs8] at A8 D8 st8
  have ne_b1_b8 : b1 ≠ b8 := Nat.ne_of_lt (Nat.lt_of_lt_of_le V7.lt (Nat.le_of_eq qs8.symm))
  have g_b8 : n0 ≤ b8 := Nat.le_trans (own_old O7) (Nat.le_of_eq qs8.symm)
  have sz_b8 : h0.size ≤ b8 := Nat.le_trans K7.1 (Nat.le_of_eq qs8.symm)
  have O8 := O7.ext E8
  have K8 : Keep h0 h8 [] := K7.ext E8
  have F_coder_b8 : Fld Z h8 b8 sC0 "coder" "B" (.int 0) := D8 (Or.inr (ww hw 32 rfl)) (ty := .byte) (by decide)
  have F_value_b8 : Fld Z h8 b8 sC0 "value" "[B" .null := D8 (Or.inr (ww hw 34 rfl)) (ty := (.array .byte)) (by decide)
  have fc9 := (V7.ext E8)
  obtain ⟨_, _, ⟨T10, L10, k10, n10⟩, -, X10, ⟨Lc10, hQ10, l10, y10, z10⟩, st10⟩ := X8.specialBack hx (y := My2) rfl hown (mvT hZ (ww hw 9 rfl)) (mvT hZ (ww hw 10 rfl)) (mvT hZ (ww hw 11 rfl)) (by decide) (backOf (W := 1) (rm2_6 l Z a0 hw [] z_COMPACT_STRINGS b8 b1 k1 (cc p1) (cc p2) (cc p3) h8 n0 O8 S A8 F_coder_b8 F_value_b8 fc9 g_b8 hc3) hZ (ww hw 11 rfl) (ww hw 8 rfl) (by decide) (by decide)) (g := (mkF m 85 #[vi p0, vi p1, vi p2, vi p3, vi p4, va b1] [(.ref b1), (.ref b8), (.ref b8)])) rfl (by rw [hml]; rfl) (Steps.refl _) (a := b8) (argsL := [(.ref b1)]) (rest := [(.ref b8)]) (lenOf pd_8 rfl) rfl (by show 2 * 0 + _ ≤ _; exact Nat.le_of_eq rfl) (hb hby d1_85) (fun _ _ => ⟨rfl, e8, (by decide : 2 + 1 ≤ _), (by decide : 7 + 3 ≤ _)⟩)
  dsimp only [Pt.U, Pt.locs, Pt.cells, Pt.slots] at X10 l10 y10 z10 st10 hQ10
  subst l10 y10 z10
  obtain ⟨b1_3_2_10, k1_3_2_10, ce0_3_2_10, ce1_3_2_10, ce2_3_2_10, rfl, Nq10, Kc10, P0_10, P1_10, P2_10, P3_10, P4_10⟩ := hQ10
  have N10 := Fr.app N7 Nq10
  have ne_b1_b1_3_2_10 : b1 ≠ b1_3_2_10 := Nat.ne_of_lt (Nat.lt_of_lt_of_le fc9.lt P4_10)
  have ne_b8_b1_3_2_10 : b8 ≠ b1_3_2_10 := Nat.ne_of_lt (Nat.lt_of_lt_of_le A8.lt P4_10)
  have g_b1_3_2_10 : n0 ≤ b1_3_2_10 := Nat.le_trans (own_old O8) P4_10
  have sz_b1_3_2_10 : h0.size ≤ b1_3_2_10 := Nat.le_trans K8.1 P4_10
  have O10 := O8.keep Kc10 (allS g_b8 all0)
  have K10 : Keep h0 T10.heap [] := K8.trans Kc10 (allS (Or.inr sz_b8) all0)
  obtain ⟨fs, hr, hrun, hended, hW, hsame⟩ := X10.leave (v := (some (.ref b8))) (fun h => by rw [hrt] at h; cases h)
  refine ⟨_, _, ?_, hrun, hended, _, _, rfl, ?_, ⟨_, rfl⟩, hW, hsame.mono (by decide) (by decide)⟩
  · show Steps p.tables e below (s₁.setTop (mkF m 0 #[vi p0, vi p1, vi p2, vi p3, vi p4, uu] [])) _
    refine XS.iloadN X0.here hx rfl (hb hby d1_0) rfl ?_
    refine XS.ifYes X0.here hx rfl (pc0 := 1) (pc' := 24) rfl (hb hby d1_1) rfl ((if0 _ _).trans (feq hc0).2) (by decide) (by decide) ?_
    refine XS.iloadN X0.here hx rfl (hb hby d1_24) rfl ?_
    refine XS.iconst X0.here hx rfl (hb hby d1_25) ?_
    refine XS.icmpYes X0.here hx rfl (pc0 := 26) (pc' := 54) rfl (hb hby d1_26) rfl (feq hc1).2 (by decide) (by decide) ?_
    refine XS.iloadN X0.here hx rfl (hb hby d1_54) rfl ?_
    refine XS.iconst X0.here hx rfl (hb hby d1_55) ?_
    refine XS.icmpNo X0.here hx rfl (hb hby d1_56) rfl (teq hc2).2 ?_
    show Steps p.tables e below (s₁.setTop (mkF m 59 #[vi p0, vi p1, vi p2, vi p3, vi p4, uu] [])) _
    refine XS.iconst X0.here hx rfl (hb hby d1_59) ?_
    refine st1 _ ?_
    refine XS.astore X1.here hx rfl (hb hby d1_62) rfl rfl (l' := #[vi p0, vi p1, vi p2, vi p3, vi p4, va b1]) rfl ?_
    refine XS.aload X1.here hx rfl (hb hby d1_64) rfl rfl ?_
    refine XS.iconst X1.here hx rfl (hb hby d1_66) ?_
    refine XS.iloadN X1.here hx rfl (hb hby d1_67) rfl ?_
    refine st3 _ ?_
    refine XS.aload X3.here hx rfl (hb hby d1_69) rfl rfl ?_
    show Steps p.tables e below (T3.setTop (mkF m 71 #[vi p0, vi p1, vi p2, vi p3, vi p4, va b1] [(.ref b1)])) _
    refine XS.iconst X3.here hx rfl (hb hby d1_71) ?_
    refine XS.iloadN X3.here hx rfl (hb hby d1_72) rfl ?_
    refine st5 _ ?_
    refine XS.aload X5.here hx rfl (hb hby d1_74) rfl rfl ?_
    refine XS.iconst X5.here hx rfl (hb hby d1_76) ?_
    refine XS.iloadN X5.here hx rfl (hb hby d1_77) rfl ?_
    refine st7 _ ?_
    refine st8 _ ?_
    show Steps p.tables e below (T8.setTop (mkF m 82 #[vi p0, vi p1, vi p2, vi p3, vi p4, va b1] [(.ref b8)])) _
    refine XS.dup X8.here hx rfl (hb hby d1_82) rfl rfl ?_
    refine XS.aload X8.here hx rfl (hb hby d1_83) rfl rfl ?_
    refine st10.trans ?_
    exact retOut X10 hx (t := (.object sC0)) (i := .areturn) hrt rfl (Or.inr (Or.inr (Or.inr (Or.inr ⟨rfl, rfl, rfl⟩)))) (hb hby d1_88) hr
  · show Q1_6 Z z_COMPACT_STRINGS p0 p1 p2 p3 p4 h0 n0 (some (.ref b8)) T10.heap _
    exact (⟨b8, b1_3_2_10, k1_3_2_10, ce0_3_2_10, ce1_3_2_10, ce2_3_2_10, rfl, N10, K10, P0_10, P1_10, P2_10, P3_10, sz_b8, sz_b1_3_2_10, ne_b8_b1_3_2_10⟩)
def Q9_4 (Z : State) (z_COMPACT_STRINGS : Int32) (o0 : Addr) (o1 : Addr) (o2 : Addr) (kk_o1 : ClassId) (p0 : Int32) (p1 : Int32) (p2 : Int32) (h0 : Heap) (n0 : Nat) (v : Option Value) (h : Heap) (L : List Loc) : Prop := v = (some (.ref o0)) ∧ Fr n0 L ∧ h = h0
theorem rm9_4 (l : Launch) (Z : State) (a0 : Array Value) (hw : HW Z a0) (ws : List Jvm.Cond) (z_COMPACT_STRINGS : Int32) (o0 : Addr) (o1 : Addr) (o2 : Addr) (kk_o1 : ClassId) (p0 : Int32) (p1 : Int32) (p2 : Int32) (h0 : Heap) (n0 : Nat) (O0 : Old Z n0 h0) (S : SF Z z_COMPACT_STRINGS) :
    Pay l Z My9 ws jdk_31_method_11_code 2 (some (.object sC4)) #[(.ref o0), (.ref o2)] h0 ({ frames := 0, cells := 0, slots := 0, locals := 0 } : Room) (Q9_4 Z z_COMPACT_STRINGS o0 o1 o2 kk_o1 p0 p1 p2 h0 n0) := by
  refine own_body (plainFor_of_name pn_4) (L0 := #[va o0, va o2]) (fun _ => by first | rfl | (simp [entryFrame, mkF, argsToLocals, Value.category]; done)) ?_
  intro p e s m below meth c s₁ hrt hlk hx hby hml hZ hown0 hnm X0 e0
  have hown : s.vm.findClass sC5 = some m.cls := hown0
  have N0 := Fr.nil n0
  have K0 : Keep h0 h0 [] := Keep.refl _ _
  obtain ⟨fs, hr, hrun, hended, hW, hsame⟩ := X0.leave (v := (some (.ref o0))) (fun h => by rw [hrt] at h; cases h)
  refine ⟨_, _, ?_, hrun, hended, _, _, rfl, ?_, ⟨_, rfl⟩, hW, hsame.mono (by decide) (by decide)⟩
  · show Steps p.tables e below (s₁.setTop (mkF m 0 #[va o0, va o2] [])) _
    refine XS.aloadN X0.here hx rfl (hb hby d9_0) rfl rfl ?_
    refine XS.ifnonnullYes X0.here hx rfl (pc0 := 1) (pc' := 13) rfl (hb hby d9_1) rfl (by decide) (by decide) ?_
    refine XS.aloadN X0.here hx rfl (hb hby d9_13) rfl rfl ?_
    exact retOut X0 hx (t := (.object sC4)) (i := .areturn) hrt rfl (Or.inr (Or.inr (Or.inr (Or.inr ⟨rfl, rfl, rfl⟩)))) (hb hby d9_14) hr
  · show Q9_4 Z z_COMPACT_STRINGS o0 o1 o2 kk_o1 p0 p1 p2 h0 n0 (some (.ref o0)) s₁.heap _
    exact (⟨rfl, N0, e0⟩)
def Q10_4 (Z : State) (z_COMPACT_STRINGS : Int32) (o0 : Addr) (o1 : Addr) (kk_o1 : ClassId) (p0 : Int32) (p1 : Int32) (p2 : Int32) (h0 : Heap) (n0 : Nat) (v : Option Value) (h : Heap) (L : List Loc) : Prop := v = (some (.int 0)) ∧ Fr n0 L ∧ h = h0
theorem rm10_4 (l : Launch) (Z : State) (a0 : Array Value) (hw : HW Z a0) (ws : List Jvm.Cond) (z_COMPACT_STRINGS : Int32) (o0 : Addr) (o1 : Addr) (kk_o1 : ClassId) (p0 : Int32) (p1 : Int32) (p2 : Int32) (h0 : Heap) (n0 : Nat) (O0 : Old Z n0 h0) (S : SF Z z_COMPACT_STRINGS) (F_value_o0 : Fld Z h0 o0 sC0 "value" "[B" (.ref o1)) (V_o1 : Arv Z h0 o1 kk_o1 .byte (3 : Int32) [(.int p0), (.int p1), (.int p2)] (.int 0)) :
    Pay l Z My10 ws jdk_42_method_55_code 1 (some .boolean) #[(.ref o0)] h0 ({ frames := 0, cells := 0, slots := 0, locals := 0 } : Room) (Q10_4 Z z_COMPACT_STRINGS o0 o1 kk_o1 p0 p1 p2 h0 n0) := by
  refine own_body (plainFor_of_name pn_1) (L0 := #[va o0]) (fun _ => by first | rfl | (simp [entryFrame, mkF, argsToLocals, Value.category]; done)) ?_
  intro p e s m below meth c s₁ hrt hlk hx hby hml hZ hown0 hnm X0 e0
  have hown : s.vm.findClass sC0 = some m.cls := hown0
  have N0 := Fr.nil n0
  have K0 : Keep h0 h0 [] := Keep.refl _ _
  obtain ⟨T1, X1, e1, st1⟩ := getF X0 hx hZ hown (host := "") (Or.inl (ww hw 33 rfl)) Via.refl e0 F_value_o0 (g := (mkF m 1 #[va o0] [(.ref o0)])) rfl rfl (hb hby d10_1)
  obtain ⟨cl2, Ar2, qk2, Sz2, Ng2, Hh2, Gg2⟩ := id V_o1
  obtain ⟨fs, hr, hrun, hended, hW, hsame⟩ := X1.leave (v := (some (.int 0))) (fun h => by rw [hrt] at h; cases h)
  refine ⟨_, _, ?_, hrun, hended, _, _, rfl, ?_, ⟨_, rfl⟩, hW, hsame.mono (by decide) (by decide)⟩
  · show Steps p.tables e below (s₁.setTop (mkF m 0 #[va o0] [])) _
    refine XS.aloadN X0.here hx rfl (hb hby d10_0) rfl rfl ?_
    refine st1 _ ?_
    refine X1.arraylength hx (by rw [e1]; exact Ar2.1) (State.isArrayOf_alike hZ.alike Ar2.2.1) (g := (mkF m 4 #[va o0] [(.ref o1)])) rfl rfl (hb hby d10_4) _ ?_
    rw [len_of Sz2 Ng2]
    refine XS.ifYes X1.here hx rfl (pc0 := 5) (pc' := 12) rfl (hb hby d10_5) rfl ((if0 _ _).trans (feq (by decide : ¬ ((3 : Int32) = (0 : Int32)))).2) (by decide) (by decide) ?_
    refine XS.iconst X1.here hx rfl (hb hby d10_12) ?_
    exact retN X1 hx (t := .boolean) hrt (by simp) (hb hby d10_13) hr
  · show Q10_4 Z z_COMPACT_STRINGS o0 o1 kk_o1 p0 p1 p2 h0 n0 (some (.int 0)) T1.heap _
    exact (⟨rfl, N0, e1⟩)
def Q8_4 (Z : State) (z_COMPACT_STRINGS : Int32) (o0 : Addr) (o1 : Addr) (kk_o1 : ClassId) (p0 : Int32) (p1 : Int32) (p2 : Int32) (h0 : Heap) (n0 : Nat) (v : Option Value) (h : Heap) (L : List Loc) : Prop := v = (some (.ref o0)) ∧ Fr n0 L ∧ Keep h0 h []
theorem rm8_4 (l : Launch) (Z : State) (a0 : Array Value) (hw : HW Z a0) (ws : List Jvm.Cond) (z_COMPACT_STRINGS : Int32) (o0 : Addr) (o1 : Addr) (kk_o1 : ClassId) (p0 : Int32) (p1 : Int32) (p2 : Int32) (h0 : Heap) (n0 : Nat) (O0 : Old Z n0 h0) (S : SF Z z_COMPACT_STRINGS) (E_o0 : Exa Z h0 o0 sC0) (F_value_o0 : Fld Z h0 o0 sC0 "value" "[B" (.ref o1)) (V_o1 : Arv Z h0 o1 kk_o1 .byte (3 : Int32) [(.int p0), (.int p1), (.int p2)] (.int 0)) :
    PayW l Z My8 ws prog_14_method_7_code 1 (some (.object sC0)) #[(.ref o0)] h0 ({ frames := 1, cells := 2, slots := 60, locals := 13 } : Room) (Q8_4 Z z_COMPACT_STRINGS o0 o1 kk_o1 p0 p1 p2 h0 n0) := by
  refine own_body (plainFor_of_name pn_3) (L0 := #[va o0]) (fun _ => by first | rfl | (simp [entryFrame, mkF, argsToLocals, Value.category]; done)) ?_
  intro p e s m below meth c s₁ hrt hlk hx hby hml hZ hown0 hnm X0 e0
  have hown : s.vm.findClass sC2 = some m.cls := hown0
  have N0 := Fr.nil n0
  have K0 : Keep h0 h0 [] := Keep.refl _ _
  obtain ⟨a1, T1, h1, kk1, X1, e1, E1, hS1, hk1, hZ1, hown1, st1⟩ := ldcS (s := s) (vm0 := s.vm) X0 hx hZ hown (ww hw 39 rfl) (own_wS hw) e0 (k0 := 0) ((State.WarmedH.refl s).since 0) (Nat.zero_le _) (g := (mkF m 1 #[va o0] [(.ref o0)])) rfl (hb hby d8_1) (n := 56) (by decide +kernel) (by decide) (by decide) (by decide)
  have O1 := O0.ext E1
  have K1 : Keep h0 h1 [] := K0.ext E1
  obtain ⟨_, _, ⟨T2, L2, k2, n2⟩, -, X2, ⟨Lc2, hQ2, l2, y2, z2⟩, st2⟩ := Jvm.LawKit.callS X1 hx (y := My9) hown1 (mvT hZ1 (ww hw 42 rfl)) (mvT hZ1 (ww hw 43 rfl)) (mvT hZ1 (ww hw 44 rfl)) (mvT hZ1 (ww hw 45 rfl)) (by decide) (backOf (W := 0) (rm9_4 l Z a0 hw [] z_COMPACT_STRINGS o0 o1 a1 kk_o1 p0 p1 p2 h1 n0 O1 S) hZ1 (ww hw 45 rfl) (ww hw 44 rfl) (by decide) (by decide)) (g := (mkF m 3 #[va o0] [(.ref a1), (.ref o0)])) rfl (by rw [hml]; rfl) (argsL := [(.ref o0), (.ref a1)]) (rest := []) (lenOf pd_10 rfl) rfl (by show 2 * 0 + _ ≤ _; exact Nat.le_of_eq rfl) (hb hby d8_3) (fun _ _ => ⟨rfl, e1, (by decide : 2 + 0 ≤ _), (by decide : 60 + 0 ≤ _)⟩)
  dsimp only [Pt.U, Pt.locs, Pt.cells, Pt.slots] at X2 l2 y2 z2 st2 hQ2
  subst l2 y2 z2
  obtain ⟨rfl, Nq2, e2⟩ := hQ2
  have N2 := Fr.app N0 Nq2
  have fc3 := (F_value_o0.ext E1)
  have fc4 := (V_o1.ext E1)
  have fc6 := (E_o0.ext E1)
  obtain ⟨cq5, kq5, q5a, q5b, q5c⟩ := isOf hZ1 e2 fc6
  obtain ⟨_, _, ⟨T5, L5, k5, n5⟩, -, X5, ⟨Lc5, hQ5, l5, y5, z5⟩, st5⟩ := X2.virtualBack hx (y := My10) (z := My10) hown1 (mvT hZ1 (ww hw 46 rfl)) (mvT hZ1 (ww hw 47 rfl)) (notFace_of_selects (args := #[]) (mvT hZ1 (ww hw 49 rfl))) (mvT hZ1 (ww hw 49 rfl)) (mvT hZ1 (ww hw 48 rfl)) (by decide) (backOf (W := 0) (rm10_4 l Z a0 hw [] z_COMPACT_STRINGS o0 o1 kk_o1 p0 p1 p2 h1 n0 O1 S fc3 fc4) hZ1 (ww hw 50 rfl) (ww hw 8 rfl) (by decide) (by decide)) q5a q5c (g := (mkF m 8 #[va o0] [(.ref o0)])) rfl (by rw [hml]; rfl) (Steps.refl _) (argsL := []) (rest := []) (lenOf pd_11 rfl) rfl (by show 2 * 0 + _ ≤ _; exact Nat.le_of_eq rfl) (hb hby d8_8) (fun _ _ => ⟨rfl, e2, (by decide : 2 + 0 ≤ _), (by decide : 60 + 0 ≤ _)⟩)
  dsimp only [Pt.U, Pt.locs, Pt.cells, Pt.slots] at X5 l5 y5 z5 st5 hQ5
  subst l5 y5 z5
  obtain ⟨rfl, Nq5, e5⟩ := hQ5
  have N5 := Fr.app N2 Nq5
  obtain ⟨fs, hr, hrun, hended, hRE⟩ := X5.leaveW (s := s) hS1 (by rw [e5]; exact hk1) (v := (some (.ref o0))) (fun h => by rw [hrt] at h; cases h)
  refine ⟨_, _, ?_, hrun, hended, _, _, rfl, ?_, hRE.1, hRE.2.1, hRE.2.2.1, hRE.2.2.2.mono (by decide) (by decide)⟩
  · show Steps p.tables e below (s₁.setTop (mkF m 0 #[va o0] [])) _
    refine XS.aloadN X0.here hx rfl (hb hby d8_0) rfl rfl ?_
    refine st1 _ ?_
    refine st2 _ ?_
    refine XS.pop X2.here hx rfl (hb hby d8_6) rfl rfl ?_
    refine XS.aloadN X2.here hx rfl (hb hby d8_7) rfl rfl ?_
    refine st5.trans ?_
    refine XS.ifYes X5.here hx rfl (pc0 := 11) (pc' := 24) rfl (hb hby d8_11) rfl ((if0 _ _).trans (teq (by decide : (0 : Int32) = (0 : Int32))).1) (by decide) (by decide) ?_
    refine XS.aloadN X5.here hx rfl (hb hby d8_24) rfl rfl ?_
    show Steps p.tables e below (T5.setTop (mkF m 25 #[va o0] [(.ref o0)])) _
    exact retOut X5 hx (t := (.object sC0)) (i := .areturn) hrt rfl (Or.inr (Or.inr (Or.inr (Or.inr ⟨rfl, rfl, rfl⟩)))) (hb hby d8_25) hr
  · show Q8_4 Z z_COMPACT_STRINGS o0 o1 kk_o1 p0 p1 p2 h0 n0 (some (.ref o0)) T5.heap _
    rw [e5]; exact ⟨rfl, N5, K1⟩
def Q12_4 (Z : State) (z_COMPACT_STRINGS : Int32) (o0 : Addr) (o1 : Addr) (kk_o1 : ClassId) (p0 : Int32) (p1 : Int32) (p2 : Int32) (h0 : Heap) (n0 : Nat) (v : Option Value) (h : Heap) (L : List Loc) : Prop := v = (some (.int 0)) ∧ Fr n0 L ∧ h = h0
theorem rm12_4 (l : Launch) (Z : State) (a0 : Array Value) (hw : HW Z a0) (ws : List Jvm.Cond) (z_COMPACT_STRINGS : Int32) (o0 : Addr) (o1 : Addr) (kk_o1 : ClassId) (p0 : Int32) (p1 : Int32) (p2 : Int32) (h0 : Heap) (n0 : Nat) (O0 : Old Z n0 h0) (S : SF Z z_COMPACT_STRINGS) (F_coder_o0 : Fld Z h0 o0 sC0 "coder" "B" (.int 0)) :
    Pay l Z My12 ws jdk_42_method_152_code 1 (some .byte) #[(.ref o0)] h0 ({ frames := 0, cells := 0, slots := 0, locals := 0 } : Room) (Q12_4 Z z_COMPACT_STRINGS o0 o1 kk_o1 p0 p1 p2 h0 n0) := by
  obtain ⟨S_z_COMPACT_STRINGS, hz_z_COMPACT_STRINGS, -⟩ := id S
  refine own_body (plainFor_of_name pn_1) (L0 := #[va o0]) (fun _ => by first | rfl | (simp [entryFrame, mkF, argsToLocals, Value.category]; done)) ?_
  intro p e s m below meth c s₁ hrt hlk hx hby hml hZ hown0 hnm X0 e0
  have hown : s.vm.findClass sC0 = some m.cls := hown0
  have N0 := Fr.nil n0
  have K0 : Keep h0 h0 [] := Keep.refl _ _
  obtain ⟨T1, X1, e1, st1⟩ := getS2 X0 hx hZ hown (host := "") (Or.inl (ww hw 19 rfl)) Via.refl e0 (S_z_COMPACT_STRINGS.ext O0.2) (g := (mkF m 0 #[va o0] [])) rfl (hb hby d12_0)
  obtain ⟨T2, X2, e2, st2⟩ := getF X1 hx hZ hown (host := "") (Or.inl (ww hw 31 rfl)) Via.refl e1 F_coder_o0 (g := (mkF m 7 #[va o0] [(.ref o0)])) rfl rfl (hb hby d12_7)
  obtain ⟨fs, hr, hrun, hended, hW, hsame⟩ := X2.leave (v := (some (.int 0))) (fun h => by rw [hrt] at h; cases h)
  refine ⟨_, _, ?_, hrun, hended, _, _, rfl, ?_, ⟨_, rfl⟩, hW, hsame.mono (by decide) (by decide)⟩
  · show Steps p.tables e below (s₁.setTop (mkF m 0 #[va o0] [])) _
    refine st1 _ ?_
    refine XS.ifNo X1.here hx rfl (hb hby d12_3) rfl ((if0 _ _).trans (feq hz_z_COMPACT_STRINGS).1) ?_
    refine XS.aloadN X1.here hx rfl (hb hby d12_6) rfl rfl ?_
    refine st2 _ ?_
    refine XS.goto X2.here hx rfl (pc0 := 10) (pc' := 14) rfl (hb hby d12_10) (by decide) (by decide) ?_
    exact retN X2 hx (t := .byte) hrt (by simp) (hb hby d12_14) hr
  · show Q12_4 Z z_COMPACT_STRINGS o0 o1 kk_o1 p0 p1 p2 h0 n0 (some (.int 0)) T2.heap _
    exact (⟨rfl, N0, e2⟩)
def Q11_4 (Z : State) (z_COMPACT_STRINGS : Int32) (o0 : Addr) (o1 : Addr) (kk_o1 : ClassId) (p0 : Int32) (p1 : Int32) (p2 : Int32) (h0 : Heap) (n0 : Nat) (v : Option Value) (h : Heap) (L : List Loc) : Prop := v = (some (.int 3)) ∧ Fr n0 L ∧ h = h0
theorem rm11_4 (l : Launch) (Z : State) (a0 : Array Value) (hw : HW Z a0) (ws : List Jvm.Cond) (z_COMPACT_STRINGS : Int32) (o0 : Addr) (o1 : Addr) (kk_o1 : ClassId) (p0 : Int32) (p1 : Int32) (p2 : Int32) (h0 : Heap) (n0 : Nat) (O0 : Old Z n0 h0) (S : SF Z z_COMPACT_STRINGS) (E_o0 : Exa Z h0 o0 sC0) (F_coder_o0 : Fld Z h0 o0 sC0 "coder" "B" (.int 0)) (F_value_o0 : Fld Z h0 o0 sC0 "value" "[B" (.ref o1)) (V_o1 : Arv Z h0 o1 kk_o1 .byte (3 : Int32) [(.int p0), (.int p1), (.int p2)] (.int 0)) :
    Pay l Z My11 ws jdk_42_method_54_code 1 (some .int) #[(.ref o0)] h0 ({ frames := 1, cells := 0, slots := 0, locals := 13 } : Room) (Q11_4 Z z_COMPACT_STRINGS o0 o1 kk_o1 p0 p1 p2 h0 n0) := by
  refine own_body (plainFor_of_name pn_1) (L0 := #[va o0]) (fun _ => by first | rfl | (simp [entryFrame, mkF, argsToLocals, Value.category]; done)) ?_
  intro p e s m below meth c s₁ hrt hlk hx hby hml hZ hown0 hnm X0 e0
  have hown : s.vm.findClass sC0 = some m.cls := hown0
  have N0 := Fr.nil n0
  have K0 : Keep h0 h0 [] := Keep.refl _ _
  obtain ⟨T1, X1, e1, st1⟩ := getF X0 hx hZ hown (host := "") (Or.inl (ww hw 33 rfl)) Via.refl e0 F_value_o0 (g := (mkF m 1 #[va o0] [(.ref o0)])) rfl rfl (hb hby d11_1)
  obtain ⟨cl2, Ar2, qk2, Sz2, Ng2, Hh2, Gg2⟩ := id V_o1
  obtain ⟨cq3, kq3, q3a, q3b, q3c⟩ := isOf hZ e1 E_o0
  obtain ⟨_, _, ⟨T3, L3, k3, n3⟩, -, X3, ⟨Lc3, hQ3, l3, y3, z3⟩, st3⟩ := X1.virtualBack hx (y := My12) (z := My12) hown (mvT hZ (ww hw 56 rfl)) (mvT hZ (ww hw 57 rfl)) (notFace_of_selects (args := #[]) (mvT hZ (ww hw 59 rfl))) (mvT hZ (ww hw 59 rfl)) (mvT hZ (ww hw 58 rfl)) (by decide) (backOf (W := 1) (rm12_4 l Z a0 hw [] z_COMPACT_STRINGS o0 o1 kk_o1 p0 p1 p2 h0 n0 O0 S F_coder_o0) hZ (ww hw 60 rfl) (ww hw 8 rfl) (by decide) (by decide)) q3a q3c (g := (mkF m 6 #[va o0] [(.ref o0), (.int 3)])) rfl (by rw [hml]; rfl) (Steps.refl _) (argsL := []) (rest := [(.int 3)]) (lenOf pd_13 rfl) rfl (by show 2 * 0 + _ ≤ _; exact Nat.le_of_eq rfl) (hb hby d11_6) (fun _ _ => ⟨rfl, e1, (by decide : 0 + 0 ≤ _), (by decide : 0 + 0 ≤ _)⟩)
  dsimp only [Pt.U, Pt.locs, Pt.cells, Pt.slots] at X3 l3 y3 z3 st3 hQ3
  subst l3 y3 z3
  obtain ⟨rfl, Nq3, e3⟩ := hQ3
  have N3 := Fr.app N0 Nq3
  obtain ⟨fs, hr, hrun, hended, hW, hsame⟩ := X3.leave (v := (some (.int 3))) (fun h => by rw [hrt] at h; cases h)
  refine ⟨_, _, ?_, hrun, hended, _, _, rfl, ?_, ⟨_, rfl⟩, hW, hsame.mono (by decide) (by decide)⟩
  · show Steps p.tables e below (s₁.setTop (mkF m 0 #[va o0] [])) _
    refine XS.aloadN X0.here hx rfl (hb hby d11_0) rfl rfl ?_
    refine st1 _ ?_
    refine X1.arraylength hx (by rw [e1]; exact Ar2.1) (State.isArrayOf_alike hZ.alike Ar2.2.1) (g := (mkF m 4 #[va o0] [(.ref o1)])) rfl rfl (hb hby d11_4) _ ?_
    rw [len_of Sz2 Ng2]
    refine XS.aloadN X1.here hx rfl (hb hby d11_5) rfl rfl ?_
    refine st3.trans ?_
    refine XS.ishr X3.here hx rfl (hb hby d11_9) rfl ?_
    show Steps p.tables e below (T3.setTop (mkF m 10 #[va o0] [(.int ((3 : Int32) >>> ((0 : Int32) &&& 31)))])) _
    rw [show (((3 : Int32) >>> ((0 : Int32) &&& 31)) : Int32) = (3 : Int32) from by decide]
    exact retOut X3 hx (t := .int) (i := .ireturn) hrt rfl (Or.inl ⟨rfl, Or.inl rfl, _, rfl⟩) (hb hby d11_10) hr
  · show Q11_4 Z z_COMPACT_STRINGS o0 o1 kk_o1 p0 p1 p2 h0 n0 (some (.int 3)) T3.heap _
    exact (⟨rfl, N3, e3⟩)
theorem jn5 {p : Program} {l : Launch} {e : Env} {s : State} {m : MethodId} {below : List Frame} {meth : Method} {c : Code} {T0 : State} {locs : List Loc} {Z : State} {a0 : Array Value} {h0 : Heap} {n0 : Nat} (hx : p.tables.exec = Jvm.exec) (hZ : Z.Warmed39 s.vm) (hby : c.code = code) (hml : c.maxLocals = 7) (hown : s.vm.findClass sC3 = some m.cls) (hrt : meth.sig.returnType = ret) (hlk : meth.locks = false) (hw : HW Z a0) (z_COMPACT_STRINGS : Int32) (o0 : Addr) (o1 : Addr) (kk_o1 : ClassId) (p0 : Int32) (p1 : Int32) (p2 : Int32) (p3 : Int32) (p4 : Int32) (f0 : Int32) (f1 : Int32) (f2 : Int32) (f3 : Int32) (f4 : Int32) (o1_e0 : Int32) (o1_e1 : Int32) (o1_e2 : Int32) (X0 : Stand p l e room_1 s m #[(.int p0), (.int p1), (.int p2), (.int p3), (.int p4)] below meth c T0 locs 8 64) (e0 : T0.heap = h0) (N0 : Fr n0 locs) (O0 : Old Z n0 h0) (S : SF Z z_COMPACT_STRINGS) (E_o0 : Exa Z h0 o0 sC0) (F_coder_o0 : Fld Z h0 o0 sC0 "coder" "B" (.int 0)) (F_value_o0 : Fld Z h0 o0 sC0 "value" "[B" (.ref o1)) (V_o1 : Arv Z h0 o1 kk_o1 .byte (3 : Int32) [(.int o1_e0), (.int o1_e1), (.int o1_e2)] (.int 0)) :
    ∃ s₂ o, Steps p.tables e below (T0.setTop (mkF m 29 #[vi f0, vi f1, vi f2, vi f3, vi f4, va o0, uu] [])) s₂ ∧ s₂.status = .running ∧ Ended s₂ below o ∧ ∃ v L, o = .returned v ∧ Q0 n0 v s₂.heap L ∧ ReturnedEndW s o s₂ L room_1.cells room_1.slots := by
  have K0 : Keep h0 h0 [] := Keep.refl _ _
  obtain ⟨_, _, ⟨T1, L1, k1, n1⟩, -, X1, hS1, hge1, ⟨Lc1, hQ1, l1, y1, z1⟩, st1⟩ := callSS X0 hx (y := My8) hown (mvT hZ (ww hw 35 rfl)) (mvT hZ (ww hw 36 rfl)) (mvT hZ (ww hw 37 rfl)) (mvT hZ (ww hw 38 rfl)) (by decide) (backOfS (W := 0) (rm8_4 l Z a0 hw [] z_COMPACT_STRINGS o0 o1 kk_o1 o1_e0 o1_e1 o1_e2 h0 n0 O0 S E_o0 F_value_o0 V_o1) hZ (ww hw 38 rfl) (ww hw 37 rfl) (by decide) (by decide)) (g := (mkF m 31 #[vi f0, vi f1, vi f2, vi f3, vi f4, va o0, uu] [(.ref o0)])) rfl (by rw [hml]; rfl) (argsL := [(.ref o0)]) (rest := []) (lenOf pd_12 rfl) rfl (by show 2 * 0 + _ ≤ _; exact Nat.le_of_eq rfl) (hb hby at_31) (fun _ _ => ⟨rfl, e0, (by decide : 8 + 2 ≤ _), (by decide : 64 + 60 ≤ _)⟩)
  dsimp only [Pt.U, Pt.locs, Pt.cells, Pt.slots] at X1 l1 y1 z1 st1 hQ1 hS1 hge1
  subst l1 y1 z1
  have hZ1 : Z.Warmed39 (s.setVm T1.vm).vm := State.Warmed39.trans hZ hS1.1
  have hown1 : (s.setVm T1.vm).vm.findClass sC3 = some m.cls := by rw [show (s.setVm T1.vm).vm = T1.vm from rfl, hS1.1.alike.findClass]; exact hown
  obtain ⟨rfl, Nq1, Kc1⟩ := hQ1
  have N1 := Fr.app N0 Nq1
  have O1 := O0.keep Kc1 all0
  have K1 : Keep h0 T1.heap [] := K0.trans Kc1 all0
  have fc2 := (E_o0.keep Kc1)
  have fc3 := (F_coder_o0.keep Kc1 nin0)
  have fc4 := (F_value_o0.keep Kc1 nin0)
  have fc5 := (V_o1.keep Kc1 nin0)
  obtain ⟨cq6, kq6, q6a, q6b, q6c⟩ := isOf hZ1 rfl fc2
  obtain ⟨_, _, ⟨T6, L6, k6, n6⟩, -, X6, ⟨Lc6, hQ6, l6, y6, z6⟩, st6⟩ := X1.virtualBack hx (y := My11) (z := My11) hown1 (mvT hZ1 (ww hw 51 rfl)) (mvT hZ1 (ww hw 52 rfl)) (notFace_of_selects (args := #[]) (mvT hZ1 (ww hw 54 rfl))) (mvT hZ1 (ww hw 54 rfl)) (mvT hZ1 (ww hw 53 rfl)) (by decide) (backOf (W := 0) (rm11_4 l Z a0 hw [] z_COMPACT_STRINGS o0 o1 kk_o1 o1_e0 o1_e1 o1_e2 T1.heap n0 O1 S fc2 fc3 fc4 fc5) hZ1 (ww hw 55 rfl) (ww hw 8 rfl) (by decide) (by decide)) q6a q6c (g := (mkF m 45 #[vi f0, vi f1, vi f2, vi f3, vi f4, va o0, va o0] [(.ref o0)])) rfl (by rw [hml]; rfl) (Steps.refl _) (argsL := []) (rest := []) (lenOf pd_14 rfl) rfl (by show 2 * 0 + _ ≤ _; exact Nat.le_of_eq rfl) (hb hby at_45) (fun _ _ => ⟨rfl, rfl, (by decide : 10 + 0 ≤ _), (by decide : 124 + 0 ≤ _)⟩)
  dsimp only [Pt.U, Pt.locs, Pt.cells, Pt.slots] at X6 l6 y6 z6 st6 hQ6
  subst l6 y6 z6
  obtain ⟨rfl, Nq6, e6⟩ := hQ6
  have N6 := Fr.app N1 Nq6
  obtain ⟨cq7, kq7, q7a, q7b, q7c⟩ := isOf hZ1 e6 fc2
  obtain ⟨_, _, ⟨T7, L7, k7, n7⟩, -, X7, ⟨Lc7, hQ7, l7, y7, z7⟩, st7⟩ := X6.virtualBack hx (y := My11) (z := My11) hown1 (mvT hZ1 (ww hw 51 rfl)) (mvT hZ1 (ww hw 52 rfl)) (notFace_of_selects (args := #[]) (mvT hZ1 (ww hw 54 rfl))) (mvT hZ1 (ww hw 54 rfl)) (mvT hZ1 (ww hw 53 rfl)) (by decide) (backOf (W := 1) (rm11_4 l Z a0 hw [] z_COMPACT_STRINGS o0 o1 kk_o1 o1_e0 o1_e1 o1_e2 T1.heap n0 O1 S fc2 fc3 fc4 fc5) hZ1 (ww hw 55 rfl) (ww hw 8 rfl) (by decide) (by decide)) q7a q7c (g := (mkF m 50 #[vi f0, vi f1, vi f2, vi f3, vi f4, va o0, va o0] [(.ref o0), (.int 3)])) rfl (by rw [hml]; rfl) (Steps.refl _) (argsL := []) (rest := [(.int 3)]) (lenOf pd_14 rfl) rfl (by show 2 * 0 + _ ≤ _; exact Nat.le_of_eq rfl) (hb hby at_50) (fun _ _ => ⟨rfl, e6, (by decide : 10 + 0 ≤ _), (by decide : 124 + 0 ≤ _)⟩)
  dsimp only [Pt.U, Pt.locs, Pt.cells, Pt.slots] at X7 l7 y7 z7 st7 hQ7
  subst l7 y7 z7
  obtain ⟨rfl, Nq7, e7⟩ := hQ7
  have N7 := Fr.app N6 Nq7
  obtain ⟨fs, hr, hrun, hended, hRE⟩ := X7.leaveW (s := s) hS1 (by rw [e7]; exact (Nat.le_refl _)) (v := (some (.int 1))) (fun h => by rw [hrt] at h; cases h)
  refine ⟨_, _, ?_, hrun, hended, _, _, rfl, ?_, hRE.1, hRE.2.1, hRE.2.2.1, hRE.2.2.2.mono (by decide) (by decide)⟩
  · show Steps p.tables e below (T0.setTop (mkF m 29 #[vi f0, vi f1, vi f2, vi f3, vi f4, va o0, uu] [])) _
    refine XS.aload X0.here hx rfl (hb hby at_29) rfl rfl ?_
    refine st1.trans ?_
    refine XS.astore X1.here hx rfl (hb hby at_34) rfl rfl (l' := #[vi f0, vi f1, vi f2, vi f3, vi f4, va o0, va o0]) rfl ?_
    refine XS.aload X1.here hx rfl (hb hby at_36) rfl rfl ?_
    refine XS.aload X1.here hx rfl (hb hby at_38) rfl rfl ?_
    refine Jvm.RoadKit.acmp (g := (mkF m 40 #[vi f0, vi f1, vi f2, vi f3, vi f4, va o0, va o0] [(.ref o0), (.ref o0)])) X1 hx rfl rfl rfl (pc0 := 40) (pc' := 43) (same := true) rfl (hb hby at_40) rfl (decide_eq_true rfl) (by decide) (by decide) ?_
    refine XS.aload X1.here hx rfl (hb hby at_43) rfl rfl ?_
    refine st6.trans ?_
    show Steps p.tables e below (T6.setTop (mkF m 48 #[vi f0, vi f1, vi f2, vi f3, vi f4, va o0, va o0] [(.int 3)])) _
    refine XS.aload X6.here hx rfl (hb hby at_48) rfl rfl ?_
    refine st7.trans ?_
    refine XS.icmpNo X7.here hx rfl (hb hby at_53) rfl (teq (by decide : (3 : Int32) = (3 : Int32))).2 ?_
    refine XS.iconst X7.here hx rfl (hb hby at_56) ?_
    refine XS.goto X7.here hx rfl (pc0 := 57) (pc' := 61) rfl (hb hby at_57) (by decide) (by decide) ?_
    exact retN X7 hx (t := .boolean) hrt (by simp) (hb hby at_61) hr
  · show Q0 n0 (some (.int 1)) T7.heap _
    exact (⟨rfl, N7⟩)
def Q9_5 (Z : State) (z_COMPACT_STRINGS : Int32) (o0 : Addr) (o1 : Addr) (o2 : Addr) (kk_o1 : ClassId) (p0 : Int32) (p1 : Int32) (p2 : Int32) (p3 : Int32) (p4 : Int32) (p5 : Int32) (h0 : Heap) (n0 : Nat) (v : Option Value) (h : Heap) (L : List Loc) : Prop := v = (some (.ref o0)) ∧ Fr n0 L ∧ h = h0
theorem rm9_5 (l : Launch) (Z : State) (a0 : Array Value) (hw : HW Z a0) (ws : List Jvm.Cond) (z_COMPACT_STRINGS : Int32) (o0 : Addr) (o1 : Addr) (o2 : Addr) (kk_o1 : ClassId) (p0 : Int32) (p1 : Int32) (p2 : Int32) (p3 : Int32) (p4 : Int32) (p5 : Int32) (h0 : Heap) (n0 : Nat) (O0 : Old Z n0 h0) (S : SF Z z_COMPACT_STRINGS) :
    Pay l Z My9 ws jdk_31_method_11_code 2 (some (.object sC4)) #[(.ref o0), (.ref o2)] h0 ({ frames := 0, cells := 0, slots := 0, locals := 0 } : Room) (Q9_5 Z z_COMPACT_STRINGS o0 o1 o2 kk_o1 p0 p1 p2 p3 p4 p5 h0 n0) := by
  refine own_body (plainFor_of_name pn_4) (L0 := #[va o0, va o2]) (fun _ => by first | rfl | (simp [entryFrame, mkF, argsToLocals, Value.category]; done)) ?_
  intro p e s m below meth c s₁ hrt hlk hx hby hml hZ hown0 hnm X0 e0
  have hown : s.vm.findClass sC5 = some m.cls := hown0
  have N0 := Fr.nil n0
  have K0 : Keep h0 h0 [] := Keep.refl _ _
  obtain ⟨fs, hr, hrun, hended, hW, hsame⟩ := X0.leave (v := (some (.ref o0))) (fun h => by rw [hrt] at h; cases h)
  refine ⟨_, _, ?_, hrun, hended, _, _, rfl, ?_, ⟨_, rfl⟩, hW, hsame.mono (by decide) (by decide)⟩
  · show Steps p.tables e below (s₁.setTop (mkF m 0 #[va o0, va o2] [])) _
    refine XS.aloadN X0.here hx rfl (hb hby d9_0) rfl rfl ?_
    refine XS.ifnonnullYes X0.here hx rfl (pc0 := 1) (pc' := 13) rfl (hb hby d9_1) rfl (by decide) (by decide) ?_
    refine XS.aloadN X0.here hx rfl (hb hby d9_13) rfl rfl ?_
    exact retOut X0 hx (t := (.object sC4)) (i := .areturn) hrt rfl (Or.inr (Or.inr (Or.inr (Or.inr ⟨rfl, rfl, rfl⟩)))) (hb hby d9_14) hr
  · show Q9_5 Z z_COMPACT_STRINGS o0 o1 o2 kk_o1 p0 p1 p2 p3 p4 p5 h0 n0 (some (.ref o0)) s₁.heap _
    exact (⟨rfl, N0, e0⟩)
def Q10_5 (Z : State) (z_COMPACT_STRINGS : Int32) (o0 : Addr) (o1 : Addr) (kk_o1 : ClassId) (p0 : Int32) (p1 : Int32) (p2 : Int32) (p3 : Int32) (p4 : Int32) (p5 : Int32) (h0 : Heap) (n0 : Nat) (v : Option Value) (h : Heap) (L : List Loc) : Prop := v = (some (.int 0)) ∧ Fr n0 L ∧ h = h0
theorem rm10_5 (l : Launch) (Z : State) (a0 : Array Value) (hw : HW Z a0) (ws : List Jvm.Cond) (z_COMPACT_STRINGS : Int32) (o0 : Addr) (o1 : Addr) (kk_o1 : ClassId) (p0 : Int32) (p1 : Int32) (p2 : Int32) (p3 : Int32) (p4 : Int32) (p5 : Int32) (h0 : Heap) (n0 : Nat) (O0 : Old Z n0 h0) (S : SF Z z_COMPACT_STRINGS) (F_value_o0 : Fld Z h0 o0 sC0 "value" "[B" (.ref o1)) (V_o1 : Arv Z h0 o1 kk_o1 .byte (6 : Int32) [(.int p0), (.int p1), (.int p2), (.int p3), (.int p4), (.int p5)] (.int 0)) :
    Pay l Z My10 ws jdk_42_method_55_code 1 (some .boolean) #[(.ref o0)] h0 ({ frames := 0, cells := 0, slots := 0, locals := 0 } : Room) (Q10_5 Z z_COMPACT_STRINGS o0 o1 kk_o1 p0 p1 p2 p3 p4 p5 h0 n0) := by
  refine own_body (plainFor_of_name pn_1) (L0 := #[va o0]) (fun _ => by first | rfl | (simp [entryFrame, mkF, argsToLocals, Value.category]; done)) ?_
  intro p e s m below meth c s₁ hrt hlk hx hby hml hZ hown0 hnm X0 e0
  have hown : s.vm.findClass sC0 = some m.cls := hown0
  have N0 := Fr.nil n0
  have K0 : Keep h0 h0 [] := Keep.refl _ _
  obtain ⟨T1, X1, e1, st1⟩ := getF X0 hx hZ hown (host := "") (Or.inl (ww hw 33 rfl)) Via.refl e0 F_value_o0 (g := (mkF m 1 #[va o0] [(.ref o0)])) rfl rfl (hb hby d10_1)
  obtain ⟨cl2, Ar2, qk2, Sz2, Ng2, Hh2, Gg2⟩ := id V_o1
  obtain ⟨fs, hr, hrun, hended, hW, hsame⟩ := X1.leave (v := (some (.int 0))) (fun h => by rw [hrt] at h; cases h)
  refine ⟨_, _, ?_, hrun, hended, _, _, rfl, ?_, ⟨_, rfl⟩, hW, hsame.mono (by decide) (by decide)⟩
  · show Steps p.tables e below (s₁.setTop (mkF m 0 #[va o0] [])) _
    refine XS.aloadN X0.here hx rfl (hb hby d10_0) rfl rfl ?_
    refine st1 _ ?_
    refine X1.arraylength hx (by rw [e1]; exact Ar2.1) (State.isArrayOf_alike hZ.alike Ar2.2.1) (g := (mkF m 4 #[va o0] [(.ref o1)])) rfl rfl (hb hby d10_4) _ ?_
    rw [len_of Sz2 Ng2]
    refine XS.ifYes X1.here hx rfl (pc0 := 5) (pc' := 12) rfl (hb hby d10_5) rfl ((if0 _ _).trans (feq (by decide : ¬ ((6 : Int32) = (0 : Int32)))).2) (by decide) (by decide) ?_
    refine XS.iconst X1.here hx rfl (hb hby d10_12) ?_
    exact retN X1 hx (t := .boolean) hrt (by simp) (hb hby d10_13) hr
  · show Q10_5 Z z_COMPACT_STRINGS o0 o1 kk_o1 p0 p1 p2 p3 p4 p5 h0 n0 (some (.int 0)) T1.heap _
    exact (⟨rfl, N0, e1⟩)
def Q8_5 (Z : State) (z_COMPACT_STRINGS : Int32) (o0 : Addr) (o1 : Addr) (kk_o1 : ClassId) (p0 : Int32) (p1 : Int32) (p2 : Int32) (p3 : Int32) (p4 : Int32) (p5 : Int32) (h0 : Heap) (n0 : Nat) (v : Option Value) (h : Heap) (L : List Loc) : Prop := v = (some (.ref o0)) ∧ Fr n0 L ∧ Keep h0 h []
theorem rm8_5 (l : Launch) (Z : State) (a0 : Array Value) (hw : HW Z a0) (ws : List Jvm.Cond) (z_COMPACT_STRINGS : Int32) (o0 : Addr) (o1 : Addr) (kk_o1 : ClassId) (p0 : Int32) (p1 : Int32) (p2 : Int32) (p3 : Int32) (p4 : Int32) (p5 : Int32) (h0 : Heap) (n0 : Nat) (O0 : Old Z n0 h0) (S : SF Z z_COMPACT_STRINGS) (E_o0 : Exa Z h0 o0 sC0) (F_value_o0 : Fld Z h0 o0 sC0 "value" "[B" (.ref o1)) (V_o1 : Arv Z h0 o1 kk_o1 .byte (6 : Int32) [(.int p0), (.int p1), (.int p2), (.int p3), (.int p4), (.int p5)] (.int 0)) :
    PayW l Z My8 ws prog_14_method_7_code 1 (some (.object sC0)) #[(.ref o0)] h0 ({ frames := 1, cells := 2, slots := 60, locals := 13 } : Room) (Q8_5 Z z_COMPACT_STRINGS o0 o1 kk_o1 p0 p1 p2 p3 p4 p5 h0 n0) := by
  refine own_body (plainFor_of_name pn_3) (L0 := #[va o0]) (fun _ => by first | rfl | (simp [entryFrame, mkF, argsToLocals, Value.category]; done)) ?_
  intro p e s m below meth c s₁ hrt hlk hx hby hml hZ hown0 hnm X0 e0
  have hown : s.vm.findClass sC2 = some m.cls := hown0
  have N0 := Fr.nil n0
  have K0 : Keep h0 h0 [] := Keep.refl _ _
  obtain ⟨a1, T1, h1, kk1, X1, e1, E1, hS1, hk1, hZ1, hown1, st1⟩ := ldcS (s := s) (vm0 := s.vm) X0 hx hZ hown (ww hw 39 rfl) (own_wS hw) e0 (k0 := 0) ((State.WarmedH.refl s).since 0) (Nat.zero_le _) (g := (mkF m 1 #[va o0] [(.ref o0)])) rfl (hb hby d8_1) (n := 56) (by decide +kernel) (by decide) (by decide) (by decide)
  have O1 := O0.ext E1
  have K1 : Keep h0 h1 [] := K0.ext E1
  obtain ⟨_, _, ⟨T2, L2, k2, n2⟩, -, X2, ⟨Lc2, hQ2, l2, y2, z2⟩, st2⟩ := Jvm.LawKit.callS X1 hx (y := My9) hown1 (mvT hZ1 (ww hw 42 rfl)) (mvT hZ1 (ww hw 43 rfl)) (mvT hZ1 (ww hw 44 rfl)) (mvT hZ1 (ww hw 45 rfl)) (by decide) (backOf (W := 0) (rm9_5 l Z a0 hw [] z_COMPACT_STRINGS o0 o1 a1 kk_o1 p0 p1 p2 p3 p4 p5 h1 n0 O1 S) hZ1 (ww hw 45 rfl) (ww hw 44 rfl) (by decide) (by decide)) (g := (mkF m 3 #[va o0] [(.ref a1), (.ref o0)])) rfl (by rw [hml]; rfl) (argsL := [(.ref o0), (.ref a1)]) (rest := []) (lenOf pd_10 rfl) rfl (by show 2 * 0 + _ ≤ _; exact Nat.le_of_eq rfl) (hb hby d8_3) (fun _ _ => ⟨rfl, e1, (by decide : 2 + 0 ≤ _), (by decide : 60 + 0 ≤ _)⟩)
  dsimp only [Pt.U, Pt.locs, Pt.cells, Pt.slots] at X2 l2 y2 z2 st2 hQ2
  subst l2 y2 z2
  obtain ⟨rfl, Nq2, e2⟩ := hQ2
  have N2 := Fr.app N0 Nq2
  have fc3 := (F_value_o0.ext E1)
  have fc4 := (V_o1.ext E1)
  have fc6 := (E_o0.ext E1)
  obtain ⟨cq5, kq5, q5a, q5b, q5c⟩ := isOf hZ1 e2 fc6
  obtain ⟨_, _, ⟨T5, L5, k5, n5⟩, -, X5, ⟨Lc5, hQ5, l5, y5, z5⟩, st5⟩ := X2.virtualBack hx (y := My10) (z := My10) hown1 (mvT hZ1 (ww hw 46 rfl)) (mvT hZ1 (ww hw 47 rfl)) (notFace_of_selects (args := #[]) (mvT hZ1 (ww hw 49 rfl))) (mvT hZ1 (ww hw 49 rfl)) (mvT hZ1 (ww hw 48 rfl)) (by decide) (backOf (W := 0) (rm10_5 l Z a0 hw [] z_COMPACT_STRINGS o0 o1 kk_o1 p0 p1 p2 p3 p4 p5 h1 n0 O1 S fc3 fc4) hZ1 (ww hw 50 rfl) (ww hw 8 rfl) (by decide) (by decide)) q5a q5c (g := (mkF m 8 #[va o0] [(.ref o0)])) rfl (by rw [hml]; rfl) (Steps.refl _) (argsL := []) (rest := []) (lenOf pd_11 rfl) rfl (by show 2 * 0 + _ ≤ _; exact Nat.le_of_eq rfl) (hb hby d8_8) (fun _ _ => ⟨rfl, e2, (by decide : 2 + 0 ≤ _), (by decide : 60 + 0 ≤ _)⟩)
  dsimp only [Pt.U, Pt.locs, Pt.cells, Pt.slots] at X5 l5 y5 z5 st5 hQ5
  subst l5 y5 z5
  obtain ⟨rfl, Nq5, e5⟩ := hQ5
  have N5 := Fr.app N2 Nq5
  obtain ⟨fs, hr, hrun, hended, hRE⟩ := X5.leaveW (s := s) hS1 (by rw [e5]; exact hk1) (v := (some (.ref o0))) (fun h => by rw [hrt] at h; cases h)
  refine ⟨_, _, ?_, hrun, hended, _, _, rfl, ?_, hRE.1, hRE.2.1, hRE.2.2.1, hRE.2.2.2.mono (by decide) (by decide)⟩
  · show Steps p.tables e below (s₁.setTop (mkF m 0 #[va o0] [])) _
    refine XS.aloadN X0.here hx rfl (hb hby d8_0) rfl rfl ?_
    refine st1 _ ?_
    refine st2 _ ?_
    refine XS.pop X2.here hx rfl (hb hby d8_6) rfl rfl ?_
    refine XS.aloadN X2.here hx rfl (hb hby d8_7) rfl rfl ?_
    refine st5.trans ?_
    refine XS.ifYes X5.here hx rfl (pc0 := 11) (pc' := 24) rfl (hb hby d8_11) rfl ((if0 _ _).trans (teq (by decide : (0 : Int32) = (0 : Int32))).1) (by decide) (by decide) ?_
    refine XS.aloadN X5.here hx rfl (hb hby d8_24) rfl rfl ?_
    show Steps p.tables e below (T5.setTop (mkF m 25 #[va o0] [(.ref o0)])) _
    exact retOut X5 hx (t := (.object sC0)) (i := .areturn) hrt rfl (Or.inr (Or.inr (Or.inr (Or.inr ⟨rfl, rfl, rfl⟩)))) (hb hby d8_25) hr
  · show Q8_5 Z z_COMPACT_STRINGS o0 o1 kk_o1 p0 p1 p2 p3 p4 p5 h0 n0 (some (.ref o0)) T5.heap _
    rw [e5]; exact ⟨rfl, N5, K1⟩
def Q12_5 (Z : State) (z_COMPACT_STRINGS : Int32) (o0 : Addr) (o1 : Addr) (kk_o1 : ClassId) (p0 : Int32) (p1 : Int32) (p2 : Int32) (p3 : Int32) (p4 : Int32) (p5 : Int32) (h0 : Heap) (n0 : Nat) (v : Option Value) (h : Heap) (L : List Loc) : Prop := v = (some (.int 1)) ∧ Fr n0 L ∧ h = h0
theorem rm12_5 (l : Launch) (Z : State) (a0 : Array Value) (hw : HW Z a0) (ws : List Jvm.Cond) (z_COMPACT_STRINGS : Int32) (o0 : Addr) (o1 : Addr) (kk_o1 : ClassId) (p0 : Int32) (p1 : Int32) (p2 : Int32) (p3 : Int32) (p4 : Int32) (p5 : Int32) (h0 : Heap) (n0 : Nat) (O0 : Old Z n0 h0) (S : SF Z z_COMPACT_STRINGS) (F_coder_o0 : Fld Z h0 o0 sC0 "coder" "B" (.int 1)) :
    Pay l Z My12 ws jdk_42_method_152_code 1 (some .byte) #[(.ref o0)] h0 ({ frames := 0, cells := 0, slots := 0, locals := 0 } : Room) (Q12_5 Z z_COMPACT_STRINGS o0 o1 kk_o1 p0 p1 p2 p3 p4 p5 h0 n0) := by
  obtain ⟨S_z_COMPACT_STRINGS, hz_z_COMPACT_STRINGS, -⟩ := id S
  refine own_body (plainFor_of_name pn_1) (L0 := #[va o0]) (fun _ => by first | rfl | (simp [entryFrame, mkF, argsToLocals, Value.category]; done)) ?_
  intro p e s m below meth c s₁ hrt hlk hx hby hml hZ hown0 hnm X0 e0
  have hown : s.vm.findClass sC0 = some m.cls := hown0
  have N0 := Fr.nil n0
  have K0 : Keep h0 h0 [] := Keep.refl _ _
  obtain ⟨T1, X1, e1, st1⟩ := getS2 X0 hx hZ hown (host := "") (Or.inl (ww hw 19 rfl)) Via.refl e0 (S_z_COMPACT_STRINGS.ext O0.2) (g := (mkF m 0 #[va o0] [])) rfl (hb hby d12_0)
  obtain ⟨T2, X2, e2, st2⟩ := getF X1 hx hZ hown (host := "") (Or.inl (ww hw 31 rfl)) Via.refl e1 F_coder_o0 (g := (mkF m 7 #[va o0] [(.ref o0)])) rfl rfl (hb hby d12_7)
  obtain ⟨fs, hr, hrun, hended, hW, hsame⟩ := X2.leave (v := (some (.int 1))) (fun h => by rw [hrt] at h; cases h)
  refine ⟨_, _, ?_, hrun, hended, _, _, rfl, ?_, ⟨_, rfl⟩, hW, hsame.mono (by decide) (by decide)⟩
  · show Steps p.tables e below (s₁.setTop (mkF m 0 #[va o0] [])) _
    refine st1 _ ?_
    refine XS.ifNo X1.here hx rfl (hb hby d12_3) rfl ((if0 _ _).trans (feq hz_z_COMPACT_STRINGS).1) ?_
    refine XS.aloadN X1.here hx rfl (hb hby d12_6) rfl rfl ?_
    refine st2 _ ?_
    refine XS.goto X2.here hx rfl (pc0 := 10) (pc' := 14) rfl (hb hby d12_10) (by decide) (by decide) ?_
    exact retN X2 hx (t := .byte) hrt (by simp) (hb hby d12_14) hr
  · show Q12_5 Z z_COMPACT_STRINGS o0 o1 kk_o1 p0 p1 p2 p3 p4 p5 h0 n0 (some (.int 1)) T2.heap _
    exact (⟨rfl, N0, e2⟩)
def Q11_5 (Z : State) (z_COMPACT_STRINGS : Int32) (o0 : Addr) (o1 : Addr) (kk_o1 : ClassId) (p0 : Int32) (p1 : Int32) (p2 : Int32) (p3 : Int32) (p4 : Int32) (p5 : Int32) (h0 : Heap) (n0 : Nat) (v : Option Value) (h : Heap) (L : List Loc) : Prop := v = (some (.int 3)) ∧ Fr n0 L ∧ h = h0
theorem rm11_5 (l : Launch) (Z : State) (a0 : Array Value) (hw : HW Z a0) (ws : List Jvm.Cond) (z_COMPACT_STRINGS : Int32) (o0 : Addr) (o1 : Addr) (kk_o1 : ClassId) (p0 : Int32) (p1 : Int32) (p2 : Int32) (p3 : Int32) (p4 : Int32) (p5 : Int32) (h0 : Heap) (n0 : Nat) (O0 : Old Z n0 h0) (S : SF Z z_COMPACT_STRINGS) (E_o0 : Exa Z h0 o0 sC0) (F_coder_o0 : Fld Z h0 o0 sC0 "coder" "B" (.int 1)) (F_value_o0 : Fld Z h0 o0 sC0 "value" "[B" (.ref o1)) (V_o1 : Arv Z h0 o1 kk_o1 .byte (6 : Int32) [(.int p0), (.int p1), (.int p2), (.int p3), (.int p4), (.int p5)] (.int 0)) :
    Pay l Z My11 ws jdk_42_method_54_code 1 (some .int) #[(.ref o0)] h0 ({ frames := 1, cells := 0, slots := 0, locals := 13 } : Room) (Q11_5 Z z_COMPACT_STRINGS o0 o1 kk_o1 p0 p1 p2 p3 p4 p5 h0 n0) := by
  refine own_body (plainFor_of_name pn_1) (L0 := #[va o0]) (fun _ => by first | rfl | (simp [entryFrame, mkF, argsToLocals, Value.category]; done)) ?_
  intro p e s m below meth c s₁ hrt hlk hx hby hml hZ hown0 hnm X0 e0
  have hown : s.vm.findClass sC0 = some m.cls := hown0
  have N0 := Fr.nil n0
  have K0 : Keep h0 h0 [] := Keep.refl _ _
  obtain ⟨T1, X1, e1, st1⟩ := getF X0 hx hZ hown (host := "") (Or.inl (ww hw 33 rfl)) Via.refl e0 F_value_o0 (g := (mkF m 1 #[va o0] [(.ref o0)])) rfl rfl (hb hby d11_1)
  obtain ⟨cl2, Ar2, qk2, Sz2, Ng2, Hh2, Gg2⟩ := id V_o1
  obtain ⟨cq3, kq3, q3a, q3b, q3c⟩ := isOf hZ e1 E_o0
  obtain ⟨_, _, ⟨T3, L3, k3, n3⟩, -, X3, ⟨Lc3, hQ3, l3, y3, z3⟩, st3⟩ := X1.virtualBack hx (y := My12) (z := My12) hown (mvT hZ (ww hw 56 rfl)) (mvT hZ (ww hw 57 rfl)) (notFace_of_selects (args := #[]) (mvT hZ (ww hw 59 rfl))) (mvT hZ (ww hw 59 rfl)) (mvT hZ (ww hw 58 rfl)) (by decide) (backOf (W := 1) (rm12_5 l Z a0 hw [] z_COMPACT_STRINGS o0 o1 kk_o1 p0 p1 p2 p3 p4 p5 h0 n0 O0 S F_coder_o0) hZ (ww hw 60 rfl) (ww hw 8 rfl) (by decide) (by decide)) q3a q3c (g := (mkF m 6 #[va o0] [(.ref o0), (.int 6)])) rfl (by rw [hml]; rfl) (Steps.refl _) (argsL := []) (rest := [(.int 6)]) (lenOf pd_13 rfl) rfl (by show 2 * 0 + _ ≤ _; exact Nat.le_of_eq rfl) (hb hby d11_6) (fun _ _ => ⟨rfl, e1, (by decide : 0 + 0 ≤ _), (by decide : 0 + 0 ≤ _)⟩)
  dsimp only [Pt.U, Pt.locs, Pt.cells, Pt.slots] at X3 l3 y3 z3 st3 hQ3
  subst l3 y3 z3
  obtain ⟨rfl, Nq3, e3⟩ := hQ3
  have N3 := Fr.app N0 Nq3
  obtain ⟨fs, hr, hrun, hended, hW, hsame⟩ := X3.leave (v := (some (.int 3))) (fun h => by rw [hrt] at h; cases h)
  refine ⟨_, _, ?_, hrun, hended, _, _, rfl, ?_, ⟨_, rfl⟩, hW, hsame.mono (by decide) (by decide)⟩
  · show Steps p.tables e below (s₁.setTop (mkF m 0 #[va o0] [])) _
    refine XS.aloadN X0.here hx rfl (hb hby d11_0) rfl rfl ?_
    refine st1 _ ?_
    refine X1.arraylength hx (by rw [e1]; exact Ar2.1) (State.isArrayOf_alike hZ.alike Ar2.2.1) (g := (mkF m 4 #[va o0] [(.ref o1)])) rfl rfl (hb hby d11_4) _ ?_
    rw [len_of Sz2 Ng2]
    refine XS.aloadN X1.here hx rfl (hb hby d11_5) rfl rfl ?_
    refine st3.trans ?_
    refine XS.ishr X3.here hx rfl (hb hby d11_9) rfl ?_
    show Steps p.tables e below (T3.setTop (mkF m 10 #[va o0] [(.int ((6 : Int32) >>> ((1 : Int32) &&& 31)))])) _
    rw [show (((6 : Int32) >>> ((1 : Int32) &&& 31)) : Int32) = (3 : Int32) from by decide]
    exact retOut X3 hx (t := .int) (i := .ireturn) hrt rfl (Or.inl ⟨rfl, Or.inl rfl, _, rfl⟩) (hb hby d11_10) hr
  · show Q11_5 Z z_COMPACT_STRINGS o0 o1 kk_o1 p0 p1 p2 p3 p4 p5 h0 n0 (some (.int 3)) T3.heap _
    exact (⟨rfl, N3, e3⟩)
theorem jn6 {p : Program} {l : Launch} {e : Env} {s : State} {m : MethodId} {below : List Frame} {meth : Method} {c : Code} {T0 : State} {locs : List Loc} {Z : State} {a0 : Array Value} {h0 : Heap} {n0 : Nat} (hx : p.tables.exec = Jvm.exec) (hZ : Z.Warmed39 s.vm) (hby : c.code = code) (hml : c.maxLocals = 7) (hown : s.vm.findClass sC3 = some m.cls) (hrt : meth.sig.returnType = ret) (hlk : meth.locks = false) (hw : HW Z a0) (z_COMPACT_STRINGS : Int32) (o0 : Addr) (o1 : Addr) (kk_o1 : ClassId) (p0 : Int32) (p1 : Int32) (p2 : Int32) (p3 : Int32) (p4 : Int32) (f0 : Int32) (f1 : Int32) (f2 : Int32) (f3 : Int32) (f4 : Int32) (o1_e0 : Int32) (o1_e1 : Int32) (o1_e2 : Int32) (o1_e3 : Int32) (o1_e4 : Int32) (o1_e5 : Int32) (X0 : Stand p l e room_1 s m #[(.int p0), (.int p1), (.int p2), (.int p3), (.int p4)] below meth c T0 locs 8 64) (e0 : T0.heap = h0) (N0 : Fr n0 locs) (O0 : Old Z n0 h0) (S : SF Z z_COMPACT_STRINGS) (E_o0 : Exa Z h0 o0 sC0) (F_coder_o0 : Fld Z h0 o0 sC0 "coder" "B" (.int 1)) (F_value_o0 : Fld Z h0 o0 sC0 "value" "[B" (.ref o1)) (V_o1 : Arv Z h0 o1 kk_o1 .byte (6 : Int32) [(.int o1_e0), (.int o1_e1), (.int o1_e2), (.int o1_e3), (.int o1_e4), (.int o1_e5)] (.int 0)) :
    ∃ s₂ o, Steps p.tables e below (T0.setTop (mkF m 29 #[vi f0, vi f1, vi f2, vi f3, vi f4, va o0, uu] [])) s₂ ∧ s₂.status = .running ∧ Ended s₂ below o ∧ ∃ v L, o = .returned v ∧ Q0 n0 v s₂.heap L ∧ ReturnedEndW s o s₂ L room_1.cells room_1.slots := by
  have K0 : Keep h0 h0 [] := Keep.refl _ _
  obtain ⟨_, _, ⟨T1, L1, k1, n1⟩, -, X1, hS1, hge1, ⟨Lc1, hQ1, l1, y1, z1⟩, st1⟩ := callSS X0 hx (y := My8) hown (mvT hZ (ww hw 35 rfl)) (mvT hZ (ww hw 36 rfl)) (mvT hZ (ww hw 37 rfl)) (mvT hZ (ww hw 38 rfl)) (by decide) (backOfS (W := 0) (rm8_5 l Z a0 hw [] z_COMPACT_STRINGS o0 o1 kk_o1 o1_e0 o1_e1 o1_e2 o1_e3 o1_e4 o1_e5 h0 n0 O0 S E_o0 F_value_o0 V_o1) hZ (ww hw 38 rfl) (ww hw 37 rfl) (by decide) (by decide)) (g := (mkF m 31 #[vi f0, vi f1, vi f2, vi f3, vi f4, va o0, uu] [(.ref o0)])) rfl (by rw [hml]; rfl) (argsL := [(.ref o0)]) (rest := []) (lenOf pd_12 rfl) rfl (by show 2 * 0 + _ ≤ _; exact Nat.le_of_eq rfl) (hb hby at_31) (fun _ _ => ⟨rfl, e0, (by decide : 8 + 2 ≤ _), (by decide : 64 + 60 ≤ _)⟩)
  dsimp only [Pt.U, Pt.locs, Pt.cells, Pt.slots] at X1 l1 y1 z1 st1 hQ1 hS1 hge1
  subst l1 y1 z1
  have hZ1 : Z.Warmed39 (s.setVm T1.vm).vm := State.Warmed39.trans hZ hS1.1
  have hown1 : (s.setVm T1.vm).vm.findClass sC3 = some m.cls := by rw [show (s.setVm T1.vm).vm = T1.vm from rfl, hS1.1.alike.findClass]; exact hown
  obtain ⟨rfl, Nq1, Kc1⟩ := hQ1
  have N1 := Fr.app N0 Nq1
  have O1 := O0.keep Kc1 all0
  have K1 : Keep h0 T1.heap [] := K0.trans Kc1 all0
  have fc2 := (E_o0.keep Kc1)
  have fc3 := (F_coder_o0.keep Kc1 nin0)
  have fc4 := (F_value_o0.keep Kc1 nin0)
  have fc5 := (V_o1.keep Kc1 nin0)
  obtain ⟨cq6, kq6, q6a, q6b, q6c⟩ := isOf hZ1 rfl fc2
  obtain ⟨_, _, ⟨T6, L6, k6, n6⟩, -, X6, ⟨Lc6, hQ6, l6, y6, z6⟩, st6⟩ := X1.virtualBack hx (y := My11) (z := My11) hown1 (mvT hZ1 (ww hw 51 rfl)) (mvT hZ1 (ww hw 52 rfl)) (notFace_of_selects (args := #[]) (mvT hZ1 (ww hw 54 rfl))) (mvT hZ1 (ww hw 54 rfl)) (mvT hZ1 (ww hw 53 rfl)) (by decide) (backOf (W := 0) (rm11_5 l Z a0 hw [] z_COMPACT_STRINGS o0 o1 kk_o1 o1_e0 o1_e1 o1_e2 o1_e3 o1_e4 o1_e5 T1.heap n0 O1 S fc2 fc3 fc4 fc5) hZ1 (ww hw 55 rfl) (ww hw 8 rfl) (by decide) (by decide)) q6a q6c (g := (mkF m 45 #[vi f0, vi f1, vi f2, vi f3, vi f4, va o0, va o0] [(.ref o0)])) rfl (by rw [hml]; rfl) (Steps.refl _) (argsL := []) (rest := []) (lenOf pd_14 rfl) rfl (by show 2 * 0 + _ ≤ _; exact Nat.le_of_eq rfl) (hb hby at_45) (fun _ _ => ⟨rfl, rfl, (by decide : 10 + 0 ≤ _), (by decide : 124 + 0 ≤ _)⟩)
  dsimp only [Pt.U, Pt.locs, Pt.cells, Pt.slots] at X6 l6 y6 z6 st6 hQ6
  subst l6 y6 z6
  obtain ⟨rfl, Nq6, e6⟩ := hQ6
  have N6 := Fr.app N1 Nq6
  obtain ⟨cq7, kq7, q7a, q7b, q7c⟩ := isOf hZ1 e6 fc2
  obtain ⟨_, _, ⟨T7, L7, k7, n7⟩, -, X7, ⟨Lc7, hQ7, l7, y7, z7⟩, st7⟩ := X6.virtualBack hx (y := My11) (z := My11) hown1 (mvT hZ1 (ww hw 51 rfl)) (mvT hZ1 (ww hw 52 rfl)) (notFace_of_selects (args := #[]) (mvT hZ1 (ww hw 54 rfl))) (mvT hZ1 (ww hw 54 rfl)) (mvT hZ1 (ww hw 53 rfl)) (by decide) (backOf (W := 1) (rm11_5 l Z a0 hw [] z_COMPACT_STRINGS o0 o1 kk_o1 o1_e0 o1_e1 o1_e2 o1_e3 o1_e4 o1_e5 T1.heap n0 O1 S fc2 fc3 fc4 fc5) hZ1 (ww hw 55 rfl) (ww hw 8 rfl) (by decide) (by decide)) q7a q7c (g := (mkF m 50 #[vi f0, vi f1, vi f2, vi f3, vi f4, va o0, va o0] [(.ref o0), (.int 3)])) rfl (by rw [hml]; rfl) (Steps.refl _) (argsL := []) (rest := [(.int 3)]) (lenOf pd_14 rfl) rfl (by show 2 * 0 + _ ≤ _; exact Nat.le_of_eq rfl) (hb hby at_50) (fun _ _ => ⟨rfl, e6, (by decide : 10 + 0 ≤ _), (by decide : 124 + 0 ≤ _)⟩)
  dsimp only [Pt.U, Pt.locs, Pt.cells, Pt.slots] at X7 l7 y7 z7 st7 hQ7
  subst l7 y7 z7
  obtain ⟨rfl, Nq7, e7⟩ := hQ7
  have N7 := Fr.app N6 Nq7
  obtain ⟨fs, hr, hrun, hended, hRE⟩ := X7.leaveW (s := s) hS1 (by rw [e7]; exact (Nat.le_refl _)) (v := (some (.int 1))) (fun h => by rw [hrt] at h; cases h)
  refine ⟨_, _, ?_, hrun, hended, _, _, rfl, ?_, hRE.1, hRE.2.1, hRE.2.2.1, hRE.2.2.2.mono (by decide) (by decide)⟩
  · show Steps p.tables e below (T0.setTop (mkF m 29 #[vi f0, vi f1, vi f2, vi f3, vi f4, va o0, uu] [])) _
    refine XS.aload X0.here hx rfl (hb hby at_29) rfl rfl ?_
    refine st1.trans ?_
    refine XS.astore X1.here hx rfl (hb hby at_34) rfl rfl (l' := #[vi f0, vi f1, vi f2, vi f3, vi f4, va o0, va o0]) rfl ?_
    refine XS.aload X1.here hx rfl (hb hby at_36) rfl rfl ?_
    refine XS.aload X1.here hx rfl (hb hby at_38) rfl rfl ?_
    refine Jvm.RoadKit.acmp (g := (mkF m 40 #[vi f0, vi f1, vi f2, vi f3, vi f4, va o0, va o0] [(.ref o0), (.ref o0)])) X1 hx rfl rfl rfl (pc0 := 40) (pc' := 43) (same := true) rfl (hb hby at_40) rfl (decide_eq_true rfl) (by decide) (by decide) ?_
    refine XS.aload X1.here hx rfl (hb hby at_43) rfl rfl ?_
    refine st6.trans ?_
    show Steps p.tables e below (T6.setTop (mkF m 48 #[vi f0, vi f1, vi f2, vi f3, vi f4, va o0, va o0] [(.int 3)])) _
    refine XS.aload X6.here hx rfl (hb hby at_48) rfl rfl ?_
    refine st7.trans ?_
    refine XS.icmpNo X7.here hx rfl (hb hby at_53) rfl (teq (by decide : (3 : Int32) = (3 : Int32))).2 ?_
    refine XS.iconst X7.here hx rfl (hb hby at_56) ?_
    refine XS.goto X7.here hx rfl (pc0 := 57) (pc' := 61) rfl (hb hby at_57) (by decide) (by decide) ?_
    exact retN X7 hx (t := .boolean) hrt (by simp) (hb hby at_61) hr
  · show Q0 n0 (some (.int 1)) T7.heap _
    exact (⟨rfl, N7⟩)
def Q7_7 (Z : State) (z_COMPACT_STRINGS : Int32) (o0 : Addr) (kk_o0 : ClassId) (p0 : Int32) (p1 : Int32) (p2 : Int32) (p3 : Int32) (h0 : Heap) (n0 : Nat) (v : Option Value) (h : Heap) (L : List Loc) : Prop := v = (some (.int 0)) ∧ Fr n0 L ∧ h = h0
theorem rm7_7 (l : Launch) (Z : State) (a0 : Array Value) (hw : HW Z a0) (ws : List Jvm.Cond) (z_COMPACT_STRINGS : Int32) (o0 : Addr) (kk_o0 : ClassId) (p0 : Int32) (p1 : Int32) (p2 : Int32) (p3 : Int32) (h0 : Heap) (n0 : Nat) (O0 : Old Z n0 h0) (S : SF Z z_COMPACT_STRINGS) (V_o0 : Arv Z h0 o0 kk_o0 .byte (4 : Int32) [(.int p0), (.int p1), (.int p2), (.int p3)] (.int 0)) :
    Pay l Z My7 ws jdk_52_method_15_code 2 (some .byte) #[(.ref o0), (.int 4)] h0 ({ frames := 0, cells := 0, slots := 0, locals := 0 } : Room) (Q7_7 Z z_COMPACT_STRINGS o0 kk_o0 p0 p1 p2 p3 h0 n0) := by
  refine own_body (plainFor_of_name pn_2) (L0 := #[va o0, vi 4]) (fun _ => by first | rfl | (simp [entryFrame, mkF, argsToLocals, Value.category]; done)) ?_
  intro p e s m below meth c s₁ hrt hlk hx hby hml hZ hown0 hnm X0 e0
  have hown : s.vm.findClass sC1 = some m.cls := hown0
  have N0 := Fr.nil n0
  have K0 : Keep h0 h0 [] := Keep.refl _ _
  obtain ⟨cl1, Ar1, qk1, Sz1, Ng1, Hh1, Gg1⟩ := id V_o0
  obtain ⟨fs, hr, hrun, hended, hW, hsame⟩ := X0.leave (v := (some (.int 0))) (fun h => by rw [hrt] at h; cases h)
  refine ⟨_, _, ?_, hrun, hended, _, _, rfl, ?_, ⟨_, rfl⟩, hW, hsame.mono (by decide) (by decide)⟩
  · show Steps p.tables e below (s₁.setTop (mkF m 0 #[va o0, vi 4] [])) _
    refine XS.iloadN X0.here hx rfl (hb hby d7_0) rfl ?_
    refine XS.aloadN X0.here hx rfl (hb hby d7_1) rfl rfl ?_
    refine X0.arraylength hx (by rw [e0]; exact Ar1.1) (State.isArrayOf_alike hZ.alike Ar1.2.1) (g := (mkF m 2 #[va o0, vi 4] [(.ref o0), (.int 4)])) rfl rfl (hb hby d7_2) _ ?_
    rw [len_of Sz1 Ng1]
    refine XS.isub X0.here hx rfl (hb hby d7_3) rfl ?_
    show Steps p.tables e below (s₁.setTop (mkF m 4 #[va o0, vi 4] [(.int ((4 : Int32) - (4 : Int32)))])) _
    rw [show (((4 : Int32) - (4 : Int32)) : Int32) = (0 : Int32) from by decide]
    refine XS.bipush X0.here hx rfl (hb hby d7_4) ?_
    refine XS.iushr X0.here hx rfl (hb hby d7_6) rfl ?_
    show Steps p.tables e below (s₁.setTop (mkF m 7 #[va o0, vi 4] [(.int (((0 : Int32).toUInt32 >>> ((31 : Int32) &&& 31).toUInt32).toInt32))])) _
    rw [show ((((0 : Int32).toUInt32 >>> ((31 : Int32) &&& 31).toUInt32).toInt32) : Int32) = (0 : Int32) from by decide]
    refine XS.i2b X0.here hx rfl (hb hby d7_7) rfl ?_
    show Steps p.tables e below (s₁.setTop (mkF m 8 #[va o0, vi 4] [(.int (bb (0 : Int32)))])) _
    rw [show ((bb (0 : Int32)) : Int32) = (0 : Int32) from by decide]
    exact retN X0 hx (t := .byte) hrt (by simp) (hb hby d7_8) hr
  · show Q7_7 Z z_COMPACT_STRINGS o0 kk_o0 p0 p1 p2 p3 h0 n0 (some (.int 0)) s₁.heap _
    exact (⟨rfl, N0, e0⟩)
def Q3_7 (Z : State) (z_COMPACT_STRINGS : Int32) (o0 : Addr) (o1 : Addr) (kk_o1 : ClassId) (p0 : Int32) (p1 : Int32) (p2 : Int32) (p3 : Int32) (h0 : Heap) (n0 : Nat) (v : Option Value) (h : Heap) (L : List Loc) : Prop := ∃ (b1_3 : Addr), ∃ (k1_3 : ClassId), ∃ (ce0_3 : Int32), ∃ (ce1_3 : Int32), ∃ (ce2_3 : Int32), ∃ (ce3_3 : Int32), v = none ∧ Fr n0 L ∧ Keep h0 h [o0] ∧ Exa Z h o0 sC0 ∧ Fld Z h o0 sC0 "coder" "B" (.int 0) ∧ Fld Z h o0 sC0 "value" "[B" (.ref b1_3) ∧ Arv Z h b1_3 k1_3 .byte (4 : Int32) [(.int ce0_3), (.int ce1_3), (.int ce2_3), (.int ce3_3)] (.int 0) ∧ h0.size ≤ b1_3
theorem rm3_7 (l : Launch) (Z : State) (a0 : Array Value) (hw : HW Z a0) (ws : List Jvm.Cond) (z_COMPACT_STRINGS : Int32) (o0 : Addr) (o1 : Addr) (kk_o1 : ClassId) (p0 : Int32) (p1 : Int32) (p2 : Int32) (p3 : Int32) (h0 : Heap) (n0 : Nat) (O0 : Old Z n0 h0) (S : SF Z z_COMPACT_STRINGS) (E_o0 : Exa Z h0 o0 sC0) (F_coder_o0 : Fld Z h0 o0 sC0 "coder" "B" (.int 0)) (F_value_o0 : Fld Z h0 o0 sC0 "value" "[B" .null) (V_o1 : Arv Z h0 o1 kk_o1 .char (4 : Int32) [(.int p0), (.int p1), (.int p2), (.int p3)] (.int 0)) (g_o0 : n0 ≤ o0) (hc0 : gp0 p0 p1 p2 p3) :
    Pay l Z My3 ws jdk_42_method_149_code 6 none #[(.ref o0), (.ref o1), (.int 0), (.int 4), .null] h0 ({ frames := 2, cells := 1, slots := 4, locals := 35 } : Room) (Q3_7 Z z_COMPACT_STRINGS o0 o1 kk_o1 p0 p1 p2 p3 h0 n0) := by
  obtain ⟨S_z_COMPACT_STRINGS, hz_z_COMPACT_STRINGS, -⟩ := id S
  refine own_body (plainFor_of_name pn_1) (L0 := #[va o0, va o1, vi 0, vi 4, .val .null, uu]) (fun _ => by first | rfl | (simp [entryFrame, mkF, argsToLocals, Value.category]; done)) ?_
  intro p e s m below meth c s₁ hrt hlk hx hby hml hZ hown0 hnm X0 e0
  have hown : s.vm.findClass sC0 = some m.cls := hown0
  have N0 := Fr.nil n0
  have K0 : Keep h0 h0 [o0] := Keep.refl _ _
  obtain ⟨T1, X1, e1, st1⟩ := initO X0 hx hZ hown (ww hw 16 rfl) (ww hw 17 rfl) (ww hw 18 rfl) e0 (g := (mkF m 1 #[va o0, va o1, vi 0, vi 4, .val .null, uu] [(.ref o0)])) rfl (by rw [hml]; rfl) rfl (hb hby d3_1) (by decide) (W := 0) (by show 2 * 0 + _ ≤ _; exact Nat.le_of_eq rfl) (by decide)
  obtain ⟨T2, X2, e2, st2⟩ := getS2 X1 hx hZ hown (host := "") (Or.inl (ww hw 19 rfl)) Via.refl e1 (S_z_COMPACT_STRINGS.ext O0.2) (g := (mkF m 27 #[va o0, va o1, vi 0, vi 4, .val .null, uu] [])) rfl (hb hby d3_27)
  obtain ⟨_, _, ⟨T3, L3, k3, n3⟩, -, X3, ⟨Lc3, hQ3, l3, y3, z3⟩, st3⟩ := Jvm.LawKit.callS X2 hx (y := My5) hown (mvT hZ (ww hw 20 rfl)) (mvT hZ (ww hw 21 rfl)) (mvT hZ (ww hw 22 rfl)) (mvT hZ (ww hw 23 rfl)) (by decide) (backOf (W := 0) (gm0_0 l Z a0 hw [] z_COMPACT_STRINGS o1 kk_o1 p0 p1 p2 p3 h0 n0 O0 S V_o1 hc0) hZ (ww hw 23 rfl) (ww hw 22 rfl) (by decide) (by decide)) (g := (mkF m 36 #[va o0, va o1, vi 0, vi 4, .val .null, uu] [(.int 4), (.int 0), (.ref o1)])) rfl (by rw [hml]; rfl) (argsL := [(.ref o1), (.int 0), (.int 4)]) (rest := []) (lenOf pd_4 rfl) rfl (by show 2 * 0 + _ ≤ _; exact Nat.le_of_eq rfl) (hb hby d3_36) (fun _ _ => ⟨rfl, e2, (by decide : 0 + 1 ≤ _), (by decide : 0 + 4 ≤ _)⟩)
  dsimp only [Pt.U, Pt.locs, Pt.cells, Pt.slots] at X3 l3 y3 z3 st3 hQ3
  subst l3 y3 z3
  obtain ⟨b1_3, k1_3, ce0_3, ce1_3, ce2_3, ce3_3, rfl, Nq3, Kc3, P0_3, P1_3⟩ := hQ3
  have N3 := Fr.app N0 Nq3
  have ne_o0_b1_3 : o0 ≠ b1_3 := Nat.ne_of_lt (Nat.lt_of_lt_of_le E_o0.lt P1_3)
  have ne_o1_b1_3 : o1 ≠ b1_3 := Nat.ne_of_lt (Nat.lt_of_lt_of_le V_o1.lt P1_3)
  have g_b1_3 : n0 ≤ b1_3 := Nat.le_trans (own_old O0) P1_3
  have sz_b1_3 : h0.size ≤ b1_3 := Nat.le_trans K0.1 P1_3
  have O3 := O0.keep Kc3 all0
  have K3 : Keep h0 T3.heap [o0] := K0.trans Kc3 all0
  obtain ⟨_, _, ⟨T4, L4, k4, n4⟩, -, X4, ⟨Lc4, hQ4, l4, y4, z4⟩, st4⟩ := Jvm.LawKit.callS X3 hx (y := My7) hown (mvT hZ (ww hw 28 rfl)) (mvT hZ (ww hw 29 rfl)) (mvT hZ (ww hw 22 rfl)) (mvT hZ (ww hw 30 rfl)) (by decide) (backOf (W := 1) (rm7_7 l Z a0 hw [] z_COMPACT_STRINGS b1_3 k1_3 ce0_3 ce1_3 ce2_3 ce3_3 T3.heap n0 O3 S P0_3) hZ (ww hw 30 rfl) (ww hw 22 rfl) (by decide) (by decide)) (g := (mkF m 45 #[va o0, va o1, vi 0, vi 4, .val .null, va b1_3] [(.int 4), (.ref b1_3), (.ref o0)])) rfl (by rw [hml]; rfl) (argsL := [(.ref b1_3), (.int 4)]) (rest := [(.ref o0)]) (lenOf pd_6 rfl) rfl (by show 2 * 0 + _ ≤ _; exact Nat.le_of_eq rfl) (hb hby d3_45) (fun _ _ => ⟨rfl, rfl, (by decide : 1 + 0 ≤ _), (by decide : 4 + 0 ≤ _)⟩)
  dsimp only [Pt.U, Pt.locs, Pt.cells, Pt.slots] at X4 l4 y4 z4 st4 hQ4
  subst l4 y4 z4
  obtain ⟨rfl, Nq4, e4⟩ := hQ4
  have N4 := Fr.app N3 Nq4
  have fc5 := (F_coder_o0.keep Kc3 nin0)
  have fc6 := (E_o0.keep Kc3)
  obtain ⟨T7, h7, X7, e7, W7, st7⟩ := putFN X4 hx hZ hown (ww hw 31 rfl) Via.refl e4 fc5 fc6 (Or.inr ⟨(ww hw 32 rfl), rfl, hnm⟩) (ww hw 7 rfl) (ty := .byte) (v' := (.int 0)) (by decide) rfl (by decide) (g := (mkF m 48 #[va o0, va o1, vi 0, vi 4, .val .null, va b1_3] [(.int 0), (.ref o0)])) rfl rfl (hb hby d3_48)
  have Fw7 := fc5.same W7
  have O7 := O3.wr W7 g_o0
  have K7 : Keep h0 h7 [o0] := K3.wr W7 (Or.inl (List.mem_of_getElem? (i := 0) rfl))
  have N7 := Fr.snoc X7 N4 g_o0
  have fc8 := ((F_value_o0.keep Kc3 nin0).other W7 (Or.inr (slot_ne (Or.inr (ww hw 34 rfl)) (Or.inr (ww hw 32 rfl)) (by decide) (t := (.array .byte)) (t' := .byte) (by decide) (by decide))))
  have fc9 := (fc6.wr W7)
  obtain ⟨T10, h10, X10, e10, W10, st10⟩ := putF X7 hx hZ hown (host := "") (Or.inl (ww hw 33 rfl)) Via.refl e7 fc8 fc9 (Or.inr ⟨(ww hw 34 rfl), rfl, hnm⟩) (ww hw 7 rfl) (ty := (.array .byte)) (by decide) rfl rfl (g := (mkF m 54 #[va o0, va o1, vi 0, vi 4, .val .null, va b1_3] [(.ref b1_3), (.ref o0)])) rfl rfl (hb hby d3_54)
  have Fw10 := fc8.same W10
  have O10 := O7.wr W10 g_o0
  have K10 : Keep h0 h10 [o0] := K7.wr W10 (Or.inl (List.mem_of_getElem? (i := 0) rfl))
  have N10 := Fr.snoc X10 N7 g_o0
  obtain ⟨fs, hr, hrun, hended, hW, hsame⟩ := X10.leave (v := none) (fun _ => rfl)
  have fc11 := (fc9.wr W10)
  have fc12 := (Fw7.other W10 (Or.inr (slot_ne (Or.inr (ww hw 32 rfl)) (Or.inr (ww hw 34 rfl)) (by decide) (t := .byte) (t' := (.array .byte)) (by decide) (by decide))))
  have fc13 := ((P0_3.other W7 (Ne.symm ne_o0_b1_3)).other W10 (Ne.symm ne_o0_b1_3))
  refine ⟨_, _, ?_, hrun, hended, _, _, rfl, ?_, ⟨_, rfl⟩, hW, hsame.mono (by decide) (by decide)⟩
  · show Steps p.tables e below (s₁.setTop (mkF m 0 #[va o0, va o1, vi 0, vi 4, .val .null, uu] [])) _
    refine XS.aloadN X0.here hx rfl (hb hby d3_0) rfl rfl ?_
    refine st1 _ ?_
    refine XS.iloadN X1.here hx rfl (hb hby d3_4) rfl ?_
    refine XS.ifYes X1.here hx rfl (pc0 := 5) (pc' := 27) rfl (hb hby d3_5) rfl ((if0 _ _).trans (feq (by decide : ¬ ((4 : Int32) = (0 : Int32)))).2) (by decide) (by decide) ?_
    refine st2 _ ?_
    refine XS.ifNo X2.here hx rfl (hb hby d3_30) rfl ((if0 _ _).trans (feq hz_z_COMPACT_STRINGS).1) ?_
    refine XS.aloadN X2.here hx rfl (hb hby d3_33) rfl rfl ?_
    refine XS.iloadN X2.here hx rfl (hb hby d3_34) rfl ?_
    show Steps p.tables e below (T2.setTop (mkF m 35 #[va o0, va o1, vi 0, vi 4, .val .null, uu] [(.int 0), (.ref o1)])) _
    refine XS.iloadN X2.here hx rfl (hb hby d3_35) rfl ?_
    refine st3 _ ?_
    refine XS.astore X3.here hx rfl (hb hby d3_39) rfl rfl (l' := #[va o0, va o1, vi 0, vi 4, .val .null, va b1_3]) rfl ?_
    refine XS.aloadN X3.here hx rfl (hb hby d3_41) rfl rfl ?_
    refine XS.aload X3.here hx rfl (hb hby d3_42) rfl rfl ?_
    refine XS.iloadN X3.here hx rfl (hb hby d3_44) rfl ?_
    refine st4 _ ?_
    refine st7 _ ?_
    show Steps p.tables e below (T7.setTop (mkF m 51 #[va o0, va o1, vi 0, vi 4, .val .null, va b1_3] [])) _
    refine XS.aloadN X7.here hx rfl (hb hby d3_51) rfl rfl ?_
    refine XS.aload X7.here hx rfl (hb hby d3_52) rfl rfl ?_
    refine st10 _ ?_
    exact X10.returnOut hx hrt (hb hby d3_57) hr
  · show Q3_7 Z z_COMPACT_STRINGS o0 o1 kk_o1 p0 p1 p2 p3 h0 n0 none T10.heap _
    rw [e10]; exact ⟨b1_3, k1_3, ce0_3, ce1_3, ce2_3, ce3_3, rfl, N10, K10, fc11, fc12, Fw10, fc13, sz_b1_3⟩
def Q2_7 (Z : State) (z_COMPACT_STRINGS : Int32) (o0 : Addr) (o1 : Addr) (kk_o1 : ClassId) (p0 : Int32) (p1 : Int32) (p2 : Int32) (p3 : Int32) (h0 : Heap) (n0 : Nat) (v : Option Value) (h : Heap) (L : List Loc) : Prop := ∃ (b1_3_2 : Addr), ∃ (k1_3_2 : ClassId), ∃ (ce0_3_2 : Int32), ∃ (ce1_3_2 : Int32), ∃ (ce2_3_2 : Int32), ∃ (ce3_3_2 : Int32), v = none ∧ Fr n0 L ∧ Keep h0 h [o0] ∧ Exa Z h o0 sC0 ∧ Fld Z h o0 sC0 "coder" "B" (.int 0) ∧ Fld Z h o0 sC0 "value" "[B" (.ref b1_3_2) ∧ Arv Z h b1_3_2 k1_3_2 .byte (4 : Int32) [(.int ce0_3_2), (.int ce1_3_2), (.int ce2_3_2), (.int ce3_3_2)] (.int 0) ∧ h0.size ≤ b1_3_2
theorem rm2_7 (l : Launch) (Z : State) (a0 : Array Value) (hw : HW Z a0) (ws : List Jvm.Cond) (z_COMPACT_STRINGS : Int32) (o0 : Addr) (o1 : Addr) (kk_o1 : ClassId) (p0 : Int32) (p1 : Int32) (p2 : Int32) (p3 : Int32) (h0 : Heap) (n0 : Nat) (O0 : Old Z n0 h0) (S : SF Z z_COMPACT_STRINGS) (E_o0 : Exa Z h0 o0 sC0) (F_coder_o0 : Fld Z h0 o0 sC0 "coder" "B" (.int 0)) (F_value_o0 : Fld Z h0 o0 sC0 "value" "[B" .null) (V_o1 : Arv Z h0 o1 kk_o1 .char (4 : Int32) [(.int p0), (.int p1), (.int p2), (.int p3)] (.int 0)) (g_o0 : n0 ≤ o0) (hc0 : gp0 p0 p1 p2 p3) :
    Pay l Z My2 ws jdk_42_method_3_code 2 none #[(.ref o0), (.ref o1)] h0 ({ frames := 3, cells := 1, slots := 4, locals := 52 } : Room) (Q2_7 Z z_COMPACT_STRINGS o0 o1 kk_o1 p0 p1 p2 p3 h0 n0) := by
  refine own_body (plainFor_of_name pn_1) (L0 := #[va o0, va o1]) (fun _ => by first | rfl | (simp [entryFrame, mkF, argsToLocals, Value.category]; done)) ?_
  intro p e s m below meth c s₁ hrt hlk hx hby hml hZ hown0 hnm X0 e0
  have hown : s.vm.findClass sC0 = some m.cls := hown0
  have N0 := Fr.nil n0
  have K0 : Keep h0 h0 [o0] := Keep.refl _ _
  obtain ⟨cl1, Ar1, qk1, Sz1, Ng1, Hh1, Gg1⟩ := id V_o1
  obtain ⟨_, _, ⟨T2, L2, k2, n2⟩, -, X2, ⟨Lc2, hQ2, l2, y2, z2⟩, st2⟩ := X0.specialBack hx (y := My3) rfl hown (mvT hZ (ww hw 12 rfl)) (mvT hZ (ww hw 13 rfl)) (mvT hZ (ww hw 15 rfl)) (by decide) (backOf (W := 0) (rm3_7 l Z a0 hw [] z_COMPACT_STRINGS o0 o1 kk_o1 p0 p1 p2 p3 h0 n0 O0 S E_o0 F_coder_o0 F_value_o0 V_o1 g_o0 hc0) hZ (ww hw 15 rfl) (ww hw 8 rfl) (by decide) (by decide)) (g := (mkF m 6 #[va o0, va o1] [.null, (.int 4), (.int 0), (.ref o1), (.ref o0)])) rfl (by rw [hml]; rfl) (Steps.refl _) (a := o0) (argsL := [(.ref o1), (.int 0), (.int 4), .null]) (rest := []) (lenOf pd_7 rfl) rfl (by show 2 * 0 + _ ≤ _; exact Nat.le_of_eq rfl) (hb hby d2_6) (fun _ _ => ⟨rfl, e0, (by decide : 0 + 1 ≤ _), (by decide : 0 + 4 ≤ _)⟩)
  dsimp only [Pt.U, Pt.locs, Pt.cells, Pt.slots] at X2 l2 y2 z2 st2 hQ2
  subst l2 y2 z2
  obtain ⟨b1_3_2, k1_3_2, ce0_3_2, ce1_3_2, ce2_3_2, ce3_3_2, rfl, Nq2, Kc2, P0_2, P1_2, P2_2, P3_2, P4_2⟩ := hQ2
  have N2 := Fr.app N0 Nq2
  have ne_o0_b1_3_2 : o0 ≠ b1_3_2 := Nat.ne_of_lt (Nat.lt_of_lt_of_le E_o0.lt P4_2)
  have ne_o1_b1_3_2 : o1 ≠ b1_3_2 := Nat.ne_of_lt (Nat.lt_of_lt_of_le V_o1.lt P4_2)
  have g_b1_3_2 : n0 ≤ b1_3_2 := Nat.le_trans (own_old O0) P4_2
  have sz_b1_3_2 : h0.size ≤ b1_3_2 := Nat.le_trans K0.1 P4_2
  have O2 := O0.keep Kc2 (allS g_o0 all0)
  have K2 : Keep h0 T2.heap [o0] := K0.trans Kc2 (allS (Or.inl (List.mem_of_getElem? (i := 0) rfl)) all0)
  obtain ⟨fs, hr, hrun, hended, hW, hsame⟩ := X2.leave (v := none) (fun _ => rfl)
  refine ⟨_, _, ?_, hrun, hended, _, _, rfl, ?_, ⟨_, rfl⟩, hW, hsame.mono (by decide) (by decide)⟩
  · show Steps p.tables e below (s₁.setTop (mkF m 0 #[va o0, va o1] [])) _
    refine XS.aloadN X0.here hx rfl (hb hby d2_0) rfl rfl ?_
    refine XS.aloadN X0.here hx rfl (hb hby d2_1) rfl rfl ?_
    refine XS.iconst X0.here hx rfl (hb hby d2_2) ?_
    refine XS.aloadN X0.here hx rfl (hb hby d2_3) rfl rfl ?_
    refine X0.arraylength hx (by rw [e0]; exact Ar1.1) (State.isArrayOf_alike hZ.alike Ar1.2.1) (g := (mkF m 4 #[va o0, va o1] [(.ref o1), (.int 0), (.ref o1), (.ref o0)])) rfl rfl (hb hby d2_4) _ ?_
    rw [len_of Sz1 Ng1]
    refine XS.aconstNull X0.here hx rfl (hb hby d2_5) ?_
    refine st2.trans ?_
    exact X2.returnOut hx hrt (hb hby d2_9) hr
  · show Q2_7 Z z_COMPACT_STRINGS o0 o1 kk_o1 p0 p1 p2 p3 h0 n0 none T2.heap _
    exact (⟨b1_3_2, k1_3_2, ce0_3_2, ce1_3_2, ce2_3_2, ce3_3_2, rfl, N2, K2, P0_2, P1_2, P2_2, P3_2, sz_b1_3_2⟩)
def Q1_7 (Z : State) (z_COMPACT_STRINGS : Int32) (p0 : Int32) (p1 : Int32) (p2 : Int32) (p3 : Int32) (p4 : Int32) (h0 : Heap) (n0 : Nat) (v : Option Value) (h : Heap) (L : List Loc) : Prop := ∃ (b10 : Addr), ∃ (b1_3_2_12 : Addr), ∃ (k1_3_2_12 : ClassId), ∃ (ce0_3_2_12 : Int32), ∃ (ce1_3_2_12 : Int32), ∃ (ce2_3_2_12 : Int32), ∃ (ce3_3_2_12 : Int32), v = (some (.ref b10)) ∧ Fr n0 L ∧ Keep h0 h [] ∧ Exa Z h b10 sC0 ∧ Fld Z h b10 sC0 "coder" "B" (.int 0) ∧ Fld Z h b10 sC0 "value" "[B" (.ref b1_3_2_12) ∧ Arv Z h b1_3_2_12 k1_3_2_12 .byte (4 : Int32) [(.int ce0_3_2_12), (.int ce1_3_2_12), (.int ce2_3_2_12), (.int ce3_3_2_12)] (.int 0) ∧ h0.size ≤ b10 ∧ h0.size ≤ b1_3_2_12 ∧ b10 ≠ b1_3_2_12
theorem rm1_7 (l : Launch) (Z : State) (a0 : Array Value) (hw : HW Z a0) (ws : List Jvm.Cond) (z_COMPACT_STRINGS : Int32) (p0 : Int32) (p1 : Int32) (p2 : Int32) (p3 : Int32) (p4 : Int32) (h0 : Heap) (n0 : Nat) (O0 : Old Z n0 h0) (S : SF Z z_COMPACT_STRINGS) (hc0 : ¬ (p0 = (0 : Int32))) (hc1 : ¬ (p0 = (1 : Int32))) (hc2 : ¬ (p0 = (2 : Int32))) (hc3 : gp0 (cc p1) (cc p2) (cc p3) (cc p4)) :
    Pay l Z My1 ws method_3_code 6 (some (.object sC0)) #[(.int p0), (.int p1), (.int p2), (.int p3), (.int p4)] h0 ({ frames := 4, cells := 3, slots := 12, locals := 66 } : Room) (Q1_7 Z z_COMPACT_STRINGS p0 p1 p2 p3 p4 h0 n0) := by
  refine own_body (plainFor_of_name pn_0) (L0 := #[vi p0, vi p1, vi p2, vi p3, vi p4, uu]) (fun _ => by first | rfl | (simp [entryFrame, mkF, argsToLocals, Value.category]; done)) ?_
  intro p e s m below meth c s₁ hrt hlk hx hby hml hZ hown0 hnm X0 e0
  have hown : s.vm.findClass sC3 = some m.cls := hown0
  have N0 := Fr.nil n0
  have K0 : Keep h0 h0 [] := Keep.refl _ _
  obtain ⟨T1, h1, k1, X1, e1, E1, A1, st1⟩ := newP X0 hx hZ (ww hw 5 rfl) e0 (g := (mkF m 90 #[vi p0, vi p1, vi p2, vi p3, vi p4, uu] [(.int 4)])) rfl (hb hby d1_90) rfl (by decide) (cap := 4) (by decide) (by decide) (by decide) (by decide)
  obtain ⟨b1, qs1⟩ : ∃ z, z = h0.size := ⟨_, rfl⟩
  rw [← qs1] at A1 st1
  have g_b1 : n0 ≤ b1 := Nat.le_trans (own_old O0) (Nat.le_of_eq qs1.symm)
  have sz_b1 : h0.size ≤ b1 := Nat.le_trans K0.1 (Nat.le_of_eq qs1.symm)
  have O1 := O0.ext E1
  have K1 : Keep h0 h1 [] := K0.ext E1
  have V_b1 : Arv Z h1 b1 k1 .char (4 : Int32) [(.int 0), (.int 0), (.int 0), (.int 0)] (.int 0) := (Arv.new A1 (by decide)).pad (pad_rep [] (.int 0) 4)
  obtain ⟨cl2, Ar2, qk2, Sz2, Ng2, Hh2, Gg2⟩ := id V_b1
  have hin2_0 : ¬ ((0 : Int32) < 0 ∨ cl2.slots.size ≤ ((0 : Int32)).toNatClampNeg) := inb_of Sz2 ⟨by decide, by decide⟩
  obtain ⟨T3, h3, X3, e3, W3, st3⟩ := stC X1 hx hZ e1 Ar2 (j := (0 : Int32)) hin2_0 (g := (mkF m 98 #[vi p0, vi p1, vi p2, vi p3, vi p4, va b1] [(.int p1), (.int 0), (.ref b1)])) rfl rfl (hb hby d1_98)
  have V3 : Arv Z h3 b1 k1 .char (4 : Int32) [(.int (cc p1)), (.int 0), (.int 0), (.int 0)] (.int 0) := Arv.set Ar2 qk2 Sz2 Ng2 Hh2 Gg2 (fits_nar_char _) W3 0 rfl (Nat.le_of_ble_eq_true rfl)
  have O3 := O1.wr W3 g_b1
  have K3 : Keep h0 h3 [] := K1.wr W3 (Or.inr sz_b1)
  have N3 := Fr.snoc X3 N0 g_b1
  obtain ⟨cl4, Ar4, qk4, Sz4, Ng4, Hh4, Gg4⟩ := id V3
  have hin4_1 : ¬ ((1 : Int32) < 0 ∨ cl4.slots.size ≤ ((1 : Int32)).toNatClampNeg) := inb_of Sz4 ⟨by decide, by decide⟩
  obtain ⟨T5, h5, X5, e5, W5, st5⟩ := stC X3 hx hZ e3 Ar4 (j := (1 : Int32)) hin4_1 (g := (mkF m 103 #[vi p0, vi p1, vi p2, vi p3, vi p4, va b1] [(.int p2), (.int 1), (.ref b1)])) rfl rfl (hb hby d1_103)
  have V5 : Arv Z h5 b1 k1 .char (4 : Int32) [(.int (cc p1)), (.int (cc p2)), (.int 0), (.int 0)] (.int 0) := Arv.set Ar4 qk4 Sz4 Ng4 Hh4 Gg4 (fits_nar_char _) W5 1 rfl (Nat.le_of_ble_eq_true rfl)
  have O5 := O3.wr W5 g_b1
  have K5 : Keep h0 h5 [] := K3.wr W5 (Or.inr sz_b1)
  have N5 := Fr.snoc X5 N3 g_b1
  obtain ⟨cl6, Ar6, qk6, Sz6, Ng6, Hh6, Gg6⟩ := id V5
  have hin6_2 : ¬ ((2 : Int32) < 0 ∨ cl6.slots.size ≤ ((2 : Int32)).toNatClampNeg) := inb_of Sz6 ⟨by decide, by decide⟩
  obtain ⟨T7, h7, X7, e7, W7, st7⟩ := stC X5 hx hZ e5 Ar6 (j := (2 : Int32)) hin6_2 (g := (mkF m 108 #[vi p0, vi p1, vi p2, vi p3, vi p4, va b1] [(.int p3), (.int 2), (.ref b1)])) rfl rfl (hb hby d1_108)
  have V7 : Arv Z h7 b1 k1 .char (4 : Int32) [(.int (cc p1)), (.int (cc p2)), (.int (cc p3)), (.int 0)] (.int 0) := Arv.set Ar6 qk6 Sz6 Ng6 Hh6 Gg6 (fits_nar_char _) W7 2 rfl (Nat.le_of_ble_eq_true rfl)
  have O7 := O5.wr W7 g_b1
  have K7 : Keep h0 h7 [] := K5.wr W7 (Or.inr sz_b1)
  have N7 := Fr.snoc X7 N5 g_b1
  obtain ⟨cl8, Ar8, qk8, Sz8, Ng8, Hh8, Gg8⟩ := id V7
  have hin8_3 : ¬ ((3 : Int32) < 0 ∨ cl8.slots.size ≤ ((3 : Int32)).toNatClampNeg) := inb_of Sz8 ⟨by decide, by decide⟩
  obtain ⟨T9, h9, X9, e9, W9, st9⟩ := stC X7 hx hZ e7 Ar8 (j := (3 : Int32)) hin8_3 (g := (mkF m 114 #[vi p0, vi p1, vi p2, vi p3, vi p4, va b1] [(.int p4), (.int 3), (.ref b1)])) rfl rfl (hb hby d1_114)
  have V9 : Arv Z h9 b1 k1 .char (4 : Int32) [(.int (cc p1)), (.int (cc p2)), (.int (cc p3)), (.int (cc p4))] (.int 0) := Arv.set Ar8 qk8 Sz8 Ng8 Hh8 Gg8 (fits_nar_char _) W9 3 rfl (Nat.le_of_ble_eq_true rfl)
  have O9 := O7.wr W9 g_b1
  have K9 : Keep h0 h9 [] := K7.wr W9 (Or.inr sz_b1)
  have N9 := Fr.snoc X9 N7 g_b1
  obtain ⟨T10, h10, X10, e10, E10, A10, D10, -, st10⟩ := newO X9 hx hZ hown (ww hw 6 rfl) (ww hw 7 rfl) (ww hw 8 rfl) e9 (g := (mkF m 115 #[vi p0, vi p1, vi p2, vi p3, vi p4, va b1] [])) rfl (hb hby d1_115) (by decide) (by decide)
  obtain ⟨b10, qs10⟩ : ∃ z, z = h9.size := ⟨_, rfl⟩
  rw [← qs10] at A10 D10 st10
  have ne_b1_b10 : b1 ≠ b10 := Nat.ne_of_lt (Nat.lt_of_lt_of_le V9.lt (Nat.le_of_eq qs10.symm))
  have g_b10 : n0 ≤ b10 := Nat.le_trans (own_old O9) (Nat.le_of_eq qs10.symm)
  have sz_b10 : h0.size ≤ b10 := Nat.le_trans K9.1 (Nat.le_of_eq qs10.symm)
  have O10 := O9.ext E10
  have K10 : Keep h0 h10 [] := K9.ext E10
  have F_coder_b10 : Fld Z h10 b10 sC0 "coder" "B" (.int 0) := D10 (Or.inr (ww hw 32 rfl)) (ty := .byte) (by decide)
  have F_value_b10 : Fld Z h10 b10 sC0 "value" "[B" .null := D10 (Or.inr (ww hw 34 rfl)) (ty := (.array .byte)) (by decide)
  have fc11 := (V9.ext E10)
  obtain ⟨_, _, ⟨T12, L12, k12, n12⟩, -, X12, ⟨Lc12, hQ12, l12, y12, z12⟩, st12⟩ := X10.specialBack hx (y := My2) rfl hown (mvT hZ (ww hw 9 rfl)) (mvT hZ (ww hw 10 rfl)) (mvT hZ (ww hw 11 rfl)) (by decide) (backOf (W := 1) (rm2_7 l Z a0 hw [] z_COMPACT_STRINGS b10 b1 k1 (cc p1) (cc p2) (cc p3) (cc p4) h10 n0 O10 S A10 F_coder_b10 F_value_b10 fc11 g_b10 hc3) hZ (ww hw 11 rfl) (ww hw 8 rfl) (by decide) (by decide)) (g := (mkF m 121 #[vi p0, vi p1, vi p2, vi p3, vi p4, va b1] [(.ref b1), (.ref b10), (.ref b10)])) rfl (by rw [hml]; rfl) (Steps.refl _) (a := b10) (argsL := [(.ref b1)]) (rest := [(.ref b10)]) (lenOf pd_8 rfl) rfl (by show 2 * 0 + _ ≤ _; exact Nat.le_of_eq rfl) (hb hby d1_121) (fun _ _ => ⟨rfl, e10, (by decide : 2 + 1 ≤ _), (by decide : 8 + 4 ≤ _)⟩)
  dsimp only [Pt.U, Pt.locs, Pt.cells, Pt.slots] at X12 l12 y12 z12 st12 hQ12
  subst l12 y12 z12
  obtain ⟨b1_3_2_12, k1_3_2_12, ce0_3_2_12, ce1_3_2_12, ce2_3_2_12, ce3_3_2_12, rfl, Nq12, Kc12, P0_12, P1_12, P2_12, P3_12, P4_12⟩ := hQ12
  have N12 := Fr.app N9 Nq12
  have ne_b1_b1_3_2_12 : b1 ≠ b1_3_2_12 := Nat.ne_of_lt (Nat.lt_of_lt_of_le fc11.lt P4_12)
  have ne_b10_b1_3_2_12 : b10 ≠ b1_3_2_12 := Nat.ne_of_lt (Nat.lt_of_lt_of_le A10.lt P4_12)
  have g_b1_3_2_12 : n0 ≤ b1_3_2_12 := Nat.le_trans (own_old O10) P4_12
  have sz_b1_3_2_12 : h0.size ≤ b1_3_2_12 := Nat.le_trans K10.1 P4_12
  have O12 := O10.keep Kc12 (allS g_b10 all0)
  have K12 : Keep h0 T12.heap [] := K10.trans Kc12 (allS (Or.inr sz_b10) all0)
  obtain ⟨fs, hr, hrun, hended, hW, hsame⟩ := X12.leave (v := (some (.ref b10))) (fun h => by rw [hrt] at h; cases h)
  refine ⟨_, _, ?_, hrun, hended, _, _, rfl, ?_, ⟨_, rfl⟩, hW, hsame.mono (by decide) (by decide)⟩
  · show Steps p.tables e below (s₁.setTop (mkF m 0 #[vi p0, vi p1, vi p2, vi p3, vi p4, uu] [])) _
    refine XS.iloadN X0.here hx rfl (hb hby d1_0) rfl ?_
    refine XS.ifYes X0.here hx rfl (pc0 := 1) (pc' := 24) rfl (hb hby d1_1) rfl ((if0 _ _).trans (feq hc0).2) (by decide) (by decide) ?_
    refine XS.iloadN X0.here hx rfl (hb hby d1_24) rfl ?_
    refine XS.iconst X0.here hx rfl (hb hby d1_25) ?_
    refine XS.icmpYes X0.here hx rfl (pc0 := 26) (pc' := 54) rfl (hb hby d1_26) rfl (feq hc1).2 (by decide) (by decide) ?_
    refine XS.iloadN X0.here hx rfl (hb hby d1_54) rfl ?_
    refine XS.iconst X0.here hx rfl (hb hby d1_55) ?_
    refine XS.icmpYes X0.here hx rfl (pc0 := 56) (pc' := 89) rfl (hb hby d1_56) rfl (feq hc2).2 (by decide) (by decide) ?_
    show Steps p.tables e below (s₁.setTop (mkF m 89 #[vi p0, vi p1, vi p2, vi p3, vi p4, uu] [])) _
    refine XS.iconst X0.here hx rfl (hb hby d1_89) ?_
    refine st1 _ ?_
    refine XS.astore X1.here hx rfl (hb hby d1_92) rfl rfl (l' := #[vi p0, vi p1, vi p2, vi p3, vi p4, va b1]) rfl ?_
    refine XS.aload X1.here hx rfl (hb hby d1_94) rfl rfl ?_
    refine XS.iconst X1.here hx rfl (hb hby d1_96) ?_
    refine XS.iloadN X1.here hx rfl (hb hby d1_97) rfl ?_
    refine st3 _ ?_
    refine XS.aload X3.here hx rfl (hb hby d1_99) rfl rfl ?_
    show Steps p.tables e below (T3.setTop (mkF m 101 #[vi p0, vi p1, vi p2, vi p3, vi p4, va b1] [(.ref b1)])) _
    refine XS.iconst X3.here hx rfl (hb hby d1_101) ?_
    refine XS.iloadN X3.here hx rfl (hb hby d1_102) rfl ?_
    refine st5 _ ?_
    refine XS.aload X5.here hx rfl (hb hby d1_104) rfl rfl ?_
    refine XS.iconst X5.here hx rfl (hb hby d1_106) ?_
    refine XS.iloadN X5.here hx rfl (hb hby d1_107) rfl ?_
    refine st7 _ ?_
    refine XS.aload X7.here hx rfl (hb hby d1_109) rfl rfl ?_
    show Steps p.tables e below (T7.setTop (mkF m 111 #[vi p0, vi p1, vi p2, vi p3, vi p4, va b1] [(.ref b1)])) _
    refine XS.iconst X7.here hx rfl (hb hby d1_111) ?_
    refine XS.iload X7.here hx rfl (hb hby d1_112) rfl ?_
    refine st9 _ ?_
    refine st10 _ ?_
    refine XS.dup X10.here hx rfl (hb hby d1_118) rfl rfl ?_
    refine XS.aload X10.here hx rfl (hb hby d1_119) rfl rfl ?_
    refine st12.trans ?_
    exact retOut X12 hx (t := (.object sC0)) (i := .areturn) hrt rfl (Or.inr (Or.inr (Or.inr (Or.inr ⟨rfl, rfl, rfl⟩)))) (hb hby d1_124) hr
  · show Q1_7 Z z_COMPACT_STRINGS p0 p1 p2 p3 p4 h0 n0 (some (.ref b10)) T12.heap _
    exact (⟨b10, b1_3_2_12, k1_3_2_12, ce0_3_2_12, ce1_3_2_12, ce2_3_2_12, ce3_3_2_12, rfl, N12, K12, P0_12, P1_12, P2_12, P3_12, sz_b10, sz_b1_3_2_12, ne_b10_b1_3_2_12⟩)
def Q9_6 (Z : State) (z_COMPACT_STRINGS : Int32) (o0 : Addr) (o1 : Addr) (o2 : Addr) (kk_o1 : ClassId) (p0 : Int32) (p1 : Int32) (p2 : Int32) (p3 : Int32) (h0 : Heap) (n0 : Nat) (v : Option Value) (h : Heap) (L : List Loc) : Prop := v = (some (.ref o0)) ∧ Fr n0 L ∧ h = h0
theorem rm9_6 (l : Launch) (Z : State) (a0 : Array Value) (hw : HW Z a0) (ws : List Jvm.Cond) (z_COMPACT_STRINGS : Int32) (o0 : Addr) (o1 : Addr) (o2 : Addr) (kk_o1 : ClassId) (p0 : Int32) (p1 : Int32) (p2 : Int32) (p3 : Int32) (h0 : Heap) (n0 : Nat) (O0 : Old Z n0 h0) (S : SF Z z_COMPACT_STRINGS) :
    Pay l Z My9 ws jdk_31_method_11_code 2 (some (.object sC4)) #[(.ref o0), (.ref o2)] h0 ({ frames := 0, cells := 0, slots := 0, locals := 0 } : Room) (Q9_6 Z z_COMPACT_STRINGS o0 o1 o2 kk_o1 p0 p1 p2 p3 h0 n0) := by
  refine own_body (plainFor_of_name pn_4) (L0 := #[va o0, va o2]) (fun _ => by first | rfl | (simp [entryFrame, mkF, argsToLocals, Value.category]; done)) ?_
  intro p e s m below meth c s₁ hrt hlk hx hby hml hZ hown0 hnm X0 e0
  have hown : s.vm.findClass sC5 = some m.cls := hown0
  have N0 := Fr.nil n0
  have K0 : Keep h0 h0 [] := Keep.refl _ _
  obtain ⟨fs, hr, hrun, hended, hW, hsame⟩ := X0.leave (v := (some (.ref o0))) (fun h => by rw [hrt] at h; cases h)
  refine ⟨_, _, ?_, hrun, hended, _, _, rfl, ?_, ⟨_, rfl⟩, hW, hsame.mono (by decide) (by decide)⟩
  · show Steps p.tables e below (s₁.setTop (mkF m 0 #[va o0, va o2] [])) _
    refine XS.aloadN X0.here hx rfl (hb hby d9_0) rfl rfl ?_
    refine XS.ifnonnullYes X0.here hx rfl (pc0 := 1) (pc' := 13) rfl (hb hby d9_1) rfl (by decide) (by decide) ?_
    refine XS.aloadN X0.here hx rfl (hb hby d9_13) rfl rfl ?_
    exact retOut X0 hx (t := (.object sC4)) (i := .areturn) hrt rfl (Or.inr (Or.inr (Or.inr (Or.inr ⟨rfl, rfl, rfl⟩)))) (hb hby d9_14) hr
  · show Q9_6 Z z_COMPACT_STRINGS o0 o1 o2 kk_o1 p0 p1 p2 p3 h0 n0 (some (.ref o0)) s₁.heap _
    exact (⟨rfl, N0, e0⟩)
def Q10_6 (Z : State) (z_COMPACT_STRINGS : Int32) (o0 : Addr) (o1 : Addr) (kk_o1 : ClassId) (p0 : Int32) (p1 : Int32) (p2 : Int32) (p3 : Int32) (h0 : Heap) (n0 : Nat) (v : Option Value) (h : Heap) (L : List Loc) : Prop := v = (some (.int 0)) ∧ Fr n0 L ∧ h = h0
theorem rm10_6 (l : Launch) (Z : State) (a0 : Array Value) (hw : HW Z a0) (ws : List Jvm.Cond) (z_COMPACT_STRINGS : Int32) (o0 : Addr) (o1 : Addr) (kk_o1 : ClassId) (p0 : Int32) (p1 : Int32) (p2 : Int32) (p3 : Int32) (h0 : Heap) (n0 : Nat) (O0 : Old Z n0 h0) (S : SF Z z_COMPACT_STRINGS) (F_value_o0 : Fld Z h0 o0 sC0 "value" "[B" (.ref o1)) (V_o1 : Arv Z h0 o1 kk_o1 .byte (4 : Int32) [(.int p0), (.int p1), (.int p2), (.int p3)] (.int 0)) :
    Pay l Z My10 ws jdk_42_method_55_code 1 (some .boolean) #[(.ref o0)] h0 ({ frames := 0, cells := 0, slots := 0, locals := 0 } : Room) (Q10_6 Z z_COMPACT_STRINGS o0 o1 kk_o1 p0 p1 p2 p3 h0 n0) := by
  refine own_body (plainFor_of_name pn_1) (L0 := #[va o0]) (fun _ => by first | rfl | (simp [entryFrame, mkF, argsToLocals, Value.category]; done)) ?_
  intro p e s m below meth c s₁ hrt hlk hx hby hml hZ hown0 hnm X0 e0
  have hown : s.vm.findClass sC0 = some m.cls := hown0
  have N0 := Fr.nil n0
  have K0 : Keep h0 h0 [] := Keep.refl _ _
  obtain ⟨T1, X1, e1, st1⟩ := getF X0 hx hZ hown (host := "") (Or.inl (ww hw 33 rfl)) Via.refl e0 F_value_o0 (g := (mkF m 1 #[va o0] [(.ref o0)])) rfl rfl (hb hby d10_1)
  obtain ⟨cl2, Ar2, qk2, Sz2, Ng2, Hh2, Gg2⟩ := id V_o1
  obtain ⟨fs, hr, hrun, hended, hW, hsame⟩ := X1.leave (v := (some (.int 0))) (fun h => by rw [hrt] at h; cases h)
  refine ⟨_, _, ?_, hrun, hended, _, _, rfl, ?_, ⟨_, rfl⟩, hW, hsame.mono (by decide) (by decide)⟩
  · show Steps p.tables e below (s₁.setTop (mkF m 0 #[va o0] [])) _
    refine XS.aloadN X0.here hx rfl (hb hby d10_0) rfl rfl ?_
    refine st1 _ ?_
    refine X1.arraylength hx (by rw [e1]; exact Ar2.1) (State.isArrayOf_alike hZ.alike Ar2.2.1) (g := (mkF m 4 #[va o0] [(.ref o1)])) rfl rfl (hb hby d10_4) _ ?_
    rw [len_of Sz2 Ng2]
    refine XS.ifYes X1.here hx rfl (pc0 := 5) (pc' := 12) rfl (hb hby d10_5) rfl ((if0 _ _).trans (feq (by decide : ¬ ((4 : Int32) = (0 : Int32)))).2) (by decide) (by decide) ?_
    refine XS.iconst X1.here hx rfl (hb hby d10_12) ?_
    exact retN X1 hx (t := .boolean) hrt (by simp) (hb hby d10_13) hr
  · show Q10_6 Z z_COMPACT_STRINGS o0 o1 kk_o1 p0 p1 p2 p3 h0 n0 (some (.int 0)) T1.heap _
    exact (⟨rfl, N0, e1⟩)
def Q8_6 (Z : State) (z_COMPACT_STRINGS : Int32) (o0 : Addr) (o1 : Addr) (kk_o1 : ClassId) (p0 : Int32) (p1 : Int32) (p2 : Int32) (p3 : Int32) (h0 : Heap) (n0 : Nat) (v : Option Value) (h : Heap) (L : List Loc) : Prop := v = (some (.ref o0)) ∧ Fr n0 L ∧ Keep h0 h []
theorem rm8_6 (l : Launch) (Z : State) (a0 : Array Value) (hw : HW Z a0) (ws : List Jvm.Cond) (z_COMPACT_STRINGS : Int32) (o0 : Addr) (o1 : Addr) (kk_o1 : ClassId) (p0 : Int32) (p1 : Int32) (p2 : Int32) (p3 : Int32) (h0 : Heap) (n0 : Nat) (O0 : Old Z n0 h0) (S : SF Z z_COMPACT_STRINGS) (E_o0 : Exa Z h0 o0 sC0) (F_value_o0 : Fld Z h0 o0 sC0 "value" "[B" (.ref o1)) (V_o1 : Arv Z h0 o1 kk_o1 .byte (4 : Int32) [(.int p0), (.int p1), (.int p2), (.int p3)] (.int 0)) :
    PayW l Z My8 ws prog_14_method_7_code 1 (some (.object sC0)) #[(.ref o0)] h0 ({ frames := 1, cells := 2, slots := 60, locals := 13 } : Room) (Q8_6 Z z_COMPACT_STRINGS o0 o1 kk_o1 p0 p1 p2 p3 h0 n0) := by
  refine own_body (plainFor_of_name pn_3) (L0 := #[va o0]) (fun _ => by first | rfl | (simp [entryFrame, mkF, argsToLocals, Value.category]; done)) ?_
  intro p e s m below meth c s₁ hrt hlk hx hby hml hZ hown0 hnm X0 e0
  have hown : s.vm.findClass sC2 = some m.cls := hown0
  have N0 := Fr.nil n0
  have K0 : Keep h0 h0 [] := Keep.refl _ _
  obtain ⟨a1, T1, h1, kk1, X1, e1, E1, hS1, hk1, hZ1, hown1, st1⟩ := ldcS (s := s) (vm0 := s.vm) X0 hx hZ hown (ww hw 39 rfl) (own_wS hw) e0 (k0 := 0) ((State.WarmedH.refl s).since 0) (Nat.zero_le _) (g := (mkF m 1 #[va o0] [(.ref o0)])) rfl (hb hby d8_1) (n := 56) (by decide +kernel) (by decide) (by decide) (by decide)
  have O1 := O0.ext E1
  have K1 : Keep h0 h1 [] := K0.ext E1
  obtain ⟨_, _, ⟨T2, L2, k2, n2⟩, -, X2, ⟨Lc2, hQ2, l2, y2, z2⟩, st2⟩ := Jvm.LawKit.callS X1 hx (y := My9) hown1 (mvT hZ1 (ww hw 42 rfl)) (mvT hZ1 (ww hw 43 rfl)) (mvT hZ1 (ww hw 44 rfl)) (mvT hZ1 (ww hw 45 rfl)) (by decide) (backOf (W := 0) (rm9_6 l Z a0 hw [] z_COMPACT_STRINGS o0 o1 a1 kk_o1 p0 p1 p2 p3 h1 n0 O1 S) hZ1 (ww hw 45 rfl) (ww hw 44 rfl) (by decide) (by decide)) (g := (mkF m 3 #[va o0] [(.ref a1), (.ref o0)])) rfl (by rw [hml]; rfl) (argsL := [(.ref o0), (.ref a1)]) (rest := []) (lenOf pd_10 rfl) rfl (by show 2 * 0 + _ ≤ _; exact Nat.le_of_eq rfl) (hb hby d8_3) (fun _ _ => ⟨rfl, e1, (by decide : 2 + 0 ≤ _), (by decide : 60 + 0 ≤ _)⟩)
  dsimp only [Pt.U, Pt.locs, Pt.cells, Pt.slots] at X2 l2 y2 z2 st2 hQ2
  subst l2 y2 z2
  obtain ⟨rfl, Nq2, e2⟩ := hQ2
  have N2 := Fr.app N0 Nq2
  have fc3 := (F_value_o0.ext E1)
  have fc4 := (V_o1.ext E1)
  have fc6 := (E_o0.ext E1)
  obtain ⟨cq5, kq5, q5a, q5b, q5c⟩ := isOf hZ1 e2 fc6
  obtain ⟨_, _, ⟨T5, L5, k5, n5⟩, -, X5, ⟨Lc5, hQ5, l5, y5, z5⟩, st5⟩ := X2.virtualBack hx (y := My10) (z := My10) hown1 (mvT hZ1 (ww hw 46 rfl)) (mvT hZ1 (ww hw 47 rfl)) (notFace_of_selects (args := #[]) (mvT hZ1 (ww hw 49 rfl))) (mvT hZ1 (ww hw 49 rfl)) (mvT hZ1 (ww hw 48 rfl)) (by decide) (backOf (W := 0) (rm10_6 l Z a0 hw [] z_COMPACT_STRINGS o0 o1 kk_o1 p0 p1 p2 p3 h1 n0 O1 S fc3 fc4) hZ1 (ww hw 50 rfl) (ww hw 8 rfl) (by decide) (by decide)) q5a q5c (g := (mkF m 8 #[va o0] [(.ref o0)])) rfl (by rw [hml]; rfl) (Steps.refl _) (argsL := []) (rest := []) (lenOf pd_11 rfl) rfl (by show 2 * 0 + _ ≤ _; exact Nat.le_of_eq rfl) (hb hby d8_8) (fun _ _ => ⟨rfl, e2, (by decide : 2 + 0 ≤ _), (by decide : 60 + 0 ≤ _)⟩)
  dsimp only [Pt.U, Pt.locs, Pt.cells, Pt.slots] at X5 l5 y5 z5 st5 hQ5
  subst l5 y5 z5
  obtain ⟨rfl, Nq5, e5⟩ := hQ5
  have N5 := Fr.app N2 Nq5
  obtain ⟨fs, hr, hrun, hended, hRE⟩ := X5.leaveW (s := s) hS1 (by rw [e5]; exact hk1) (v := (some (.ref o0))) (fun h => by rw [hrt] at h; cases h)
  refine ⟨_, _, ?_, hrun, hended, _, _, rfl, ?_, hRE.1, hRE.2.1, hRE.2.2.1, hRE.2.2.2.mono (by decide) (by decide)⟩
  · show Steps p.tables e below (s₁.setTop (mkF m 0 #[va o0] [])) _
    refine XS.aloadN X0.here hx rfl (hb hby d8_0) rfl rfl ?_
    refine st1 _ ?_
    refine st2 _ ?_
    refine XS.pop X2.here hx rfl (hb hby d8_6) rfl rfl ?_
    refine XS.aloadN X2.here hx rfl (hb hby d8_7) rfl rfl ?_
    refine st5.trans ?_
    refine XS.ifYes X5.here hx rfl (pc0 := 11) (pc' := 24) rfl (hb hby d8_11) rfl ((if0 _ _).trans (teq (by decide : (0 : Int32) = (0 : Int32))).1) (by decide) (by decide) ?_
    refine XS.aloadN X5.here hx rfl (hb hby d8_24) rfl rfl ?_
    show Steps p.tables e below (T5.setTop (mkF m 25 #[va o0] [(.ref o0)])) _
    exact retOut X5 hx (t := (.object sC0)) (i := .areturn) hrt rfl (Or.inr (Or.inr (Or.inr (Or.inr ⟨rfl, rfl, rfl⟩)))) (hb hby d8_25) hr
  · show Q8_6 Z z_COMPACT_STRINGS o0 o1 kk_o1 p0 p1 p2 p3 h0 n0 (some (.ref o0)) T5.heap _
    rw [e5]; exact ⟨rfl, N5, K1⟩
def Q12_6 (Z : State) (z_COMPACT_STRINGS : Int32) (o0 : Addr) (o1 : Addr) (kk_o1 : ClassId) (p0 : Int32) (p1 : Int32) (p2 : Int32) (p3 : Int32) (h0 : Heap) (n0 : Nat) (v : Option Value) (h : Heap) (L : List Loc) : Prop := v = (some (.int 0)) ∧ Fr n0 L ∧ h = h0
theorem rm12_6 (l : Launch) (Z : State) (a0 : Array Value) (hw : HW Z a0) (ws : List Jvm.Cond) (z_COMPACT_STRINGS : Int32) (o0 : Addr) (o1 : Addr) (kk_o1 : ClassId) (p0 : Int32) (p1 : Int32) (p2 : Int32) (p3 : Int32) (h0 : Heap) (n0 : Nat) (O0 : Old Z n0 h0) (S : SF Z z_COMPACT_STRINGS) (F_coder_o0 : Fld Z h0 o0 sC0 "coder" "B" (.int 0)) :
    Pay l Z My12 ws jdk_42_method_152_code 1 (some .byte) #[(.ref o0)] h0 ({ frames := 0, cells := 0, slots := 0, locals := 0 } : Room) (Q12_6 Z z_COMPACT_STRINGS o0 o1 kk_o1 p0 p1 p2 p3 h0 n0) := by
  obtain ⟨S_z_COMPACT_STRINGS, hz_z_COMPACT_STRINGS, -⟩ := id S
  refine own_body (plainFor_of_name pn_1) (L0 := #[va o0]) (fun _ => by first | rfl | (simp [entryFrame, mkF, argsToLocals, Value.category]; done)) ?_
  intro p e s m below meth c s₁ hrt hlk hx hby hml hZ hown0 hnm X0 e0
  have hown : s.vm.findClass sC0 = some m.cls := hown0
  have N0 := Fr.nil n0
  have K0 : Keep h0 h0 [] := Keep.refl _ _
  obtain ⟨T1, X1, e1, st1⟩ := getS2 X0 hx hZ hown (host := "") (Or.inl (ww hw 19 rfl)) Via.refl e0 (S_z_COMPACT_STRINGS.ext O0.2) (g := (mkF m 0 #[va o0] [])) rfl (hb hby d12_0)
  obtain ⟨T2, X2, e2, st2⟩ := getF X1 hx hZ hown (host := "") (Or.inl (ww hw 31 rfl)) Via.refl e1 F_coder_o0 (g := (mkF m 7 #[va o0] [(.ref o0)])) rfl rfl (hb hby d12_7)
  obtain ⟨fs, hr, hrun, hended, hW, hsame⟩ := X2.leave (v := (some (.int 0))) (fun h => by rw [hrt] at h; cases h)
  refine ⟨_, _, ?_, hrun, hended, _, _, rfl, ?_, ⟨_, rfl⟩, hW, hsame.mono (by decide) (by decide)⟩
  · show Steps p.tables e below (s₁.setTop (mkF m 0 #[va o0] [])) _
    refine st1 _ ?_
    refine XS.ifNo X1.here hx rfl (hb hby d12_3) rfl ((if0 _ _).trans (feq hz_z_COMPACT_STRINGS).1) ?_
    refine XS.aloadN X1.here hx rfl (hb hby d12_6) rfl rfl ?_
    refine st2 _ ?_
    refine XS.goto X2.here hx rfl (pc0 := 10) (pc' := 14) rfl (hb hby d12_10) (by decide) (by decide) ?_
    exact retN X2 hx (t := .byte) hrt (by simp) (hb hby d12_14) hr
  · show Q12_6 Z z_COMPACT_STRINGS o0 o1 kk_o1 p0 p1 p2 p3 h0 n0 (some (.int 0)) T2.heap _
    exact (⟨rfl, N0, e2⟩)
def Q11_6 (Z : State) (z_COMPACT_STRINGS : Int32) (o0 : Addr) (o1 : Addr) (kk_o1 : ClassId) (p0 : Int32) (p1 : Int32) (p2 : Int32) (p3 : Int32) (h0 : Heap) (n0 : Nat) (v : Option Value) (h : Heap) (L : List Loc) : Prop := v = (some (.int 4)) ∧ Fr n0 L ∧ h = h0
theorem rm11_6 (l : Launch) (Z : State) (a0 : Array Value) (hw : HW Z a0) (ws : List Jvm.Cond) (z_COMPACT_STRINGS : Int32) (o0 : Addr) (o1 : Addr) (kk_o1 : ClassId) (p0 : Int32) (p1 : Int32) (p2 : Int32) (p3 : Int32) (h0 : Heap) (n0 : Nat) (O0 : Old Z n0 h0) (S : SF Z z_COMPACT_STRINGS) (E_o0 : Exa Z h0 o0 sC0) (F_coder_o0 : Fld Z h0 o0 sC0 "coder" "B" (.int 0)) (F_value_o0 : Fld Z h0 o0 sC0 "value" "[B" (.ref o1)) (V_o1 : Arv Z h0 o1 kk_o1 .byte (4 : Int32) [(.int p0), (.int p1), (.int p2), (.int p3)] (.int 0)) :
    Pay l Z My11 ws jdk_42_method_54_code 1 (some .int) #[(.ref o0)] h0 ({ frames := 1, cells := 0, slots := 0, locals := 13 } : Room) (Q11_6 Z z_COMPACT_STRINGS o0 o1 kk_o1 p0 p1 p2 p3 h0 n0) := by
  refine own_body (plainFor_of_name pn_1) (L0 := #[va o0]) (fun _ => by first | rfl | (simp [entryFrame, mkF, argsToLocals, Value.category]; done)) ?_
  intro p e s m below meth c s₁ hrt hlk hx hby hml hZ hown0 hnm X0 e0
  have hown : s.vm.findClass sC0 = some m.cls := hown0
  have N0 := Fr.nil n0
  have K0 : Keep h0 h0 [] := Keep.refl _ _
  obtain ⟨T1, X1, e1, st1⟩ := getF X0 hx hZ hown (host := "") (Or.inl (ww hw 33 rfl)) Via.refl e0 F_value_o0 (g := (mkF m 1 #[va o0] [(.ref o0)])) rfl rfl (hb hby d11_1)
  obtain ⟨cl2, Ar2, qk2, Sz2, Ng2, Hh2, Gg2⟩ := id V_o1
  obtain ⟨cq3, kq3, q3a, q3b, q3c⟩ := isOf hZ e1 E_o0
  obtain ⟨_, _, ⟨T3, L3, k3, n3⟩, -, X3, ⟨Lc3, hQ3, l3, y3, z3⟩, st3⟩ := X1.virtualBack hx (y := My12) (z := My12) hown (mvT hZ (ww hw 56 rfl)) (mvT hZ (ww hw 57 rfl)) (notFace_of_selects (args := #[]) (mvT hZ (ww hw 59 rfl))) (mvT hZ (ww hw 59 rfl)) (mvT hZ (ww hw 58 rfl)) (by decide) (backOf (W := 1) (rm12_6 l Z a0 hw [] z_COMPACT_STRINGS o0 o1 kk_o1 p0 p1 p2 p3 h0 n0 O0 S F_coder_o0) hZ (ww hw 60 rfl) (ww hw 8 rfl) (by decide) (by decide)) q3a q3c (g := (mkF m 6 #[va o0] [(.ref o0), (.int 4)])) rfl (by rw [hml]; rfl) (Steps.refl _) (argsL := []) (rest := [(.int 4)]) (lenOf pd_13 rfl) rfl (by show 2 * 0 + _ ≤ _; exact Nat.le_of_eq rfl) (hb hby d11_6) (fun _ _ => ⟨rfl, e1, (by decide : 0 + 0 ≤ _), (by decide : 0 + 0 ≤ _)⟩)
  dsimp only [Pt.U, Pt.locs, Pt.cells, Pt.slots] at X3 l3 y3 z3 st3 hQ3
  subst l3 y3 z3
  obtain ⟨rfl, Nq3, e3⟩ := hQ3
  have N3 := Fr.app N0 Nq3
  obtain ⟨fs, hr, hrun, hended, hW, hsame⟩ := X3.leave (v := (some (.int 4))) (fun h => by rw [hrt] at h; cases h)
  refine ⟨_, _, ?_, hrun, hended, _, _, rfl, ?_, ⟨_, rfl⟩, hW, hsame.mono (by decide) (by decide)⟩
  · show Steps p.tables e below (s₁.setTop (mkF m 0 #[va o0] [])) _
    refine XS.aloadN X0.here hx rfl (hb hby d11_0) rfl rfl ?_
    refine st1 _ ?_
    refine X1.arraylength hx (by rw [e1]; exact Ar2.1) (State.isArrayOf_alike hZ.alike Ar2.2.1) (g := (mkF m 4 #[va o0] [(.ref o1)])) rfl rfl (hb hby d11_4) _ ?_
    rw [len_of Sz2 Ng2]
    refine XS.aloadN X1.here hx rfl (hb hby d11_5) rfl rfl ?_
    refine st3.trans ?_
    refine XS.ishr X3.here hx rfl (hb hby d11_9) rfl ?_
    show Steps p.tables e below (T3.setTop (mkF m 10 #[va o0] [(.int ((4 : Int32) >>> ((0 : Int32) &&& 31)))])) _
    rw [show (((4 : Int32) >>> ((0 : Int32) &&& 31)) : Int32) = (4 : Int32) from by decide]
    exact retOut X3 hx (t := .int) (i := .ireturn) hrt rfl (Or.inl ⟨rfl, Or.inl rfl, _, rfl⟩) (hb hby d11_10) hr
  · show Q11_6 Z z_COMPACT_STRINGS o0 o1 kk_o1 p0 p1 p2 p3 h0 n0 (some (.int 4)) T3.heap _
    exact (⟨rfl, N3, e3⟩)
theorem jn7 {p : Program} {l : Launch} {e : Env} {s : State} {m : MethodId} {below : List Frame} {meth : Method} {c : Code} {T0 : State} {locs : List Loc} {Z : State} {a0 : Array Value} {h0 : Heap} {n0 : Nat} (hx : p.tables.exec = Jvm.exec) (hZ : Z.Warmed39 s.vm) (hby : c.code = code) (hml : c.maxLocals = 7) (hown : s.vm.findClass sC3 = some m.cls) (hrt : meth.sig.returnType = ret) (hlk : meth.locks = false) (hw : HW Z a0) (z_COMPACT_STRINGS : Int32) (o0 : Addr) (o1 : Addr) (kk_o1 : ClassId) (p0 : Int32) (p1 : Int32) (p2 : Int32) (p3 : Int32) (p4 : Int32) (f0 : Int32) (f1 : Int32) (f2 : Int32) (f3 : Int32) (f4 : Int32) (o1_e0 : Int32) (o1_e1 : Int32) (o1_e2 : Int32) (o1_e3 : Int32) (X0 : Stand p l e room_1 s m #[(.int p0), (.int p1), (.int p2), (.int p3), (.int p4)] below meth c T0 locs 8 64) (e0 : T0.heap = h0) (N0 : Fr n0 locs) (O0 : Old Z n0 h0) (S : SF Z z_COMPACT_STRINGS) (E_o0 : Exa Z h0 o0 sC0) (F_coder_o0 : Fld Z h0 o0 sC0 "coder" "B" (.int 0)) (F_value_o0 : Fld Z h0 o0 sC0 "value" "[B" (.ref o1)) (V_o1 : Arv Z h0 o1 kk_o1 .byte (4 : Int32) [(.int o1_e0), (.int o1_e1), (.int o1_e2), (.int o1_e3)] (.int 0)) :
    ∃ s₂ o, Steps p.tables e below (T0.setTop (mkF m 29 #[vi f0, vi f1, vi f2, vi f3, vi f4, va o0, uu] [])) s₂ ∧ s₂.status = .running ∧ Ended s₂ below o ∧ ∃ v L, o = .returned v ∧ Q0 n0 v s₂.heap L ∧ ReturnedEndW s o s₂ L room_1.cells room_1.slots := by
  have K0 : Keep h0 h0 [] := Keep.refl _ _
  obtain ⟨_, _, ⟨T1, L1, k1, n1⟩, -, X1, hS1, hge1, ⟨Lc1, hQ1, l1, y1, z1⟩, st1⟩ := callSS X0 hx (y := My8) hown (mvT hZ (ww hw 35 rfl)) (mvT hZ (ww hw 36 rfl)) (mvT hZ (ww hw 37 rfl)) (mvT hZ (ww hw 38 rfl)) (by decide) (backOfS (W := 0) (rm8_6 l Z a0 hw [] z_COMPACT_STRINGS o0 o1 kk_o1 o1_e0 o1_e1 o1_e2 o1_e3 h0 n0 O0 S E_o0 F_value_o0 V_o1) hZ (ww hw 38 rfl) (ww hw 37 rfl) (by decide) (by decide)) (g := (mkF m 31 #[vi f0, vi f1, vi f2, vi f3, vi f4, va o0, uu] [(.ref o0)])) rfl (by rw [hml]; rfl) (argsL := [(.ref o0)]) (rest := []) (lenOf pd_12 rfl) rfl (by show 2 * 0 + _ ≤ _; exact Nat.le_of_eq rfl) (hb hby at_31) (fun _ _ => ⟨rfl, e0, (by decide : 8 + 2 ≤ _), (by decide : 64 + 60 ≤ _)⟩)
  dsimp only [Pt.U, Pt.locs, Pt.cells, Pt.slots] at X1 l1 y1 z1 st1 hQ1 hS1 hge1
  subst l1 y1 z1
  have hZ1 : Z.Warmed39 (s.setVm T1.vm).vm := State.Warmed39.trans hZ hS1.1
  have hown1 : (s.setVm T1.vm).vm.findClass sC3 = some m.cls := by rw [show (s.setVm T1.vm).vm = T1.vm from rfl, hS1.1.alike.findClass]; exact hown
  obtain ⟨rfl, Nq1, Kc1⟩ := hQ1
  have N1 := Fr.app N0 Nq1
  have O1 := O0.keep Kc1 all0
  have K1 : Keep h0 T1.heap [] := K0.trans Kc1 all0
  have fc2 := (E_o0.keep Kc1)
  have fc3 := (F_coder_o0.keep Kc1 nin0)
  have fc4 := (F_value_o0.keep Kc1 nin0)
  have fc5 := (V_o1.keep Kc1 nin0)
  obtain ⟨cq6, kq6, q6a, q6b, q6c⟩ := isOf hZ1 rfl fc2
  obtain ⟨_, _, ⟨T6, L6, k6, n6⟩, -, X6, ⟨Lc6, hQ6, l6, y6, z6⟩, st6⟩ := X1.virtualBack hx (y := My11) (z := My11) hown1 (mvT hZ1 (ww hw 51 rfl)) (mvT hZ1 (ww hw 52 rfl)) (notFace_of_selects (args := #[]) (mvT hZ1 (ww hw 54 rfl))) (mvT hZ1 (ww hw 54 rfl)) (mvT hZ1 (ww hw 53 rfl)) (by decide) (backOf (W := 0) (rm11_6 l Z a0 hw [] z_COMPACT_STRINGS o0 o1 kk_o1 o1_e0 o1_e1 o1_e2 o1_e3 T1.heap n0 O1 S fc2 fc3 fc4 fc5) hZ1 (ww hw 55 rfl) (ww hw 8 rfl) (by decide) (by decide)) q6a q6c (g := (mkF m 45 #[vi f0, vi f1, vi f2, vi f3, vi f4, va o0, va o0] [(.ref o0)])) rfl (by rw [hml]; rfl) (Steps.refl _) (argsL := []) (rest := []) (lenOf pd_14 rfl) rfl (by show 2 * 0 + _ ≤ _; exact Nat.le_of_eq rfl) (hb hby at_45) (fun _ _ => ⟨rfl, rfl, (by decide : 10 + 0 ≤ _), (by decide : 124 + 0 ≤ _)⟩)
  dsimp only [Pt.U, Pt.locs, Pt.cells, Pt.slots] at X6 l6 y6 z6 st6 hQ6
  subst l6 y6 z6
  obtain ⟨rfl, Nq6, e6⟩ := hQ6
  have N6 := Fr.app N1 Nq6
  obtain ⟨cq7, kq7, q7a, q7b, q7c⟩ := isOf hZ1 e6 fc2
  obtain ⟨_, _, ⟨T7, L7, k7, n7⟩, -, X7, ⟨Lc7, hQ7, l7, y7, z7⟩, st7⟩ := X6.virtualBack hx (y := My11) (z := My11) hown1 (mvT hZ1 (ww hw 51 rfl)) (mvT hZ1 (ww hw 52 rfl)) (notFace_of_selects (args := #[]) (mvT hZ1 (ww hw 54 rfl))) (mvT hZ1 (ww hw 54 rfl)) (mvT hZ1 (ww hw 53 rfl)) (by decide) (backOf (W := 1) (rm11_6 l Z a0 hw [] z_COMPACT_STRINGS o0 o1 kk_o1 o1_e0 o1_e1 o1_e2 o1_e3 T1.heap n0 O1 S fc2 fc3 fc4 fc5) hZ1 (ww hw 55 rfl) (ww hw 8 rfl) (by decide) (by decide)) q7a q7c (g := (mkF m 50 #[vi f0, vi f1, vi f2, vi f3, vi f4, va o0, va o0] [(.ref o0), (.int 4)])) rfl (by rw [hml]; rfl) (Steps.refl _) (argsL := []) (rest := [(.int 4)]) (lenOf pd_14 rfl) rfl (by show 2 * 0 + _ ≤ _; exact Nat.le_of_eq rfl) (hb hby at_50) (fun _ _ => ⟨rfl, e6, (by decide : 10 + 0 ≤ _), (by decide : 124 + 0 ≤ _)⟩)
  dsimp only [Pt.U, Pt.locs, Pt.cells, Pt.slots] at X7 l7 y7 z7 st7 hQ7
  subst l7 y7 z7
  obtain ⟨rfl, Nq7, e7⟩ := hQ7
  have N7 := Fr.app N6 Nq7
  obtain ⟨fs, hr, hrun, hended, hRE⟩ := X7.leaveW (s := s) hS1 (by rw [e7]; exact (Nat.le_refl _)) (v := (some (.int 1))) (fun h => by rw [hrt] at h; cases h)
  refine ⟨_, _, ?_, hrun, hended, _, _, rfl, ?_, hRE.1, hRE.2.1, hRE.2.2.1, hRE.2.2.2.mono (by decide) (by decide)⟩
  · show Steps p.tables e below (T0.setTop (mkF m 29 #[vi f0, vi f1, vi f2, vi f3, vi f4, va o0, uu] [])) _
    refine XS.aload X0.here hx rfl (hb hby at_29) rfl rfl ?_
    refine st1.trans ?_
    refine XS.astore X1.here hx rfl (hb hby at_34) rfl rfl (l' := #[vi f0, vi f1, vi f2, vi f3, vi f4, va o0, va o0]) rfl ?_
    refine XS.aload X1.here hx rfl (hb hby at_36) rfl rfl ?_
    refine XS.aload X1.here hx rfl (hb hby at_38) rfl rfl ?_
    refine Jvm.RoadKit.acmp (g := (mkF m 40 #[vi f0, vi f1, vi f2, vi f3, vi f4, va o0, va o0] [(.ref o0), (.ref o0)])) X1 hx rfl rfl rfl (pc0 := 40) (pc' := 43) (same := true) rfl (hb hby at_40) rfl (decide_eq_true rfl) (by decide) (by decide) ?_
    refine XS.aload X1.here hx rfl (hb hby at_43) rfl rfl ?_
    refine st6.trans ?_
    show Steps p.tables e below (T6.setTop (mkF m 48 #[vi f0, vi f1, vi f2, vi f3, vi f4, va o0, va o0] [(.int 4)])) _
    refine XS.aload X6.here hx rfl (hb hby at_48) rfl rfl ?_
    refine st7.trans ?_
    refine XS.icmpNo X7.here hx rfl (hb hby at_53) rfl (teq (by decide : (4 : Int32) = (4 : Int32))).2 ?_
    refine XS.iconst X7.here hx rfl (hb hby at_56) ?_
    refine XS.goto X7.here hx rfl (pc0 := 57) (pc' := 61) rfl (hb hby at_57) (by decide) (by decide) ?_
    exact retN X7 hx (t := .boolean) hrt (by simp) (hb hby at_61) hr
  · show Q0 n0 (some (.int 1)) T7.heap _
    exact (⟨rfl, N7⟩)
def Q9_7 (Z : State) (z_COMPACT_STRINGS : Int32) (o0 : Addr) (o1 : Addr) (o2 : Addr) (kk_o1 : ClassId) (p0 : Int32) (p1 : Int32) (p2 : Int32) (p3 : Int32) (p4 : Int32) (p5 : Int32) (p6 : Int32) (p7 : Int32) (h0 : Heap) (n0 : Nat) (v : Option Value) (h : Heap) (L : List Loc) : Prop := v = (some (.ref o0)) ∧ Fr n0 L ∧ h = h0
theorem rm9_7 (l : Launch) (Z : State) (a0 : Array Value) (hw : HW Z a0) (ws : List Jvm.Cond) (z_COMPACT_STRINGS : Int32) (o0 : Addr) (o1 : Addr) (o2 : Addr) (kk_o1 : ClassId) (p0 : Int32) (p1 : Int32) (p2 : Int32) (p3 : Int32) (p4 : Int32) (p5 : Int32) (p6 : Int32) (p7 : Int32) (h0 : Heap) (n0 : Nat) (O0 : Old Z n0 h0) (S : SF Z z_COMPACT_STRINGS) :
    Pay l Z My9 ws jdk_31_method_11_code 2 (some (.object sC4)) #[(.ref o0), (.ref o2)] h0 ({ frames := 0, cells := 0, slots := 0, locals := 0 } : Room) (Q9_7 Z z_COMPACT_STRINGS o0 o1 o2 kk_o1 p0 p1 p2 p3 p4 p5 p6 p7 h0 n0) := by
  refine own_body (plainFor_of_name pn_4) (L0 := #[va o0, va o2]) (fun _ => by first | rfl | (simp [entryFrame, mkF, argsToLocals, Value.category]; done)) ?_
  intro p e s m below meth c s₁ hrt hlk hx hby hml hZ hown0 hnm X0 e0
  have hown : s.vm.findClass sC5 = some m.cls := hown0
  have N0 := Fr.nil n0
  have K0 : Keep h0 h0 [] := Keep.refl _ _
  obtain ⟨fs, hr, hrun, hended, hW, hsame⟩ := X0.leave (v := (some (.ref o0))) (fun h => by rw [hrt] at h; cases h)
  refine ⟨_, _, ?_, hrun, hended, _, _, rfl, ?_, ⟨_, rfl⟩, hW, hsame.mono (by decide) (by decide)⟩
  · show Steps p.tables e below (s₁.setTop (mkF m 0 #[va o0, va o2] [])) _
    refine XS.aloadN X0.here hx rfl (hb hby d9_0) rfl rfl ?_
    refine XS.ifnonnullYes X0.here hx rfl (pc0 := 1) (pc' := 13) rfl (hb hby d9_1) rfl (by decide) (by decide) ?_
    refine XS.aloadN X0.here hx rfl (hb hby d9_13) rfl rfl ?_
    exact retOut X0 hx (t := (.object sC4)) (i := .areturn) hrt rfl (Or.inr (Or.inr (Or.inr (Or.inr ⟨rfl, rfl, rfl⟩)))) (hb hby d9_14) hr
  · show Q9_7 Z z_COMPACT_STRINGS o0 o1 o2 kk_o1 p0 p1 p2 p3 p4 p5 p6 p7 h0 n0 (some (.ref o0)) s₁.heap _
    exact (⟨rfl, N0, e0⟩)
def Q10_7 (Z : State) (z_COMPACT_STRINGS : Int32) (o0 : Addr) (o1 : Addr) (kk_o1 : ClassId) (p0 : Int32) (p1 : Int32) (p2 : Int32) (p3 : Int32) (p4 : Int32) (p5 : Int32) (p6 : Int32) (p7 : Int32) (h0 : Heap) (n0 : Nat) (v : Option Value) (h : Heap) (L : List Loc) : Prop := v = (some (.int 0)) ∧ Fr n0 L ∧ h = h0
theorem rm10_7 (l : Launch) (Z : State) (a0 : Array Value) (hw : HW Z a0) (ws : List Jvm.Cond) (z_COMPACT_STRINGS : Int32) (o0 : Addr) (o1 : Addr) (kk_o1 : ClassId) (p0 : Int32) (p1 : Int32) (p2 : Int32) (p3 : Int32) (p4 : Int32) (p5 : Int32) (p6 : Int32) (p7 : Int32) (h0 : Heap) (n0 : Nat) (O0 : Old Z n0 h0) (S : SF Z z_COMPACT_STRINGS) (F_value_o0 : Fld Z h0 o0 sC0 "value" "[B" (.ref o1)) (V_o1 : Arv Z h0 o1 kk_o1 .byte (8 : Int32) [(.int p0), (.int p1), (.int p2), (.int p3), (.int p4), (.int p5), (.int p6), (.int p7)] (.int 0)) :
    Pay l Z My10 ws jdk_42_method_55_code 1 (some .boolean) #[(.ref o0)] h0 ({ frames := 0, cells := 0, slots := 0, locals := 0 } : Room) (Q10_7 Z z_COMPACT_STRINGS o0 o1 kk_o1 p0 p1 p2 p3 p4 p5 p6 p7 h0 n0) := by
  refine own_body (plainFor_of_name pn_1) (L0 := #[va o0]) (fun _ => by first | rfl | (simp [entryFrame, mkF, argsToLocals, Value.category]; done)) ?_
  intro p e s m below meth c s₁ hrt hlk hx hby hml hZ hown0 hnm X0 e0
  have hown : s.vm.findClass sC0 = some m.cls := hown0
  have N0 := Fr.nil n0
  have K0 : Keep h0 h0 [] := Keep.refl _ _
  obtain ⟨T1, X1, e1, st1⟩ := getF X0 hx hZ hown (host := "") (Or.inl (ww hw 33 rfl)) Via.refl e0 F_value_o0 (g := (mkF m 1 #[va o0] [(.ref o0)])) rfl rfl (hb hby d10_1)
  obtain ⟨cl2, Ar2, qk2, Sz2, Ng2, Hh2, Gg2⟩ := id V_o1
  obtain ⟨fs, hr, hrun, hended, hW, hsame⟩ := X1.leave (v := (some (.int 0))) (fun h => by rw [hrt] at h; cases h)
  refine ⟨_, _, ?_, hrun, hended, _, _, rfl, ?_, ⟨_, rfl⟩, hW, hsame.mono (by decide) (by decide)⟩
  · show Steps p.tables e below (s₁.setTop (mkF m 0 #[va o0] [])) _
    refine XS.aloadN X0.here hx rfl (hb hby d10_0) rfl rfl ?_
    refine st1 _ ?_
    refine X1.arraylength hx (by rw [e1]; exact Ar2.1) (State.isArrayOf_alike hZ.alike Ar2.2.1) (g := (mkF m 4 #[va o0] [(.ref o1)])) rfl rfl (hb hby d10_4) _ ?_
    rw [len_of Sz2 Ng2]
    refine XS.ifYes X1.here hx rfl (pc0 := 5) (pc' := 12) rfl (hb hby d10_5) rfl ((if0 _ _).trans (feq (by decide : ¬ ((8 : Int32) = (0 : Int32)))).2) (by decide) (by decide) ?_
    refine XS.iconst X1.here hx rfl (hb hby d10_12) ?_
    exact retN X1 hx (t := .boolean) hrt (by simp) (hb hby d10_13) hr
  · show Q10_7 Z z_COMPACT_STRINGS o0 o1 kk_o1 p0 p1 p2 p3 p4 p5 p6 p7 h0 n0 (some (.int 0)) T1.heap _
    exact (⟨rfl, N0, e1⟩)
def Q8_7 (Z : State) (z_COMPACT_STRINGS : Int32) (o0 : Addr) (o1 : Addr) (kk_o1 : ClassId) (p0 : Int32) (p1 : Int32) (p2 : Int32) (p3 : Int32) (p4 : Int32) (p5 : Int32) (p6 : Int32) (p7 : Int32) (h0 : Heap) (n0 : Nat) (v : Option Value) (h : Heap) (L : List Loc) : Prop := v = (some (.ref o0)) ∧ Fr n0 L ∧ Keep h0 h []
theorem rm8_7 (l : Launch) (Z : State) (a0 : Array Value) (hw : HW Z a0) (ws : List Jvm.Cond) (z_COMPACT_STRINGS : Int32) (o0 : Addr) (o1 : Addr) (kk_o1 : ClassId) (p0 : Int32) (p1 : Int32) (p2 : Int32) (p3 : Int32) (p4 : Int32) (p5 : Int32) (p6 : Int32) (p7 : Int32) (h0 : Heap) (n0 : Nat) (O0 : Old Z n0 h0) (S : SF Z z_COMPACT_STRINGS) (E_o0 : Exa Z h0 o0 sC0) (F_value_o0 : Fld Z h0 o0 sC0 "value" "[B" (.ref o1)) (V_o1 : Arv Z h0 o1 kk_o1 .byte (8 : Int32) [(.int p0), (.int p1), (.int p2), (.int p3), (.int p4), (.int p5), (.int p6), (.int p7)] (.int 0)) :
    PayW l Z My8 ws prog_14_method_7_code 1 (some (.object sC0)) #[(.ref o0)] h0 ({ frames := 1, cells := 2, slots := 60, locals := 13 } : Room) (Q8_7 Z z_COMPACT_STRINGS o0 o1 kk_o1 p0 p1 p2 p3 p4 p5 p6 p7 h0 n0) := by
  refine own_body (plainFor_of_name pn_3) (L0 := #[va o0]) (fun _ => by first | rfl | (simp [entryFrame, mkF, argsToLocals, Value.category]; done)) ?_
  intro p e s m below meth c s₁ hrt hlk hx hby hml hZ hown0 hnm X0 e0
  have hown : s.vm.findClass sC2 = some m.cls := hown0
  have N0 := Fr.nil n0
  have K0 : Keep h0 h0 [] := Keep.refl _ _
  obtain ⟨a1, T1, h1, kk1, X1, e1, E1, hS1, hk1, hZ1, hown1, st1⟩ := ldcS (s := s) (vm0 := s.vm) X0 hx hZ hown (ww hw 39 rfl) (own_wS hw) e0 (k0 := 0) ((State.WarmedH.refl s).since 0) (Nat.zero_le _) (g := (mkF m 1 #[va o0] [(.ref o0)])) rfl (hb hby d8_1) (n := 56) (by decide +kernel) (by decide) (by decide) (by decide)
  have O1 := O0.ext E1
  have K1 : Keep h0 h1 [] := K0.ext E1
  obtain ⟨_, _, ⟨T2, L2, k2, n2⟩, -, X2, ⟨Lc2, hQ2, l2, y2, z2⟩, st2⟩ := Jvm.LawKit.callS X1 hx (y := My9) hown1 (mvT hZ1 (ww hw 42 rfl)) (mvT hZ1 (ww hw 43 rfl)) (mvT hZ1 (ww hw 44 rfl)) (mvT hZ1 (ww hw 45 rfl)) (by decide) (backOf (W := 0) (rm9_7 l Z a0 hw [] z_COMPACT_STRINGS o0 o1 a1 kk_o1 p0 p1 p2 p3 p4 p5 p6 p7 h1 n0 O1 S) hZ1 (ww hw 45 rfl) (ww hw 44 rfl) (by decide) (by decide)) (g := (mkF m 3 #[va o0] [(.ref a1), (.ref o0)])) rfl (by rw [hml]; rfl) (argsL := [(.ref o0), (.ref a1)]) (rest := []) (lenOf pd_10 rfl) rfl (by show 2 * 0 + _ ≤ _; exact Nat.le_of_eq rfl) (hb hby d8_3) (fun _ _ => ⟨rfl, e1, (by decide : 2 + 0 ≤ _), (by decide : 60 + 0 ≤ _)⟩)
  dsimp only [Pt.U, Pt.locs, Pt.cells, Pt.slots] at X2 l2 y2 z2 st2 hQ2
  subst l2 y2 z2
  obtain ⟨rfl, Nq2, e2⟩ := hQ2
  have N2 := Fr.app N0 Nq2
  have fc3 := (F_value_o0.ext E1)
  have fc4 := (V_o1.ext E1)
  have fc6 := (E_o0.ext E1)
  obtain ⟨cq5, kq5, q5a, q5b, q5c⟩ := isOf hZ1 e2 fc6
  obtain ⟨_, _, ⟨T5, L5, k5, n5⟩, -, X5, ⟨Lc5, hQ5, l5, y5, z5⟩, st5⟩ := X2.virtualBack hx (y := My10) (z := My10) hown1 (mvT hZ1 (ww hw 46 rfl)) (mvT hZ1 (ww hw 47 rfl)) (notFace_of_selects (args := #[]) (mvT hZ1 (ww hw 49 rfl))) (mvT hZ1 (ww hw 49 rfl)) (mvT hZ1 (ww hw 48 rfl)) (by decide) (backOf (W := 0) (rm10_7 l Z a0 hw [] z_COMPACT_STRINGS o0 o1 kk_o1 p0 p1 p2 p3 p4 p5 p6 p7 h1 n0 O1 S fc3 fc4) hZ1 (ww hw 50 rfl) (ww hw 8 rfl) (by decide) (by decide)) q5a q5c (g := (mkF m 8 #[va o0] [(.ref o0)])) rfl (by rw [hml]; rfl) (Steps.refl _) (argsL := []) (rest := []) (lenOf pd_11 rfl) rfl (by show 2 * 0 + _ ≤ _; exact Nat.le_of_eq rfl) (hb hby d8_8) (fun _ _ => ⟨rfl, e2, (by decide : 2 + 0 ≤ _), (by decide : 60 + 0 ≤ _)⟩)
  dsimp only [Pt.U, Pt.locs, Pt.cells, Pt.slots] at X5 l5 y5 z5 st5 hQ5
  subst l5 y5 z5
  obtain ⟨rfl, Nq5, e5⟩ := hQ5
  have N5 := Fr.app N2 Nq5
  obtain ⟨fs, hr, hrun, hended, hRE⟩ := X5.leaveW (s := s) hS1 (by rw [e5]; exact hk1) (v := (some (.ref o0))) (fun h => by rw [hrt] at h; cases h)
  refine ⟨_, _, ?_, hrun, hended, _, _, rfl, ?_, hRE.1, hRE.2.1, hRE.2.2.1, hRE.2.2.2.mono (by decide) (by decide)⟩
  · show Steps p.tables e below (s₁.setTop (mkF m 0 #[va o0] [])) _
    refine XS.aloadN X0.here hx rfl (hb hby d8_0) rfl rfl ?_
    refine st1 _ ?_
    refine st2 _ ?_
    refine XS.pop X2.here hx rfl (hb hby d8_6) rfl rfl ?_
    refine XS.aloadN X2.here hx rfl (hb hby d8_7) rfl rfl ?_
    refine st5.trans ?_
    refine XS.ifYes X5.here hx rfl (pc0 := 11) (pc' := 24) rfl (hb hby d8_11) rfl ((if0 _ _).trans (teq (by decide : (0 : Int32) = (0 : Int32))).1) (by decide) (by decide) ?_
    refine XS.aloadN X5.here hx rfl (hb hby d8_24) rfl rfl ?_
    show Steps p.tables e below (T5.setTop (mkF m 25 #[va o0] [(.ref o0)])) _
    exact retOut X5 hx (t := (.object sC0)) (i := .areturn) hrt rfl (Or.inr (Or.inr (Or.inr (Or.inr ⟨rfl, rfl, rfl⟩)))) (hb hby d8_25) hr
  · show Q8_7 Z z_COMPACT_STRINGS o0 o1 kk_o1 p0 p1 p2 p3 p4 p5 p6 p7 h0 n0 (some (.ref o0)) T5.heap _
    rw [e5]; exact ⟨rfl, N5, K1⟩
def Q12_7 (Z : State) (z_COMPACT_STRINGS : Int32) (o0 : Addr) (o1 : Addr) (kk_o1 : ClassId) (p0 : Int32) (p1 : Int32) (p2 : Int32) (p3 : Int32) (p4 : Int32) (p5 : Int32) (p6 : Int32) (p7 : Int32) (h0 : Heap) (n0 : Nat) (v : Option Value) (h : Heap) (L : List Loc) : Prop := v = (some (.int 1)) ∧ Fr n0 L ∧ h = h0
theorem rm12_7 (l : Launch) (Z : State) (a0 : Array Value) (hw : HW Z a0) (ws : List Jvm.Cond) (z_COMPACT_STRINGS : Int32) (o0 : Addr) (o1 : Addr) (kk_o1 : ClassId) (p0 : Int32) (p1 : Int32) (p2 : Int32) (p3 : Int32) (p4 : Int32) (p5 : Int32) (p6 : Int32) (p7 : Int32) (h0 : Heap) (n0 : Nat) (O0 : Old Z n0 h0) (S : SF Z z_COMPACT_STRINGS) (F_coder_o0 : Fld Z h0 o0 sC0 "coder" "B" (.int 1)) :
    Pay l Z My12 ws jdk_42_method_152_code 1 (some .byte) #[(.ref o0)] h0 ({ frames := 0, cells := 0, slots := 0, locals := 0 } : Room) (Q12_7 Z z_COMPACT_STRINGS o0 o1 kk_o1 p0 p1 p2 p3 p4 p5 p6 p7 h0 n0) := by
  obtain ⟨S_z_COMPACT_STRINGS, hz_z_COMPACT_STRINGS, -⟩ := id S
  refine own_body (plainFor_of_name pn_1) (L0 := #[va o0]) (fun _ => by first | rfl | (simp [entryFrame, mkF, argsToLocals, Value.category]; done)) ?_
  intro p e s m below meth c s₁ hrt hlk hx hby hml hZ hown0 hnm X0 e0
  have hown : s.vm.findClass sC0 = some m.cls := hown0
  have N0 := Fr.nil n0
  have K0 : Keep h0 h0 [] := Keep.refl _ _
  obtain ⟨T1, X1, e1, st1⟩ := getS2 X0 hx hZ hown (host := "") (Or.inl (ww hw 19 rfl)) Via.refl e0 (S_z_COMPACT_STRINGS.ext O0.2) (g := (mkF m 0 #[va o0] [])) rfl (hb hby d12_0)
  obtain ⟨T2, X2, e2, st2⟩ := getF X1 hx hZ hown (host := "") (Or.inl (ww hw 31 rfl)) Via.refl e1 F_coder_o0 (g := (mkF m 7 #[va o0] [(.ref o0)])) rfl rfl (hb hby d12_7)
  obtain ⟨fs, hr, hrun, hended, hW, hsame⟩ := X2.leave (v := (some (.int 1))) (fun h => by rw [hrt] at h; cases h)
  refine ⟨_, _, ?_, hrun, hended, _, _, rfl, ?_, ⟨_, rfl⟩, hW, hsame.mono (by decide) (by decide)⟩
  · show Steps p.tables e below (s₁.setTop (mkF m 0 #[va o0] [])) _
    refine st1 _ ?_
    refine XS.ifNo X1.here hx rfl (hb hby d12_3) rfl ((if0 _ _).trans (feq hz_z_COMPACT_STRINGS).1) ?_
    refine XS.aloadN X1.here hx rfl (hb hby d12_6) rfl rfl ?_
    refine st2 _ ?_
    refine XS.goto X2.here hx rfl (pc0 := 10) (pc' := 14) rfl (hb hby d12_10) (by decide) (by decide) ?_
    exact retN X2 hx (t := .byte) hrt (by simp) (hb hby d12_14) hr
  · show Q12_7 Z z_COMPACT_STRINGS o0 o1 kk_o1 p0 p1 p2 p3 p4 p5 p6 p7 h0 n0 (some (.int 1)) T2.heap _
    exact (⟨rfl, N0, e2⟩)
def Q11_7 (Z : State) (z_COMPACT_STRINGS : Int32) (o0 : Addr) (o1 : Addr) (kk_o1 : ClassId) (p0 : Int32) (p1 : Int32) (p2 : Int32) (p3 : Int32) (p4 : Int32) (p5 : Int32) (p6 : Int32) (p7 : Int32) (h0 : Heap) (n0 : Nat) (v : Option Value) (h : Heap) (L : List Loc) : Prop := v = (some (.int 4)) ∧ Fr n0 L ∧ h = h0
theorem rm11_7 (l : Launch) (Z : State) (a0 : Array Value) (hw : HW Z a0) (ws : List Jvm.Cond) (z_COMPACT_STRINGS : Int32) (o0 : Addr) (o1 : Addr) (kk_o1 : ClassId) (p0 : Int32) (p1 : Int32) (p2 : Int32) (p3 : Int32) (p4 : Int32) (p5 : Int32) (p6 : Int32) (p7 : Int32) (h0 : Heap) (n0 : Nat) (O0 : Old Z n0 h0) (S : SF Z z_COMPACT_STRINGS) (E_o0 : Exa Z h0 o0 sC0) (F_coder_o0 : Fld Z h0 o0 sC0 "coder" "B" (.int 1)) (F_value_o0 : Fld Z h0 o0 sC0 "value" "[B" (.ref o1)) (V_o1 : Arv Z h0 o1 kk_o1 .byte (8 : Int32) [(.int p0), (.int p1), (.int p2), (.int p3), (.int p4), (.int p5), (.int p6), (.int p7)] (.int 0)) :
    Pay l Z My11 ws jdk_42_method_54_code 1 (some .int) #[(.ref o0)] h0 ({ frames := 1, cells := 0, slots := 0, locals := 13 } : Room) (Q11_7 Z z_COMPACT_STRINGS o0 o1 kk_o1 p0 p1 p2 p3 p4 p5 p6 p7 h0 n0) := by
  refine own_body (plainFor_of_name pn_1) (L0 := #[va o0]) (fun _ => by first | rfl | (simp [entryFrame, mkF, argsToLocals, Value.category]; done)) ?_
  intro p e s m below meth c s₁ hrt hlk hx hby hml hZ hown0 hnm X0 e0
  have hown : s.vm.findClass sC0 = some m.cls := hown0
  have N0 := Fr.nil n0
  have K0 : Keep h0 h0 [] := Keep.refl _ _
  obtain ⟨T1, X1, e1, st1⟩ := getF X0 hx hZ hown (host := "") (Or.inl (ww hw 33 rfl)) Via.refl e0 F_value_o0 (g := (mkF m 1 #[va o0] [(.ref o0)])) rfl rfl (hb hby d11_1)
  obtain ⟨cl2, Ar2, qk2, Sz2, Ng2, Hh2, Gg2⟩ := id V_o1
  obtain ⟨cq3, kq3, q3a, q3b, q3c⟩ := isOf hZ e1 E_o0
  obtain ⟨_, _, ⟨T3, L3, k3, n3⟩, -, X3, ⟨Lc3, hQ3, l3, y3, z3⟩, st3⟩ := X1.virtualBack hx (y := My12) (z := My12) hown (mvT hZ (ww hw 56 rfl)) (mvT hZ (ww hw 57 rfl)) (notFace_of_selects (args := #[]) (mvT hZ (ww hw 59 rfl))) (mvT hZ (ww hw 59 rfl)) (mvT hZ (ww hw 58 rfl)) (by decide) (backOf (W := 1) (rm12_7 l Z a0 hw [] z_COMPACT_STRINGS o0 o1 kk_o1 p0 p1 p2 p3 p4 p5 p6 p7 h0 n0 O0 S F_coder_o0) hZ (ww hw 60 rfl) (ww hw 8 rfl) (by decide) (by decide)) q3a q3c (g := (mkF m 6 #[va o0] [(.ref o0), (.int 8)])) rfl (by rw [hml]; rfl) (Steps.refl _) (argsL := []) (rest := [(.int 8)]) (lenOf pd_13 rfl) rfl (by show 2 * 0 + _ ≤ _; exact Nat.le_of_eq rfl) (hb hby d11_6) (fun _ _ => ⟨rfl, e1, (by decide : 0 + 0 ≤ _), (by decide : 0 + 0 ≤ _)⟩)
  dsimp only [Pt.U, Pt.locs, Pt.cells, Pt.slots] at X3 l3 y3 z3 st3 hQ3
  subst l3 y3 z3
  obtain ⟨rfl, Nq3, e3⟩ := hQ3
  have N3 := Fr.app N0 Nq3
  obtain ⟨fs, hr, hrun, hended, hW, hsame⟩ := X3.leave (v := (some (.int 4))) (fun h => by rw [hrt] at h; cases h)
  refine ⟨_, _, ?_, hrun, hended, _, _, rfl, ?_, ⟨_, rfl⟩, hW, hsame.mono (by decide) (by decide)⟩
  · show Steps p.tables e below (s₁.setTop (mkF m 0 #[va o0] [])) _
    refine XS.aloadN X0.here hx rfl (hb hby d11_0) rfl rfl ?_
    refine st1 _ ?_
    refine X1.arraylength hx (by rw [e1]; exact Ar2.1) (State.isArrayOf_alike hZ.alike Ar2.2.1) (g := (mkF m 4 #[va o0] [(.ref o1)])) rfl rfl (hb hby d11_4) _ ?_
    rw [len_of Sz2 Ng2]
    refine XS.aloadN X1.here hx rfl (hb hby d11_5) rfl rfl ?_
    refine st3.trans ?_
    refine XS.ishr X3.here hx rfl (hb hby d11_9) rfl ?_
    show Steps p.tables e below (T3.setTop (mkF m 10 #[va o0] [(.int ((8 : Int32) >>> ((1 : Int32) &&& 31)))])) _
    rw [show (((8 : Int32) >>> ((1 : Int32) &&& 31)) : Int32) = (4 : Int32) from by decide]
    exact retOut X3 hx (t := .int) (i := .ireturn) hrt rfl (Or.inl ⟨rfl, Or.inl rfl, _, rfl⟩) (hb hby d11_10) hr
  · show Q11_7 Z z_COMPACT_STRINGS o0 o1 kk_o1 p0 p1 p2 p3 p4 p5 p6 p7 h0 n0 (some (.int 4)) T3.heap _
    exact (⟨rfl, N3, e3⟩)
theorem jn8 {p : Program} {l : Launch} {e : Env} {s : State} {m : MethodId} {below : List Frame} {meth : Method} {c : Code} {T0 : State} {locs : List Loc} {Z : State} {a0 : Array Value} {h0 : Heap} {n0 : Nat} (hx : p.tables.exec = Jvm.exec) (hZ : Z.Warmed39 s.vm) (hby : c.code = code) (hml : c.maxLocals = 7) (hown : s.vm.findClass sC3 = some m.cls) (hrt : meth.sig.returnType = ret) (hlk : meth.locks = false) (hw : HW Z a0) (z_COMPACT_STRINGS : Int32) (o0 : Addr) (o1 : Addr) (kk_o1 : ClassId) (p0 : Int32) (p1 : Int32) (p2 : Int32) (p3 : Int32) (p4 : Int32) (f0 : Int32) (f1 : Int32) (f2 : Int32) (f3 : Int32) (f4 : Int32) (o1_e0 : Int32) (o1_e1 : Int32) (o1_e2 : Int32) (o1_e3 : Int32) (o1_e4 : Int32) (o1_e5 : Int32) (o1_e6 : Int32) (o1_e7 : Int32) (X0 : Stand p l e room_1 s m #[(.int p0), (.int p1), (.int p2), (.int p3), (.int p4)] below meth c T0 locs 8 64) (e0 : T0.heap = h0) (N0 : Fr n0 locs) (O0 : Old Z n0 h0) (S : SF Z z_COMPACT_STRINGS) (E_o0 : Exa Z h0 o0 sC0) (F_coder_o0 : Fld Z h0 o0 sC0 "coder" "B" (.int 1)) (F_value_o0 : Fld Z h0 o0 sC0 "value" "[B" (.ref o1)) (V_o1 : Arv Z h0 o1 kk_o1 .byte (8 : Int32) [(.int o1_e0), (.int o1_e1), (.int o1_e2), (.int o1_e3), (.int o1_e4), (.int o1_e5), (.int o1_e6), (.int o1_e7)] (.int 0)) :
    ∃ s₂ o, Steps p.tables e below (T0.setTop (mkF m 29 #[vi f0, vi f1, vi f2, vi f3, vi f4, va o0, uu] [])) s₂ ∧ s₂.status = .running ∧ Ended s₂ below o ∧ ∃ v L, o = .returned v ∧ Q0 n0 v s₂.heap L ∧ ReturnedEndW s o s₂ L room_1.cells room_1.slots := by
  have K0 : Keep h0 h0 [] := Keep.refl _ _
  obtain ⟨_, _, ⟨T1, L1, k1, n1⟩, -, X1, hS1, hge1, ⟨Lc1, hQ1, l1, y1, z1⟩, st1⟩ := callSS X0 hx (y := My8) hown (mvT hZ (ww hw 35 rfl)) (mvT hZ (ww hw 36 rfl)) (mvT hZ (ww hw 37 rfl)) (mvT hZ (ww hw 38 rfl)) (by decide) (backOfS (W := 0) (rm8_7 l Z a0 hw [] z_COMPACT_STRINGS o0 o1 kk_o1 o1_e0 o1_e1 o1_e2 o1_e3 o1_e4 o1_e5 o1_e6 o1_e7 h0 n0 O0 S E_o0 F_value_o0 V_o1) hZ (ww hw 38 rfl) (ww hw 37 rfl) (by decide) (by decide)) (g := (mkF m 31 #[vi f0, vi f1, vi f2, vi f3, vi f4, va o0, uu] [(.ref o0)])) rfl (by rw [hml]; rfl) (argsL := [(.ref o0)]) (rest := []) (lenOf pd_12 rfl) rfl (by show 2 * 0 + _ ≤ _; exact Nat.le_of_eq rfl) (hb hby at_31) (fun _ _ => ⟨rfl, e0, (by decide : 8 + 2 ≤ _), (by decide : 64 + 60 ≤ _)⟩)
  dsimp only [Pt.U, Pt.locs, Pt.cells, Pt.slots] at X1 l1 y1 z1 st1 hQ1 hS1 hge1
  subst l1 y1 z1
  have hZ1 : Z.Warmed39 (s.setVm T1.vm).vm := State.Warmed39.trans hZ hS1.1
  have hown1 : (s.setVm T1.vm).vm.findClass sC3 = some m.cls := by rw [show (s.setVm T1.vm).vm = T1.vm from rfl, hS1.1.alike.findClass]; exact hown
  obtain ⟨rfl, Nq1, Kc1⟩ := hQ1
  have N1 := Fr.app N0 Nq1
  have O1 := O0.keep Kc1 all0
  have K1 : Keep h0 T1.heap [] := K0.trans Kc1 all0
  have fc2 := (E_o0.keep Kc1)
  have fc3 := (F_coder_o0.keep Kc1 nin0)
  have fc4 := (F_value_o0.keep Kc1 nin0)
  have fc5 := (V_o1.keep Kc1 nin0)
  obtain ⟨cq6, kq6, q6a, q6b, q6c⟩ := isOf hZ1 rfl fc2
  obtain ⟨_, _, ⟨T6, L6, k6, n6⟩, -, X6, ⟨Lc6, hQ6, l6, y6, z6⟩, st6⟩ := X1.virtualBack hx (y := My11) (z := My11) hown1 (mvT hZ1 (ww hw 51 rfl)) (mvT hZ1 (ww hw 52 rfl)) (notFace_of_selects (args := #[]) (mvT hZ1 (ww hw 54 rfl))) (mvT hZ1 (ww hw 54 rfl)) (mvT hZ1 (ww hw 53 rfl)) (by decide) (backOf (W := 0) (rm11_7 l Z a0 hw [] z_COMPACT_STRINGS o0 o1 kk_o1 o1_e0 o1_e1 o1_e2 o1_e3 o1_e4 o1_e5 o1_e6 o1_e7 T1.heap n0 O1 S fc2 fc3 fc4 fc5) hZ1 (ww hw 55 rfl) (ww hw 8 rfl) (by decide) (by decide)) q6a q6c (g := (mkF m 45 #[vi f0, vi f1, vi f2, vi f3, vi f4, va o0, va o0] [(.ref o0)])) rfl (by rw [hml]; rfl) (Steps.refl _) (argsL := []) (rest := []) (lenOf pd_14 rfl) rfl (by show 2 * 0 + _ ≤ _; exact Nat.le_of_eq rfl) (hb hby at_45) (fun _ _ => ⟨rfl, rfl, (by decide : 10 + 0 ≤ _), (by decide : 124 + 0 ≤ _)⟩)
  dsimp only [Pt.U, Pt.locs, Pt.cells, Pt.slots] at X6 l6 y6 z6 st6 hQ6
  subst l6 y6 z6
  obtain ⟨rfl, Nq6, e6⟩ := hQ6
  have N6 := Fr.app N1 Nq6
  obtain ⟨cq7, kq7, q7a, q7b, q7c⟩ := isOf hZ1 e6 fc2
  obtain ⟨_, _, ⟨T7, L7, k7, n7⟩, -, X7, ⟨Lc7, hQ7, l7, y7, z7⟩, st7⟩ := X6.virtualBack hx (y := My11) (z := My11) hown1 (mvT hZ1 (ww hw 51 rfl)) (mvT hZ1 (ww hw 52 rfl)) (notFace_of_selects (args := #[]) (mvT hZ1 (ww hw 54 rfl))) (mvT hZ1 (ww hw 54 rfl)) (mvT hZ1 (ww hw 53 rfl)) (by decide) (backOf (W := 1) (rm11_7 l Z a0 hw [] z_COMPACT_STRINGS o0 o1 kk_o1 o1_e0 o1_e1 o1_e2 o1_e3 o1_e4 o1_e5 o1_e6 o1_e7 T1.heap n0 O1 S fc2 fc3 fc4 fc5) hZ1 (ww hw 55 rfl) (ww hw 8 rfl) (by decide) (by decide)) q7a q7c (g := (mkF m 50 #[vi f0, vi f1, vi f2, vi f3, vi f4, va o0, va o0] [(.ref o0), (.int 4)])) rfl (by rw [hml]; rfl) (Steps.refl _) (argsL := []) (rest := [(.int 4)]) (lenOf pd_14 rfl) rfl (by show 2 * 0 + _ ≤ _; exact Nat.le_of_eq rfl) (hb hby at_50) (fun _ _ => ⟨rfl, e6, (by decide : 10 + 0 ≤ _), (by decide : 124 + 0 ≤ _)⟩)
  dsimp only [Pt.U, Pt.locs, Pt.cells, Pt.slots] at X7 l7 y7 z7 st7 hQ7
  subst l7 y7 z7
  obtain ⟨rfl, Nq7, e7⟩ := hQ7
  have N7 := Fr.app N6 Nq7
  obtain ⟨fs, hr, hrun, hended, hRE⟩ := X7.leaveW (s := s) hS1 (by rw [e7]; exact (Nat.le_refl _)) (v := (some (.int 1))) (fun h => by rw [hrt] at h; cases h)
  refine ⟨_, _, ?_, hrun, hended, _, _, rfl, ?_, hRE.1, hRE.2.1, hRE.2.2.1, hRE.2.2.2.mono (by decide) (by decide)⟩
  · show Steps p.tables e below (T0.setTop (mkF m 29 #[vi f0, vi f1, vi f2, vi f3, vi f4, va o0, uu] [])) _
    refine XS.aload X0.here hx rfl (hb hby at_29) rfl rfl ?_
    refine st1.trans ?_
    refine XS.astore X1.here hx rfl (hb hby at_34) rfl rfl (l' := #[vi f0, vi f1, vi f2, vi f3, vi f4, va o0, va o0]) rfl ?_
    refine XS.aload X1.here hx rfl (hb hby at_36) rfl rfl ?_
    refine XS.aload X1.here hx rfl (hb hby at_38) rfl rfl ?_
    refine Jvm.RoadKit.acmp (g := (mkF m 40 #[vi f0, vi f1, vi f2, vi f3, vi f4, va o0, va o0] [(.ref o0), (.ref o0)])) X1 hx rfl rfl rfl (pc0 := 40) (pc' := 43) (same := true) rfl (hb hby at_40) rfl (decide_eq_true rfl) (by decide) (by decide) ?_
    refine XS.aload X1.here hx rfl (hb hby at_43) rfl rfl ?_
    refine st6.trans ?_
    show Steps p.tables e below (T6.setTop (mkF m 48 #[vi f0, vi f1, vi f2, vi f3, vi f4, va o0, va o0] [(.int 4)])) _
    refine XS.aload X6.here hx rfl (hb hby at_48) rfl rfl ?_
    refine st7.trans ?_
    refine XS.icmpNo X7.here hx rfl (hb hby at_53) rfl (teq (by decide : (4 : Int32) = (4 : Int32))).2 ?_
    refine XS.iconst X7.here hx rfl (hb hby at_56) ?_
    refine XS.goto X7.here hx rfl (pc0 := 57) (pc' := 61) rfl (hb hby at_57) (by decide) (by decide) ?_
    exact retN X7 hx (t := .boolean) hrt (by simp) (hb hby at_61) hr
  · show Q0 n0 (some (.int 1)) T7.heap _
    exact (⟨rfl, N7⟩)
theorem rm0 (l : Launch) (Z : State) (a0 : Array Value) (hw : HW Z a0) (ws : List Jvm.Cond) (z_COMPACT_STRINGS : Int32) (h0 : Heap) (n0 : Nat) (O0 : Old Z n0 h0) (S : SF Z z_COMPACT_STRINGS) (p0 : Int32) (p1 : Int32) (p2 : Int32) (p3 : Int32) (p4 : Int32) :
    PayW l Z x ws code maxLocals ret #[(.int p0), (.int p1), (.int p2), (.int p3), (.int p4)] h0 room_1 (Q0 n0) := by
  refine own_body (plainFor_of_name pn_0) (L0 := #[vi p0, vi p1, vi p2, vi p3, vi p4, uu, uu]) (fun _ => by first | rfl | (simp [entryFrame, mkF, argsToLocals, Value.category, maxLocals]; done)) ?_
  intro p e s m below meth c s₁ hrt hlk hx hby hml hZ hown0 hnm X0 e0
  have hown : s.vm.findClass sC3 = some m.cls := hown0
  have N0 := Fr.nil n0
  have K0 : Keep h0 h0 [] := Keep.refl _ _
  have pre_2 : ∀ t, Steps p.tables e below (s₁.setTop (mkF m 24 #[vi p0, vi p1, vi p2, vi p3, vi p4, uu, uu] [(.int (cc (p4 &&& (65535 : Int32)))), (.int (cc (p3 &&& (65535 : Int32)))), (.int (cc (p2 &&& (65535 : Int32)))), (.int (cc (p1 &&& (65535 : Int32)))), (.int (p0 &&& (3 : Int32)))])) t → Steps p.tables e below (s₁.setTop (mkF m 0 #[vi p0, vi p1, vi p2, vi p3, vi p4, uu, uu] [])) t := fun t k => (by
    show Steps p.tables e below (s₁.setTop (mkF m 0 #[vi p0, vi p1, vi p2, vi p3, vi p4, uu, uu] [])) _
    refine XS.iloadN X0.here hx rfl (hb hby at_0) rfl ?_
    refine XS.iconst X0.here hx rfl (hb hby at_1) ?_
    refine XS.iand X0.here hx rfl (hb hby at_2) rfl ?_
    refine XS.iloadN X0.here hx rfl (hb hby at_3) rfl ?_
    refine X0.ldcInt hx hown (mvT hZ (ww hw 0 rfl)) (g := (mkF m 4 #[vi p0, vi p1, vi p2, vi p3, vi p4, uu, uu] [(.int p1), (.int (p0 &&& (3 : Int32)))])) rfl (hb hby at_4) _ ?_
    refine XS.iand X0.here hx rfl (hb hby at_6) rfl ?_
    refine XS.i2c X0.here hx rfl (hb hby at_7) rfl ?_
    refine XS.iloadN X0.here hx rfl (hb hby at_8) rfl ?_
    show Steps p.tables e below (s₁.setTop (mkF m 9 #[vi p0, vi p1, vi p2, vi p3, vi p4, uu, uu] [(.int p2), (.int (cc (p1 &&& (65535 : Int32)))), (.int (p0 &&& (3 : Int32)))])) _
    refine X0.ldcInt hx hown (mvT hZ (ww hw 0 rfl)) (g := (mkF m 9 #[vi p0, vi p1, vi p2, vi p3, vi p4, uu, uu] [(.int p2), (.int (cc (p1 &&& (65535 : Int32)))), (.int (p0 &&& (3 : Int32)))])) rfl (hb hby at_9) _ ?_
    refine XS.iand X0.here hx rfl (hb hby at_11) rfl ?_
    refine XS.i2c X0.here hx rfl (hb hby at_12) rfl ?_
    refine XS.iloadN X0.here hx rfl (hb hby at_13) rfl ?_
    refine X0.ldcInt hx hown (mvT hZ (ww hw 0 rfl)) (g := (mkF m 14 #[vi p0, vi p1, vi p2, vi p3, vi p4, uu, uu] [(.int p3), (.int (cc (p2 &&& (65535 : Int32)))), (.int (cc (p1 &&& (65535 : Int32)))), (.int (p0 &&& (3 : Int32)))])) rfl (hb hby at_14) _ ?_
    refine XS.iand X0.here hx rfl (hb hby at_16) rfl ?_
    refine XS.i2c X0.here hx rfl (hb hby at_17) rfl ?_
    refine XS.iload X0.here hx rfl (hb hby at_18) rfl ?_
    show Steps p.tables e below (s₁.setTop (mkF m 20 #[vi p0, vi p1, vi p2, vi p3, vi p4, uu, uu] [(.int p4), (.int (cc (p3 &&& (65535 : Int32)))), (.int (cc (p2 &&& (65535 : Int32)))), (.int (cc (p1 &&& (65535 : Int32)))), (.int (p0 &&& (3 : Int32)))])) _
    refine X0.ldcInt hx hown (mvT hZ (ww hw 0 rfl)) (g := (mkF m 20 #[vi p0, vi p1, vi p2, vi p3, vi p4, uu, uu] [(.int p4), (.int (cc (p3 &&& (65535 : Int32)))), (.int (cc (p2 &&& (65535 : Int32)))), (.int (cc (p1 &&& (65535 : Int32)))), (.int (p0 &&& (3 : Int32)))])) rfl (hb hby at_20) _ ?_
    refine XS.iand X0.here hx rfl (hb hby at_22) rfl ?_
    refine XS.i2c X0.here hx rfl (hb hby at_23) rfl ?_
    exact k)
  by_cases hc1 : (p0 &&& (3 : Int32)) = (0 : Int32)
  · by_cases hc3 : gp1 (cc (cc (p1 &&& (65535 : Int32))))
    · obtain ⟨_, _, ⟨T4, L4, k4, n4⟩, -, X4, ⟨Lc4, hQ4, l4, y4, z4⟩, st4⟩ := Jvm.LawKit.callS X0 hx (y := My1) hown (mvT hZ (ww hw 1 rfl)) (mvT hZ (ww hw 2 rfl)) (mvT hZ (ww hw 3 rfl)) (mvT hZ (ww hw 4 rfl)) (by decide) (backOf (W := 0) (rm1_1 l Z a0 hw [] z_COMPACT_STRINGS (p0 &&& (3 : Int32)) (cc (p1 &&& (65535 : Int32))) (cc (p2 &&& (65535 : Int32))) (cc (p3 &&& (65535 : Int32))) (cc (p4 &&& (65535 : Int32))) h0 n0 O0 S hc1 hc3) hZ (ww hw 4 rfl) (ww hw 3 rfl) (by decide) (by decide)) (g := (mkF m 24 #[vi p0, vi p1, vi p2, vi p3, vi p4, uu, uu] [(.int (cc (p4 &&& (65535 : Int32)))), (.int (cc (p3 &&& (65535 : Int32)))), (.int (cc (p2 &&& (65535 : Int32)))), (.int (cc (p1 &&& (65535 : Int32)))), (.int (p0 &&& (3 : Int32)))])) rfl (by rw [hml]; rfl) (argsL := [(.int (p0 &&& (3 : Int32))), (.int (cc (p1 &&& (65535 : Int32)))), (.int (cc (p2 &&& (65535 : Int32)))), (.int (cc (p3 &&& (65535 : Int32)))), (.int (cc (p4 &&& (65535 : Int32))))]) (rest := []) (lenOf pd_9 rfl) rfl (by show 2 * 0 + _ ≤ _; exact Nat.le_of_eq rfl) (hb hby at_24) (fun _ _ => ⟨rfl, e0, (by decide : 0 + 3 ≤ _), (by decide : 0 + 6 ≤ _)⟩)
      dsimp only [Pt.U, Pt.locs, Pt.cells, Pt.slots] at X4 l4 y4 z4 st4 hQ4
      subst l4 y4 z4
      obtain ⟨b4_4, b1_3_2_6_4, k1_3_2_6_4, ce0_3_2_6_4, rfl, Nq4, Kc4, P0_4, P1_4, P2_4, P3_4, P4_4, P5_4, P6_4⟩ := hQ4
      have N4 := Fr.app N0 Nq4
      have g_b4_4 : n0 ≤ b4_4 := Nat.le_trans (own_old O0) P4_4
      have sz_b4_4 : h0.size ≤ b4_4 := Nat.le_trans K0.1 P4_4
      have g_b1_3_2_6_4 : n0 ≤ b1_3_2_6_4 := Nat.le_trans (own_old O0) P5_4
      have sz_b1_3_2_6_4 : h0.size ≤ b1_3_2_6_4 := Nat.le_trans K0.1 P5_4
      have O4 := O0.keep Kc4 all0
      have K4 : Keep h0 T4.heap [] := K0.trans Kc4 all0
      have pre_5 : ∀ t, Steps p.tables e below (T4.setTop (mkF m 29 #[vi p0, vi p1, vi p2, vi p3, vi p4, va b4_4, uu] [])) t → Steps p.tables e below (s₁.setTop (mkF m 0 #[vi p0, vi p1, vi p2, vi p3, vi p4, uu, uu] [])) t := fun t k => pre_2 t (by
        show Steps p.tables e below (s₁.setTop (mkF m 24 #[vi p0, vi p1, vi p2, vi p3, vi p4, uu, uu] [(.int (cc (p4 &&& (65535 : Int32)))), (.int (cc (p3 &&& (65535 : Int32)))), (.int (cc (p2 &&& (65535 : Int32)))), (.int (cc (p1 &&& (65535 : Int32)))), (.int (p0 &&& (3 : Int32)))])) _
        refine st4 _ ?_
        refine XS.astore X4.here hx rfl (hb hby at_27) rfl rfl (l' := #[vi p0, vi p1, vi p2, vi p3, vi p4, va b4_4, uu]) rfl ?_
        exact k)
      obtain ⟨U, o, st, rest⟩ := jn1 (a0 := a0) hx hZ hby hml hown hrt hlk hw z_COMPACT_STRINGS b4_4 b1_3_2_6_4 k1_3_2_6_4 p0 p1 p2 p3 p4  p0 p1 p2 p3 p4 ce0_3_2_6_4 (X4.more (by decide) (by decide)) rfl N4 O4 S P0_4 P1_4 P2_4 P3_4
      exact ⟨U, o, pre_5 _ st, rest⟩
    · obtain ⟨_, _, ⟨T4, L4, k4, n4⟩, -, X4, ⟨Lc4, hQ4, l4, y4, z4⟩, st4⟩ := Jvm.LawKit.callS X0 hx (y := My1) hown (mvT hZ (ww hw 1 rfl)) (mvT hZ (ww hw 2 rfl)) (mvT hZ (ww hw 3 rfl)) (mvT hZ (ww hw 4 rfl)) (by decide) (backOf (W := 0) (rm1_2 l Z a0 hw [] z_COMPACT_STRINGS (p0 &&& (3 : Int32)) (cc (p1 &&& (65535 : Int32))) (cc (p2 &&& (65535 : Int32))) (cc (p3 &&& (65535 : Int32))) (cc (p4 &&& (65535 : Int32))) h0 n0 O0 S hc1 hc3) hZ (ww hw 4 rfl) (ww hw 3 rfl) (by decide) (by decide)) (g := (mkF m 24 #[vi p0, vi p1, vi p2, vi p3, vi p4, uu, uu] [(.int (cc (p4 &&& (65535 : Int32)))), (.int (cc (p3 &&& (65535 : Int32)))), (.int (cc (p2 &&& (65535 : Int32)))), (.int (cc (p1 &&& (65535 : Int32)))), (.int (p0 &&& (3 : Int32)))])) rfl (by rw [hml]; rfl) (argsL := [(.int (p0 &&& (3 : Int32))), (.int (cc (p1 &&& (65535 : Int32)))), (.int (cc (p2 &&& (65535 : Int32)))), (.int (cc (p3 &&& (65535 : Int32)))), (.int (cc (p4 &&& (65535 : Int32))))]) (rest := []) (lenOf pd_9 rfl) rfl (by show 2 * 0 + _ ≤ _; exact Nat.le_of_eq rfl) (hb hby at_24) (fun _ _ => ⟨rfl, e0, (by decide : 0 + 4 ≤ _), (by decide : 0 + 8 ≤ _)⟩)
      dsimp only [Pt.U, Pt.locs, Pt.cells, Pt.slots] at X4 l4 y4 z4 st4 hQ4
      subst l4 y4 z4
      obtain ⟨b4_4, b2_1_4_3_2_6_4, k2_1_4_3_2_6_4, ce0_3_2_6_4, ce1_3_2_6_4, rfl, Nq4, Kc4, P0_4, P1_4, P2_4, P3_4, P4_4, P5_4, P6_4⟩ := hQ4
      have N4 := Fr.app N0 Nq4
      have g_b4_4 : n0 ≤ b4_4 := Nat.le_trans (own_old O0) P4_4
      have sz_b4_4 : h0.size ≤ b4_4 := Nat.le_trans K0.1 P4_4
      have g_b2_1_4_3_2_6_4 : n0 ≤ b2_1_4_3_2_6_4 := Nat.le_trans (own_old O0) P5_4
      have sz_b2_1_4_3_2_6_4 : h0.size ≤ b2_1_4_3_2_6_4 := Nat.le_trans K0.1 P5_4
      have O4 := O0.keep Kc4 all0
      have K4 : Keep h0 T4.heap [] := K0.trans Kc4 all0
      have pre_5 : ∀ t, Steps p.tables e below (T4.setTop (mkF m 29 #[vi p0, vi p1, vi p2, vi p3, vi p4, va b4_4, uu] [])) t → Steps p.tables e below (s₁.setTop (mkF m 0 #[vi p0, vi p1, vi p2, vi p3, vi p4, uu, uu] [])) t := fun t k => pre_2 t (by
        show Steps p.tables e below (s₁.setTop (mkF m 24 #[vi p0, vi p1, vi p2, vi p3, vi p4, uu, uu] [(.int (cc (p4 &&& (65535 : Int32)))), (.int (cc (p3 &&& (65535 : Int32)))), (.int (cc (p2 &&& (65535 : Int32)))), (.int (cc (p1 &&& (65535 : Int32)))), (.int (p0 &&& (3 : Int32)))])) _
        refine st4 _ ?_
        refine XS.astore X4.here hx rfl (hb hby at_27) rfl rfl (l' := #[vi p0, vi p1, vi p2, vi p3, vi p4, va b4_4, uu]) rfl ?_
        exact k)
      obtain ⟨U, o, st, rest⟩ := jn2 (a0 := a0) hx hZ hby hml hown hrt hlk hw z_COMPACT_STRINGS b4_4 b2_1_4_3_2_6_4 k2_1_4_3_2_6_4 p0 p1 p2 p3 p4  p0 p1 p2 p3 p4 ce0_3_2_6_4 ce1_3_2_6_4 (X4.more (by decide) (by decide)) rfl N4 O4 S P0_4 P1_4 P2_4 P3_4
      exact ⟨U, o, pre_5 _ st, rest⟩
  · by_cases hc3 : (p0 &&& (3 : Int32)) = (1 : Int32)
    · by_cases hc4 : gp2 (cc (cc (p1 &&& (65535 : Int32)))) (cc (cc (p2 &&& (65535 : Int32))))
      · obtain ⟨_, _, ⟨T5, L5, k5, n5⟩, -, X5, ⟨Lc5, hQ5, l5, y5, z5⟩, st5⟩ := Jvm.LawKit.callS X0 hx (y := My1) hown (mvT hZ (ww hw 1 rfl)) (mvT hZ (ww hw 2 rfl)) (mvT hZ (ww hw 3 rfl)) (mvT hZ (ww hw 4 rfl)) (by decide) (backOf (W := 0) (rm1_3 l Z a0 hw [] z_COMPACT_STRINGS (p0 &&& (3 : Int32)) (cc (p1 &&& (65535 : Int32))) (cc (p2 &&& (65535 : Int32))) (cc (p3 &&& (65535 : Int32))) (cc (p4 &&& (65535 : Int32))) h0 n0 O0 S hc1 hc3 hc4) hZ (ww hw 4 rfl) (ww hw 3 rfl) (by decide) (by decide)) (g := (mkF m 24 #[vi p0, vi p1, vi p2, vi p3, vi p4, uu, uu] [(.int (cc (p4 &&& (65535 : Int32)))), (.int (cc (p3 &&& (65535 : Int32)))), (.int (cc (p2 &&& (65535 : Int32)))), (.int (cc (p1 &&& (65535 : Int32)))), (.int (p0 &&& (3 : Int32)))])) rfl (by rw [hml]; rfl) (argsL := [(.int (p0 &&& (3 : Int32))), (.int (cc (p1 &&& (65535 : Int32)))), (.int (cc (p2 &&& (65535 : Int32)))), (.int (cc (p3 &&& (65535 : Int32)))), (.int (cc (p4 &&& (65535 : Int32))))]) (rest := []) (lenOf pd_9 rfl) rfl (by show 2 * 0 + _ ≤ _; exact Nat.le_of_eq rfl) (hb hby at_24) (fun _ _ => ⟨rfl, e0, (by decide : 0 + 3 ≤ _), (by decide : 0 + 8 ≤ _)⟩)
        dsimp only [Pt.U, Pt.locs, Pt.cells, Pt.slots] at X5 l5 y5 z5 st5 hQ5
        subst l5 y5 z5
        obtain ⟨b6_5, b1_3_2_8_5, k1_3_2_8_5, ce0_3_2_8_5, ce1_3_2_8_5, rfl, Nq5, Kc5, P0_5, P1_5, P2_5, P3_5, P4_5, P5_5, P6_5⟩ := hQ5
        have N5 := Fr.app N0 Nq5
        have g_b6_5 : n0 ≤ b6_5 := Nat.le_trans (own_old O0) P4_5
        have sz_b6_5 : h0.size ≤ b6_5 := Nat.le_trans K0.1 P4_5
        have g_b1_3_2_8_5 : n0 ≤ b1_3_2_8_5 := Nat.le_trans (own_old O0) P5_5
        have sz_b1_3_2_8_5 : h0.size ≤ b1_3_2_8_5 := Nat.le_trans K0.1 P5_5
        have O5 := O0.keep Kc5 all0
        have K5 : Keep h0 T5.heap [] := K0.trans Kc5 all0
        have pre_6 : ∀ t, Steps p.tables e below (T5.setTop (mkF m 29 #[vi p0, vi p1, vi p2, vi p3, vi p4, va b6_5, uu] [])) t → Steps p.tables e below (s₁.setTop (mkF m 0 #[vi p0, vi p1, vi p2, vi p3, vi p4, uu, uu] [])) t := fun t k => pre_2 t (by
          show Steps p.tables e below (s₁.setTop (mkF m 24 #[vi p0, vi p1, vi p2, vi p3, vi p4, uu, uu] [(.int (cc (p4 &&& (65535 : Int32)))), (.int (cc (p3 &&& (65535 : Int32)))), (.int (cc (p2 &&& (65535 : Int32)))), (.int (cc (p1 &&& (65535 : Int32)))), (.int (p0 &&& (3 : Int32)))])) _
          refine st5 _ ?_
          refine XS.astore X5.here hx rfl (hb hby at_27) rfl rfl (l' := #[vi p0, vi p1, vi p2, vi p3, vi p4, va b6_5, uu]) rfl ?_
          exact k)
        obtain ⟨U, o, st, rest⟩ := jn3 (a0 := a0) hx hZ hby hml hown hrt hlk hw z_COMPACT_STRINGS b6_5 b1_3_2_8_5 k1_3_2_8_5 p0 p1 p2 p3 p4  p0 p1 p2 p3 p4 ce0_3_2_8_5 ce1_3_2_8_5 (X5.more (by decide) (by decide)) rfl N5 O5 S P0_5 P1_5 P2_5 P3_5
        exact ⟨U, o, pre_6 _ st, rest⟩
      · obtain ⟨_, _, ⟨T5, L5, k5, n5⟩, -, X5, ⟨Lc5, hQ5, l5, y5, z5⟩, st5⟩ := Jvm.LawKit.callS X0 hx (y := My1) hown (mvT hZ (ww hw 1 rfl)) (mvT hZ (ww hw 2 rfl)) (mvT hZ (ww hw 3 rfl)) (mvT hZ (ww hw 4 rfl)) (by decide) (backOf (W := 0) (rm1_4 l Z a0 hw [] z_COMPACT_STRINGS (p0 &&& (3 : Int32)) (cc (p1 &&& (65535 : Int32))) (cc (p2 &&& (65535 : Int32))) (cc (p3 &&& (65535 : Int32))) (cc (p4 &&& (65535 : Int32))) h0 n0 O0 S hc1 hc3 hc4) hZ (ww hw 4 rfl) (ww hw 3 rfl) (by decide) (by decide)) (g := (mkF m 24 #[vi p0, vi p1, vi p2, vi p3, vi p4, uu, uu] [(.int (cc (p4 &&& (65535 : Int32)))), (.int (cc (p3 &&& (65535 : Int32)))), (.int (cc (p2 &&& (65535 : Int32)))), (.int (cc (p1 &&& (65535 : Int32)))), (.int (p0 &&& (3 : Int32)))])) rfl (by rw [hml]; rfl) (argsL := [(.int (p0 &&& (3 : Int32))), (.int (cc (p1 &&& (65535 : Int32)))), (.int (cc (p2 &&& (65535 : Int32)))), (.int (cc (p3 &&& (65535 : Int32)))), (.int (cc (p4 &&& (65535 : Int32))))]) (rest := []) (lenOf pd_9 rfl) rfl (by show 2 * 0 + _ ≤ _; exact Nat.le_of_eq rfl) (hb hby at_24) (fun _ _ => ⟨rfl, e0, (by decide : 0 + 4 ≤ _), (by decide : 0 + 12 ≤ _)⟩)
        dsimp only [Pt.U, Pt.locs, Pt.cells, Pt.slots] at X5 l5 y5 z5 st5 hQ5
        subst l5 y5 z5
        obtain ⟨b6_5, b2_1_5_3_2_8_5, k2_1_5_3_2_8_5, ce0_3_2_8_5, ce1_3_2_8_5, ce2_3_2_8_5, ce3_3_2_8_5, rfl, Nq5, Kc5, P0_5, P1_5, P2_5, P3_5, P4_5, P5_5, P6_5⟩ := hQ5
        have N5 := Fr.app N0 Nq5
        have g_b6_5 : n0 ≤ b6_5 := Nat.le_trans (own_old O0) P4_5
        have sz_b6_5 : h0.size ≤ b6_5 := Nat.le_trans K0.1 P4_5
        have g_b2_1_5_3_2_8_5 : n0 ≤ b2_1_5_3_2_8_5 := Nat.le_trans (own_old O0) P5_5
        have sz_b2_1_5_3_2_8_5 : h0.size ≤ b2_1_5_3_2_8_5 := Nat.le_trans K0.1 P5_5
        have O5 := O0.keep Kc5 all0
        have K5 : Keep h0 T5.heap [] := K0.trans Kc5 all0
        have pre_6 : ∀ t, Steps p.tables e below (T5.setTop (mkF m 29 #[vi p0, vi p1, vi p2, vi p3, vi p4, va b6_5, uu] [])) t → Steps p.tables e below (s₁.setTop (mkF m 0 #[vi p0, vi p1, vi p2, vi p3, vi p4, uu, uu] [])) t := fun t k => pre_2 t (by
          show Steps p.tables e below (s₁.setTop (mkF m 24 #[vi p0, vi p1, vi p2, vi p3, vi p4, uu, uu] [(.int (cc (p4 &&& (65535 : Int32)))), (.int (cc (p3 &&& (65535 : Int32)))), (.int (cc (p2 &&& (65535 : Int32)))), (.int (cc (p1 &&& (65535 : Int32)))), (.int (p0 &&& (3 : Int32)))])) _
          refine st5 _ ?_
          refine XS.astore X5.here hx rfl (hb hby at_27) rfl rfl (l' := #[vi p0, vi p1, vi p2, vi p3, vi p4, va b6_5, uu]) rfl ?_
          exact k)
        obtain ⟨U, o, st, rest⟩ := jn4 (a0 := a0) hx hZ hby hml hown hrt hlk hw z_COMPACT_STRINGS b6_5 b2_1_5_3_2_8_5 k2_1_5_3_2_8_5 p0 p1 p2 p3 p4  p0 p1 p2 p3 p4 ce0_3_2_8_5 ce1_3_2_8_5 ce2_3_2_8_5 ce3_3_2_8_5 (X5.more (by decide) (by decide)) rfl N5 O5 S P0_5 P1_5 P2_5 P3_5
        exact ⟨U, o, pre_6 _ st, rest⟩
    · by_cases hc4 : (p0 &&& (3 : Int32)) = (2 : Int32)
      · by_cases hc5 : gp3 (cc (cc (p1 &&& (65535 : Int32)))) (cc (cc (p2 &&& (65535 : Int32)))) (cc (cc (p3 &&& (65535 : Int32))))
        · obtain ⟨_, _, ⟨T6, L6, k6, n6⟩, -, X6, ⟨Lc6, hQ6, l6, y6, z6⟩, st6⟩ := Jvm.LawKit.callS X0 hx (y := My1) hown (mvT hZ (ww hw 1 rfl)) (mvT hZ (ww hw 2 rfl)) (mvT hZ (ww hw 3 rfl)) (mvT hZ (ww hw 4 rfl)) (by decide) (backOf (W := 0) (rm1_6 l Z a0 hw [] z_COMPACT_STRINGS (p0 &&& (3 : Int32)) (cc (p1 &&& (65535 : Int32))) (cc (p2 &&& (65535 : Int32))) (cc (p3 &&& (65535 : Int32))) (cc (p4 &&& (65535 : Int32))) h0 n0 O0 S hc1 hc3 hc4 hc5) hZ (ww hw 4 rfl) (ww hw 3 rfl) (by decide) (by decide)) (g := (mkF m 24 #[vi p0, vi p1, vi p2, vi p3, vi p4, uu, uu] [(.int (cc (p4 &&& (65535 : Int32)))), (.int (cc (p3 &&& (65535 : Int32)))), (.int (cc (p2 &&& (65535 : Int32)))), (.int (cc (p1 &&& (65535 : Int32)))), (.int (p0 &&& (3 : Int32)))])) rfl (by rw [hml]; rfl) (argsL := [(.int (p0 &&& (3 : Int32))), (.int (cc (p1 &&& (65535 : Int32)))), (.int (cc (p2 &&& (65535 : Int32)))), (.int (cc (p3 &&& (65535 : Int32)))), (.int (cc (p4 &&& (65535 : Int32))))]) (rest := []) (lenOf pd_9 rfl) rfl (by show 2 * 0 + _ ≤ _; exact Nat.le_of_eq rfl) (hb hby at_24) (fun _ _ => ⟨rfl, e0, (by decide : 0 + 3 ≤ _), (by decide : 0 + 10 ≤ _)⟩)
          dsimp only [Pt.U, Pt.locs, Pt.cells, Pt.slots] at X6 l6 y6 z6 st6 hQ6
          subst l6 y6 z6
          obtain ⟨b8_6, b1_3_2_10_6, k1_3_2_10_6, ce0_3_2_10_6, ce1_3_2_10_6, ce2_3_2_10_6, rfl, Nq6, Kc6, P0_6, P1_6, P2_6, P3_6, P4_6, P5_6, P6_6⟩ := hQ6
          have N6 := Fr.app N0 Nq6
          have g_b8_6 : n0 ≤ b8_6 := Nat.le_trans (own_old O0) P4_6
          have sz_b8_6 : h0.size ≤ b8_6 := Nat.le_trans K0.1 P4_6
          have g_b1_3_2_10_6 : n0 ≤ b1_3_2_10_6 := Nat.le_trans (own_old O0) P5_6
          have sz_b1_3_2_10_6 : h0.size ≤ b1_3_2_10_6 := Nat.le_trans K0.1 P5_6
          have O6 := O0.keep Kc6 all0
          have K6 : Keep h0 T6.heap [] := K0.trans Kc6 all0
          have pre_7 : ∀ t, Steps p.tables e below (T6.setTop (mkF m 29 #[vi p0, vi p1, vi p2, vi p3, vi p4, va b8_6, uu] [])) t → Steps p.tables e below (s₁.setTop (mkF m 0 #[vi p0, vi p1, vi p2, vi p3, vi p4, uu, uu] [])) t := fun t k => pre_2 t (by
            show Steps p.tables e below (s₁.setTop (mkF m 24 #[vi p0, vi p1, vi p2, vi p3, vi p4, uu, uu] [(.int (cc (p4 &&& (65535 : Int32)))), (.int (cc (p3 &&& (65535 : Int32)))), (.int (cc (p2 &&& (65535 : Int32)))), (.int (cc (p1 &&& (65535 : Int32)))), (.int (p0 &&& (3 : Int32)))])) _
            refine st6 _ ?_
            refine XS.astore X6.here hx rfl (hb hby at_27) rfl rfl (l' := #[vi p0, vi p1, vi p2, vi p3, vi p4, va b8_6, uu]) rfl ?_
            exact k)
          obtain ⟨U, o, st, rest⟩ := jn5 (a0 := a0) hx hZ hby hml hown hrt hlk hw z_COMPACT_STRINGS b8_6 b1_3_2_10_6 k1_3_2_10_6 p0 p1 p2 p3 p4  p0 p1 p2 p3 p4 ce0_3_2_10_6 ce1_3_2_10_6 ce2_3_2_10_6 (X6.more (by decide) (by decide)) rfl N6 O6 S P0_6 P1_6 P2_6 P3_6
          exact ⟨U, o, pre_7 _ st, rest⟩
        · obtain ⟨_, _, ⟨T6, L6, k6, n6⟩, -, X6, ⟨Lc6, hQ6, l6, y6, z6⟩, st6⟩ := Jvm.LawKit.callS X0 hx (y := My1) hown (mvT hZ (ww hw 1 rfl)) (mvT hZ (ww hw 2 rfl)) (mvT hZ (ww hw 3 rfl)) (mvT hZ (ww hw 4 rfl)) (by decide) (backOf (W := 0) (rm1_5 l Z a0 hw [] z_COMPACT_STRINGS (p0 &&& (3 : Int32)) (cc (p1 &&& (65535 : Int32))) (cc (p2 &&& (65535 : Int32))) (cc (p3 &&& (65535 : Int32))) (cc (p4 &&& (65535 : Int32))) h0 n0 O0 S hc1 hc3 hc4 hc5) hZ (ww hw 4 rfl) (ww hw 3 rfl) (by decide) (by decide)) (g := (mkF m 24 #[vi p0, vi p1, vi p2, vi p3, vi p4, uu, uu] [(.int (cc (p4 &&& (65535 : Int32)))), (.int (cc (p3 &&& (65535 : Int32)))), (.int (cc (p2 &&& (65535 : Int32)))), (.int (cc (p1 &&& (65535 : Int32)))), (.int (p0 &&& (3 : Int32)))])) rfl (by rw [hml]; rfl) (argsL := [(.int (p0 &&& (3 : Int32))), (.int (cc (p1 &&& (65535 : Int32)))), (.int (cc (p2 &&& (65535 : Int32)))), (.int (cc (p3 &&& (65535 : Int32)))), (.int (cc (p4 &&& (65535 : Int32))))]) (rest := []) (lenOf pd_9 rfl) rfl (by show 2 * 0 + _ ≤ _; exact Nat.le_of_eq rfl) (hb hby at_24) (fun _ _ => ⟨rfl, e0, (by decide : 0 + 4 ≤ _), (by decide : 0 + 16 ≤ _)⟩)
          dsimp only [Pt.U, Pt.locs, Pt.cells, Pt.slots] at X6 l6 y6 z6 st6 hQ6
          subst l6 y6 z6
          obtain ⟨b8_6, b2_1_5_3_2_10_6, k2_1_5_3_2_10_6, ce0_3_2_10_6, ce1_3_2_10_6, ce2_3_2_10_6, ce3_3_2_10_6, ce4_3_2_10_6, ce5_3_2_10_6, rfl, Nq6, Kc6, P0_6, P1_6, P2_6, P3_6, P4_6, P5_6, P6_6⟩ := hQ6
          have N6 := Fr.app N0 Nq6
          have g_b8_6 : n0 ≤ b8_6 := Nat.le_trans (own_old O0) P4_6
          have sz_b8_6 : h0.size ≤ b8_6 := Nat.le_trans K0.1 P4_6
          have g_b2_1_5_3_2_10_6 : n0 ≤ b2_1_5_3_2_10_6 := Nat.le_trans (own_old O0) P5_6
          have sz_b2_1_5_3_2_10_6 : h0.size ≤ b2_1_5_3_2_10_6 := Nat.le_trans K0.1 P5_6
          have O6 := O0.keep Kc6 all0
          have K6 : Keep h0 T6.heap [] := K0.trans Kc6 all0
          have pre_7 : ∀ t, Steps p.tables e below (T6.setTop (mkF m 29 #[vi p0, vi p1, vi p2, vi p3, vi p4, va b8_6, uu] [])) t → Steps p.tables e below (s₁.setTop (mkF m 0 #[vi p0, vi p1, vi p2, vi p3, vi p4, uu, uu] [])) t := fun t k => pre_2 t (by
            show Steps p.tables e below (s₁.setTop (mkF m 24 #[vi p0, vi p1, vi p2, vi p3, vi p4, uu, uu] [(.int (cc (p4 &&& (65535 : Int32)))), (.int (cc (p3 &&& (65535 : Int32)))), (.int (cc (p2 &&& (65535 : Int32)))), (.int (cc (p1 &&& (65535 : Int32)))), (.int (p0 &&& (3 : Int32)))])) _
            refine st6 _ ?_
            refine XS.astore X6.here hx rfl (hb hby at_27) rfl rfl (l' := #[vi p0, vi p1, vi p2, vi p3, vi p4, va b8_6, uu]) rfl ?_
            exact k)
          obtain ⟨U, o, st, rest⟩ := jn6 (a0 := a0) hx hZ hby hml hown hrt hlk hw z_COMPACT_STRINGS b8_6 b2_1_5_3_2_10_6 k2_1_5_3_2_10_6 p0 p1 p2 p3 p4  p0 p1 p2 p3 p4 ce0_3_2_10_6 ce1_3_2_10_6 ce2_3_2_10_6 ce3_3_2_10_6 ce4_3_2_10_6 ce5_3_2_10_6 (X6.more (by decide) (by decide)) rfl N6 O6 S P0_6 P1_6 P2_6 P3_6
          exact ⟨U, o, pre_7 _ st, rest⟩
      · by_cases hc5 : gp0 (cc (cc (p1 &&& (65535 : Int32)))) (cc (cc (p2 &&& (65535 : Int32)))) (cc (cc (p3 &&& (65535 : Int32)))) (cc (cc (p4 &&& (65535 : Int32))))
        · obtain ⟨_, _, ⟨T6, L6, k6, n6⟩, -, X6, ⟨Lc6, hQ6, l6, y6, z6⟩, st6⟩ := Jvm.LawKit.callS X0 hx (y := My1) hown (mvT hZ (ww hw 1 rfl)) (mvT hZ (ww hw 2 rfl)) (mvT hZ (ww hw 3 rfl)) (mvT hZ (ww hw 4 rfl)) (by decide) (backOf (W := 0) (rm1_7 l Z a0 hw [] z_COMPACT_STRINGS (p0 &&& (3 : Int32)) (cc (p1 &&& (65535 : Int32))) (cc (p2 &&& (65535 : Int32))) (cc (p3 &&& (65535 : Int32))) (cc (p4 &&& (65535 : Int32))) h0 n0 O0 S hc1 hc3 hc4 hc5) hZ (ww hw 4 rfl) (ww hw 3 rfl) (by decide) (by decide)) (g := (mkF m 24 #[vi p0, vi p1, vi p2, vi p3, vi p4, uu, uu] [(.int (cc (p4 &&& (65535 : Int32)))), (.int (cc (p3 &&& (65535 : Int32)))), (.int (cc (p2 &&& (65535 : Int32)))), (.int (cc (p1 &&& (65535 : Int32)))), (.int (p0 &&& (3 : Int32)))])) rfl (by rw [hml]; rfl) (argsL := [(.int (p0 &&& (3 : Int32))), (.int (cc (p1 &&& (65535 : Int32)))), (.int (cc (p2 &&& (65535 : Int32)))), (.int (cc (p3 &&& (65535 : Int32)))), (.int (cc (p4 &&& (65535 : Int32))))]) (rest := []) (lenOf pd_9 rfl) rfl (by show 2 * 0 + _ ≤ _; exact Nat.le_of_eq rfl) (hb hby at_24) (fun _ _ => ⟨rfl, e0, (by decide : 0 + 3 ≤ _), (by decide : 0 + 12 ≤ _)⟩)
          dsimp only [Pt.U, Pt.locs, Pt.cells, Pt.slots] at X6 l6 y6 z6 st6 hQ6
          subst l6 y6 z6
          obtain ⟨b10_6, b1_3_2_12_6, k1_3_2_12_6, ce0_3_2_12_6, ce1_3_2_12_6, ce2_3_2_12_6, ce3_3_2_12_6, rfl, Nq6, Kc6, P0_6, P1_6, P2_6, P3_6, P4_6, P5_6, P6_6⟩ := hQ6
          have N6 := Fr.app N0 Nq6
          have g_b10_6 : n0 ≤ b10_6 := Nat.le_trans (own_old O0) P4_6
          have sz_b10_6 : h0.size ≤ b10_6 := Nat.le_trans K0.1 P4_6
          have g_b1_3_2_12_6 : n0 ≤ b1_3_2_12_6 := Nat.le_trans (own_old O0) P5_6
          have sz_b1_3_2_12_6 : h0.size ≤ b1_3_2_12_6 := Nat.le_trans K0.1 P5_6
          have O6 := O0.keep Kc6 all0
          have K6 : Keep h0 T6.heap [] := K0.trans Kc6 all0
          have pre_7 : ∀ t, Steps p.tables e below (T6.setTop (mkF m 29 #[vi p0, vi p1, vi p2, vi p3, vi p4, va b10_6, uu] [])) t → Steps p.tables e below (s₁.setTop (mkF m 0 #[vi p0, vi p1, vi p2, vi p3, vi p4, uu, uu] [])) t := fun t k => pre_2 t (by
            show Steps p.tables e below (s₁.setTop (mkF m 24 #[vi p0, vi p1, vi p2, vi p3, vi p4, uu, uu] [(.int (cc (p4 &&& (65535 : Int32)))), (.int (cc (p3 &&& (65535 : Int32)))), (.int (cc (p2 &&& (65535 : Int32)))), (.int (cc (p1 &&& (65535 : Int32)))), (.int (p0 &&& (3 : Int32)))])) _
            refine st6 _ ?_
            refine XS.astore X6.here hx rfl (hb hby at_27) rfl rfl (l' := #[vi p0, vi p1, vi p2, vi p3, vi p4, va b10_6, uu]) rfl ?_
            exact k)
          obtain ⟨U, o, st, rest⟩ := jn7 (a0 := a0) hx hZ hby hml hown hrt hlk hw z_COMPACT_STRINGS b10_6 b1_3_2_12_6 k1_3_2_12_6 p0 p1 p2 p3 p4  p0 p1 p2 p3 p4 ce0_3_2_12_6 ce1_3_2_12_6 ce2_3_2_12_6 ce3_3_2_12_6 (X6.more (by decide) (by decide)) rfl N6 O6 S P0_6 P1_6 P2_6 P3_6
          exact ⟨U, o, pre_7 _ st, rest⟩
        · obtain ⟨_, _, ⟨T6, L6, k6, n6⟩, -, X6, ⟨Lc6, hQ6, l6, y6, z6⟩, st6⟩ := Jvm.LawKit.callS X0 hx (y := My1) hown (mvT hZ (ww hw 1 rfl)) (mvT hZ (ww hw 2 rfl)) (mvT hZ (ww hw 3 rfl)) (mvT hZ (ww hw 4 rfl)) (by decide) (backOf (W := 0) (rm1_0 l Z a0 hw [] z_COMPACT_STRINGS (p0 &&& (3 : Int32)) (cc (p1 &&& (65535 : Int32))) (cc (p2 &&& (65535 : Int32))) (cc (p3 &&& (65535 : Int32))) (cc (p4 &&& (65535 : Int32))) h0 n0 O0 S hc1 hc3 hc4 hc5) hZ (ww hw 4 rfl) (ww hw 3 rfl) (by decide) (by decide)) (g := (mkF m 24 #[vi p0, vi p1, vi p2, vi p3, vi p4, uu, uu] [(.int (cc (p4 &&& (65535 : Int32)))), (.int (cc (p3 &&& (65535 : Int32)))), (.int (cc (p2 &&& (65535 : Int32)))), (.int (cc (p1 &&& (65535 : Int32)))), (.int (p0 &&& (3 : Int32)))])) rfl (by rw [hml]; rfl) (argsL := [(.int (p0 &&& (3 : Int32))), (.int (cc (p1 &&& (65535 : Int32)))), (.int (cc (p2 &&& (65535 : Int32)))), (.int (cc (p3 &&& (65535 : Int32)))), (.int (cc (p4 &&& (65535 : Int32))))]) (rest := []) (lenOf pd_9 rfl) rfl (by show 2 * 0 + _ ≤ _; exact Nat.le_of_eq rfl) (hb hby at_24) (fun _ _ => ⟨rfl, e0, (by decide : 0 + 4 ≤ _), (by decide : 0 + 20 ≤ _)⟩)
          dsimp only [Pt.U, Pt.locs, Pt.cells, Pt.slots] at X6 l6 y6 z6 st6 hQ6
          subst l6 y6 z6
          obtain ⟨b10_6, b2_1_5_3_2_12_6, k2_1_5_3_2_12_6, ce0_3_2_12_6, ce1_3_2_12_6, ce2_3_2_12_6, ce3_3_2_12_6, ce4_3_2_12_6, ce5_3_2_12_6, ce6_3_2_12_6, ce7_3_2_12_6, rfl, Nq6, Kc6, P0_6, P1_6, P2_6, P3_6, P4_6, P5_6, P6_6⟩ := hQ6
          have N6 := Fr.app N0 Nq6
          have g_b10_6 : n0 ≤ b10_6 := Nat.le_trans (own_old O0) P4_6
          have sz_b10_6 : h0.size ≤ b10_6 := Nat.le_trans K0.1 P4_6
          have g_b2_1_5_3_2_12_6 : n0 ≤ b2_1_5_3_2_12_6 := Nat.le_trans (own_old O0) P5_6
          have sz_b2_1_5_3_2_12_6 : h0.size ≤ b2_1_5_3_2_12_6 := Nat.le_trans K0.1 P5_6
          have O6 := O0.keep Kc6 all0
          have K6 : Keep h0 T6.heap [] := K0.trans Kc6 all0
          have pre_7 : ∀ t, Steps p.tables e below (T6.setTop (mkF m 29 #[vi p0, vi p1, vi p2, vi p3, vi p4, va b10_6, uu] [])) t → Steps p.tables e below (s₁.setTop (mkF m 0 #[vi p0, vi p1, vi p2, vi p3, vi p4, uu, uu] [])) t := fun t k => pre_2 t (by
            show Steps p.tables e below (s₁.setTop (mkF m 24 #[vi p0, vi p1, vi p2, vi p3, vi p4, uu, uu] [(.int (cc (p4 &&& (65535 : Int32)))), (.int (cc (p3 &&& (65535 : Int32)))), (.int (cc (p2 &&& (65535 : Int32)))), (.int (cc (p1 &&& (65535 : Int32)))), (.int (p0 &&& (3 : Int32)))])) _
            refine st6 _ ?_
            refine XS.astore X6.here hx rfl (hb hby at_27) rfl rfl (l' := #[vi p0, vi p1, vi p2, vi p3, vi p4, va b10_6, uu]) rfl ?_
            exact k)
          obtain ⟨U, o, st, rest⟩ := jn8 (a0 := a0) hx hZ hby hml hown hrt hlk hw z_COMPACT_STRINGS b10_6 b2_1_5_3_2_12_6 k2_1_5_3_2_12_6 p0 p1 p2 p3 p4  p0 p1 p2 p3 p4 ce0_3_2_12_6 ce1_3_2_12_6 ce2_3_2_12_6 ce3_3_2_12_6 ce4_3_2_12_6 ce5_3_2_12_6 ce6_3_2_12_6 ce7_3_2_12_6 (X6.more (by decide) (by decide)) rfl N6 O6 S P0_6 P1_6 P2_6 P3_6
          exact ⟨U, o, pre_7 _ st, rest⟩
theorem comes_1 {Post : Tables → Env → Array Value → State → Outcome → State → Prop} (hpost : ∀ tb e args s v u, (limb_1_1.after args s (.returned v) u = true ∧ limb_1_2.after args s (.returned v) u = true ∧ True) → ReturnedEndW s (.returned v) u (Jvm.fieldLocs frame_1_writes args s ++ Jvm.arrayLocs frame_1_arrays args s ++ Jvm.staticLocs frame_1_statics s) 24 1152 → Post tb e args s (.returned v) u) :
    ArmFor flags0 classFile x code maxLocals ret World_1 tables_1 room_1 Calls_1 rest_1 Pre_1 Post := by
  intro l hfl _ _ p e ha hc hk s m args below hf hA hF happ hP
  obtain ⟨hcalls, hrest, hpre⟩ := hP
  obtain ⟨-, -, -, hnamed, -, -, -, hat⟩ := (Spec.applies_iff hf).mp happ
  obtain ⟨hg, hn⟩ := and_e (Cond.before_iff.mp (show (Jvm.Cond.and given_1 narrow_1).before args s = true from hpre))
  obtain ⟨g0, gr0⟩ := and_e hg
  obtain ⟨g1, gr1⟩ := and_e gr0
  obtain ⟨g2, gr2⟩ := and_e gr1
  obtain ⟨g3, gr3⟩ := and_e gr2
  obtain ⟨g4, gr4⟩ := and_e gr3
  obtain ⟨v0, v1, v2, v3, v4, rfl⟩ : ∃ v0 v1 v2 v3 v4 : Value, args = #[v0, v1, v2, v3, v4] := by
    have hs : args.size = 5 := by simpa [Cond.value, given_1] using g0
    obtain ⟨L⟩ := args
    match L, hs with
    | [v0, v1, v2, v3, v4], _ => exact ⟨v0, v1, v2, v3, v4, rfl⟩
  have hw := fun d (hd : d ∈ tables_1) => atoms_spec (ws := Jvm.Cond.code x code maxLocals ret :: tables_1) hat d (List.mem_cons_of_mem _ hd)
  have hfit : Fit s := fun {y c} hc i hi => by
    obtain ⟨ha, rfl⟩ := Array.getElem?_eq_some_iff.mp hc
    have q := List.all_eq_true.mp ((Array.all_eq_true_iff_forall_mem.mp hF) _ (Array.getElem_mem ha)) i (List.mem_range.mpr hi)
    simpa [Array.getElem?_eq_getElem hi] using q
  obtain ⟨i0, ei0⟩ := is_v g1
  obtain rfl : v0 = (.int i0) := Option.some.inj ei0
  obtain ⟨i1, ei1⟩ := is_v g2
  obtain rfl : v1 = (.int i1) := Option.some.inj ei1
  obtain ⟨i2, ei2⟩ := is_v g3
  obtain rfl : v2 = (.int i2) := Option.some.inj ei2
  obtain ⟨i3, ei3⟩ := is_v g4
  obtain rfl : v3 = (.int i3) := Option.some.inj ei3
  obtain ⟨i4, ei4⟩ := is_v gr4
  obtain rfl : v4 = (.int i4) := Option.some.inj ei4
  obtain ⟨hsets, hown0⟩ := atoms_of _ (rest_1_c_eq ▸ (show rest_1_c.before _ s = true from hrest))
  obtain ⟨z_COMPACT_STRINGS, ev_z_COMPACT_STRINGS⟩ := is_v (Cond.before_iff.mp (hsets _ (List.mem_of_getElem? (i := 1) rfl)))
  have S_z_COMPACT_STRINGS := Sta.start ev_z_COMPACT_STRINGS (Or.inl (hsets _ (List.mem_of_getElem? (i := 0) rfl)))
  have hz_z_COMPACT_STRINGS : ¬ (z_COMPACT_STRINGS = (0 : Int32)) := own_ne0 ev_z_COMPACT_STRINGS (Cond.before_iff.mp (hsets _ (List.mem_of_getElem? (i := 2) rfl)))
  have S_StringUTF16__assertionsDisabled := Sta.start (own_eqI (Cond.before_iff.mp (hsets _ (List.mem_of_getElem? (i := 12) rfl)))) (Or.inl (hsets _ (List.mem_of_getElem? (i := 11) rfl)))
  have S_StringUTF16_HI_BYTE_SHIFT := Sta.start (own_eqI (Cond.before_iff.mp (hsets _ (List.mem_of_getElem? (i := 15) rfl)))) (Or.inl (hsets _ (List.mem_of_getElem? (i := 14) rfl)))
  have S_StringUTF16_LO_BYTE_SHIFT := Sta.start (own_eqI (Cond.before_iff.mp (hsets _ (List.mem_of_getElem? (i := 18) rfl)))) (Or.inl (hsets _ (List.mem_of_getElem? (i := 17) rfl)))
  obtain ⟨n, o, h1, h2, h3, _, L, rfl, ⟨rfl, N⟩, hq⟩ := rm0 l s _ hw tables_1 z_COMPACT_STRINGS s.heap s.heap.size (Old.start s) ⟨S_z_COMPACT_STRINGS, hz_z_COMPACT_STRINGS, S_StringUTF16__assertionsDisabled, S_StringUTF16_HI_BYTE_SHIFT, S_StringUTF16_LO_BYTE_SHIFT, trivial⟩ i0 i1 i2 i3 i4 p e ha hc hk s m _ below hf ((Spec.applies_iff_loose hf).mp happ).1 ⟨rfl, State.Warmed39.refl s, rfl⟩ trivial
  refine ⟨n, _, h1, h2, h3, hpost _ _ _ _ _ _ ⟨Cond.after_iff.mpr rfl, Cond.after_iff.mpr (eq_i res_at (Term.int_eval (1)) rfl), trivial⟩ ⟨hq.1, hq.2.1, hq.2.2.1, (hq.2.2.2.sift fun y hy => Or.inr (N y hy)).mono (by decide) (by decide)⟩⟩
theorem main_1_1 : Claimed_1_1 := comes_1 fun _ _ _ _ _ _ h hF => ⟨h.1, hF⟩
theorem main_1_2 : Claimed_1_2 := comes_1 fun _ _ _ _ _ _ h hF => ⟨h.2.1, hF⟩
end Jvm.Pilot.@@N@@
namespace Jvm.Pilot.@@N@@
open Jvm Jvm.ClassFile Sem Op Lib Jvm.Free Jvm.Stand Jvm.Pilot.@@N@@.Jvm.D
/-! MADE BY PROGRAM (witnessworld.py) out of the Statement's table words and the real class files: 21 classes; the members and pool entries that the words name. The judged class is class 1, her method 1. -/
namespace start1
open Jvm.ClassFile
def u (s : String) : CpInfo := .utf8 (stringToUtf16 s)
/-- a pool by its gaps: so many unusable entries, then the entry; so many at the end -/
def gap : Nat → List CpInfo → List CpInfo
  | 0, r => r
  | n + 1, r => .unusable :: gap n r
def poolList (es : List (Nat × CpInfo)) (last : Nat) : List CpInfo := es.foldr (fun e r => gap e.1 (e.2 :: r)) (gap last [])
def pool (es : List (Nat × CpInfo)) (last : Nat) : Array CpInfo := ⟨poolList es last⟩
def fileOf (pool : Array CpInfo) (this : Nat) (attrs : Array Attribute := #[]) (ms : Array MethodInfo := #[]) (fl : Nat := 33) (sup : Nat := 0) (ifs : Array Nat := #[]) (fds : Array FieldInfo := #[]) : ClassFile where
  minorVersion := 0
  majorVersion := 65
  constantPool := pool
  accessFlags := fl
  thisClass := this
  superClass := sup
  interfaces := ifs
  fields := fds
  methods := ms
  attributes := attrs
def plain (name : String) (sup : Option ClassId) : Class where
  name := name
  kind := .ordinary
  loader := none
  accessFlags := 33
  super := sup
  interfaces := #[]
  cf := none
  fields := #[]
  methods := #[]
  instanceTypes := #[]
  staticTypes := #[]
  resolved := #[]
  callSites := []
  init := .initialized
  statics := none
  mirror := none

def pool0 : Array CpInfo := pool [(5, u "<init>"), (0, u "()V"), (1, .class_ 10), (1, u "java/lang/Object")] 113

def k0c0 : Code := { maxStack := 0, maxLocals := 1, code := object_method_1_code, exceptionTable := #[], attributes := #[] }
def k0m0 : Method := { name := "<init>", desc := "()V", sig := { parameters := [], returnType := none }, accessFlags := 1, code := some k0c0 }
/-- java/lang/Object -/
def k0 : Class := { plain "java/lang/Object" none with
  accessFlags := 33
  interfaces := #[]
  cf := some (fileOf pool0 8 #[] #[{ accessFlags := 1, nameIndex := 5, descriptorIndex := 6, attributes := #[] }] 33 0 #[] #[])
  fields := #[]
  methods := #[k0m0]
  instanceTypes := #[]
  staticTypes := #[]
  resolved := Array.replicate 124 none
  statics := none }

def pool1 : Array CpInfo := pool [(2, .class_ 4), (1, u "java/lang/Object"), (0, u "<init>"), (0, u "()V"), (0, .integer 65535), (0, .methodref 9 10), (0, .class_ 11), (0, .nameAndType 12 13), (0, u "com/example/leafcutter/leafcutter/RunOptionsRequireConcurrencyKeyPinLaw"), (0, u "make"), (0, u "(ICCCC)Ljava/lang/String;"), (0, .methodref 15 16), (0, .class_ 17), (0, .nameAndType 18 19), (0, u "com/example/leafcutter/leafcutter/RunOptions"), (0, u "requireConcurrencyKey"), (0, u "(Ljava/lang/String;)Ljava/lang/String;"), (0, .methodref 21 22), (0, .class_ 23), (0, .nameAndType 24 25), (0, u "java/lang/String"), (0, u "length"), (0, u "()I"), (0, .methodref 21 27), (0, .nameAndType 5 28), (0, u "([C)V"), (2, u "law"), (0, u "(IIIII)Z")] 3

def k1m0 : Method := { name := "<init>", desc := "()V", sig := { parameters := [], returnType := none }, accessFlags := 1, code := none }
def k1c1 : Code := { maxStack := 6, maxLocals := 7, code := code, exceptionTable := #[], attributes := #[] }
def k1m1 : Method := { name := "law", desc := "(IIIII)Z", sig := { parameters := [.int, .int, .int, .int, .int], returnType := some .boolean }, accessFlags := 9, code := some k1c1 }
def k1c2 : Code := { maxStack := 3, maxLocals := 6, code := method_3_code, exceptionTable := #[], attributes := #[] }
def k1m2 : Method := { name := "make", desc := "(ICCCC)Ljava/lang/String;", sig := { parameters := [.int, .char, .char, .char, .char], returnType := some (.object "java/lang/String") }, accessFlags := 10, code := some k1c2 }
/-- com/example/leafcutter/leafcutter/RunOptionsRequireConcurrencyKeyPinLaw -/
def k1 : Class := { plain "com/example/leafcutter/leafcutter/RunOptionsRequireConcurrencyKeyPinLaw" (some 0) with
  accessFlags := 49
  interfaces := #[]
  cf := some (fileOf pool1 9 #[] #[{ accessFlags := 1, nameIndex := 5, descriptorIndex := 6, attributes := #[] }, { accessFlags := 9, nameIndex := 31, descriptorIndex := 32, attributes := #[] }, { accessFlags := 10, nameIndex := 12, descriptorIndex := 13, attributes := #[] }] 49 2 #[] #[])
  fields := #[]
  methods := #[k1m0, k1m1, k1m2]
  instanceTypes := #[]
  staticTypes := #[]
  resolved := Array.replicate 36 none
  statics := none }

def pool2 : Array CpInfo := pool [(1, .class_ 2), (0, u "java/io/Serializable"), (0, .class_ 4), (0, u "java/lang/Object")] 2

/-- java/io/Serializable -/
def k2 : Class := { plain "java/io/Serializable" (some 0) with
  accessFlags := 1537
  interfaces := #[]
  cf := some (fileOf pool2 1 #[] #[] 1537 3 #[] #[])
  fields := #[]
  methods := #[]
  instanceTypes := #[]
  staticTypes := #[]
  resolved := Array.replicate 7 none
  statics := none }

def pool3 : Array CpInfo := pool [(1, .class_ 2), (0, u "java/lang/Comparable"), (0, .class_ 4), (0, u "java/lang/Object")] 7

/-- java/lang/Comparable -/
def k3 : Class := { plain "java/lang/Comparable" (some 0) with
  accessFlags := 1537
  interfaces := #[]
  cf := some (fileOf pool3 1 #[] #[] 1537 3 #[] #[])
  fields := #[]
  methods := #[]
  instanceTypes := #[]
  staticTypes := #[]
  resolved := Array.replicate 12 none
  statics := none }

def pool4 : Array CpInfo := pool [(2, .class_ 4), (1, u "java/lang/CharSequence"), (42, .class_ 48), (0, u "java/lang/CharSequence$1CodePointIterator"), (10, .class_ 60), (0, u "java/lang/CharSequence$1CharIterator"), (5, .class_ 67), (0, u "java/lang/Object")] 63

/-- java/lang/CharSequence -/
def k4 : Class := { plain "java/lang/CharSequence" (some 0) with
  accessFlags := 1537
  interfaces := #[]
  cf := some (fileOf pool4 2 #[.nestMembers #[47, 59]] #[] 1537 66 #[] #[])
  fields := #[]
  methods := #[]
  instanceTypes := #[]
  staticTypes := #[]
  resolved := Array.replicate 131 none
  statics := none }

def pool5 : Array CpInfo := pool [(1, .class_ 2), (0, u "java/lang/constant/Constable"), (0, .class_ 4), (0, u "java/lang/Object")] 6

/-- java/lang/constant/Constable -/
def k5 : Class := { plain "java/lang/constant/Constable" (some 0) with
  accessFlags := 1537
  interfaces := #[]
  cf := some (fileOf pool5 1 #[] #[] 1537 3 #[] #[])
  fields := #[]
  methods := #[]
  instanceTypes := #[]
  staticTypes := #[]
  resolved := Array.replicate 11 none
  statics := none }

def pool6 : Array CpInfo := pool [(1, .class_ 2), (0, u "java/lang/constant/ConstantDesc"), (0, .class_ 4), (0, u "java/lang/Object")] 32

/-- java/lang/constant/ConstantDesc -/
def k6 : Class := { plain "java/lang/constant/ConstantDesc" (some 0) with
  accessFlags := 1537
  interfaces := #[]
  cf := some (fileOf pool6 1 #[] #[] 1537 3 #[] #[])
  fields := #[]
  methods := #[]
  instanceTypes := #[]
  staticTypes := #[]
  resolved := Array.replicate 37 none
  statics := none }

def pool7 : Array CpInfo := pool [(1, .methodref 2 3), (0, .class_ 4), (0, .nameAndType 5 6), (0, u "java/lang/Object"), (0, u "<init>"), (0, u "()V"), (2, .fieldref 10 11), (0, .class_ 12), (0, .nameAndType 13 14), (0, u "java/lang/String"), (0, u "value"), (0, u "[B"), (0, .fieldref 10 16), (0, .nameAndType 17 18), (0, u "coder"), (0, u "B"), (2, u "hash"), (0, u "I"), (2, u "hashIsZero"), (0, u "Z"), (0, .methodref 10 28), (0, .nameAndType 5 29), (0, u "([CIILjava/lang/Void;)V"), (8, .fieldref 10 39), (0, .nameAndType 40 26), (0, u "COMPACT_STRINGS"), (1, .class_ 44), (1, u "java/lang/StringUTF16"), (0, u "compress"), (1, .methodref 42 48), (0, .nameAndType 49 50), (0, u "coderFromArrayLen"), (0, u "([BI)B"), (91, u "()Z"), (34, .methodref 42 178), (0, .nameAndType 45 179), (0, u "([CII)[B"), (154, u "()I"), (0, .methodref 10 336), (0, .nameAndType 17 337), (0, u "()B"), (169, u "length"), (67, .class_ 576), (0, u "java/lang/CharSequence"), (22, u "CASE_INSENSITIVE_ORDER"), (0, u "Ljava/util/Comparator;"), (91, u "isEmpty"), (317, u "([C)V"), (90, u "serialPersistentFields"), (0, u "[Ljava/io/ObjectStreamField;"), (0, .class_ 1104), (0, u "java/lang/String$CaseInsensitiveComparator"), (1, .class_ 1107), (0, u "java/io/Serializable"), (0, .class_ 1109), (0, u "java/lang/Comparable"), (0, .class_ 1111), (0, u "java/lang/constant/Constable"), (0, .class_ 1113), (0, u "java/lang/constant/ConstantDesc"), (2, u "serialVersionUID"), (0, u "J"), (3, u "REPL"), (0, u "C"), (2, u "LATIN1"), (1, u "UTF16")] 323

def k7m0 : Method := { name := "<init>", desc := "()V", sig := { parameters := [], returnType := none }, accessFlags := 1, code := none }
def k7c1 : Code := { maxStack := 5, maxLocals := 2, code := jdk_42_method_3_code, exceptionTable := #[], attributes := #[] }
def k7m1 : Method := { name := "<init>", desc := "([C)V", sig := { parameters := [(.array .char)], returnType := none }, accessFlags := 1, code := some k7c1 }
def k7c2 : Code := { maxStack := 2, maxLocals := 1, code := jdk_42_method_54_code, exceptionTable := #[], attributes := #[] }
def k7m2 : Method := { name := "length", desc := "()I", sig := { parameters := [], returnType := some .int }, accessFlags := 1, code := some k7c2 }
def k7c3 : Code := { maxStack := 1, maxLocals := 1, code := jdk_42_method_55_code, exceptionTable := #[], attributes := #[] }
def k7m3 : Method := { name := "isEmpty", desc := "()Z", sig := { parameters := [], returnType := some .boolean }, accessFlags := 1, code := some k7c3 }
def k7c4 : Code := { maxStack := 4, maxLocals := 6, code := jdk_42_method_149_code, exceptionTable := #[], attributes := #[] }
def k7m4 : Method := { name := "<init>", desc := "([CIILjava/lang/Void;)V", sig := { parameters := [(.array .char), .int, .int, (.object "java/lang/Void")], returnType := none }, accessFlags := 2, code := some k7c4 }
def k7c5 : Code := { maxStack := 1, maxLocals := 1, code := jdk_42_method_152_code, exceptionTable := #[], attributes := #[] }
def k7m5 : Method := { name := "coder", desc := "()B", sig := { parameters := [], returnType := some .byte }, accessFlags := 0, code := some k7c5 }
/-- java/lang/String -/
def k7 : Class := { plain "java/lang/String" (some 0) with
  accessFlags := 49
  interfaces := #[2, 3, 4, 5, 6]
  cf := some (fileOf pool7 10 #[.nestMembers #[1103]] #[{ accessFlags := 1, nameIndex := 5, descriptorIndex := 6, attributes := #[] }, { accessFlags := 1, nameIndex := 5, descriptorIndex := 1010, attributes := #[] }, { accessFlags := 1, nameIndex := 507, descriptorIndex := 334, attributes := #[] }, { accessFlags := 1, nameIndex := 692, descriptorIndex := 142, attributes := #[] }, { accessFlags := 2, nameIndex := 5, descriptorIndex := 29, attributes := #[] }, { accessFlags := 0, nameIndex := 17, descriptorIndex := 337, attributes := #[] }] 49 2 #[1106, 1108, 575, 1110, 1112] #[{ accessFlags := 18, nameIndex := 13, descriptorIndex := 14, attributes := #[] }, { accessFlags := 18, nameIndex := 17, descriptorIndex := 18, attributes := #[] }, { accessFlags := 2, nameIndex := 21, descriptorIndex := 22, attributes := #[] }, { accessFlags := 2, nameIndex := 25, descriptorIndex := 26, attributes := #[] }, { accessFlags := 26, nameIndex := 1116, descriptorIndex := 1117, attributes := #[] }, { accessFlags := 24, nameIndex := 40, descriptorIndex := 26, attributes := #[] }, { accessFlags := 26, nameIndex := 1101, descriptorIndex := 1102, attributes := #[] }, { accessFlags := 26, nameIndex := 1121, descriptorIndex := 1122, attributes := #[] }, { accessFlags := 25, nameIndex := 599, descriptorIndex := 600, attributes := #[] }, { accessFlags := 24, nameIndex := 1125, descriptorIndex := 18, attributes := #[] }, { accessFlags := 24, nameIndex := 1127, descriptorIndex := 18, attributes := #[] }])
  fields := #[{ name := "value", type := (.array .byte), accessFlags := 18, slot := 0, constantValue := 0 }, { name := "coder", type := .byte, accessFlags := 18, slot := 1, constantValue := 0 }, { name := "hash", type := .int, accessFlags := 2, slot := 2, constantValue := 0 }, { name := "hashIsZero", type := .boolean, accessFlags := 2, slot := 3, constantValue := 0 }, { name := "serialVersionUID", type := .long, accessFlags := 26, slot := 0, constantValue := 0 }, { name := "COMPACT_STRINGS", type := .boolean, accessFlags := 24, slot := 1, constantValue := 0 }, { name := "serialPersistentFields", type := (.array (.object "java/io/ObjectStreamField")), accessFlags := 26, slot := 2, constantValue := 0 }, { name := "REPL", type := .char, accessFlags := 26, slot := 3, constantValue := 0 }, { name := "CASE_INSENSITIVE_ORDER", type := (.object "java/util/Comparator"), accessFlags := 25, slot := 4, constantValue := 0 }, { name := "LATIN1", type := .byte, accessFlags := 24, slot := 5, constantValue := 0 }, { name := "UTF16", type := .byte, accessFlags := 24, slot := 6, constantValue := 0 }]
  methods := #[k7m0, k7m1, k7m2, k7m3, k7m4, k7m5]
  instanceTypes := #[(.array .byte), .byte, .int, .boolean]
  staticTypes := #[.long, .boolean, (.array (.object "java/io/ObjectStreamField")), .char, (.object "java/util/Comparator"), .byte, .byte]
  resolved := Array.replicate 1451 none
  statics := some 0 }

def pool8 : Array CpInfo := pool [(6, .class_ 8), (1, u "java/lang/Object"), (0, u "<init>"), (0, u "()V"), (0, .methodref 12 13), (0, .class_ 14), (0, .nameAndType 15 16), (0, u "java/lang/StringUTF16"), (0, u "newBytesLength"), (0, u "(I)I"), (3, .integer 1073741823), (23, .fieldref 12 45), (0, .nameAndType 46 47), (0, u "$assertionsDisabled"), (0, u "Z"), (11, .fieldref 12 60), (0, .nameAndType 61 62), (0, u "HI_BYTE_SHIFT"), (0, u "I"), (0, .fieldref 12 64), (0, .nameAndType 65 62), (0, u "LO_BYTE_SHIFT"), (5, .methodref 12 72), (0, .nameAndType 73 74), (0, u "getChar"), (0, u "([BI)C"), (32, .methodref 12 108), (0, .nameAndType 109 110), (0, u "newBytesFor"), (0, u "(I)[B"), (0, .methodref 12 112), (0, .nameAndType 113 114), (0, u "putChar"), (0, u "([BII)V"), (0, .methodref 12 116), (0, .nameAndType 117 118), (0, u "compress"), (0, u "([CI[BII)I"), (0, .methodref 12 120), (0, .nameAndType 121 122), (0, u "toBytes"), (0, u "([CII)[B"), (138, u "coderFromArrayLen"), (0, u "([BI)B"), (106, .class_ 371), (1, u "java/lang/StringUTF16$LinesSpliterator"), (58, u "MAX_LENGTH"), (196, .class_ 628), (0, u "java/lang/StringUTF16$CodePointsSpliterator"), (0, .class_ 630), (0, u "java/lang/StringUTF16$CharsSpliterator")] 4

def k8m0 : Method := { name := "<init>", desc := "()V", sig := { parameters := [], returnType := none }, accessFlags := 0, code := none }
def k8c1 : Code := { maxStack := 1, maxLocals := 1, code := jdk_52_method_2_code, exceptionTable := #[], attributes := #[] }
def k8m1 : Method := { name := "newBytesFor", desc := "(I)[B", sig := { parameters := [.int], returnType := some (.array .byte) }, accessFlags := 9, code := some k8c1 }
def k8c2 : Code := { maxStack := 4, maxLocals := 1, code := jdk_52_method_3_code, exceptionTable := #[], attributes := #[] }
def k8m2 : Method := { name := "newBytesLength", desc := "(I)I", sig := { parameters := [.int], returnType := some .int }, accessFlags := 9, code := some k8c2 }
def k8c3 : Code := { maxStack := 4, maxLocals := 3, code := jdk_52_method_4_code, exceptionTable := #[], attributes := #[] }
def k8m3 : Method := { name := "putChar", desc := "([BII)V", sig := { parameters := [(.array .byte), .int, .int], returnType := none }, accessFlags := 8, code := some k8c3 }
def k8c4 : Code := { maxStack := 3, maxLocals := 2, code := jdk_52_method_5_code, exceptionTable := #[], attributes := #[] }
def k8m4 : Method := { name := "getChar", desc := "([BI)C", sig := { parameters := [(.array .byte), .int], returnType := some .char }, accessFlags := 8, code := some k8c4 }
def k8c5 : Code := { maxStack := 4, maxLocals := 5, code := jdk_52_method_14_code, exceptionTable := #[], attributes := #[] }
def k8m5 : Method := { name := "toBytes", desc := "([CII)[B", sig := { parameters := [(.array .char), .int, .int], returnType := some (.array .byte) }, accessFlags := 9, code := some k8c5 }
def k8c6 : Code := { maxStack := 2, maxLocals := 2, code := jdk_52_method_15_code, exceptionTable := #[], attributes := #[] }
def k8m6 : Method := { name := "coderFromArrayLen", desc := "([BI)B", sig := { parameters := [(.array .byte), .int], returnType := some .byte }, accessFlags := 8, code := some k8c6 }
def k8c7 : Code := { maxStack := 5, maxLocals := 6, code := jdk_52_method_16_code, exceptionTable := #[], attributes := #[] }
def k8m7 : Method := { name := "compress", desc := "([CII)[B", sig := { parameters := [(.array .char), .int, .int], returnType := some (.array .byte) }, accessFlags := 9, code := some k8c7 }
def k8c8 : Code := { maxStack := 3, maxLocals := 7, code := jdk_52_method_21_code, exceptionTable := #[], attributes := #[] }
def k8m8 : Method := { name := "compress", desc := "([CI[BII)I", sig := { parameters := [(.array .char), .int, (.array .byte), .int, .int], returnType := some .int }, accessFlags := 9, code := some k8c8 }
/-- java/lang/StringUTF16 -/
def k8 : Class := { plain "java/lang/StringUTF16" (some 0) with
  accessFlags := 48
  interfaces := #[]
  cf := some (fileOf pool8 12 #[.nestMembers #[627, 629, 369]] #[{ accessFlags := 0, nameIndex := 9, descriptorIndex := 10, attributes := #[] }, { accessFlags := 9, nameIndex := 109, descriptorIndex := 110, attributes := #[] }, { accessFlags := 9, nameIndex := 15, descriptorIndex := 16, attributes := #[] }, { accessFlags := 8, nameIndex := 113, descriptorIndex := 114, attributes := #[] }, { accessFlags := 8, nameIndex := 73, descriptorIndex := 74, attributes := #[] }, { accessFlags := 9, nameIndex := 121, descriptorIndex := 122, attributes := #[] }, { accessFlags := 8, nameIndex := 261, descriptorIndex := 262, attributes := #[] }, { accessFlags := 9, nameIndex := 117, descriptorIndex := 122, attributes := #[] }, { accessFlags := 9, nameIndex := 117, descriptorIndex := 118, attributes := #[] }] 48 6 #[] #[{ accessFlags := 26, nameIndex := 61, descriptorIndex := 62, attributes := #[] }, { accessFlags := 26, nameIndex := 65, descriptorIndex := 62, attributes := #[] }, { accessFlags := 24, nameIndex := 430, descriptorIndex := 62, attributes := #[] }, { accessFlags := 4120, nameIndex := 46, descriptorIndex := 47, attributes := #[] }])
  fields := #[{ name := "HI_BYTE_SHIFT", type := .int, accessFlags := 26, slot := 0, constantValue := 0 }, { name := "LO_BYTE_SHIFT", type := .int, accessFlags := 26, slot := 1, constantValue := 0 }, { name := "MAX_LENGTH", type := .int, accessFlags := 24, slot := 2, constantValue := 0 }, { name := "$assertionsDisabled", type := .boolean, accessFlags := 4120, slot := 3, constantValue := 0 }]
  methods := #[k8m0, k8m1, k8m2, k8m3, k8m4, k8m5, k8m6, k8m7, k8m8]
  instanceTypes := #[]
  staticTypes := #[.int, .int, .int, .boolean]
  resolved := Array.replicate 635 none
  statics := some 1 }

def pool9 : Array CpInfo := pool [(2, .class_ 4), (1, u "java/lang/Object"), (3, .class_ 10), (1, u "com/example/leafcutter/leafcutter/RunOptions"), (0, u "concurrencyKey"), (0, u "Ljava/lang/String;"), (2, u "deadline"), (0, u "Ljava/time/Duration;"), (2, u "DEFAULTS"), (0, u "Lcom/example/leafcutter/leafcutter/RunOptions;"), (2, u "requireConcurrencyKey"), (0, u "(Ljava/lang/String;)Ljava/lang/String;"), (15, .string 11), (0, .methodref 42 43), (0, .class_ 44), (0, .nameAndType 45 46), (0, u "java/util/Objects"), (0, u "requireNonNull"), (0, u "(Ljava/lang/Object;Ljava/lang/String;)Ljava/lang/Object;"), (0, .methodref 48 49), (0, .class_ 50), (0, .nameAndType 51 52), (0, u "java/lang/String"), (0, u "isEmpty"), (0, u "()Z")] 23

def k9c0 : Code := { maxStack := 3, maxLocals := 1, code := prog_14_method_7_code, exceptionTable := #[], attributes := #[] }
def k9m0 : Method := { name := "requireConcurrencyKey", desc := "(Ljava/lang/String;)Ljava/lang/String;", sig := { parameters := [(.object "java/lang/String")], returnType := some (.object "java/lang/String") }, accessFlags := 8, code := some k9c0 }
/-- com/example/leafcutter/leafcutter/RunOptions -/
def k9 : Class := { plain "com/example/leafcutter/leafcutter/RunOptions" (some 0) with
  accessFlags := 49
  interfaces := #[]
  cf := some (fileOf pool9 8 #[] #[{ accessFlags := 8, nameIndex := 23, descriptorIndex := 24, attributes := #[] }] 49 2 #[] #[{ accessFlags := 26, nameIndex := 19, descriptorIndex := 20, attributes := #[] }, { accessFlags := 18, nameIndex := 11, descriptorIndex := 12, attributes := #[] }, { accessFlags := 18, nameIndex := 15, descriptorIndex := 16, attributes := #[] }])
  fields := #[{ name := "DEFAULTS", type := (.object "com/example/leafcutter/leafcutter/RunOptions"), accessFlags := 26, slot := 0, constantValue := 0 }, { name := "concurrencyKey", type := (.object "java/lang/String"), accessFlags := 18, slot := 0, constantValue := 0 }, { name := "deadline", type := (.object "java/time/Duration"), accessFlags := 18, slot := 1, constantValue := 0 }]
  methods := #[k9m0]
  instanceTypes := #[(.object "java/lang/String"), (.object "java/time/Duration")]
  staticTypes := #[(.object "com/example/leafcutter/leafcutter/RunOptions")]
  resolved := Array.replicate 76 none
  statics := none }

def pool10 : Array CpInfo := pool [(2, .class_ 4), (1, u "java/lang/Object"), (0, u "<init>"), (0, u "()V"), (35, .class_ 44), (1, u "java/util/Objects"), (0, u "requireNonNull"), (48, u "(Ljava/lang/Object;Ljava/lang/String;)Ljava/lang/Object;")] 89

def k10m0 : Method := { name := "<init>", desc := "()V", sig := { parameters := [], returnType := none }, accessFlags := 2, code := none }
def k10c1 : Code := { maxStack := 3, maxLocals := 2, code := jdk_31_method_11_code, exceptionTable := #[], attributes := #[] }
def k10m1 : Method := { name := "requireNonNull", desc := "(Ljava/lang/Object;Ljava/lang/String;)Ljava/lang/Object;", sig := { parameters := [(.object "java/lang/Object"), (.object "java/lang/String")], returnType := some (.object "java/lang/Object") }, accessFlags := 9, code := some k10c1 }
/-- java/util/Objects -/
def k10 : Class := { plain "java/util/Objects" (some 0) with
  accessFlags := 49
  interfaces := #[]
  cf := some (fileOf pool10 42 #[] #[{ accessFlags := 2, nameIndex := 5, descriptorIndex := 6, attributes := #[] }, { accessFlags := 9, nameIndex := 45, descriptorIndex := 94, attributes := #[] }] 49 2 #[] #[])
  fields := #[]
  methods := #[k10m0, k10m1]
  instanceTypes := #[]
  staticTypes := #[]
  resolved := Array.replicate 184 none
  statics := none }

def pool11 : Array CpInfo := pool [(4, .class_ 6), (1, u "java/lang/Object"), (0, u "<init>"), (0, u "()V"), (5, .class_ 16), (1, u "java/lang/StringLatin1"), (104, u "$assertionsDisabled"), (0, u "Z"), (98, .class_ 223), (1, u "java/lang/StringLatin1$LinesSpliterator"), (166, .class_ 391), (0, u "java/lang/StringLatin1$CharsSpliterator")] 3

def k11m0 : Method := { name := "<init>", desc := "()V", sig := { parameters := [], returnType := none }, accessFlags := 0, code := none }
/-- java/lang/StringLatin1 -/
def k11 : Class := { plain "java/lang/StringLatin1" (some 0) with
  accessFlags := 48
  interfaces := #[]
  cf := some (fileOf pool11 14 #[.nestMembers #[390, 221]] #[{ accessFlags := 0, nameIndex := 7, descriptorIndex := 8, attributes := #[] }] 48 4 #[] #[{ accessFlags := 4120, nameIndex := 121, descriptorIndex := 122, attributes := #[] }])
  fields := #[{ name := "$assertionsDisabled", type := .boolean, accessFlags := 4120, slot := 0, constantValue := 0 }]
  methods := #[k11m0]
  instanceTypes := #[]
  staticTypes := #[.boolean]
  resolved := Array.replicate 395 none
  statics := none }

def pool12 : Array CpInfo := pool [(2, .class_ 4), (1, u "java/lang/Object"), (0, u "<init>"), (0, u "()V"), (17, .class_ 26), (1, u "jdk/internal/util/Preconditions"), (28, .class_ 56), (0, u "jdk/internal/util/Preconditions$4"), (57, .class_ 115), (0, u "jdk/internal/util/Preconditions$1"), (7, u "SIOOBE_FORMATTER"), (0, u "Ljava/util/function/BiFunction;"), (0, .class_ 126), (0, u "jdk/internal/util/Preconditions$2"), (3, u "AIOOBE_FORMATTER"), (0, .class_ 132), (0, u "jdk/internal/util/Preconditions$3"), (3, u "IOOBE_FORMATTER")] 57

def k12m0 : Method := { name := "<init>", desc := "()V", sig := { parameters := [], returnType := none }, accessFlags := 1, code := none }
/-- jdk/internal/util/Preconditions -/
def k12 : Class := { plain "jdk/internal/util/Preconditions" (some 0) with
  accessFlags := 33
  interfaces := #[]
  cf := some (fileOf pool12 24 #[.nestMembers #[55, 131, 125, 114]] #[{ accessFlags := 1, nameIndex := 5, descriptorIndex := 6, attributes := #[] }] 33 2 #[] #[{ accessFlags := 25, nameIndex := 123, descriptorIndex := 124, attributes := #[] }, { accessFlags := 25, nameIndex := 130, descriptorIndex := 124, attributes := #[] }, { accessFlags := 25, nameIndex := 136, descriptorIndex := 124, attributes := #[] }])
  fields := #[{ name := "SIOOBE_FORMATTER", type := (.object "java/util/function/BiFunction"), accessFlags := 25, slot := 0, constantValue := 0 }, { name := "AIOOBE_FORMATTER", type := (.object "java/util/function/BiFunction"), accessFlags := 25, slot := 1, constantValue := 0 }, { name := "IOOBE_FORMATTER", type := (.object "java/util/function/BiFunction"), accessFlags := 25, slot := 2, constantValue := 0 }]
  methods := #[k12m0]
  instanceTypes := #[]
  staticTypes := #[(.object "java/util/function/BiFunction"), (.object "java/util/function/BiFunction"), (.object "java/util/function/BiFunction")]
  resolved := Array.replicate 194 none
  statics := some 2 }

def pool13 : Array CpInfo := pool [(9, u "<init>"), (6, .class_ 18), (1, u "java/lang/Object"), (0, u "()V"), (1, .class_ 23), (1, u "jdk/internal/util/ArraysSupport"), (0, u "LOG2_ARRAY_LONG_INDEX_SCALE"), (0, u "I"), (2, u "U"), (0, u "Ljdk/internal/misc/Unsafe;"), (8, u "BIG_ENDIAN"), (0, u "Z"), (8, u "LOG2_BYTE_BIT_SIZE"), (4, u "LOG2_ARRAY_INT_INDEX_SCALE"), (54, u "JLA"), (0, u "Ljdk/internal/access/JavaLangAccess;"), (11, u "LOG2_ARRAY_BOOLEAN_INDEX_SCALE"), (9, u "LOG2_ARRAY_BYTE_INDEX_SCALE"), (5, u "LOG2_ARRAY_CHAR_INDEX_SCALE"), (5, u "LOG2_ARRAY_SHORT_INDEX_SCALE"), (18, u "LOG2_ARRAY_FLOAT_INDEX_SCALE"), (24, u "LOG2_ARRAY_DOUBLE_INDEX_SCALE"), (89, u "T_BOOLEAN"), (2, u "T_CHAR"), (1, u "T_FLOAT"), (1, u "T_DOUBLE"), (1, u "T_BYTE"), (1, u "T_SHORT"), (1, u "T_INT"), (1, u "T_LONG"), (1, u "SOFT_MAX_ARRAY_LENGTH")] 83

def k13m0 : Method := { name := "<init>", desc := "()V", sig := { parameters := [], returnType := none }, accessFlags := 2, code := none }
/-- jdk/internal/util/ArraysSupport -/
def k13 : Class := { plain "jdk/internal/util/ArraysSupport" (some 0) with
  accessFlags := 33
  interfaces := #[]
  cf := some (fileOf pool13 21 #[] #[{ accessFlags := 2, nameIndex := 9, descriptorIndex := 19, attributes := #[] }] 33 16 #[] #[{ accessFlags := 24, nameIndex := 28, descriptorIndex := 29, attributes := #[] }, { accessFlags := 26, nameIndex := 38, descriptorIndex := 39, attributes := #[] }, { accessFlags := 25, nameIndex := 121, descriptorIndex := 25, attributes := #[] }, { accessFlags := 25, nameIndex := 131, descriptorIndex := 25, attributes := #[] }, { accessFlags := 25, nameIndex := 137, descriptorIndex := 25, attributes := #[] }, { accessFlags := 25, nameIndex := 143, descriptorIndex := 25, attributes := #[] }, { accessFlags := 25, nameIndex := 53, descriptorIndex := 25, attributes := #[] }, { accessFlags := 25, nameIndex := 24, descriptorIndex := 25, attributes := #[] }, { accessFlags := 25, nameIndex := 162, descriptorIndex := 25, attributes := #[] }, { accessFlags := 25, nameIndex := 187, descriptorIndex := 25, attributes := #[] }, { accessFlags := 26, nameIndex := 48, descriptorIndex := 25, attributes := #[] }, { accessFlags := 25, nameIndex := 277, descriptorIndex := 25, attributes := #[] }, { accessFlags := 25, nameIndex := 280, descriptorIndex := 25, attributes := #[] }, { accessFlags := 25, nameIndex := 282, descriptorIndex := 25, attributes := #[] }, { accessFlags := 25, nameIndex := 284, descriptorIndex := 25, attributes := #[] }, { accessFlags := 25, nameIndex := 286, descriptorIndex := 25, attributes := #[] }, { accessFlags := 25, nameIndex := 288, descriptorIndex := 25, attributes := #[] }, { accessFlags := 25, nameIndex := 290, descriptorIndex := 25, attributes := #[] }, { accessFlags := 25, nameIndex := 292, descriptorIndex := 25, attributes := #[] }, { accessFlags := 26, nameIndex := 108, descriptorIndex := 109, attributes := #[] }, { accessFlags := 25, nameIndex := 294, descriptorIndex := 25, attributes := #[] }])
  fields := #[{ name := "U", type := (.object "jdk/internal/misc/Unsafe"), accessFlags := 24, slot := 0, constantValue := 0 }, { name := "BIG_ENDIAN", type := .boolean, accessFlags := 26, slot := 1, constantValue := 0 }, { name := "LOG2_ARRAY_BOOLEAN_INDEX_SCALE", type := .int, accessFlags := 25, slot := 2, constantValue := 0 }, { name := "LOG2_ARRAY_BYTE_INDEX_SCALE", type := .int, accessFlags := 25, slot := 3, constantValue := 0 }, { name := "LOG2_ARRAY_CHAR_INDEX_SCALE", type := .int, accessFlags := 25, slot := 4, constantValue := 0 }, { name := "LOG2_ARRAY_SHORT_INDEX_SCALE", type := .int, accessFlags := 25, slot := 5, constantValue := 0 }, { name := "LOG2_ARRAY_INT_INDEX_SCALE", type := .int, accessFlags := 25, slot := 6, constantValue := 0 }, { name := "LOG2_ARRAY_LONG_INDEX_SCALE", type := .int, accessFlags := 25, slot := 7, constantValue := 0 }, { name := "LOG2_ARRAY_FLOAT_INDEX_SCALE", type := .int, accessFlags := 25, slot := 8, constantValue := 0 }, { name := "LOG2_ARRAY_DOUBLE_INDEX_SCALE", type := .int, accessFlags := 25, slot := 9, constantValue := 0 }, { name := "LOG2_BYTE_BIT_SIZE", type := .int, accessFlags := 26, slot := 10, constantValue := 0 }, { name := "T_BOOLEAN", type := .int, accessFlags := 25, slot := 11, constantValue := 0 }, { name := "T_CHAR", type := .int, accessFlags := 25, slot := 12, constantValue := 0 }, { name := "T_FLOAT", type := .int, accessFlags := 25, slot := 13, constantValue := 0 }, { name := "T_DOUBLE", type := .int, accessFlags := 25, slot := 14, constantValue := 0 }, { name := "T_BYTE", type := .int, accessFlags := 25, slot := 15, constantValue := 0 }, { name := "T_SHORT", type := .int, accessFlags := 25, slot := 16, constantValue := 0 }, { name := "T_INT", type := .int, accessFlags := 25, slot := 17, constantValue := 0 }, { name := "T_LONG", type := .int, accessFlags := 25, slot := 18, constantValue := 0 }, { name := "JLA", type := (.object "jdk/internal/access/JavaLangAccess"), accessFlags := 26, slot := 19, constantValue := 0 }, { name := "SOFT_MAX_ARRAY_LENGTH", type := .int, accessFlags := 25, slot := 20, constantValue := 0 }]
  methods := #[k13m0]
  instanceTypes := #[]
  staticTypes := #[(.object "jdk/internal/misc/Unsafe"), .boolean, .int, .int, .int, .int, .int, .int, .int, .int, .int, .int, .int, .int, .int, .int, .int, .int, .int, (.object "jdk/internal/access/JavaLangAccess"), .int]
  resolved := Array.replicate 378 none
  statics := none }

def pool14 : Array CpInfo := pool [(1, u "java/lang/Cloneable"), (0, .class_ 1), (0, u "java/lang/Object"), (0, .class_ 3)] 3

/-- java/lang/Cloneable -/
def k14 : Class := { plain "java/lang/Cloneable" (some 0) with
  accessFlags := 1537
  interfaces := #[]
  cf := some (fileOf pool14 2 #[] #[] 1537 4 #[] #[])
  fields := #[]
  methods := #[]
  instanceTypes := #[]
  staticTypes := #[]
  resolved := Array.replicate 8 none
  statics := none }

/-- the primitive byte -/
def k15 : Class := { plain "byte" none with kind := .primitive 'B', accessFlags := 0x411 }
/-- [B -/
def k16 : Class := { plain "[B" (some 0) with kind := .array 15 .byte, interfaces := #[14, 2], accessFlags := 1041 }

/-- the primitive char -/
def k17 : Class := { plain "char" none with kind := .primitive 'C', accessFlags := 0x411 }
/-- [C -/
def k18 : Class := { plain "[C" (some 0) with kind := .array 17 .char, interfaces := #[14, 2], accessFlags := 1041 }

/-- the primitive int -/
def k19 : Class := { plain "int" none with kind := .primitive 'I', accessFlags := 0x411 }
/-- [I -/
def k20 : Class := { plain "[I" (some 0) with kind := .array 19 .int, interfaces := #[14, 2], accessFlags := 1041 }

def heap : Heap := #[{ cls := 7, slots := #[.long 0, .int 1, .null, .int 0, .null, .int 0, .int 0], vm := .statics 7 },
  { cls := 8, slots := #[.int 0, .int 8, .int 0, .int 1], vm := .statics 8 },
  { cls := 12, slots := #[.null, .null, .null], vm := .statics 12 }]
def classes : Array Class := #[k0, k1, k2, k3, k4, k5, k6, k7, k8, k9, k10, k11, k12, k13, k14, k15, k16, k17, k18, k19, k20]
def interned : List (Array UInt16 × Addr) := []
def slotsUsed : Nat := 14
def theMethod : MethodId := ⟨1, 1⟩
def args0 : Array Value := #[.int 5, .int 5, .int 5, .int 5, .int 5]
def aboutOver (below : List Frame) : State where
  vm := { classes := classes, interned := interned.toArray }
  heap := heap
  slotsUsed := slotsUsed
  threads := #[{ frames := .invoking theMethod args0 :: below }]
def below0 : List Frame := [.native { method := ⟨0, 0⟩, args := #[] }]
def about1 : State := aboutOver below0
def p0 : Program := .bare "" "" ""
def e0 : Env := launch0.env 0 0 0
theorem w_frames : about1.frames = Frame.invoking theMethod args0 :: below0 := rfl
set_option maxRecDepth 65536 in
theorem w_args : argsFit about1.vm theMethod args0 = true := by decide +kernel
set_option maxRecDepth 65536 in
theorem w_heap : heapFits about1 = true := by decide +kernel
set_option maxRecDepth 65536 in
theorem w_runnable : about1.curStatus? = some .runnable := by decide +kernel
set_option maxRecDepth 65536 in
theorem w_alone : about1.alone = true := by decide +kernel
set_option maxRecDepth 65536 in
theorem w_named : about1.methodNamed? x = some theMethod := by decide +kernel
set_option maxRecDepth 65536 in
theorem w_hears : about1.hears theMethod below0 = true := by decide +kernel
set_option maxRecDepth 65536 in
theorem w_ripe : about1.ripe theMethod args0 below0 = true := by decide +kernel
theorem w_running : about1.status = .running := rfl
set_option maxRecDepth 65536 in
theorem w_room : about1.hasRoom e0.platform room_1 = true :=
  launch0.hasRoom_least _ room_1 (by decide +kernel) (by decide +kernel) (by decide +kernel) (by decide +kernel) (by decide +kernel) (by decide +kernel)
theorem allAtoms_all (ts : List Jvm.Cond) (a : Array Jvm.Value) (st : Jvm.State) : (allAtoms ts).before a st = ts.all (fun c => c.before a st) := by
  induction ts with
  | nil => rfl
  | cons c t ih =>
    show (Jvm.Cond.and c (allAtoms t)).before a st = _
    rw [Jvm.Cond.before_and, ih, List.all_cons]
def words1 : List Jvm.Cond := Jvm.Cond.code x code maxLocals ret :: tables_1
/-- a 'code' word, met by the world's own term for the bytes: nothing is compared byte by byte -/
theorem code_word {y : MethodName} {bytes : ByteArray} {mx : Nat} {rt : Option FieldType} {a : Array Value} {s : State} {m : MethodId} {meth : Method} {c : Code} (h1 : s.methodNamed? y = some m) (h2 : s.vm.method? m = some meth) (h3 : meth.code = some c) (h4 : c.code = bytes)
    (h5 : (c.maxLocals == mx && c.exceptionTable.isEmpty && decide (c.maxStack ≤ mostOperands) && decide (meth.sig.returnType = rt) && !meth.locks && decide (parseMethodDescriptor y.desc = some meth.sig)) = true) : (Jvm.Cond.code y bytes mx rt).before a s = true := by
  simp only [Bool.and_eq_true, beq_iff_eq, Bool.not_eq_true', decide_eq_true_eq] at h5
  obtain ⟨⟨⟨⟨⟨g1, g2⟩, g3⟩, g4⟩, g5⟩, g6⟩ := h5
  simp [Cond.before, Cond.holds, Cond.value, h1, h2, h3, h4, g1, g2, g3, g4, g5, g6]
def isCode : Jvm.Cond → Bool
  | .code _ _ _ _ => true
  | _ => false
theorem all_split {L : List Jvm.Cond} {P : Jvm.Cond → Bool} (h1 : L.all (fun c => isCode c || P c) = true) (h2 : ∀ c ∈ L.filter isCode, P c = true) : L.all P = true := by
  refine List.all_eq_true.mpr fun c hc => ?_
  have h := List.all_eq_true.mp h1 c hc
  rcases Bool.eq_false_or_eq_true (isCode c) with hi | hi
  · exact h2 c (List.mem_filter.mpr ⟨hc, hi⟩)
  · simpa [hi] using h
set_option maxRecDepth 65536 in
theorem w_c0 : (Jvm.Cond.code x code maxLocals ret).before args0 about1 = true := code_word (m := ⟨1, 1⟩) (meth := k1m1) (c := k1c1) (by decide +kernel) rfl rfl rfl (by decide +kernel)
set_option maxRecDepth 65536 in
theorem w_c1 : (Jvm.Cond.code ({ cls := "com/example/leafcutter/leafcutter/RunOptionsRequireConcurrencyKeyPinLaw", name := "make", desc := "(ICCCC)Ljava/lang/String;" } : Jvm.MethodName) method_3_code (6 : Nat) (Option.some (Jvm.ClassFile.FieldType.object "java/lang/String"))).before args0 about1 = true := code_word (m := ⟨1, 2⟩) (meth := k1m2) (c := k1c2) (by decide +kernel) rfl rfl rfl (by decide +kernel)
set_option maxRecDepth 65536 in
theorem w_c2 : (Jvm.Cond.code ({ cls := "java/lang/String", name := "<init>", desc := "([C)V" } : Jvm.MethodName) jdk_42_method_3_code (2 : Nat) (Option.none : Option Jvm.ClassFile.FieldType)).before args0 about1 = true := code_word (m := ⟨7, 1⟩) (meth := k7m1) (c := k7c1) (by decide +kernel) rfl rfl rfl (by decide +kernel)
set_option maxRecDepth 65536 in
theorem w_c3 : (Jvm.Cond.code ({ cls := "java/lang/String", name := "<init>", desc := "([CIILjava/lang/Void;)V" } : Jvm.MethodName) jdk_42_method_149_code (6 : Nat) (Option.none : Option Jvm.ClassFile.FieldType)).before args0 about1 = true := code_word (m := ⟨7, 4⟩) (meth := k7m4) (c := k7c4) (by decide +kernel) rfl rfl rfl (by decide +kernel)
set_option maxRecDepth 65536 in
theorem w_c4 : (Jvm.Cond.code ({ cls := "java/lang/Object", name := "<init>", desc := "()V" } : Jvm.MethodName) object_method_1_code (1 : Nat) (Option.none : Option Jvm.ClassFile.FieldType)).before args0 about1 = true := code_word (m := ⟨0, 0⟩) (meth := k0m0) (c := k0c0) (by decide +kernel) rfl rfl rfl (by decide +kernel)
set_option maxRecDepth 65536 in
theorem w_c5 : (Jvm.Cond.code ({ cls := "java/lang/StringUTF16", name := "compress", desc := "([CII)[B" } : Jvm.MethodName) jdk_52_method_16_code (6 : Nat) (Option.some (Jvm.ClassFile.FieldType.array Jvm.ClassFile.FieldType.byte))).before args0 about1 = true := code_word (m := ⟨8, 7⟩) (meth := k8m7) (c := k8c7) (by decide +kernel) rfl rfl rfl (by decide +kernel)
set_option maxRecDepth 65536 in
theorem w_c6 : (Jvm.Cond.code ({ cls := "java/lang/StringUTF16", name := "compress", desc := "([CI[BII)I" } : Jvm.MethodName) jdk_52_method_21_code (7 : Nat) (Option.some Jvm.ClassFile.FieldType.int)).before args0 about1 = true := code_word (m := ⟨8, 8⟩) (meth := k8m8) (c := k8c8) (by decide +kernel) rfl rfl rfl (by decide +kernel)
set_option maxRecDepth 65536 in
theorem w_c7 : (Jvm.Cond.code ({ cls := "java/lang/StringUTF16", name := "coderFromArrayLen", desc := "([BI)B" } : Jvm.MethodName) jdk_52_method_15_code (2 : Nat) (Option.some Jvm.ClassFile.FieldType.byte)).before args0 about1 = true := code_word (m := ⟨8, 6⟩) (meth := k8m6) (c := k8c6) (by decide +kernel) rfl rfl rfl (by decide +kernel)
set_option maxRecDepth 65536 in
theorem w_c8 : (Jvm.Cond.code ({ cls := "com/example/leafcutter/leafcutter/RunOptions", name := "requireConcurrencyKey", desc := "(Ljava/lang/String;)Ljava/lang/String;" } : Jvm.MethodName) prog_14_method_7_code (1 : Nat) (Option.some (Jvm.ClassFile.FieldType.object "java/lang/String"))).before args0 about1 = true := code_word (m := ⟨9, 0⟩) (meth := k9m0) (c := k9c0) (by decide +kernel) rfl rfl rfl (by decide +kernel)
set_option maxRecDepth 65536 in
theorem w_c9 : (Jvm.Cond.code ({ cls := "java/util/Objects", name := "requireNonNull", desc := "(Ljava/lang/Object;Ljava/lang/String;)Ljava/lang/Object;" } : Jvm.MethodName) jdk_31_method_11_code (2 : Nat) (Option.some (Jvm.ClassFile.FieldType.object "java/lang/Object"))).before args0 about1 = true := code_word (m := ⟨10, 1⟩) (meth := k10m1) (c := k10c1) (by decide +kernel) rfl rfl rfl (by decide +kernel)
set_option maxRecDepth 65536 in
theorem w_c10 : (Jvm.Cond.code ({ cls := "java/lang/String", name := "isEmpty", desc := "()Z" } : Jvm.MethodName) jdk_42_method_55_code (1 : Nat) (Option.some Jvm.ClassFile.FieldType.boolean)).before args0 about1 = true := code_word (m := ⟨7, 3⟩) (meth := k7m3) (c := k7c3) (by decide +kernel) rfl rfl rfl (by decide +kernel)
set_option maxRecDepth 65536 in
theorem w_c11 : (Jvm.Cond.code ({ cls := "java/lang/String", name := "length", desc := "()I" } : Jvm.MethodName) jdk_42_method_54_code (1 : Nat) (Option.some Jvm.ClassFile.FieldType.int)).before args0 about1 = true := code_word (m := ⟨7, 2⟩) (meth := k7m2) (c := k7c2) (by decide +kernel) rfl rfl rfl (by decide +kernel)
set_option maxRecDepth 65536 in
theorem w_c12 : (Jvm.Cond.code ({ cls := "java/lang/String", name := "coder", desc := "()B" } : Jvm.MethodName) jdk_42_method_152_code (1 : Nat) (Option.some Jvm.ClassFile.FieldType.byte)).before args0 about1 = true := code_word (m := ⟨7, 5⟩) (meth := k7m5) (c := k7c5) (by decide +kernel) rfl rfl rfl (by decide +kernel)
set_option maxRecDepth 65536 in
theorem w_c13 : (Jvm.Cond.code ({ cls := "java/lang/StringUTF16", name := "toBytes", desc := "([CII)[B" } : Jvm.MethodName) jdk_52_method_14_code (5 : Nat) (Option.some (Jvm.ClassFile.FieldType.array Jvm.ClassFile.FieldType.byte))).before args0 about1 = true := code_word (m := ⟨8, 5⟩) (meth := k8m5) (c := k8c5) (by decide +kernel) rfl rfl rfl (by decide +kernel)
set_option maxRecDepth 65536 in
theorem w_c14 : (Jvm.Cond.code ({ cls := "java/lang/StringUTF16", name := "newBytesFor", desc := "(I)[B" } : Jvm.MethodName) jdk_52_method_2_code (1 : Nat) (Option.some (Jvm.ClassFile.FieldType.array Jvm.ClassFile.FieldType.byte))).before args0 about1 = true := code_word (m := ⟨8, 1⟩) (meth := k8m1) (c := k8c1) (by decide +kernel) rfl rfl rfl (by decide +kernel)
set_option maxRecDepth 65536 in
theorem w_c15 : (Jvm.Cond.code ({ cls := "java/lang/StringUTF16", name := "newBytesLength", desc := "(I)I" } : Jvm.MethodName) jdk_52_method_3_code (1 : Nat) (Option.some Jvm.ClassFile.FieldType.int)).before args0 about1 = true := code_word (m := ⟨8, 2⟩) (meth := k8m2) (c := k8c2) (by decide +kernel) rfl rfl rfl (by decide +kernel)
set_option maxRecDepth 65536 in
theorem w_c16 : (Jvm.Cond.code ({ cls := "java/lang/StringUTF16", name := "putChar", desc := "([BII)V" } : Jvm.MethodName) jdk_52_method_4_code (3 : Nat) (Option.none : Option Jvm.ClassFile.FieldType)).before args0 about1 = true := code_word (m := ⟨8, 3⟩) (meth := k8m3) (c := k8c3) (by decide +kernel) rfl rfl rfl (by decide +kernel)
set_option maxRecDepth 65536 in
theorem w_c17 : (Jvm.Cond.code ({ cls := "java/lang/StringUTF16", name := "getChar", desc := "([BI)C" } : Jvm.MethodName) jdk_52_method_5_code (2 : Nat) (Option.some Jvm.ClassFile.FieldType.char)).before args0 about1 = true := code_word (m := ⟨8, 4⟩) (meth := k8m4) (c := k8c4) (by decide +kernel) rfl rfl rfl (by decide +kernel)
def codes1 : List Jvm.Cond := [Jvm.Cond.code x code maxLocals ret, Jvm.Cond.code ({ cls := "com/example/leafcutter/leafcutter/RunOptionsRequireConcurrencyKeyPinLaw", name := "make", desc := "(ICCCC)Ljava/lang/String;" } : Jvm.MethodName) method_3_code (6 : Nat) (Option.some (Jvm.ClassFile.FieldType.object "java/lang/String")), Jvm.Cond.code ({ cls := "java/lang/String", name := "<init>", desc := "([C)V" } : Jvm.MethodName) jdk_42_method_3_code (2 : Nat) (Option.none : Option Jvm.ClassFile.FieldType), Jvm.Cond.code ({ cls := "java/lang/String", name := "<init>", desc := "([CIILjava/lang/Void;)V" } : Jvm.MethodName) jdk_42_method_149_code (6 : Nat) (Option.none : Option Jvm.ClassFile.FieldType), Jvm.Cond.code ({ cls := "java/lang/Object", name := "<init>", desc := "()V" } : Jvm.MethodName) object_method_1_code (1 : Nat) (Option.none : Option Jvm.ClassFile.FieldType), Jvm.Cond.code ({ cls := "java/lang/StringUTF16", name := "compress", desc := "([CII)[B" } : Jvm.MethodName) jdk_52_method_16_code (6 : Nat) (Option.some (Jvm.ClassFile.FieldType.array Jvm.ClassFile.FieldType.byte)), Jvm.Cond.code ({ cls := "java/lang/StringUTF16", name := "compress", desc := "([CI[BII)I" } : Jvm.MethodName) jdk_52_method_21_code (7 : Nat) (Option.some Jvm.ClassFile.FieldType.int), Jvm.Cond.code ({ cls := "java/lang/StringUTF16", name := "coderFromArrayLen", desc := "([BI)B" } : Jvm.MethodName) jdk_52_method_15_code (2 : Nat) (Option.some Jvm.ClassFile.FieldType.byte), Jvm.Cond.code ({ cls := "com/example/leafcutter/leafcutter/RunOptions", name := "requireConcurrencyKey", desc := "(Ljava/lang/String;)Ljava/lang/String;" } : Jvm.MethodName) prog_14_method_7_code (1 : Nat) (Option.some (Jvm.ClassFile.FieldType.object "java/lang/String")), Jvm.Cond.code ({ cls := "java/util/Objects", name := "requireNonNull", desc := "(Ljava/lang/Object;Ljava/lang/String;)Ljava/lang/Object;" } : Jvm.MethodName) jdk_31_method_11_code (2 : Nat) (Option.some (Jvm.ClassFile.FieldType.object "java/lang/Object")), Jvm.Cond.code ({ cls := "java/lang/String", name := "isEmpty", desc := "()Z" } : Jvm.MethodName) jdk_42_method_55_code (1 : Nat) (Option.some Jvm.ClassFile.FieldType.boolean), Jvm.Cond.code ({ cls := "java/lang/String", name := "length", desc := "()I" } : Jvm.MethodName) jdk_42_method_54_code (1 : Nat) (Option.some Jvm.ClassFile.FieldType.int), Jvm.Cond.code ({ cls := "java/lang/String", name := "coder", desc := "()B" } : Jvm.MethodName) jdk_42_method_152_code (1 : Nat) (Option.some Jvm.ClassFile.FieldType.byte), Jvm.Cond.code ({ cls := "java/lang/StringUTF16", name := "toBytes", desc := "([CII)[B" } : Jvm.MethodName) jdk_52_method_14_code (5 : Nat) (Option.some (Jvm.ClassFile.FieldType.array Jvm.ClassFile.FieldType.byte)), Jvm.Cond.code ({ cls := "java/lang/StringUTF16", name := "newBytesFor", desc := "(I)[B" } : Jvm.MethodName) jdk_52_method_2_code (1 : Nat) (Option.some (Jvm.ClassFile.FieldType.array Jvm.ClassFile.FieldType.byte)), Jvm.Cond.code ({ cls := "java/lang/StringUTF16", name := "newBytesLength", desc := "(I)I" } : Jvm.MethodName) jdk_52_method_3_code (1 : Nat) (Option.some Jvm.ClassFile.FieldType.int), Jvm.Cond.code ({ cls := "java/lang/StringUTF16", name := "putChar", desc := "([BII)V" } : Jvm.MethodName) jdk_52_method_4_code (3 : Nat) (Option.none : Option Jvm.ClassFile.FieldType), Jvm.Cond.code ({ cls := "java/lang/StringUTF16", name := "getChar", desc := "([BI)C" } : Jvm.MethodName) jdk_52_method_5_code (2 : Nat) (Option.some Jvm.ClassFile.FieldType.char)]
set_option maxRecDepth 65536 in
theorem codes_eq : words1.filter isCode = codes1 := rfl
theorem w_codes : ∀ c ∈ words1.filter isCode, c.before args0 about1 = true := by
  rw [codes_eq]
  intro c hc
  simp only [codes1, List.mem_cons, List.not_mem_nil, or_false] at hc
  rcases hc with rfl | rfl | rfl | rfl | rfl | rfl | rfl | rfl | rfl | rfl | rfl | rfl | rfl | rfl | rfl | rfl | rfl | rfl
  · exact w_c0
  · exact w_c1
  · exact w_c2
  · exact w_c3
  · exact w_c4
  · exact w_c5
  · exact w_c6
  · exact w_c7
  · exact w_c8
  · exact w_c9
  · exact w_c10
  · exact w_c11
  · exact w_c12
  · exact w_c13
  · exact w_c14
  · exact w_c15
  · exact w_c16
  · exact w_c17
set_option maxRecDepth 65536 in
theorem w_t1 : (words1.take 24).all (fun c => isCode c || c.before args0 about1) = true := by decide +kernel
set_option maxRecDepth 65536 in
theorem w_t2 : ((words1.drop 24).take 24).all (fun c => isCode c || c.before args0 about1) = true := by decide +kernel
set_option maxRecDepth 65536 in
theorem w_t3 : (((words1.drop 24).drop 24).take 24).all (fun c => isCode c || c.before args0 about1) = true := by decide +kernel
set_option maxRecDepth 65536 in
theorem w_t4 : (((words1.drop 24).drop 24).drop 24).all (fun c => isCode c || c.before args0 about1) = true := by decide +kernel
theorem w_tables : (allAtoms (Jvm.Cond.code x code maxLocals ret :: tables_1)).before args0 about1 = true := by
  rw [allAtoms_all]
  show words1.all (fun c => c.before args0 about1) = true
  refine all_split ?_ w_codes
  rw [← List.take_append_drop 24 words1, List.all_append, w_t1, ← List.take_append_drop 24 (words1.drop 24), List.all_append, w_t2, ← List.take_append_drop 24 ((words1.drop 24).drop 24), List.all_append, w_t3, w_t4]
  rfl
set_option maxRecDepth 65536 in
theorem w_rest : rest_1_c.before args0 about1 = true := by decide +kernel
set_option maxRecDepth 65536 in
theorem w_case : (Jvm.Cond.and given_1 narrow_1).before args0 about1 = true := by decide +kernel
theorem w_applies : (headSpec (Jvm.Cond.code x code maxLocals ret :: tables_1) room_1).applies x e0.platform about1 = true :=
  (Spec.applies_iff w_frames).mpr ⟨w_running, w_runnable, w_alone, w_named, w_hears, w_ripe, w_room, w_tables⟩
theorem atStart : AtStart classFile x code maxLocals ret World_1 tables_1 room_1 Calls_1 rest_1 Pre_1 launch0 p0 e0 about1 theMethod args0 below0 :=
  ⟨lists_1, trivial, launch0.admits_env _ _ _, launch0.least_env, fairChoices_fair.cas, fairChoices_fair.clock, w_frames, w_args, w_heap, w_applies, trivial, w_rest, w_case⟩
end start1
theorem witness_1 : WitnessClaimed_1 := ⟨start1.p0, start1.e0, start1.about1, start1.theMethod, start1.args0, start1.below0, start1.atStart⟩
end Jvm.Pilot.@@N@@
