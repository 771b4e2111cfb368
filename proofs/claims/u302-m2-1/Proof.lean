import JvmDerived
import JvmDerived.Pilot.@@N@@Statement
import JvmDerived.Pilot.@@N@@Code
set_option linter.unusedVariables false
set_option linter.unusedSimpArgs false
set_option maxRecDepth 65536
set_option maxHeartbeats 400000000
@@BLOCK:NumsL.lean.txt@@
namespace Jvm.Pilot.@@N@@
open Jvm Jvm.ClassFile Sem Op Lib Jvm.Free Jvm.Stand Jvm.LawKit Jvm.RoadKit Bundle Jvm.Pilot.@@N@@.Jvm.D
abbrev cc (x : Int32) : Int32 := x.toUInt32.toUInt16.toUInt32.toInt32
abbrev bb (x : Int32) : Int32 := x.toInt8.toInt32
abbrev PayOf (F : State → Outcome → State → List Loc → Nat → Nat → Prop) (l : Launch) (Z : State) (y : MethodName) (ws : List Jvm.Cond) (bytes : ByteArray) (ml : Nat) (rt : Option FieldType) (as' : Array Value) (h0 : Heap) (rm : Room) (Q : Option Value → Heap → List Loc → Prop) : Prop :=
  MetFree l y (head1 (Jvm.Cond.code y bytes ml rt :: ws) rm) (fun a U => a = as' ∧ Z.Warmed39 U.vm ∧ U.heap = h0) (fun _ _ _ _ _ => True) (fun _ U o U' => ∃ v L, o = .returned v ∧ Q v U'.heap L ∧ F U o U' L rm.cells rm.slots)
abbrev Pay := PayOf FrameEnd
abbrev PayW := PayOf ReturnedEndW
theorem own_body {F : State → Outcome → State → List Loc → Nat → Nat → Prop} {l : Launch} {Z : State} {y : MethodName} {ws : List Jvm.Cond} {bytes : ByteArray} {ml : Nat} {rt : Option FieldType} {as' : Array Value} {h0 : Heap} {rm : Room} {Q : Option Value → Heap → List Loc → Prop} (hp : plainFor y = true) {L0 : Array Slot} (hent : ∀ m, entryFrame m as' ml = mkF m 0 L0 [])
    (body : ∀ (p : Program) (e : Env) (s : State) (m : MethodId) (below : List Frame) (meth : Method) (c : Code) (s₁ : State), meth.sig.returnType = rt → meth.locks = false → p.tables.exec = Jvm.exec → c.code = bytes → c.maxLocals = ml → Z.Warmed39 s.vm → s.vm.findClass y.cls = some m.cls → meth.name = y.name → Stand p l e rm s m as' below meth c s₁ [] 0 0 → s₁.heap = h0 →
      ∃ s₂ o, Steps p.tables e below (s₁.setTop (mkF m 0 L0 [])) s₂ ∧ s₂.status = .running ∧ Ended s₂ below o ∧ ∃ v L, o = .returned v ∧ Q v s₂.heap L ∧ F s o s₂ L rm.cells rm.slots) : PayOf F l Z y ws bytes ml rt as' h0 rm Q := by
  refine MetFree.of_bodySF hp hisR ?_
  intro p e s m args below meth c s₁ Bd hml hP hK
  obtain ⟨rfl, hZ, hh⟩ := hP
  obtain ⟨s₂, o, st, r⟩ := body p e s m below meth c s₁ Bd.returns Bd.notSynchronized Bd.exec Bd.bytes hml hZ (findClass_of_methodNamed Bd.named) (name_of_methodNamed Bd.named Bd.method).1 (Stand.of_body Bd) (by rw [← hh, Bd.state]; rfl)
  exact ⟨s₂, o, castTop (hent m) st, r⟩
abbrev HW (Z : State) (a0 : Array Value) : Prop := ∀ d ∈ tables_1, d.before a0 Z = true
abbrev vi (x : Int32) : Slot := .val (.int x)
abbrev vl (x : Int64) : Slot := .val (.long x)
abbrev va (x : Addr) : Slot := .val (.ref x)
abbrev uu : Slot := .unset
abbrev ss : Slot := .second
theorem ww {Z : State} {a0 : Array Value} (hw : ∀ d ∈ tables_1, d.before a0 Z = true) (i : Nat) {d : Jvm.Cond} (h : tables_1[i]? = some d) : d.before a0 Z = true := hw _ (List.mem_of_getElem? h)
theorem own_old {Z : State} {n0 : Nat} {h : Heap} (O : Old Z n0 h) : n0 ≤ h.size := O.1 ▸ O.2.1
theorem own_lc_ltT {x y : Int64} (h : x < y) : ifCond.holds .lt (lcmpW x y) = true ∧ ifCond.holds .ge (lcmpW x y) = false := by
  have q : lcmpW x y < 0 := by rw [lcW]; exact (lc_lt x y).mpr h
  exact ⟨(if0 _ _).trans (tlt q).1, (if0 _ _).trans (tlt q).2.1⟩
theorem own_lc_ltF {x y : Int64} (h : ¬ x < y) : ifCond.holds .lt (lcmpW x y) = false ∧ ifCond.holds .ge (lcmpW x y) = true := by
  have q : ¬ lcmpW x y < 0 := by rw [lcW]; exact fun z => h ((lc_lt x y).mp z)
  exact ⟨(if0 _ _).trans (flt q).1, (if0 _ _).trans (flt q).2.1⟩
theorem own_lc_gtT {x y : Int64} (h : y < x) : ifCond.holds .gt (lcmpW x y) = true ∧ ifCond.holds .le (lcmpW x y) = false := by
  have q : 0 < lcmpW x y := by rw [lcW]; exact (lc_gt x y).mpr h
  exact ⟨(if0 _ _).trans (tlt q).2.2.1, (if0 _ _).trans (tlt q).2.2.2⟩
theorem own_lc_gtF {x y : Int64} (h : ¬ y < x) : ifCond.holds .gt (lcmpW x y) = false ∧ ifCond.holds .le (lcmpW x y) = true := by
  have q : ¬ 0 < lcmpW x y := by rw [lcW]; exact fun z => h ((lc_gt x y).mp z)
  exact ⟨(if0 _ _).trans (flt q).2.2.1, (if0 _ _).trans (flt q).2.2.2⟩
theorem own_lc_eqT {x y : Int64} (h : x = y) : ifCond.holds .eq (lcmpW x y) = true ∧ ifCond.holds .ne (lcmpW x y) = false := by
  have q : lcmpW x y = 0 := by rw [lcW]; exact (lc_eq x y).mpr h
  exact ⟨(if0 _ _).trans (teq q).1, (if0 _ _).trans (teq q).2⟩
theorem own_lc_eqF {x y : Int64} (h : ¬ x = y) : ifCond.holds .eq (lcmpW x y) = false ∧ ifCond.holds .ne (lcmpW x y) = true := by
  have q : ¬ lcmpW x y = 0 := by rw [lcW]; exact fun z => h ((lc_eq x y).mp z)
  exact ⟨(if0 _ _).trans (feq q).1, (if0 _ _).trans (feq q).2⟩
theorem own_selp {y : MethodName} {s : State} {args : Array Value} {n : Nat} (hy : y.cls ≠ "java/lang/invoke/MethodHandle" ∧ y.cls ≠ "java/lang/invoke/VarHandle") (hins : (Jvm.Cond.instantiable y.cls n).before args s = true) (hpriv : (Jvm.Cond.privateMethod y).before args s = true) (hinst : (Jvm.Cond.instanceMethod y).before args s = true) : (Jvm.Cond.selects y.cls y y).before args s = true := by
  obtain ⟨c, k, hc, hk, -, hniab, -, -⟩ := Cond.instantiable_spec hins
  exact selects_self_of_private hc hk (Bool.or_eq_false_iff.mp hniab).1 (Cond.privateMethod_at hpriv) hinst hy
theorem own_rem (x k : Int32) (n : Int) (hk : k.toInt = n) (hx : 0 ≤ x.toInt) : (x % k).toInt = x.toInt % n := by
  rw [Int32.toInt_mod, hk, Int.tmod_eq_emod_of_nonneg hx]
theorem own_eqI {t : Term} {k : Int32} {args : Array Value} {Z : State} (h : (Jvm.Cond.eq t (Jvm.Term.int k)).value args Z none Z [] = some true) : t.eval args Z none [] Z = some (.int k) := by
  simp only [Cond.value, Term.eval] at h
  cases ht : t.eval args Z none [] Z with
  | none => simp [ht] at h
  | some v => cases v <;> simp [ht] at h ⊢; exact h
theorem own_ne0 {t : Term} {x : Int32} {args : Array Value} {Z : State} (e : t.eval args Z none [] Z = some (.int x)) (h : (Jvm.Cond.not (Jvm.Cond.eq t (Jvm.Term.int (0 : Int32)))).value args Z none Z [] = some true) : ¬ (x = (0 : Int32)) := by
  intro q
  subst q
  simp [Cond.value, Term.eval, e] at h
theorem own_arvStart {ty : FieldType} {Z : State} {args : Array Value} {t : Term} {a : Addr} {cl : Cell} {z : Int32} {vs : List Value} {dv : Value} (hf : Fit Z) (ev : t.eval args Z none [] Z = some (.ref a)) (A : Arr Z Z.heap a cl ty) (hl : (Term.length t).eval args Z none [] Z = some (.int z)) (hz : ¬ z < 0) (hn : z.toNatClampNeg = vs.length) (H : HasL cl 0 vs) : Arv Z Z.heap a cl.cls ty z vs dv := by
  have hq : cl.slots.size < 2 ^ 31 ∧ cl.slots.size.toInt32 = z := by
    have e := A.fin (Vm.Alike.refl _)
    simp only [Term.eval, ev, e, Option.bind_eq_bind, Option.bind_some] at hl
    by_cases q : cl.slots.size < 2 ^ 31
    · rw [if_pos q] at hl; exact ⟨q, Value.int.inj (Option.some.inj hl)⟩
    · rw [if_neg q] at hl; cases hl
  exact Arv.start hf A hq.1 hq.2 hz hn H
def own_minL (x y : Int64) : Int64 := if y < x then y else x
def own_maxL (x y : Int64) : Int64 := if x < y then y else x
theorem own_minL_toInt (x y : Int64) : (own_minL x y).toInt = min x.toInt y.toInt := by
  unfold own_minL
  by_cases h : y < x
  · rw [if_pos h]; rw [Int64.lt_iff_toInt_lt] at h; omega
  · rw [if_neg h]; rw [Int64.lt_iff_toInt_lt] at h; omega
theorem own_maxL_toInt (x y : Int64) : (own_maxL x y).toInt = max x.toInt y.toInt := by
  unfold own_maxL
  by_cases h : x < y
  · rw [if_pos h]; rw [Int64.lt_iff_toInt_lt] at h; omega
  · rw [if_neg h]; rw [Int64.lt_iff_toInt_lt] at h; omega
abbrev My4 : MethodName := ⟨"com/example/tributary/tributary/model/RangeSet", "add", "(JJ)Z"⟩
abbrev My5 : MethodName := ⟨"com/example/tributary/tributary/model/RangeSet", "checkRange", "(JJ)V"⟩
abbrev My6 : MethodName := ⟨"com/example/tributary/tributary/model/RangeSet", "rangeFrom", "(J)I"⟩
abbrev My7 : MethodName := ⟨"com/example/tributary/tributary/model/RangeSet", "insert", "(IJJ)V"⟩
abbrev My11 : MethodName := ⟨"com/example/tributary/tributary/model/RangeSet", "clear", "()V"⟩
abbrev My13 : MethodName := ⟨"com/example/tributary/tributary/model/RangeSet", "count", "()J"⟩
abbrev My15 : MethodName := ⟨"com/example/tributary/tributary/model/RangeSet", "nextMember", "(J)J"⟩
abbrev My16 : MethodName := ⟨"java/lang/Math", "max", "(JJ)J"⟩
abbrev My17 : MethodName := ⟨"java/lang/Math", "min", "(JJ)J"⟩
abbrev sC0 : String := "com/example/tributary/tributary/model/RangeSet"
abbrev sC1 : String := "java/lang/Math"
/-- what the law's case says of the statics, at the start -/
def SF (Z : State) (w_NONE : Addr) : Prop := (Sta Z Z.heap sC0 "NONE" "[J" (.ref w_NONE)) ∧ ((∃ kk : ClassId, Arv Z Z.heap w_NONE kk .long (0 : Int32) [] (.long (0 : Int64)))) ∧ True
theorem pn_0 : plainName "com/example/tributary/tributary/model/RangeSetClearPinLaw" = true := by first | (simp [plainName, overriddenIn]; done) | decide +kernel
theorem pn_1 : plainName "com/example/tributary/tributary/model/RangeSet" = true := by first | (simp [plainName, overriddenIn]; done) | decide +kernel
theorem d1_0 : decode prog_55_method_1_code 0 = .ok (.aload_n 0, 1) := by decide +kernel
theorem d1_1 : decode prog_55_method_1_code 1 = .ok (.ldc 3, 2) := by decide +kernel
theorem d1_3 : decode prog_55_method_1_code 3 = .ok (.invokespecial 4, 3) := by decide +kernel
theorem d2_0 : decode prog_55_method_2_code 0 = .ok (.aload_n 0, 1) := by decide +kernel
theorem d2_1 : decode prog_55_method_2_code 1 = .ok (.invokespecial 10, 3) := by decide +kernel
theorem d2_4 : decode prog_55_method_2_code 4 = .ok (.aload_n 0, 1) := by decide +kernel
theorem d2_5 : decode prog_55_method_2_code 5 = .ok (.getstatic 15, 3) := by decide +kernel
theorem d2_8 : decode prog_55_method_2_code 8 = .ok (.putfield 19, 3) := by decide +kernel
theorem d2_11 : decode prog_55_method_2_code 11 = .ok (.aload_n 0, 1) := by decide +kernel
theorem d2_12 : decode prog_55_method_2_code 12 = .ok (.getstatic 15, 3) := by decide +kernel
theorem d2_15 : decode prog_55_method_2_code 15 = .ok (.putfield 22, 3) := by decide +kernel
theorem d2_18 : decode prog_55_method_2_code 18 = .ok (.aload_n 0, 1) := by decide +kernel
theorem d2_19 : decode prog_55_method_2_code 19 = .ok (.iload_n 1, 1) := by decide +kernel
theorem d2_20 : decode prog_55_method_2_code 20 = .ok (.putfield 25, 3) := by decide +kernel
theorem d2_23 : decode prog_55_method_2_code 23 = .ok (.return_, 1) := by decide +kernel
def Q2_0 (Z : State) (w_NONE : Addr) (o0 : Addr) (h0 : Heap) (n0 : Nat) (v : Option Value) (h : Heap) (L : List Loc) : Prop := v = none ∧ Fr n0 L ∧ Keep h0 h [o0] ∧ Exa Z h o0 sC0 ∧ Fld Z h o0 sC0 "count" "J" (.long 0) ∧ Fld Z h o0 sC0 "firsts" "[J" (.ref w_NONE) ∧ Fld Z h o0 sC0 "lasts" "[J" (.ref w_NONE) ∧ Fld Z h o0 sC0 "maxRanges" "I" (.int 2147483647) ∧ Fld Z h o0 sC0 "ranges" "I" (.int 0)
theorem rm2_0 (l : Launch) (Z : State) (a0 : Array Value) (hw : HW Z a0) (ws : List Jvm.Cond) (w_NONE : Addr) (o0 : Addr) (h0 : Heap) (n0 : Nat) (O0 : Old Z n0 h0) (S : SF Z w_NONE) (E_o0 : Exa Z h0 o0 sC0) (F_count_o0 : Fld Z h0 o0 sC0 "count" "J" (.long 0)) (F_firsts_o0 : Fld Z h0 o0 sC0 "firsts" "[J" .null) (F_lasts_o0 : Fld Z h0 o0 sC0 "lasts" "[J" .null) (F_maxRanges_o0 : Fld Z h0 o0 sC0 "maxRanges" "I" (.int 0)) (F_ranges_o0 : Fld Z h0 o0 sC0 "ranges" "I" (.int 0)) (g_o0 : n0 ≤ o0) :
    Pay l Z (⟨sC0, "<init>", "(I)V"⟩ : MethodName) ws prog_55_method_2_code 2 none #[(.ref o0), (.int 2147483647)] h0 ({ frames := 1, cells := 0, slots := 0, locals := 12 } : Room) (Q2_0 Z w_NONE o0 h0 n0) := by
  obtain ⟨S_w_NONE, -⟩ := id S
  refine own_body (plainFor_of_name pn_1) (L0 := #[va o0, vi 2147483647]) (fun _ => by first | rfl | (simp [entryFrame, mkF, argsToLocals, Value.category]; done)) ?_
  intro p e s m below meth c s₁ hrt hlk hx hby hml hZ hown0 hnm X0 e0
  have hown : s.vm.findClass sC0 = some m.cls := hown0
  have N0 := Fr.nil n0
  have K0 : Keep h0 h0 [o0] := Keep.refl _ _
  obtain ⟨T1, X1, e1, st1⟩ := initO X0 hx hZ hown (ww hw 13 rfl) (ww hw 14 rfl) (ww hw 15 rfl) e0 (g := (mkF m 1 #[va o0, vi 2147483647] [(.ref o0)])) rfl (by rw [hml]; rfl) rfl (hb hby d2_1) (by decide) (W := 0) (by show 2 * 0 + _ ≤ _; exact Nat.le_of_eq rfl) (by decide)
  obtain ⟨T2, X2, e2, st2⟩ := getS2 X1 hx hZ hown (host := "") (Or.inl (ww hw 16 rfl)) Via.refl e1 (S_w_NONE.ext O0.2) (g := (mkF m 5 #[va o0, vi 2147483647] [(.ref o0)])) rfl (hb hby d2_5)
  obtain ⟨T3, h3, X3, e3, W3, st3⟩ := putF X2 hx hZ hown (host := "") (Or.inl (ww hw 18 rfl)) Via.refl e2 F_firsts_o0 E_o0 (Or.inl (ww hw 19 rfl)) (ww hw 4 rfl) (ty := (.array .long)) (by decide) rfl rfl (g := (mkF m 8 #[va o0, vi 2147483647] [(.ref w_NONE), (.ref o0)])) rfl rfl (hb hby d2_8)
  have Fw3 := F_firsts_o0.same W3
  have O3 := O0.wr W3 g_o0
  have K3 : Keep h0 h3 [o0] := K0.wr W3 (Or.inl (List.mem_of_getElem? (i := 0) rfl))
  have N3 := Fr.snoc X3 N0 g_o0
  obtain ⟨T4, X4, e4, st4⟩ := getS2 X3 hx hZ hown (host := "") (Or.inl (ww hw 16 rfl)) Via.refl e3 (S_w_NONE.ext O3.2) (g := (mkF m 12 #[va o0, vi 2147483647] [(.ref o0)])) rfl (hb hby d2_12)
  have fc5 := (F_lasts_o0.other W3 (Or.inr (slot_ne (Or.inl (ww hw 21 rfl)) (Or.inl (ww hw 19 rfl)) (by decide) (t := (.array .long)) (t' := (.array .long)) (by decide) (by decide))))
  have fc6 := (E_o0.wr W3)
  obtain ⟨T7, h7, X7, e7, W7, st7⟩ := putF X4 hx hZ hown (host := "") (Or.inl (ww hw 20 rfl)) Via.refl e4 fc5 fc6 (Or.inl (ww hw 21 rfl)) (ww hw 4 rfl) (ty := (.array .long)) (by decide) rfl rfl (g := (mkF m 15 #[va o0, vi 2147483647] [(.ref w_NONE), (.ref o0)])) rfl rfl (hb hby d2_15)
  have Fw7 := fc5.same W7
  have O7 := O3.wr W7 g_o0
  have K7 : Keep h0 h7 [o0] := K3.wr W7 (Or.inl (List.mem_of_getElem? (i := 0) rfl))
  have N7 := Fr.snoc X7 N3 g_o0
  have fc8 := ((F_maxRanges_o0.other W3 (Or.inr (slot_ne (Or.inr (ww hw 23 rfl)) (Or.inl (ww hw 19 rfl)) (by decide) (t := .int) (t' := (.array .long)) (by decide) (by decide)))).other W7 (Or.inr (slot_ne (Or.inr (ww hw 23 rfl)) (Or.inl (ww hw 21 rfl)) (by decide) (t := .int) (t' := (.array .long)) (by decide) (by decide))))
  have fc9 := (fc6.wr W7)
  obtain ⟨T10, h10, X10, e10, W10, st10⟩ := putF X7 hx hZ hown (host := "") (Or.inl (ww hw 22 rfl)) Via.refl e7 fc8 fc9 (Or.inr ⟨(ww hw 23 rfl), rfl, hnm⟩) (ww hw 4 rfl) (ty := .int) (by decide) rfl rfl (g := (mkF m 20 #[va o0, vi 2147483647] [(.int 2147483647), (.ref o0)])) rfl rfl (hb hby d2_20)
  have Fw10 := fc8.same W10
  have O10 := O7.wr W10 g_o0
  have K10 : Keep h0 h10 [o0] := K7.wr W10 (Or.inl (List.mem_of_getElem? (i := 0) rfl))
  have N10 := Fr.snoc X10 N7 g_o0
  obtain ⟨fs, hr, hrun, hended, hW, hsame⟩ := X10.leave (v := none) (fun _ => rfl)
  have fc11 := (fc9.wr W10)
  have fc12 := (((F_count_o0.other W3 (Or.inr (slot_ne (Or.inl (ww hw 60 rfl)) (Or.inl (ww hw 19 rfl)) (by decide) (t := .long) (t' := (.array .long)) (by decide) (by decide)))).other W7 (Or.inr (slot_ne (Or.inl (ww hw 60 rfl)) (Or.inl (ww hw 21 rfl)) (by decide) (t := .long) (t' := (.array .long)) (by decide) (by decide)))).other W10 (Or.inr (slot_ne (Or.inl (ww hw 60 rfl)) (Or.inr (ww hw 23 rfl)) (by decide) (t := .long) (t' := .int) (by decide) (by decide))))
  have fc13 := ((Fw3.other W7 (Or.inr (slot_ne (Or.inl (ww hw 19 rfl)) (Or.inl (ww hw 21 rfl)) (by decide) (t := (.array .long)) (t' := (.array .long)) (by decide) (by decide)))).other W10 (Or.inr (slot_ne (Or.inl (ww hw 19 rfl)) (Or.inr (ww hw 23 rfl)) (by decide) (t := (.array .long)) (t' := .int) (by decide) (by decide))))
  have fc14 := (Fw7.other W10 (Or.inr (slot_ne (Or.inl (ww hw 21 rfl)) (Or.inr (ww hw 23 rfl)) (by decide) (t := (.array .long)) (t' := .int) (by decide) (by decide))))
  have fc15 := (((F_ranges_o0.other W3 (Or.inr (slot_ne (Or.inl (ww hw 37 rfl)) (Or.inl (ww hw 19 rfl)) (by decide) (t := .int) (t' := (.array .long)) (by decide) (by decide)))).other W7 (Or.inr (slot_ne (Or.inl (ww hw 37 rfl)) (Or.inl (ww hw 21 rfl)) (by decide) (t := .int) (t' := (.array .long)) (by decide) (by decide)))).other W10 (Or.inr (slot_ne (Or.inl (ww hw 37 rfl)) (Or.inr (ww hw 23 rfl)) (by decide) (t := .int) (t' := .int) (by decide) (by decide))))
  refine ⟨_, _, ?_, hrun, hended, _, _, rfl, ?_, ⟨_, rfl⟩, hW, hsame.mono (by decide) (by decide)⟩
  · show Steps p.tables e below (s₁.setTop (mkF m 0 #[va o0, vi 2147483647] [])) _
    refine XS.aloadN X0.here hx rfl (hb hby d2_0) rfl rfl ?_
    refine st1 _ ?_
    refine XS.aloadN X1.here hx rfl (hb hby d2_4) rfl rfl ?_
    refine st2 _ ?_
    refine st3 _ ?_
    refine XS.aloadN X3.here hx rfl (hb hby d2_11) rfl rfl ?_
    refine st4 _ ?_
    refine st7 _ ?_
    show Steps p.tables e below (T7.setTop (mkF m 18 #[va o0, vi 2147483647] [])) _
    refine XS.aloadN X7.here hx rfl (hb hby d2_18) rfl rfl ?_
    refine XS.iloadN X7.here hx rfl (hb hby d2_19) rfl ?_
    refine st10 _ ?_
    exact X10.returnOut hx hrt (hb hby d2_23) hr
  · show Q2_0 Z w_NONE o0 h0 n0 none T10.heap _
    rw [e10]; exact ⟨rfl, N10, K10, fc11, fc12, fc13, fc14, Fw10, fc15⟩
theorem pd_0 : parseMethodDescriptor "(I)V" = some ⟨[.int], none⟩ := by decide +kernel
theorem d1_6 : decode prog_55_method_1_code 6 = .ok (.return_, 1) := by decide +kernel
def Q1_0 (Z : State) (w_NONE : Addr) (o0 : Addr) (h0 : Heap) (n0 : Nat) (v : Option Value) (h : Heap) (L : List Loc) : Prop := v = none ∧ Fr n0 L ∧ Keep h0 h [o0] ∧ Exa Z h o0 sC0 ∧ Fld Z h o0 sC0 "count" "J" (.long 0) ∧ Fld Z h o0 sC0 "firsts" "[J" (.ref w_NONE) ∧ Fld Z h o0 sC0 "lasts" "[J" (.ref w_NONE) ∧ Fld Z h o0 sC0 "maxRanges" "I" (.int 2147483647) ∧ Fld Z h o0 sC0 "ranges" "I" (.int 0)
theorem rm1_0 (l : Launch) (Z : State) (a0 : Array Value) (hw : HW Z a0) (ws : List Jvm.Cond) (w_NONE : Addr) (o0 : Addr) (h0 : Heap) (n0 : Nat) (O0 : Old Z n0 h0) (S : SF Z w_NONE) (E_o0 : Exa Z h0 o0 sC0) (F_count_o0 : Fld Z h0 o0 sC0 "count" "J" (.long 0)) (F_firsts_o0 : Fld Z h0 o0 sC0 "firsts" "[J" .null) (F_lasts_o0 : Fld Z h0 o0 sC0 "lasts" "[J" .null) (F_maxRanges_o0 : Fld Z h0 o0 sC0 "maxRanges" "I" (.int 0)) (F_ranges_o0 : Fld Z h0 o0 sC0 "ranges" "I" (.int 0)) (g_o0 : n0 ≤ o0) :
    Pay l Z (⟨sC0, "<init>", "()V"⟩ : MethodName) ws prog_55_method_1_code 1 none #[(.ref o0)] h0 ({ frames := 2, cells := 0, slots := 0, locals := 25 } : Room) (Q1_0 Z w_NONE o0 h0 n0) := by
  refine own_body (plainFor_of_name pn_1) (L0 := #[va o0]) (fun _ => by first | rfl | (simp [entryFrame, mkF, argsToLocals, Value.category]; done)) ?_
  intro p e s m below meth c s₁ hrt hlk hx hby hml hZ hown0 hnm X0 e0
  have hown : s.vm.findClass sC0 = some m.cls := hown0
  have N0 := Fr.nil n0
  have K0 : Keep h0 h0 [o0] := Keep.refl _ _
  obtain ⟨_, _, ⟨T1, L1, k1, n1⟩, -, X1, ⟨Lc1, hQ1, l1, y1, z1⟩, st1⟩ := X0.specialBack hx (y := (⟨sC0, "<init>", "(I)V"⟩ : MethodName)) rfl hown (mvT hZ (ww hw 10 rfl)) (mvT hZ (ww hw 11 rfl)) (mvT hZ (ww hw 12 rfl)) (by decide) (backOf (W := 0) (rm2_0 l Z a0 hw [] w_NONE o0 h0 n0 O0 S E_o0 F_count_o0 F_firsts_o0 F_lasts_o0 F_maxRanges_o0 F_ranges_o0 g_o0) hZ (ww hw 12 rfl) (ww hw 5 rfl) (by decide) (by decide)) (g := (mkF m 3 #[va o0] [(.int 2147483647), (.ref o0)])) rfl (by rw [hml]; rfl) (Steps.refl _) (a := o0) (argsL := [(.int 2147483647)]) (rest := []) (lenOf pd_0 rfl) rfl (by show 2 * 0 + _ ≤ _; exact Nat.le_of_eq rfl) (hb hby d1_3) (fun _ _ => ⟨rfl, e0, (by decide : 0 + 0 ≤ _), (by decide : 0 + 0 ≤ _)⟩)
  dsimp only [Pt.U, Pt.locs, Pt.cells, Pt.slots] at X1 l1 y1 z1 st1 hQ1
  subst l1 y1 z1
  obtain ⟨rfl, Nq1, Kc1, P0_1, P1_1, P2_1, P3_1, P4_1, P5_1⟩ := hQ1
  have N1 := Fr.app N0 Nq1
  have O1 := O0.keep Kc1 (allS g_o0 all0)
  have K1 : Keep h0 T1.heap [o0] := K0.trans Kc1 (allS (Or.inl (List.mem_of_getElem? (i := 0) rfl)) all0)
  obtain ⟨fs, hr, hrun, hended, hW, hsame⟩ := X1.leave (v := none) (fun _ => rfl)
  refine ⟨_, _, ?_, hrun, hended, _, _, rfl, ?_, ⟨_, rfl⟩, hW, hsame.mono (by decide) (by decide)⟩
  · show Steps p.tables e below (s₁.setTop (mkF m 0 #[va o0] [])) _
    refine XS.aloadN X0.here hx rfl (hb hby d1_0) rfl rfl ?_
    refine X0.ldcInt hx hown (mvT hZ (ww hw 9 rfl)) (g := (mkF m 1 #[va o0] [(.ref o0)])) rfl (hb hby d1_1) _ ?_
    refine st1.trans ?_
    exact X1.returnOut hx hrt (hb hby d1_6) hr
  · show Q1_0 Z w_NONE o0 h0 n0 none T1.heap _
    exact (⟨rfl, N1, K1, P0_1, P1_1, P2_1, P3_1, P4_1, P5_1⟩)
theorem pd_1 : parseMethodDescriptor "()V" = some ⟨[], none⟩ := by decide +kernel
theorem d11_0 : decode prog_55_method_11_code 0 = .ok (.aload_n 0, 1) := by decide +kernel
theorem d11_1 : decode prog_55_method_11_code 1 = .ok (.getstatic 15, 3) := by decide +kernel
theorem d11_4 : decode prog_55_method_11_code 4 = .ok (.putfield 19, 3) := by decide +kernel
theorem d11_7 : decode prog_55_method_11_code 7 = .ok (.aload_n 0, 1) := by decide +kernel
theorem d11_8 : decode prog_55_method_11_code 8 = .ok (.getstatic 15, 3) := by decide +kernel
theorem d11_11 : decode prog_55_method_11_code 11 = .ok (.putfield 22, 3) := by decide +kernel
theorem d11_14 : decode prog_55_method_11_code 14 = .ok (.aload_n 0, 1) := by decide +kernel
theorem d11_15 : decode prog_55_method_11_code 15 = .ok (.iconst 0, 1) := by decide +kernel
theorem d11_16 : decode prog_55_method_11_code 16 = .ok (.putfield 34, 3) := by decide +kernel
theorem d11_19 : decode prog_55_method_11_code 19 = .ok (.aload_n 0, 1) := by decide +kernel
theorem d11_20 : decode prog_55_method_11_code 20 = .ok (.lconst 0, 1) := by decide +kernel
theorem d11_21 : decode prog_55_method_11_code 21 = .ok (.putfield 43, 3) := by decide +kernel
theorem d11_24 : decode prog_55_method_11_code 24 = .ok (.return_, 1) := by decide +kernel
def Q11_0 (Z : State) (w_NONE : Addr) (o0 : Addr) (h0 : Heap) (n0 : Nat) (v : Option Value) (h : Heap) (L : List Loc) : Prop := v = none ∧ Fr n0 L ∧ Keep h0 h [o0] ∧ Exa Z h o0 sC0 ∧ Fld Z h o0 sC0 "count" "J" (.long 0) ∧ Fld Z h o0 sC0 "firsts" "[J" (.ref w_NONE) ∧ Fld Z h o0 sC0 "lasts" "[J" (.ref w_NONE) ∧ Fld Z h o0 sC0 "maxRanges" "I" (.int 2147483647) ∧ Fld Z h o0 sC0 "ranges" "I" (.int 0)
theorem rm11_0 (l : Launch) (Z : State) (a0 : Array Value) (hw : HW Z a0) (ws : List Jvm.Cond) (w_NONE : Addr) (o0 : Addr) (h0 : Heap) (n0 : Nat) (O0 : Old Z n0 h0) (S : SF Z w_NONE) (E_o0 : Exa Z h0 o0 sC0) (F_count_o0 : Fld Z h0 o0 sC0 "count" "J" (.long 0)) (F_firsts_o0 : Fld Z h0 o0 sC0 "firsts" "[J" (.ref w_NONE)) (F_lasts_o0 : Fld Z h0 o0 sC0 "lasts" "[J" (.ref w_NONE)) (F_maxRanges_o0 : Fld Z h0 o0 sC0 "maxRanges" "I" (.int 2147483647)) (F_ranges_o0 : Fld Z h0 o0 sC0 "ranges" "I" (.int 0)) (g_o0 : n0 ≤ o0) :
    Pay l Z My11 ws prog_55_method_11_code 1 none #[(.ref o0)] h0 ({ frames := 0, cells := 0, slots := 0, locals := 0 } : Room) (Q11_0 Z w_NONE o0 h0 n0) := by
  obtain ⟨S_w_NONE, -⟩ := id S
  refine own_body (plainFor_of_name pn_1) (L0 := #[va o0]) (fun _ => by first | rfl | (simp [entryFrame, mkF, argsToLocals, Value.category]; done)) ?_
  intro p e s m below meth c s₁ hrt hlk hx hby hml hZ hown0 hnm X0 e0
  have hown : s.vm.findClass sC0 = some m.cls := hown0
  have N0 := Fr.nil n0
  have K0 : Keep h0 h0 [o0] := Keep.refl _ _
  obtain ⟨T1, X1, e1, st1⟩ := getS2 X0 hx hZ hown (host := "") (Or.inl (ww hw 16 rfl)) Via.refl e0 (S_w_NONE.ext O0.2) (g := (mkF m 1 #[va o0] [(.ref o0)])) rfl (hb hby d11_1)
  obtain ⟨T2, h2, X2, e2, W2, st2⟩ := putF X1 hx hZ hown (host := "") (Or.inl (ww hw 18 rfl)) Via.refl e1 F_firsts_o0 E_o0 (Or.inl (ww hw 19 rfl)) (ww hw 4 rfl) (ty := (.array .long)) (by decide) rfl rfl (g := (mkF m 4 #[va o0] [(.ref w_NONE), (.ref o0)])) rfl rfl (hb hby d11_4)
  have Fw2 := F_firsts_o0.same W2
  have O2 := O0.wr W2 g_o0
  have K2 : Keep h0 h2 [o0] := K0.wr W2 (Or.inl (List.mem_of_getElem? (i := 0) rfl))
  have N2 := Fr.snoc X2 N0 g_o0
  obtain ⟨T3, X3, e3, st3⟩ := getS2 X2 hx hZ hown (host := "") (Or.inl (ww hw 16 rfl)) Via.refl e2 (S_w_NONE.ext O2.2) (g := (mkF m 8 #[va o0] [(.ref o0)])) rfl (hb hby d11_8)
  have fc4 := (F_lasts_o0.other W2 (Or.inr (slot_ne (Or.inl (ww hw 21 rfl)) (Or.inl (ww hw 19 rfl)) (by decide) (t := (.array .long)) (t' := (.array .long)) (by decide) (by decide))))
  have fc5 := (E_o0.wr W2)
  obtain ⟨T6, h6, X6, e6, W6, st6⟩ := putF X3 hx hZ hown (host := "") (Or.inl (ww hw 20 rfl)) Via.refl e3 fc4 fc5 (Or.inl (ww hw 21 rfl)) (ww hw 4 rfl) (ty := (.array .long)) (by decide) rfl rfl (g := (mkF m 11 #[va o0] [(.ref w_NONE), (.ref o0)])) rfl rfl (hb hby d11_11)
  have Fw6 := fc4.same W6
  have O6 := O2.wr W6 g_o0
  have K6 : Keep h0 h6 [o0] := K2.wr W6 (Or.inl (List.mem_of_getElem? (i := 0) rfl))
  have N6 := Fr.snoc X6 N2 g_o0
  have fc7 := ((F_ranges_o0.other W2 (Or.inr (slot_ne (Or.inl (ww hw 37 rfl)) (Or.inl (ww hw 19 rfl)) (by decide) (t := .int) (t' := (.array .long)) (by decide) (by decide)))).other W6 (Or.inr (slot_ne (Or.inl (ww hw 37 rfl)) (Or.inl (ww hw 21 rfl)) (by decide) (t := .int) (t' := (.array .long)) (by decide) (by decide))))
  have fc8 := (fc5.wr W6)
  obtain ⟨T9, h9, X9, e9, W9, st9⟩ := putF X6 hx hZ hown (host := "") (Or.inl (ww hw 36 rfl)) Via.refl e6 fc7 fc8 (Or.inl (ww hw 37 rfl)) (ww hw 4 rfl) (ty := .int) (by decide) rfl rfl (g := (mkF m 16 #[va o0] [(.int 0), (.ref o0)])) rfl rfl (hb hby d11_16)
  have Fw9 := fc7.same W9
  have O9 := O6.wr W9 g_o0
  have K9 : Keep h0 h9 [o0] := K6.wr W9 (Or.inl (List.mem_of_getElem? (i := 0) rfl))
  have N9 := Fr.snoc X9 N6 g_o0
  have fc10 := (((F_count_o0.other W2 (Or.inr (slot_ne (Or.inl (ww hw 60 rfl)) (Or.inl (ww hw 19 rfl)) (by decide) (t := .long) (t' := (.array .long)) (by decide) (by decide)))).other W6 (Or.inr (slot_ne (Or.inl (ww hw 60 rfl)) (Or.inl (ww hw 21 rfl)) (by decide) (t := .long) (t' := (.array .long)) (by decide) (by decide)))).other W9 (Or.inr (slot_ne (Or.inl (ww hw 60 rfl)) (Or.inl (ww hw 37 rfl)) (by decide) (t := .long) (t' := .int) (by decide) (by decide))))
  have fc11 := (fc8.wr W9)
  obtain ⟨T12, h12, X12, e12, W12, st12⟩ := putF X9 hx hZ hown (host := "") (Or.inl (ww hw 59 rfl)) Via.refl e9 fc10 fc11 (Or.inl (ww hw 60 rfl)) (ww hw 4 rfl) (ty := .long) (by decide) rfl rfl (g := (mkF m 21 #[va o0] [(.long 0), (.ref o0)])) rfl rfl (hb hby d11_21)
  have Fw12 := fc10.same W12
  have O12 := O9.wr W12 g_o0
  have K12 : Keep h0 h12 [o0] := K9.wr W12 (Or.inl (List.mem_of_getElem? (i := 0) rfl))
  have N12 := Fr.snoc X12 N9 g_o0
  obtain ⟨fs, hr, hrun, hended, hW, hsame⟩ := X12.leave (v := none) (fun _ => rfl)
  have fc13 := (fc11.wr W12)
  have fc14 := (((Fw2.other W6 (Or.inr (slot_ne (Or.inl (ww hw 19 rfl)) (Or.inl (ww hw 21 rfl)) (by decide) (t := (.array .long)) (t' := (.array .long)) (by decide) (by decide)))).other W9 (Or.inr (slot_ne (Or.inl (ww hw 19 rfl)) (Or.inl (ww hw 37 rfl)) (by decide) (t := (.array .long)) (t' := .int) (by decide) (by decide)))).other W12 (Or.inr (slot_ne (Or.inl (ww hw 19 rfl)) (Or.inl (ww hw 60 rfl)) (by decide) (t := (.array .long)) (t' := .long) (by decide) (by decide))))
  have fc15 := ((Fw6.other W9 (Or.inr (slot_ne (Or.inl (ww hw 21 rfl)) (Or.inl (ww hw 37 rfl)) (by decide) (t := (.array .long)) (t' := .int) (by decide) (by decide)))).other W12 (Or.inr (slot_ne (Or.inl (ww hw 21 rfl)) (Or.inl (ww hw 60 rfl)) (by decide) (t := (.array .long)) (t' := .long) (by decide) (by decide))))
  have fc16 := ((((F_maxRanges_o0.other W2 (Or.inr (slot_ne (Or.inr (ww hw 23 rfl)) (Or.inl (ww hw 19 rfl)) (by decide) (t := .int) (t' := (.array .long)) (by decide) (by decide)))).other W6 (Or.inr (slot_ne (Or.inr (ww hw 23 rfl)) (Or.inl (ww hw 21 rfl)) (by decide) (t := .int) (t' := (.array .long)) (by decide) (by decide)))).other W9 (Or.inr (slot_ne (Or.inr (ww hw 23 rfl)) (Or.inl (ww hw 37 rfl)) (by decide) (t := .int) (t' := .int) (by decide) (by decide)))).other W12 (Or.inr (slot_ne (Or.inr (ww hw 23 rfl)) (Or.inl (ww hw 60 rfl)) (by decide) (t := .int) (t' := .long) (by decide) (by decide))))
  have fc17 := (Fw9.other W12 (Or.inr (slot_ne (Or.inl (ww hw 37 rfl)) (Or.inl (ww hw 60 rfl)) (by decide) (t := .int) (t' := .long) (by decide) (by decide))))
  refine ⟨_, _, ?_, hrun, hended, _, _, rfl, ?_, ⟨_, rfl⟩, hW, hsame.mono (by decide) (by decide)⟩
  · show Steps p.tables e below (s₁.setTop (mkF m 0 #[va o0] [])) _
    refine XS.aloadN X0.here hx rfl (hb hby d11_0) rfl rfl ?_
    refine st1 _ ?_
    refine st2 _ ?_
    refine XS.aloadN X2.here hx rfl (hb hby d11_7) rfl rfl ?_
    refine st3 _ ?_
    refine st6 _ ?_
    refine XS.aloadN X6.here hx rfl (hb hby d11_14) rfl rfl ?_
    refine XS.iconst X6.here hx rfl (hb hby d11_15) ?_
    show Steps p.tables e below (T6.setTop (mkF m 16 #[va o0] [(.int 0), (.ref o0)])) _
    refine st9 _ ?_
    refine XS.aloadN X9.here hx rfl (hb hby d11_19) rfl rfl ?_
    refine XS.lconst X9.here hx rfl (hb hby d11_20) ?_
    refine st12 _ ?_
    exact X12.returnOut hx hrt (hb hby d11_24) hr
  · show Q11_0 Z w_NONE o0 h0 n0 none T12.heap _
    rw [e12]; exact ⟨rfl, N12, K12, fc13, Fw12, fc14, fc15, fc16, fc17⟩
theorem d12_0 : decode prog_55_method_16_code 0 = .ok (.aload_n 0, 1) := by decide +kernel
theorem d12_1 : decode prog_55_method_16_code 1 = .ok (.getfield 34, 3) := by decide +kernel
theorem d12_4 : decode prog_55_method_16_code 4 = .ok (.ifCond .ne 7, 3) := by decide +kernel
theorem d12_7 : decode prog_55_method_16_code 7 = .ok (.iconst 1, 1) := by decide +kernel
theorem d12_8 : decode prog_55_method_16_code 8 = .ok (.goto 4, 3) := by decide +kernel
theorem d12_12 : decode prog_55_method_16_code 12 = .ok (.ireturn, 1) := by decide +kernel
def Q12_0 (Z : State) (w_NONE : Addr) (o0 : Addr) (h0 : Heap) (n0 : Nat) (v : Option Value) (h : Heap) (L : List Loc) : Prop := v = (some (.int 1)) ∧ Fr n0 L ∧ h = h0
theorem rm12_0 (l : Launch) (Z : State) (a0 : Array Value) (hw : HW Z a0) (ws : List Jvm.Cond) (w_NONE : Addr) (o0 : Addr) (h0 : Heap) (n0 : Nat) (O0 : Old Z n0 h0) (S : SF Z w_NONE) (F_ranges_o0 : Fld Z h0 o0 sC0 "ranges" "I" (.int 0)) :
    Pay l Z (⟨sC0, "isEmpty", "()Z"⟩ : MethodName) ws prog_55_method_16_code 1 (some .boolean) #[(.ref o0)] h0 ({ frames := 0, cells := 0, slots := 0, locals := 0 } : Room) (Q12_0 Z w_NONE o0 h0 n0) := by
  refine own_body (plainFor_of_name pn_1) (L0 := #[va o0]) (fun _ => by first | rfl | (simp [entryFrame, mkF, argsToLocals, Value.category]; done)) ?_
  intro p e s m below meth c s₁ hrt hlk hx hby hml hZ hown0 hnm X0 e0
  have hown : s.vm.findClass sC0 = some m.cls := hown0
  have N0 := Fr.nil n0
  have K0 : Keep h0 h0 [] := Keep.refl _ _
  obtain ⟨T1, X1, e1, st1⟩ := getF X0 hx hZ hown (host := "") (Or.inl (ww hw 36 rfl)) Via.refl e0 F_ranges_o0 (g := (mkF m 1 #[va o0] [(.ref o0)])) rfl rfl (hb hby d12_1)
  obtain ⟨fs, hr, hrun, hended, hW, hsame⟩ := X1.leave (v := (some (.int 1))) (fun h => by rw [hrt] at h; cases h)
  refine ⟨_, _, ?_, hrun, hended, _, _, rfl, ?_, ⟨_, rfl⟩, hW, hsame.mono (by decide) (by decide)⟩
  · show Steps p.tables e below (s₁.setTop (mkF m 0 #[va o0] [])) _
    refine XS.aloadN X0.here hx rfl (hb hby d12_0) rfl rfl ?_
    refine st1 _ ?_
    refine XS.ifNo X1.here hx rfl (hb hby d12_4) rfl ((if0 _ _).trans (teq (by decide : (0 : Int32) = (0 : Int32))).2) ?_
    refine XS.iconst X1.here hx rfl (hb hby d12_7) ?_
    refine XS.goto X1.here hx rfl (pc0 := 8) (pc' := 12) rfl (hb hby d12_8) (by decide) (by decide) ?_
    exact retN X1 hx (t := .boolean) hrt (by simp) (hb hby d12_12) hr
  · show Q12_0 Z w_NONE o0 h0 n0 (some (.int 1)) T1.heap _
    exact (⟨rfl, N0, e1⟩)
theorem pd_2 : parseMethodDescriptor "()Z" = some ⟨[], some .boolean⟩ := by decide +kernel
theorem d13_0 : decode prog_55_method_15_code 0 = .ok (.aload_n 0, 1) := by decide +kernel
theorem d13_1 : decode prog_55_method_15_code 1 = .ok (.getfield 43, 3) := by decide +kernel
theorem d13_4 : decode prog_55_method_15_code 4 = .ok (.lreturn, 1) := by decide +kernel
def Q13_0 (Z : State) (w_NONE : Addr) (o0 : Addr) (h0 : Heap) (n0 : Nat) (v : Option Value) (h : Heap) (L : List Loc) : Prop := v = (some (.long 0)) ∧ Fr n0 L ∧ h = h0
theorem rm13_0 (l : Launch) (Z : State) (a0 : Array Value) (hw : HW Z a0) (ws : List Jvm.Cond) (w_NONE : Addr) (o0 : Addr) (h0 : Heap) (n0 : Nat) (O0 : Old Z n0 h0) (S : SF Z w_NONE) (F_count_o0 : Fld Z h0 o0 sC0 "count" "J" (.long 0)) :
    Pay l Z My13 ws prog_55_method_15_code 1 (some .long) #[(.ref o0)] h0 ({ frames := 0, cells := 0, slots := 0, locals := 0 } : Room) (Q13_0 Z w_NONE o0 h0 n0) := by
  refine own_body (plainFor_of_name pn_1) (L0 := #[va o0]) (fun _ => by first | rfl | (simp [entryFrame, mkF, argsToLocals, Value.category]; done)) ?_
  intro p e s m below meth c s₁ hrt hlk hx hby hml hZ hown0 hnm X0 e0
  have hown : s.vm.findClass sC0 = some m.cls := hown0
  have N0 := Fr.nil n0
  have K0 : Keep h0 h0 [] := Keep.refl _ _
  obtain ⟨T1, X1, e1, st1⟩ := getF X0 hx hZ hown (host := "") (Or.inl (ww hw 59 rfl)) Via.refl e0 F_count_o0 (g := (mkF m 1 #[va o0] [(.ref o0)])) rfl rfl (hb hby d13_1)
  obtain ⟨fs, hr, hrun, hended, hW, hsame⟩ := X1.leave (v := (some (.long 0))) (fun h => by rw [hrt] at h; cases h)
  refine ⟨_, _, ?_, hrun, hended, _, _, rfl, ?_, ⟨_, rfl⟩, hW, hsame.mono (by decide) (by decide)⟩
  · show Steps p.tables e below (s₁.setTop (mkF m 0 #[va o0] [])) _
    refine XS.aloadN X0.here hx rfl (hb hby d13_0) rfl rfl ?_
    refine st1 _ ?_
    exact retOut X1 hx (t := .long) (i := .lreturn) hrt rfl (Or.inr (Or.inl ⟨rfl, rfl, _, rfl⟩)) (hb hby d13_4) hr
  · show Q13_0 Z w_NONE o0 h0 n0 (some (.long 0)) T1.heap _
    exact (⟨rfl, N0, e1⟩)
theorem pd_3 : parseMethodDescriptor "()J" = some ⟨[], some .long⟩ := by decide +kernel
theorem d14_0 : decode prog_55_method_17_code 0 = .ok (.aload_n 0, 1) := by decide +kernel
theorem d14_1 : decode prog_55_method_17_code 1 = .ok (.getfield 34, 3) := by decide +kernel
theorem d14_4 : decode prog_55_method_17_code 4 = .ok (.ifCond .ne 7, 3) := by decide +kernel
theorem d14_7 : decode prog_55_method_17_code 7 = .ok (.lconst 0, 1) := by decide +kernel
theorem d14_8 : decode prog_55_method_17_code 8 = .ok (.goto 16, 3) := by decide +kernel
theorem d14_24 : decode prog_55_method_17_code 24 = .ok (.lreturn, 1) := by decide +kernel
def Q14_0 (Z : State) (w_NONE : Addr) (o0 : Addr) (h0 : Heap) (n0 : Nat) (v : Option Value) (h : Heap) (L : List Loc) : Prop := v = (some (.long 0)) ∧ Fr n0 L ∧ h = h0
theorem rm14_0 (l : Launch) (Z : State) (a0 : Array Value) (hw : HW Z a0) (ws : List Jvm.Cond) (w_NONE : Addr) (o0 : Addr) (h0 : Heap) (n0 : Nat) (O0 : Old Z n0 h0) (S : SF Z w_NONE) (F_ranges_o0 : Fld Z h0 o0 sC0 "ranges" "I" (.int 0)) :
    Pay l Z (⟨sC0, "end", "()J"⟩ : MethodName) ws prog_55_method_17_code 1 (some .long) #[(.ref o0)] h0 ({ frames := 0, cells := 0, slots := 0, locals := 0 } : Room) (Q14_0 Z w_NONE o0 h0 n0) := by
  refine own_body (plainFor_of_name pn_1) (L0 := #[va o0]) (fun _ => by first | rfl | (simp [entryFrame, mkF, argsToLocals, Value.category]; done)) ?_
  intro p e s m below meth c s₁ hrt hlk hx hby hml hZ hown0 hnm X0 e0
  have hown : s.vm.findClass sC0 = some m.cls := hown0
  have N0 := Fr.nil n0
  have K0 : Keep h0 h0 [] := Keep.refl _ _
  obtain ⟨T1, X1, e1, st1⟩ := getF X0 hx hZ hown (host := "") (Or.inl (ww hw 36 rfl)) Via.refl e0 F_ranges_o0 (g := (mkF m 1 #[va o0] [(.ref o0)])) rfl rfl (hb hby d14_1)
  obtain ⟨fs, hr, hrun, hended, hW, hsame⟩ := X1.leave (v := (some (.long 0))) (fun h => by rw [hrt] at h; cases h)
  refine ⟨_, _, ?_, hrun, hended, _, _, rfl, ?_, ⟨_, rfl⟩, hW, hsame.mono (by decide) (by decide)⟩
  · show Steps p.tables e below (s₁.setTop (mkF m 0 #[va o0] [])) _
    refine XS.aloadN X0.here hx rfl (hb hby d14_0) rfl rfl ?_
    refine st1 _ ?_
    refine XS.ifNo X1.here hx rfl (hb hby d14_4) rfl ((if0 _ _).trans (teq (by decide : (0 : Int32) = (0 : Int32))).2) ?_
    refine XS.lconst X1.here hx rfl (hb hby d14_7) ?_
    refine XS.goto X1.here hx rfl (pc0 := 8) (pc' := 24) rfl (hb hby d14_8) (by decide) (by decide) ?_
    exact retOut X1 hx (t := .long) (i := .lreturn) hrt rfl (Or.inr (Or.inl ⟨rfl, rfl, _, rfl⟩)) (hb hby d14_24) hr
  · show Q14_0 Z w_NONE o0 h0 n0 (some (.long 0)) T1.heap _
    exact (⟨rfl, N0, e1⟩)
theorem d15_0 : decode prog_55_method_12_code 0 = .ok (.aload_n 0, 1) := by decide +kernel
theorem d15_1 : decode prog_55_method_12_code 1 = .ok (.lload_n 1, 1) := by decide +kernel
theorem d15_2 : decode prog_55_method_12_code 2 = .ok (.invokevirtual 47, 3) := by decide +kernel
theorem d6_0 : decode prog_55_method_19_code 0 = .ok (.iconst 0, 1) := by decide +kernel
theorem d6_1 : decode prog_55_method_19_code 1 = .ok (.istore_n 3, 1) := by decide +kernel
theorem d6_2 : decode prog_55_method_19_code 2 = .ok (.aload_n 0, 1) := by decide +kernel
theorem d6_3 : decode prog_55_method_19_code 3 = .ok (.getfield 34, 3) := by decide +kernel
theorem d6_6 : decode prog_55_method_19_code 6 = .ok (.istore 4, 2) := by decide +kernel
theorem d6_8 : decode prog_55_method_19_code 8 = .ok (.iload_n 3, 1) := by decide +kernel
theorem d6_9 : decode prog_55_method_19_code 9 = .ok (.iload 4, 2) := by decide +kernel
theorem d6_11 : decode prog_55_method_19_code 11 = .ok (.if_icmp .ge 38, 3) := by decide +kernel
theorem d6_49 : decode prog_55_method_19_code 49 = .ok (.iload_n 3, 1) := by decide +kernel
theorem d6_50 : decode prog_55_method_19_code 50 = .ok (.ireturn, 1) := by decide +kernel
def Q6_0 (Z : State) (w_NONE : Addr) (o0 : Addr) (q0 : Int64) (h0 : Heap) (n0 : Nat) (v : Option Value) (h : Heap) (L : List Loc) : Prop := v = (some (.int 0)) ∧ Fr n0 L ∧ h = h0
theorem rm6_0 (l : Launch) (Z : State) (a0 : Array Value) (hw : HW Z a0) (ws : List Jvm.Cond) (w_NONE : Addr) (o0 : Addr) (q0 : Int64) (h0 : Heap) (n0 : Nat) (O0 : Old Z n0 h0) (S : SF Z w_NONE) (F_ranges_o0 : Fld Z h0 o0 sC0 "ranges" "I" (.int 0)) :
    Pay l Z My6 ws prog_55_method_19_code 6 (some .int) #[(.ref o0), (.long q0)] h0 ({ frames := 0, cells := 0, slots := 0, locals := 0 } : Room) (Q6_0 Z w_NONE o0 q0 h0 n0) := by
  refine own_body (plainFor_of_name pn_1) (L0 := #[va o0, vl q0, ss, uu, uu, uu]) (fun _ => by first | rfl | (simp [entryFrame, mkF, argsToLocals, Value.category]; done)) ?_
  intro p e s m below meth c s₁ hrt hlk hx hby hml hZ hown0 hnm X0 e0
  have hown : s.vm.findClass sC0 = some m.cls := hown0
  have N0 := Fr.nil n0
  have K0 : Keep h0 h0 [] := Keep.refl _ _
  obtain ⟨T1, X1, e1, st1⟩ := getF X0 hx hZ hown (host := "") (Or.inl (ww hw 36 rfl)) Via.refl e0 F_ranges_o0 (g := (mkF m 3 #[va o0, vl q0, ss, vi 0, uu, uu] [(.ref o0)])) rfl rfl (hb hby d6_3)
  obtain ⟨fs, hr, hrun, hended, hW, hsame⟩ := X1.leave (v := (some (.int 0))) (fun h => by rw [hrt] at h; cases h)
  refine ⟨_, _, ?_, hrun, hended, _, _, rfl, ?_, ⟨_, rfl⟩, hW, hsame.mono (by decide) (by decide)⟩
  · show Steps p.tables e below (s₁.setTop (mkF m 0 #[va o0, vl q0, ss, uu, uu, uu] [])) _
    refine XS.iconst X0.here hx rfl (hb hby d6_0) ?_
    refine XS.istoreN X0.here hx rfl (hb hby d6_1) rfl (l' := #[va o0, vl q0, ss, vi 0, uu, uu]) rfl ?_
    refine XS.aloadN X0.here hx rfl (hb hby d6_2) rfl rfl ?_
    refine st1 _ ?_
    refine XS.istore X1.here hx rfl (hb hby d6_6) rfl (l' := #[va o0, vl q0, ss, vi 0, vi 0, uu]) rfl ?_
    refine XS.iloadN X1.here hx rfl (hb hby d6_8) rfl ?_
    refine XS.iload X1.here hx rfl (hb hby d6_9) rfl ?_
    refine XS.icmpYes X1.here hx rfl (pc0 := 11) (pc' := 49) rfl (hb hby d6_11) rfl (flt (by decide : ¬ ((0 : Int32) < (0 : Int32)))).2.1 (by decide) (by decide) ?_
    show Steps p.tables e below (T1.setTop (mkF m 49 #[va o0, vl q0, ss, vi 0, vi 0, uu] [])) _
    refine XS.iloadN X1.here hx rfl (hb hby d6_49) rfl ?_
    exact retOut X1 hx (t := .int) (i := .ireturn) hrt rfl (Or.inl ⟨rfl, Or.inl rfl, _, rfl⟩) (hb hby d6_50) hr
  · show Q6_0 Z w_NONE o0 q0 h0 n0 (some (.int 0)) T1.heap _
    exact (⟨rfl, N0, e1⟩)
theorem pd_4 : parseMethodDescriptor "(J)I" = some ⟨[.long], some .int⟩ := by decide +kernel
theorem d15_5 : decode prog_55_method_12_code 5 = .ok (.istore_n 3, 1) := by decide +kernel
theorem d15_6 : decode prog_55_method_12_code 6 = .ok (.iload_n 3, 1) := by decide +kernel
theorem d15_7 : decode prog_55_method_12_code 7 = .ok (.aload_n 0, 1) := by decide +kernel
theorem d15_8 : decode prog_55_method_12_code 8 = .ok (.getfield 34, 3) := by decide +kernel
theorem d15_11 : decode prog_55_method_12_code 11 = .ok (.if_icmp .ne 9, 3) := by decide +kernel
theorem d15_14 : decode prog_55_method_12_code 14 = .ok (.ldc2_w 75, 3) := by decide +kernel
theorem d15_17 : decode prog_55_method_12_code 17 = .ok (.goto 13, 3) := by decide +kernel
theorem d15_30 : decode prog_55_method_12_code 30 = .ok (.lreturn, 1) := by decide +kernel
def Q15_0 (Z : State) (w_NONE : Addr) (o0 : Addr) (q0 : Int64) (h0 : Heap) (n0 : Nat) (v : Option Value) (h : Heap) (L : List Loc) : Prop := v = (some (.long (-1))) ∧ Fr n0 L ∧ h = h0
theorem rm15_0 (l : Launch) (Z : State) (a0 : Array Value) (hw : HW Z a0) (ws : List Jvm.Cond) (w_NONE : Addr) (o0 : Addr) (q0 : Int64) (h0 : Heap) (n0 : Nat) (O0 : Old Z n0 h0) (S : SF Z w_NONE) (E_o0 : Exa Z h0 o0 sC0) (F_ranges_o0 : Fld Z h0 o0 sC0 "ranges" "I" (.int 0)) :
    Pay l Z My15 ws prog_55_method_12_code 4 (some .long) #[(.ref o0), (.long q0)] h0 ({ frames := 1, cells := 0, slots := 0, locals := 17 } : Room) (Q15_0 Z w_NONE o0 q0 h0 n0) := by
  refine own_body (plainFor_of_name pn_1) (L0 := #[va o0, vl q0, ss, uu]) (fun _ => by first | rfl | (simp [entryFrame, mkF, argsToLocals, Value.category]; done)) ?_
  intro p e s m below meth c s₁ hrt hlk hx hby hml hZ hown0 hnm X0 e0
  have hown : s.vm.findClass sC0 = some m.cls := hown0
  have N0 := Fr.nil n0
  have K0 : Keep h0 h0 [] := Keep.refl _ _
  obtain ⟨cq1, qa1, qb1⟩ := E_o0.cell
  obtain ⟨_, _, ⟨T1, L1, k1, n1⟩, -, X1, ⟨Lc1, hQ1, l1, y1, z1⟩, st1⟩ := X0.privateBack hx (y := My6) hown (mvT hZ (ww hw 32 rfl)) (mvT hZ (ww hw 33 rfl)) (own_selp (by decide) (mvT hZ (ww hw 4 rfl)) (mvP hZ (ww hw 34 rfl)) (mvT hZ (ww hw 33 rfl))) (Cond.privateMethod_at (mvP hZ (ww hw 34 rfl) (args := #[]))) (mvT hZ (ww hw 35 rfl)) (by decide) (backOf (W := 0) (rm6_0 l Z a0 hw [] w_NONE o0 q0 h0 n0 O0 S F_ranges_o0) hZ (ww hw 35 rfl) (ww hw 5 rfl) (by decide) (by decide)) (g := (mkF m 2 #[va o0, vl q0, ss, uu] [(.long q0), (.ref o0)])) rfl (by rw [hml]; rfl) (Steps.refl _) (a := o0) (by rw [e0]; exact qa1) qb1 (argsL := [(.long q0)]) (rest := []) (lenOf pd_4 rfl) rfl (by show 2 * 0 + _ ≤ _; exact Nat.le_of_eq rfl) (hb hby d15_2) (fun _ _ => ⟨rfl, e0, (by decide : 0 + 0 ≤ _), (by decide : 0 + 0 ≤ _)⟩)
  dsimp only [Pt.U, Pt.locs, Pt.cells, Pt.slots] at X1 l1 y1 z1 st1 hQ1
  subst l1 y1 z1
  obtain ⟨rfl, Nq1, e1⟩ := hQ1
  have N1 := Fr.app N0 Nq1
  obtain ⟨T2, X2, e2, st2⟩ := getF X1 hx hZ hown (host := "") (Or.inl (ww hw 36 rfl)) Via.refl e1 F_ranges_o0 (g := (mkF m 8 #[va o0, vl q0, ss, vi 0] [(.ref o0), (.int 0)])) rfl rfl (hb hby d15_8)
  obtain ⟨fs, hr, hrun, hended, hW, hsame⟩ := X2.leave (v := (some (.long (-1)))) (fun h => by rw [hrt] at h; cases h)
  refine ⟨_, _, ?_, hrun, hended, _, _, rfl, ?_, ⟨_, rfl⟩, hW, hsame.mono (by decide) (by decide)⟩
  · show Steps p.tables e below (s₁.setTop (mkF m 0 #[va o0, vl q0, ss, uu] [])) _
    refine XS.aloadN X0.here hx rfl (hb hby d15_0) rfl rfl ?_
    refine XS.lloadN X0.here hx rfl (hb hby d15_1) rfl ?_
    refine st1.trans ?_
    refine XS.istoreN X1.here hx rfl (hb hby d15_5) rfl (l' := #[va o0, vl q0, ss, vi 0]) rfl ?_
    refine XS.iloadN X1.here hx rfl (hb hby d15_6) rfl ?_
    refine XS.aloadN X1.here hx rfl (hb hby d15_7) rfl rfl ?_
    refine st2 _ ?_
    refine XS.icmpNo X2.here hx rfl (hb hby d15_11) rfl (teq (by decide : (0 : Int32) = (0 : Int32))).2 ?_
    show Steps p.tables e below (T2.setTop (mkF m 14 #[va o0, vl q0, ss, vi 0] [])) _
    refine X2.ldc2Long hx hown (mvT hZ (ww hw 86 rfl)) (g := (mkF m 14 #[va o0, vl q0, ss, vi 0] [])) rfl (hb hby d15_14) _ ?_
    refine XS.goto X2.here hx rfl (pc0 := 17) (pc' := 30) rfl (hb hby d15_17) (by decide) (by decide) ?_
    exact retOut X2 hx (t := .long) (i := .lreturn) hrt rfl (Or.inr (Or.inl ⟨rfl, rfl, _, rfl⟩)) (hb hby d15_30) hr
  · show Q15_0 Z w_NONE o0 q0 h0 n0 (some (.long (-1))) T2.heap _
    exact (⟨rfl, N1, e2⟩)
theorem pd_5 : parseMethodDescriptor "(J)J" = some ⟨[.long], some .long⟩ := by decide +kernel
theorem d4_0 : decode prog_55_method_8_code 0 = .ok (.lload_n 1, 1) := by decide +kernel
theorem d4_1 : decode prog_55_method_8_code 1 = .ok (.lload_n 3, 1) := by decide +kernel
theorem d4_2 : decode prog_55_method_8_code 2 = .ok (.invokestatic 51, 3) := by decide +kernel
theorem d5_0 : decode prog_55_method_20_code 0 = .ok (.lload_n 0, 1) := by decide +kernel
theorem d5_1 : decode prog_55_method_20_code 1 = .ok (.lconst 0, 1) := by decide +kernel
theorem d5_2 : decode prog_55_method_20_code 2 = .ok (.lcmp, 1) := by decide +kernel
theorem d5_3 : decode prog_55_method_20_code 3 = .ok (.ifCond .lt 9, 3) := by decide +kernel
theorem d5_6 : decode prog_55_method_20_code 6 = .ok (.lload_n 0, 1) := by decide +kernel
theorem d5_7 : decode prog_55_method_20_code 7 = .ok (.lload_n 2, 1) := by decide +kernel
theorem d5_8 : decode prog_55_method_20_code 8 = .ok (.lcmp, 1) := by decide +kernel
theorem d5_9 : decode prog_55_method_20_code 9 = .ok (.ifCond .le 18, 3) := by decide +kernel
theorem d5_27 : decode prog_55_method_20_code 27 = .ok (.return_, 1) := by decide +kernel
def Q5_0 (Z : State) (w_NONE : Addr) (q0 : Int64) (q1 : Int64) (h0 : Heap) (n0 : Nat) (v : Option Value) (h : Heap) (L : List Loc) : Prop := v = none ∧ Fr n0 L ∧ h = h0
theorem rm5_0 (l : Launch) (Z : State) (a0 : Array Value) (hw : HW Z a0) (ws : List Jvm.Cond) (w_NONE : Addr) (q0 : Int64) (q1 : Int64) (h0 : Heap) (n0 : Nat) (O0 : Old Z n0 h0) (S : SF Z w_NONE) (hc0 : ¬ (q0 < (0 : Int64))) (hc1 : ¬ (q1 < q0)) :
    Pay l Z My5 ws prog_55_method_20_code 4 none #[(.long q0), (.long q1)] h0 ({ frames := 0, cells := 0, slots := 0, locals := 0 } : Room) (Q5_0 Z w_NONE q0 q1 h0 n0) := by
  refine own_body (plainFor_of_name pn_1) (L0 := #[vl q0, ss, vl q1, ss]) (fun _ => by first | rfl | (simp [entryFrame, mkF, argsToLocals, Value.category]; done)) ?_
  intro p e s m below meth c s₁ hrt hlk hx hby hml hZ hown0 hnm X0 e0
  have hown : s.vm.findClass sC0 = some m.cls := hown0
  have N0 := Fr.nil n0
  have K0 : Keep h0 h0 [] := Keep.refl _ _
  obtain ⟨fs, hr, hrun, hended, hW, hsame⟩ := X0.leave (v := none) (fun _ => rfl)
  refine ⟨_, _, ?_, hrun, hended, _, _, rfl, ?_, ⟨_, rfl⟩, hW, hsame.mono (by decide) (by decide)⟩
  · show Steps p.tables e below (s₁.setTop (mkF m 0 #[vl q0, ss, vl q1, ss] [])) _
    refine XS.lloadN X0.here hx rfl (hb hby d5_0) rfl ?_
    refine XS.lconst X0.here hx rfl (hb hby d5_1) ?_
    refine XS.lcmp X0.here hx rfl (hb hby d5_2) rfl ?_
    refine XS.ifNo X0.here hx rfl (hb hby d5_3) rfl (own_lc_ltF hc0).1 ?_
    refine XS.lloadN X0.here hx rfl (hb hby d5_6) rfl ?_
    refine XS.lloadN X0.here hx rfl (hb hby d5_7) rfl ?_
    refine XS.lcmp X0.here hx rfl (hb hby d5_8) rfl ?_
    refine XS.ifYes X0.here hx rfl (pc0 := 9) (pc' := 27) rfl (hb hby d5_9) rfl (own_lc_gtF hc1).2 (by decide) (by decide) ?_
    show Steps p.tables e below (s₁.setTop (mkF m 27 #[vl q0, ss, vl q1, ss] [])) _
    exact X0.returnOut hx hrt (hb hby d5_27) hr
  · show Q5_0 Z w_NONE q0 q1 h0 n0 none s₁.heap _
    exact (⟨rfl, N0, e0⟩)
theorem pd_6 : parseMethodDescriptor "(JJ)V" = some ⟨[.long, .long], none⟩ := by decide +kernel
theorem d4_5 : decode prog_55_method_8_code 5 = .ok (.aload_n 0, 1) := by decide +kernel
theorem d4_6 : decode prog_55_method_8_code 6 = .ok (.lload_n 1, 1) := by decide +kernel
theorem d4_7 : decode prog_55_method_8_code 7 = .ok (.lconst 0, 1) := by decide +kernel
theorem d4_8 : decode prog_55_method_8_code 8 = .ok (.lcmp, 1) := by decide +kernel
theorem d4_9 : decode prog_55_method_8_code 9 = .ok (.ifCond .ne 7, 3) := by decide +kernel
theorem d4_16 : decode prog_55_method_8_code 16 = .ok (.lload_n 1, 1) := by decide +kernel
theorem d4_17 : decode prog_55_method_8_code 17 = .ok (.lconst 1, 1) := by decide +kernel
theorem d4_18 : decode prog_55_method_8_code 18 = .ok (.lsub, 1) := by decide +kernel
theorem d4_19 : decode prog_55_method_8_code 19 = .ok (.invokevirtual 47, 3) := by decide +kernel
theorem d4_22 : decode prog_55_method_8_code 22 = .ok (.istore 5, 2) := by decide +kernel
theorem d4_24 : decode prog_55_method_8_code 24 = .ok (.iload 5, 2) := by decide +kernel
theorem d4_26 : decode prog_55_method_8_code 26 = .ok (.istore 6, 2) := by decide +kernel
theorem d4_28 : decode prog_55_method_8_code 28 = .ok (.iload 6, 2) := by decide +kernel
theorem d4_30 : decode prog_55_method_8_code 30 = .ok (.aload_n 0, 1) := by decide +kernel
theorem d4_31 : decode prog_55_method_8_code 31 = .ok (.getfield 34, 3) := by decide +kernel
theorem d4_34 : decode prog_55_method_8_code 34 = .ok (.if_icmp .ge 23, 3) := by decide +kernel
theorem d4_57 : decode prog_55_method_8_code 57 = .ok (.iinc 6 (-1), 3) := by decide +kernel
theorem d4_60 : decode prog_55_method_8_code 60 = .ok (.iload 6, 2) := by decide +kernel
theorem d4_62 : decode prog_55_method_8_code 62 = .ok (.iload 5, 2) := by decide +kernel
theorem d4_64 : decode prog_55_method_8_code 64 = .ok (.if_icmp .ge 41, 3) := by decide +kernel
theorem d4_67 : decode prog_55_method_8_code 67 = .ok (.aload_n 0, 1) := by decide +kernel
theorem d4_68 : decode prog_55_method_8_code 68 = .ok (.getfield 34, 3) := by decide +kernel
theorem d4_71 : decode prog_55_method_8_code 71 = .ok (.aload_n 0, 1) := by decide +kernel
theorem d4_72 : decode prog_55_method_8_code 72 = .ok (.getfield 25, 3) := by decide +kernel
theorem d4_75 : decode prog_55_method_8_code 75 = .ok (.if_icmp .ne 5, 3) := by decide +kernel
theorem d4_80 : decode prog_55_method_8_code 80 = .ok (.aload_n 0, 1) := by decide +kernel
theorem d4_81 : decode prog_55_method_8_code 81 = .ok (.iload 5, 2) := by decide +kernel
theorem d4_83 : decode prog_55_method_8_code 83 = .ok (.lload_n 1, 1) := by decide +kernel
theorem d4_84 : decode prog_55_method_8_code 84 = .ok (.lload_n 3, 1) := by decide +kernel
theorem d4_85 : decode prog_55_method_8_code 85 = .ok (.invokevirtual 55, 3) := by decide +kernel
theorem d7_0 : decode prog_55_method_21_code 0 = .ok (.aload_n 0, 1) := by decide +kernel
theorem d7_1 : decode prog_55_method_21_code 1 = .ok (.getfield 34, 3) := by decide +kernel
theorem d7_4 : decode prog_55_method_21_code 4 = .ok (.aload_n 0, 1) := by decide +kernel
theorem d7_5 : decode prog_55_method_21_code 5 = .ok (.getfield 19, 3) := by decide +kernel
theorem d7_8 : decode prog_55_method_21_code 8 = .ok (.arraylength, 1) := by decide +kernel
theorem d7_9 : decode prog_55_method_21_code 9 = .ok (.if_icmp .ne 41, 3) := by decide +kernel
theorem d7_12 : decode prog_55_method_21_code 12 = .ok (.iconst 4, 1) := by decide +kernel
theorem d7_13 : decode prog_55_method_21_code 13 = .ok (.iconst 2, 1) := by decide +kernel
theorem d7_14 : decode prog_55_method_21_code 14 = .ok (.aload_n 0, 1) := by decide +kernel
theorem d7_15 : decode prog_55_method_21_code 15 = .ok (.getfield 34, 3) := by decide +kernel
theorem d7_18 : decode prog_55_method_21_code 18 = .ok (.imul, 1) := by decide +kernel
theorem d7_19 : decode prog_55_method_21_code 19 = .ok (.invokestatic 86, 3) := by decide +kernel
theorem d8_0 : decode jdk_29_method_65_code 0 = .ok (.iload_n 0, 1) := by decide +kernel
theorem d8_1 : decode jdk_29_method_65_code 1 = .ok (.iload_n 1, 1) := by decide +kernel
theorem d8_2 : decode jdk_29_method_65_code 2 = .ok (.if_icmp .lt 7, 3) := by decide +kernel
theorem d8_5 : decode jdk_29_method_65_code 5 = .ok (.iload_n 0, 1) := by decide +kernel
theorem d8_6 : decode jdk_29_method_65_code 6 = .ok (.goto 4, 3) := by decide +kernel
theorem d8_10 : decode jdk_29_method_65_code 10 = .ok (.ireturn, 1) := by decide +kernel
def Q8_0 (Z : State) (w_NONE : Addr) (h0 : Heap) (n0 : Nat) (v : Option Value) (h : Heap) (L : List Loc) : Prop := v = (some (.int 4)) ∧ Fr n0 L ∧ h = h0
theorem rm8_0 (l : Launch) (Z : State) (a0 : Array Value) (hw : HW Z a0) (ws : List Jvm.Cond) (w_NONE : Addr) (h0 : Heap) (n0 : Nat) (O0 : Old Z n0 h0) (S : SF Z w_NONE) :
    Pay l Z (⟨sC1, "max", "(II)I"⟩ : MethodName) ws jdk_29_method_65_code 2 (some .int) #[(.int 4), (.int 0)] h0 ({ frames := 0, cells := 0, slots := 0, locals := 0 } : Room) (Q8_0 Z w_NONE  h0 n0) := by
  refine own_body (Jvm.Free.JP.mathPlain rfl (by decide +kernel)) (L0 := #[vi 4, vi 0]) (fun _ => by first | rfl | (simp [entryFrame, mkF, argsToLocals, Value.category]; done)) ?_
  intro p e s m below meth c s₁ hrt hlk hx hby hml hZ hown0 hnm X0 e0
  have hown : s.vm.findClass sC1 = some m.cls := hown0
  have N0 := Fr.nil n0
  have K0 : Keep h0 h0 [] := Keep.refl _ _
  obtain ⟨fs, hr, hrun, hended, hW, hsame⟩ := X0.leave (v := (some (.int 4))) (fun h => by rw [hrt] at h; cases h)
  refine ⟨_, _, ?_, hrun, hended, _, _, rfl, ?_, ⟨_, rfl⟩, hW, hsame.mono (by decide) (by decide)⟩
  · show Steps p.tables e below (s₁.setTop (mkF m 0 #[vi 4, vi 0] [])) _
    refine XS.iloadN X0.here hx rfl (hb hby d8_0) rfl ?_
    refine XS.iloadN X0.here hx rfl (hb hby d8_1) rfl ?_
    refine XS.icmpNo X0.here hx rfl (hb hby d8_2) rfl (flt (by decide : ¬ ((4 : Int32) < (0 : Int32)))).1 ?_
    refine XS.iloadN X0.here hx rfl (hb hby d8_5) rfl ?_
    refine XS.goto X0.here hx rfl (pc0 := 6) (pc' := 10) rfl (hb hby d8_6) (by decide) (by decide) ?_
    exact retOut X0 hx (t := .int) (i := .ireturn) hrt rfl (Or.inl ⟨rfl, Or.inl rfl, _, rfl⟩) (hb hby d8_10) hr
  · show Q8_0 Z w_NONE  h0 n0 (some (.int 4)) s₁.heap _
    exact (⟨rfl, N0, e0⟩)
theorem pd_7 : parseMethodDescriptor "(II)I" = some ⟨[.int, .int], some .int⟩ := by decide +kernel
theorem d7_22 : decode prog_55_method_21_code 22 = .ok (.istore 6, 2) := by decide +kernel
theorem d7_24 : decode prog_55_method_21_code 24 = .ok (.aload_n 0, 1) := by decide +kernel
theorem d7_25 : decode prog_55_method_21_code 25 = .ok (.aload_n 0, 1) := by decide +kernel
theorem d7_26 : decode prog_55_method_21_code 26 = .ok (.getfield 19, 3) := by decide +kernel
theorem d7_29 : decode prog_55_method_21_code 29 = .ok (.iload 6, 2) := by decide +kernel
theorem d7_31 : decode prog_55_method_21_code 31 = .ok (.invokestatic 37, 3) := by decide +kernel
theorem pn_2 : plainName "java/util/Arrays" = true := by first | (simp [plainName, overriddenIn]; done) | decide +kernel
theorem d9_0 : decode jdk_65_method_124_code 0 = .ok (.iload_n 1, 1) := by decide +kernel
theorem d9_1 : decode jdk_65_method_124_code 1 = .ok (.aload_n 0, 1) := by decide +kernel
theorem d9_2 : decode jdk_65_method_124_code 2 = .ok (.arraylength, 1) := by decide +kernel
theorem d9_3 : decode jdk_65_method_124_code 3 = .ok (.if_icmp .ne 11, 3) := by decide +kernel
theorem d9_14 : decode jdk_65_method_124_code 14 = .ok (.iload_n 1, 1) := by decide +kernel
theorem d9_15 : decode jdk_65_method_124_code 15 = .ok (.newarray .long, 2) := by decide +kernel
theorem d9_17 : decode jdk_65_method_124_code 17 = .ok (.astore_n 2, 1) := by decide +kernel
theorem d9_18 : decode jdk_65_method_124_code 18 = .ok (.aload_n 0, 1) := by decide +kernel
theorem d9_19 : decode jdk_65_method_124_code 19 = .ok (.iconst 0, 1) := by decide +kernel
theorem d9_20 : decode jdk_65_method_124_code 20 = .ok (.aload_n 2, 1) := by decide +kernel
theorem d9_21 : decode jdk_65_method_124_code 21 = .ok (.iconst 0, 1) := by decide +kernel
theorem d9_22 : decode jdk_65_method_124_code 22 = .ok (.aload_n 0, 1) := by decide +kernel
theorem d9_23 : decode jdk_65_method_124_code 23 = .ok (.arraylength, 1) := by decide +kernel
theorem d9_24 : decode jdk_65_method_124_code 24 = .ok (.iload_n 1, 1) := by decide +kernel
theorem d9_25 : decode jdk_65_method_124_code 25 = .ok (.invokestatic 304, 3) := by decide +kernel
theorem d10_0 : decode jdk_29_method_69_code 0 = .ok (.iload_n 0, 1) := by decide +kernel
theorem d10_1 : decode jdk_29_method_69_code 1 = .ok (.iload_n 1, 1) := by decide +kernel
theorem d10_2 : decode jdk_29_method_69_code 2 = .ok (.if_icmp .gt 7, 3) := by decide +kernel
theorem d10_5 : decode jdk_29_method_69_code 5 = .ok (.iload_n 0, 1) := by decide +kernel
theorem d10_6 : decode jdk_29_method_69_code 6 = .ok (.goto 4, 3) := by decide +kernel
theorem d10_10 : decode jdk_29_method_69_code 10 = .ok (.ireturn, 1) := by decide +kernel
def Q10_0 (Z : State) (w_NONE : Addr) (h0 : Heap) (n0 : Nat) (v : Option Value) (h : Heap) (L : List Loc) : Prop := v = (some (.int 0)) ∧ Fr n0 L ∧ h = h0
theorem rm10_0 (l : Launch) (Z : State) (a0 : Array Value) (hw : HW Z a0) (ws : List Jvm.Cond) (w_NONE : Addr) (h0 : Heap) (n0 : Nat) (O0 : Old Z n0 h0) (S : SF Z w_NONE) :
    Pay l Z (⟨sC1, "min", "(II)I"⟩ : MethodName) ws jdk_29_method_69_code 2 (some .int) #[(.int 0), (.int 4)] h0 ({ frames := 0, cells := 0, slots := 0, locals := 0 } : Room) (Q10_0 Z w_NONE  h0 n0) := by
  refine own_body (Jvm.Free.JP.mathPlain rfl (by decide +kernel)) (L0 := #[vi 0, vi 4]) (fun _ => by first | rfl | (simp [entryFrame, mkF, argsToLocals, Value.category]; done)) ?_
  intro p e s m below meth c s₁ hrt hlk hx hby hml hZ hown0 hnm X0 e0
  have hown : s.vm.findClass sC1 = some m.cls := hown0
  have N0 := Fr.nil n0
  have K0 : Keep h0 h0 [] := Keep.refl _ _
  obtain ⟨fs, hr, hrun, hended, hW, hsame⟩ := X0.leave (v := (some (.int 0))) (fun h => by rw [hrt] at h; cases h)
  refine ⟨_, _, ?_, hrun, hended, _, _, rfl, ?_, ⟨_, rfl⟩, hW, hsame.mono (by decide) (by decide)⟩
  · show Steps p.tables e below (s₁.setTop (mkF m 0 #[vi 0, vi 4] [])) _
    refine XS.iloadN X0.here hx rfl (hb hby d10_0) rfl ?_
    refine XS.iloadN X0.here hx rfl (hb hby d10_1) rfl ?_
    refine XS.icmpNo X0.here hx rfl (hb hby d10_2) rfl (flt (by decide : ¬ ((4 : Int32) < (0 : Int32)))).2.2.1 ?_
    refine XS.iloadN X0.here hx rfl (hb hby d10_5) rfl ?_
    refine XS.goto X0.here hx rfl (pc0 := 6) (pc' := 10) rfl (hb hby d10_6) (by decide) (by decide) ?_
    exact retOut X0 hx (t := .int) (i := .ireturn) hrt rfl (Or.inl ⟨rfl, Or.inl rfl, _, rfl⟩) (hb hby d10_10) hr
  · show Q10_0 Z w_NONE  h0 n0 (some (.int 0)) s₁.heap _
    exact (⟨rfl, N0, e0⟩)
theorem d9_28 : decode jdk_65_method_124_code 28 = .ok (.invokestatic 150, 3) := by decide +kernel
theorem d9_31 : decode jdk_65_method_124_code 31 = .ok (.aload_n 2, 1) := by decide +kernel
theorem d9_32 : decode jdk_65_method_124_code 32 = .ok (.areturn, 1) := by decide +kernel
def Q9_0 (Z : State) (w_NONE : Addr) (h0 : Heap) (n0 : Nat) (v : Option Value) (h : Heap) (L : List Loc) : Prop := ∃ (b2 : Addr), ∃ (k2 : ClassId), v = (some (.ref b2)) ∧ Fr n0 L ∧ Keep h0 h [] ∧ Arv Z h b2 k2 .long (4 : Int32) [(.long 0), (.long 0), (.long 0), (.long 0)] (.long 0) ∧ h0.size ≤ b2
theorem rm9_0 (l : Launch) (Z : State) (a0 : Array Value) (hw : HW Z a0) (ws : List Jvm.Cond) (w_NONE : Addr) (h0 : Heap) (n0 : Nat) (O0 : Old Z n0 h0) (S : SF Z w_NONE) :
    Pay l Z (⟨"java/util/Arrays", "copyOf", "([JI)[J"⟩ : MethodName) ws jdk_65_method_124_code 3 (some (.array .long)) #[(.ref w_NONE), (.int 4)] h0 ({ frames := 1, cells := 1, slots := 4, locals := 18 } : Room) (Q9_0 Z w_NONE  h0 n0) := by
  obtain ⟨S_w_NONE, V_w_NONE, -⟩ := id S
  obtain ⟨kk_w_NONE, Vk_w_NONE⟩ := V_w_NONE
  refine own_body (plainFor_of_name pn_2) (L0 := #[va w_NONE, vi 4, uu]) (fun _ => by first | rfl | (simp [entryFrame, mkF, argsToLocals, Value.category]; done)) ?_
  intro p e s m below meth c s₁ hrt hlk hx hby hml hZ hown0 hnm X0 e0
  have hown : s.vm.findClass "java/util/Arrays" = some m.cls := hown0
  have N0 := Fr.nil n0
  have K0 : Keep h0 h0 [] := Keep.refl _ _
  obtain ⟨cl1, Ar1, qk1, Sz1, Ng1, Hh1, Gg1⟩ := id (Vk_w_NONE.ext O0.2)
  obtain ⟨T2, h2, k2, X2, e2, E2, A2, st2⟩ := newP X0 hx hZ (ww hw 50 rfl) e0 (g := (mkF m 15 #[va w_NONE, vi 4, uu] [(.int 4)])) rfl (hb hby d9_15) rfl (by decide) (cap := 4) (by decide) (by decide) (by decide) (by decide)
  obtain ⟨b2, qs2⟩ : ∃ z, z = h0.size := ⟨_, rfl⟩
  rw [← qs2] at A2 st2
  have g_b2 : n0 ≤ b2 := Nat.le_trans (own_old O0) (Nat.le_of_eq qs2.symm)
  have sz_b2 : h0.size ≤ b2 := Nat.le_trans K0.1 (Nat.le_of_eq qs2.symm)
  have O2 := O0.ext E2
  have K2 : Keep h0 h2 [] := K0.ext E2
  have V_b2 : Arv Z h2 b2 k2 .long (4 : Int32) [(.long 0), (.long 0), (.long 0), (.long 0)] (.long 0) := (Arv.new A2 (by decide)).pad (pad_rep [] (.long 0) 4)
  obtain ⟨cl3, Ar3, qk3, Sz3, Ng3, Hh3, Gg3⟩ := id (Vk_w_NONE.ext O2.2)
  obtain ⟨_, _, ⟨T4, L4, k4, n4⟩, -, X4, ⟨Lc4, hQ4, l4, y4, z4⟩, st4⟩ := Jvm.LawKit.callS X2 hx (y := (⟨sC1, "min", "(II)I"⟩ : MethodName)) hown (mvT hZ (ww hw 51 rfl)) (mvT hZ (ww hw 52 rfl)) (mvT hZ (ww hw 44 rfl)) (mvT hZ (ww hw 53 rfl)) (by decide) (backOf (W := 4) (rm10_0 l Z a0 hw [] w_NONE h2 n0 O2 S) hZ (ww hw 53 rfl) (ww hw 44 rfl) (by decide) (by decide)) (g := (mkF m 25 #[va w_NONE, vi 4, va b2] [(.int 4), (.int 0), (.int 0), (.ref b2), (.int 0), (.ref w_NONE)])) rfl (by rw [hml]; rfl) (argsL := [(.int 0), (.int 4)]) (rest := [(.int 0), (.ref b2), (.int 0), (.ref w_NONE)]) (lenOf pd_7 rfl) rfl (by show 2 * 0 + _ ≤ _; exact Nat.le_of_eq rfl) (hb hby d9_25) (fun _ _ => ⟨rfl, e2, (by decide : 1 + 0 ≤ _), (by decide : 4 + 0 ≤ _)⟩)
  dsimp only [Pt.U, Pt.locs, Pt.cells, Pt.slots] at X4 l4 y4 z4 st4 hQ4
  subst l4 y4 z4
  obtain ⟨rfl, Nq4, e4⟩ := hQ4
  have N4 := Fr.app N0 Nq4
  obtain ⟨T5, h5, L5, X5, e5, N5, Kc5, Vc5, st5⟩ := cpA X4 hx hZ hown (ww hw 54 rfl) (ww hw 57 rfl) (ww hw 55 rfl) (ww hw 56 rfl) e4 (Vk_w_NONE.ext O2.2) V_b2 (us := []) (Or.inl ⟨rfl, rfl⟩) (sp := (0 : Int32)) (dp := (0 : Int32)) (nn := (0 : Int32)) (by decide) (by decide) (by decide) (by decide) (by decide) rfl (Nat.le_of_ble_eq_true rfl) N4 g_b2 (g := (mkF m 28 #[va w_NONE, vi 4, va b2] [(.int 0), (.int 0), (.ref b2), (.int 0), (.ref w_NONE)])) rfl (by rw [hml]; rfl) (rest := []) rfl (hb hby d9_28) (by decide) (W := 0) (by show 2 * 0 + _ ≤ _; exact Nat.le_of_eq rfl) (by decide)
  have V5 : Arv Z h5 b2 k2 .long (4 : Int32) [(.long 0), (.long 0), (.long 0), (.long 0)] (.long 0) := Vc5
  have O5 := O2.keep Kc5 (allS g_b2 all0)
  have K5 : Keep h0 h5 [] := K2.trans Kc5 (allS (Or.inr sz_b2) all0)
  obtain ⟨fs, hr, hrun, hended, hW, hsame⟩ := X5.leave (v := (some (.ref b2))) (fun h => by rw [hrt] at h; cases h)
  refine ⟨_, _, ?_, hrun, hended, _, _, rfl, ?_, ⟨_, rfl⟩, hW, hsame.mono (by decide) (by decide)⟩
  · show Steps p.tables e below (s₁.setTop (mkF m 0 #[va w_NONE, vi 4, uu] [])) _
    refine XS.iloadN X0.here hx rfl (hb hby d9_0) rfl ?_
    refine XS.aloadN X0.here hx rfl (hb hby d9_1) rfl rfl ?_
    refine X0.arraylength hx (by rw [e0]; exact Ar1.1) (State.isArrayOf_alike hZ.alike Ar1.2.1) (g := (mkF m 2 #[va w_NONE, vi 4, uu] [(.ref w_NONE), (.int 4)])) rfl rfl (hb hby d9_2) _ ?_
    rw [len_of Sz1 Ng1]
    refine XS.icmpYes X0.here hx rfl (pc0 := 3) (pc' := 14) rfl (hb hby d9_3) rfl (feq (by decide : ¬ ((4 : Int32) = (0 : Int32)))).2 (by decide) (by decide) ?_
    refine XS.iloadN X0.here hx rfl (hb hby d9_14) rfl ?_
    refine st2 _ ?_
    refine XS.astoreN X2.here hx rfl (hb hby d9_17) rfl rfl (l' := #[va w_NONE, vi 4, va b2]) rfl ?_
    refine XS.aloadN X2.here hx rfl (hb hby d9_18) rfl rfl ?_
    show Steps p.tables e below (T2.setTop (mkF m 19 #[va w_NONE, vi 4, va b2] [(.ref w_NONE)])) _
    refine XS.iconst X2.here hx rfl (hb hby d9_19) ?_
    refine XS.aloadN X2.here hx rfl (hb hby d9_20) rfl rfl ?_
    refine XS.iconst X2.here hx rfl (hb hby d9_21) ?_
    refine XS.aloadN X2.here hx rfl (hb hby d9_22) rfl rfl ?_
    refine X2.arraylength hx (by rw [e2]; exact Ar3.1) (State.isArrayOf_alike hZ.alike Ar3.2.1) (g := (mkF m 23 #[va w_NONE, vi 4, va b2] [(.ref w_NONE), (.int 0), (.ref b2), (.int 0), (.ref w_NONE)])) rfl rfl (hb hby d9_23) _ ?_
    rw [len_of Sz3 Ng3]
    refine XS.iloadN X2.here hx rfl (hb hby d9_24) rfl ?_
    refine st4 _ ?_
    refine st5 _ ?_
    show Steps p.tables e below (T5.setTop (mkF m 31 #[va w_NONE, vi 4, va b2] [])) _
    refine XS.aloadN X5.here hx rfl (hb hby d9_31) rfl rfl ?_
    exact retOut X5 hx (t := (.array .long)) (i := .areturn) hrt rfl (Or.inr (Or.inr (Or.inr (Or.inr ⟨rfl, rfl, rfl⟩)))) (hb hby d9_32) hr
  · show Q9_0 Z w_NONE  h0 n0 (some (.ref b2)) T5.heap _
    rw [e5]; exact ⟨b2, k2, rfl, N5, K5, V5, sz_b2⟩
theorem pd_8 : parseMethodDescriptor "([JI)[J" = some ⟨[(.array .long), .int], some (.array .long)⟩ := by decide +kernel
theorem d7_34 : decode prog_55_method_21_code 34 = .ok (.putfield 19, 3) := by decide +kernel
theorem d7_37 : decode prog_55_method_21_code 37 = .ok (.aload_n 0, 1) := by decide +kernel
theorem d7_38 : decode prog_55_method_21_code 38 = .ok (.aload_n 0, 1) := by decide +kernel
theorem d7_39 : decode prog_55_method_21_code 39 = .ok (.getfield 22, 3) := by decide +kernel
theorem d7_42 : decode prog_55_method_21_code 42 = .ok (.iload 6, 2) := by decide +kernel
theorem d7_44 : decode prog_55_method_21_code 44 = .ok (.invokestatic 37, 3) := by decide +kernel
theorem d7_47 : decode prog_55_method_21_code 47 = .ok (.putfield 22, 3) := by decide +kernel
theorem d7_50 : decode prog_55_method_21_code 50 = .ok (.aload_n 0, 1) := by decide +kernel
theorem d7_51 : decode prog_55_method_21_code 51 = .ok (.getfield 19, 3) := by decide +kernel
theorem d7_54 : decode prog_55_method_21_code 54 = .ok (.iload_n 1, 1) := by decide +kernel
theorem d7_55 : decode prog_55_method_21_code 55 = .ok (.aload_n 0, 1) := by decide +kernel
theorem d7_56 : decode prog_55_method_21_code 56 = .ok (.getfield 19, 3) := by decide +kernel
theorem d7_59 : decode prog_55_method_21_code 59 = .ok (.iload_n 1, 1) := by decide +kernel
theorem d7_60 : decode prog_55_method_21_code 60 = .ok (.iconst 1, 1) := by decide +kernel
theorem d7_61 : decode prog_55_method_21_code 61 = .ok (.iadd, 1) := by decide +kernel
theorem d7_62 : decode prog_55_method_21_code 62 = .ok (.aload_n 0, 1) := by decide +kernel
theorem d7_63 : decode prog_55_method_21_code 63 = .ok (.getfield 34, 3) := by decide +kernel
theorem d7_66 : decode prog_55_method_21_code 66 = .ok (.iload_n 1, 1) := by decide +kernel
theorem d7_67 : decode prog_55_method_21_code 67 = .ok (.isub, 1) := by decide +kernel
theorem d7_68 : decode prog_55_method_21_code 68 = .ok (.invokestatic 89, 3) := by decide +kernel
theorem d7_71 : decode prog_55_method_21_code 71 = .ok (.aload_n 0, 1) := by decide +kernel
theorem d7_72 : decode prog_55_method_21_code 72 = .ok (.getfield 22, 3) := by decide +kernel
theorem d7_75 : decode prog_55_method_21_code 75 = .ok (.iload_n 1, 1) := by decide +kernel
theorem d7_76 : decode prog_55_method_21_code 76 = .ok (.aload_n 0, 1) := by decide +kernel
theorem d7_77 : decode prog_55_method_21_code 77 = .ok (.getfield 22, 3) := by decide +kernel
theorem d7_80 : decode prog_55_method_21_code 80 = .ok (.iload_n 1, 1) := by decide +kernel
theorem d7_81 : decode prog_55_method_21_code 81 = .ok (.iconst 1, 1) := by decide +kernel
theorem d7_82 : decode prog_55_method_21_code 82 = .ok (.iadd, 1) := by decide +kernel
theorem d7_83 : decode prog_55_method_21_code 83 = .ok (.aload_n 0, 1) := by decide +kernel
theorem d7_84 : decode prog_55_method_21_code 84 = .ok (.getfield 34, 3) := by decide +kernel
theorem d7_87 : decode prog_55_method_21_code 87 = .ok (.iload_n 1, 1) := by decide +kernel
theorem d7_88 : decode prog_55_method_21_code 88 = .ok (.isub, 1) := by decide +kernel
theorem d7_89 : decode prog_55_method_21_code 89 = .ok (.invokestatic 89, 3) := by decide +kernel
theorem d7_92 : decode prog_55_method_21_code 92 = .ok (.aload_n 0, 1) := by decide +kernel
theorem d7_93 : decode prog_55_method_21_code 93 = .ok (.getfield 19, 3) := by decide +kernel
theorem d7_96 : decode prog_55_method_21_code 96 = .ok (.iload_n 1, 1) := by decide +kernel
theorem d7_97 : decode prog_55_method_21_code 97 = .ok (.lload_n 2, 1) := by decide +kernel
theorem d7_98 : decode prog_55_method_21_code 98 = .ok (.lastore, 1) := by decide +kernel
theorem d7_99 : decode prog_55_method_21_code 99 = .ok (.aload_n 0, 1) := by decide +kernel
theorem d7_100 : decode prog_55_method_21_code 100 = .ok (.getfield 22, 3) := by decide +kernel
theorem d7_103 : decode prog_55_method_21_code 103 = .ok (.iload_n 1, 1) := by decide +kernel
theorem d7_104 : decode prog_55_method_21_code 104 = .ok (.lload 4, 2) := by decide +kernel
theorem d7_106 : decode prog_55_method_21_code 106 = .ok (.lastore, 1) := by decide +kernel
theorem d7_107 : decode prog_55_method_21_code 107 = .ok (.aload_n 0, 1) := by decide +kernel
theorem d7_108 : decode prog_55_method_21_code 108 = .ok (.dup, 1) := by decide +kernel
theorem d7_109 : decode prog_55_method_21_code 109 = .ok (.getfield 34, 3) := by decide +kernel
theorem d7_112 : decode prog_55_method_21_code 112 = .ok (.iconst 1, 1) := by decide +kernel
theorem d7_113 : decode prog_55_method_21_code 113 = .ok (.iadd, 1) := by decide +kernel
theorem d7_114 : decode prog_55_method_21_code 114 = .ok (.putfield 34, 3) := by decide +kernel
theorem d7_117 : decode prog_55_method_21_code 117 = .ok (.return_, 1) := by decide +kernel
def Q7_0 (Z : State) (w_NONE : Addr) (o0 : Addr) (q0 : Int64) (q1 : Int64) (h0 : Heap) (n0 : Nat) (v : Option Value) (h : Heap) (L : List Loc) : Prop := ∃ (b2_7 : Addr), ∃ (b2_13 : Addr), ∃ (k2_7 : ClassId), ∃ (k2_13 : ClassId), v = none ∧ Fr n0 L ∧ Keep h0 h [o0] ∧ Exa Z h o0 sC0 ∧ Fld Z h o0 sC0 "count" "J" (.long 0) ∧ Fld Z h o0 sC0 "firsts" "[J" (.ref b2_7) ∧ Fld Z h o0 sC0 "lasts" "[J" (.ref b2_13) ∧ Fld Z h o0 sC0 "maxRanges" "I" (.int 2147483647) ∧ Fld Z h o0 sC0 "ranges" "I" (.int 1) ∧ Arv Z h b2_7 k2_7 .long (4 : Int32) [(.long q0), (.long 0), (.long 0), (.long 0)] (.long 0) ∧ Arv Z h b2_13 k2_13 .long (4 : Int32) [(.long q1), (.long 0), (.long 0), (.long 0)] (.long 0) ∧ h0.size ≤ b2_7 ∧ h0.size ≤ b2_13 ∧ b2_7 ≠ b2_13
theorem rm7_0 (l : Launch) (Z : State) (a0 : Array Value) (hw : HW Z a0) (ws : List Jvm.Cond) (w_NONE : Addr) (o0 : Addr) (q0 : Int64) (q1 : Int64) (h0 : Heap) (n0 : Nat) (O0 : Old Z n0 h0) (S : SF Z w_NONE) (E_o0 : Exa Z h0 o0 sC0) (F_count_o0 : Fld Z h0 o0 sC0 "count" "J" (.long 0)) (F_firsts_o0 : Fld Z h0 o0 sC0 "firsts" "[J" (.ref w_NONE)) (F_lasts_o0 : Fld Z h0 o0 sC0 "lasts" "[J" (.ref w_NONE)) (F_maxRanges_o0 : Fld Z h0 o0 sC0 "maxRanges" "I" (.int 2147483647)) (F_ranges_o0 : Fld Z h0 o0 sC0 "ranges" "I" (.int 0)) (g_o0 : n0 ≤ o0) :
    Pay l Z My7 ws prog_55_method_21_code 7 none #[(.ref o0), (.int 0), (.long q0), (.long q1)] h0 ({ frames := 2, cells := 2, slots := 8, locals := 33 } : Room) (Q7_0 Z w_NONE o0 q0 q1 h0 n0) := by
  obtain ⟨S_w_NONE, V_w_NONE, -⟩ := id S
  obtain ⟨kk_w_NONE, Vk_w_NONE⟩ := V_w_NONE
  refine own_body (plainFor_of_name pn_1) (L0 := #[va o0, vi 0, vl q0, ss, vl q1, ss, uu]) (fun _ => by first | rfl | (simp [entryFrame, mkF, argsToLocals, Value.category]; done)) ?_
  intro p e s m below meth c s₁ hrt hlk hx hby hml hZ hown0 hnm X0 e0
  have hown : s.vm.findClass sC0 = some m.cls := hown0
  have N0 := Fr.nil n0
  have K0 : Keep h0 h0 [o0] := Keep.refl _ _
  obtain ⟨T1, X1, e1, st1⟩ := getF X0 hx hZ hown (host := "") (Or.inl (ww hw 36 rfl)) Via.refl e0 F_ranges_o0 (g := (mkF m 1 #[va o0, vi 0, vl q0, ss, vl q1, ss, uu] [(.ref o0)])) rfl rfl (hb hby d7_1)
  obtain ⟨T2, X2, e2, st2⟩ := getF X1 hx hZ hown (host := "") (Or.inl (ww hw 18 rfl)) Via.refl e1 F_firsts_o0 (g := (mkF m 5 #[va o0, vi 0, vl q0, ss, vl q1, ss, uu] [(.ref o0), (.int 0)])) rfl rfl (hb hby d7_5)
  obtain ⟨cl3, Ar3, qk3, Sz3, Ng3, Hh3, Gg3⟩ := id (Vk_w_NONE.ext O0.2)
  obtain ⟨T4, X4, e4, st4⟩ := getF X2 hx hZ hown (host := "") (Or.inl (ww hw 36 rfl)) Via.refl e2 F_ranges_o0 (g := (mkF m 15 #[va o0, vi 0, vl q0, ss, vl q1, ss, uu] [(.ref o0), (.int 2), (.int 4)])) rfl rfl (hb hby d7_15)
  obtain ⟨_, _, ⟨T5, L5, k5, n5⟩, -, X5, ⟨Lc5, hQ5, l5, y5, z5⟩, st5⟩ := Jvm.LawKit.callS X4 hx (y := (⟨sC1, "max", "(II)I"⟩ : MethodName)) hown (mvT hZ (ww hw 42 rfl)) (mvT hZ (ww hw 43 rfl)) (mvT hZ (ww hw 44 rfl)) (mvT hZ (ww hw 45 rfl)) (by decide) (backOf (W := 0) (rm8_0 l Z a0 hw [] w_NONE h0 n0 O0 S) hZ (ww hw 45 rfl) (ww hw 44 rfl) (by decide) (by decide)) (g := (mkF m 19 #[va o0, vi 0, vl q0, ss, vl q1, ss, uu] [(.int 0), (.int 4)])) rfl (by rw [hml]; rfl) (argsL := [(.int 4), (.int 0)]) (rest := []) (lenOf pd_7 rfl) rfl (by show 2 * 0 + _ ≤ _; exact Nat.le_of_eq rfl) (hb hby d7_19) (fun _ _ => ⟨rfl, e4, (by decide : 0 + 0 ≤ _), (by decide : 0 + 0 ≤ _)⟩)
  dsimp only [Pt.U, Pt.locs, Pt.cells, Pt.slots] at X5 l5 y5 z5 st5 hQ5
  subst l5 y5 z5
  obtain ⟨rfl, Nq5, e5⟩ := hQ5
  have N5 := Fr.app N0 Nq5
  obtain ⟨T6, X6, e6, st6⟩ := getF X5 hx hZ hown (host := "") (Or.inl (ww hw 18 rfl)) Via.refl e5 F_firsts_o0 (g := (mkF m 26 #[va o0, vi 0, vl q0, ss, vl q1, ss, vi 4] [(.ref o0), (.ref o0)])) rfl rfl (hb hby d7_26)
  obtain ⟨_, _, ⟨T7, L7, k7, n7⟩, -, X7, ⟨Lc7, hQ7, l7, y7, z7⟩, st7⟩ := Jvm.LawKit.callS X6 hx (y := (⟨"java/util/Arrays", "copyOf", "([JI)[J"⟩ : MethodName)) hown (mvT hZ (ww hw 46 rfl)) (mvT hZ (ww hw 47 rfl)) (mvT hZ (ww hw 48 rfl)) (mvT hZ (ww hw 49 rfl)) (by decide) (backOf (W := 1) (rm9_0 l Z a0 hw [] w_NONE h0 n0 O0 S) hZ (ww hw 49 rfl) (ww hw 48 rfl) (by decide) (by decide)) (g := (mkF m 31 #[va o0, vi 0, vl q0, ss, vl q1, ss, vi 4] [(.int 4), (.ref w_NONE), (.ref o0)])) rfl (by rw [hml]; rfl) (argsL := [(.ref w_NONE), (.int 4)]) (rest := [(.ref o0)]) (lenOf pd_8 rfl) rfl (by show 2 * 0 + _ ≤ _; exact Nat.le_of_eq rfl) (hb hby d7_31) (fun _ _ => ⟨rfl, e6, (by decide : 0 + 1 ≤ _), (by decide : 0 + 4 ≤ _)⟩)
  dsimp only [Pt.U, Pt.locs, Pt.cells, Pt.slots] at X7 l7 y7 z7 st7 hQ7
  subst l7 y7 z7
  obtain ⟨b2_7, k2_7, rfl, Nq7, Kc7, P0_7, P1_7⟩ := hQ7
  have N7 := Fr.app N5 Nq7
  have ne_o0_b2_7 : o0 ≠ b2_7 := Nat.ne_of_lt (Nat.lt_of_lt_of_le E_o0.lt P1_7)
  have g_b2_7 : n0 ≤ b2_7 := Nat.le_trans (own_old O0) P1_7
  have sz_b2_7 : h0.size ≤ b2_7 := Nat.le_trans K0.1 P1_7
  have O7 := O0.keep Kc7 all0
  have K7 : Keep h0 T7.heap [o0] := K0.trans Kc7 all0
  have fc8 := (F_firsts_o0.keep Kc7 nin0)
  have fc9 := (E_o0.keep Kc7)
  obtain ⟨T10, h10, X10, e10, W10, st10⟩ := putF X7 hx hZ hown (host := "") (Or.inl (ww hw 18 rfl)) Via.refl rfl fc8 fc9 (Or.inl (ww hw 19 rfl)) (ww hw 4 rfl) (ty := (.array .long)) (by decide) rfl rfl (g := (mkF m 34 #[va o0, vi 0, vl q0, ss, vl q1, ss, vi 4] [(.ref b2_7), (.ref o0)])) rfl rfl (hb hby d7_34)
  have Fw10 := fc8.same W10
  have O10 := O7.wr W10 g_o0
  have K10 : Keep h0 h10 [o0] := K7.wr W10 (Or.inl (List.mem_of_getElem? (i := 0) rfl))
  have N10 := Fr.snoc X10 N7 g_o0
  have fc11 := ((F_lasts_o0.keep Kc7 nin0).other W10 (Or.inr (slot_ne (Or.inl (ww hw 21 rfl)) (Or.inl (ww hw 19 rfl)) (by decide) (t := (.array .long)) (t' := (.array .long)) (by decide) (by decide))))
  obtain ⟨T12, X12, e12, st12⟩ := getF X10 hx hZ hown (host := "") (Or.inl (ww hw 20 rfl)) Via.refl e10 fc11 (g := (mkF m 39 #[va o0, vi 0, vl q0, ss, vl q1, ss, vi 4] [(.ref o0), (.ref o0)])) rfl rfl (hb hby d7_39)
  obtain ⟨_, _, ⟨T13, L13, k13, n13⟩, -, X13, ⟨Lc13, hQ13, l13, y13, z13⟩, st13⟩ := Jvm.LawKit.callS X12 hx (y := (⟨"java/util/Arrays", "copyOf", "([JI)[J"⟩ : MethodName)) hown (mvT hZ (ww hw 46 rfl)) (mvT hZ (ww hw 47 rfl)) (mvT hZ (ww hw 48 rfl)) (mvT hZ (ww hw 49 rfl)) (by decide) (backOf (W := 1) (rm9_0 l Z a0 hw [] w_NONE h10 n0 O10 S) hZ (ww hw 49 rfl) (ww hw 48 rfl) (by decide) (by decide)) (g := (mkF m 44 #[va o0, vi 0, vl q0, ss, vl q1, ss, vi 4] [(.int 4), (.ref w_NONE), (.ref o0)])) rfl (by rw [hml]; rfl) (argsL := [(.ref w_NONE), (.int 4)]) (rest := [(.ref o0)]) (lenOf pd_8 rfl) rfl (by show 2 * 0 + _ ≤ _; exact Nat.le_of_eq rfl) (hb hby d7_44) (fun _ _ => ⟨rfl, e12, (by decide : 1 + 1 ≤ _), (by decide : 4 + 4 ≤ _)⟩)
  dsimp only [Pt.U, Pt.locs, Pt.cells, Pt.slots] at X13 l13 y13 z13 st13 hQ13
  subst l13 y13 z13
  have fc14 := (fc9.wr W10)
  have fc15 := (P0_7.other W10 (Ne.symm ne_o0_b2_7))
  obtain ⟨b2_13, k2_13, rfl, Nq13, Kc13, P0_13, P1_13⟩ := hQ13
  have N13 := Fr.app N10 Nq13
  have ne_o0_b2_13 : o0 ≠ b2_13 := Nat.ne_of_lt (Nat.lt_of_lt_of_le fc14.lt P1_13)
  have ne_b2_7_b2_13 : b2_7 ≠ b2_13 := Nat.ne_of_lt (Nat.lt_of_lt_of_le fc15.lt P1_13)
  have g_b2_13 : n0 ≤ b2_13 := Nat.le_trans (own_old O10) P1_13
  have sz_b2_13 : h0.size ≤ b2_13 := Nat.le_trans K10.1 P1_13
  have O13 := O10.keep Kc13 all0
  have K13 : Keep h0 T13.heap [o0] := K10.trans Kc13 all0
  have fc16 := (fc11.keep Kc13 nin0)
  have fc17 := (fc14.keep Kc13)
  obtain ⟨T18, h18, X18, e18, W18, st18⟩ := putF X13 hx hZ hown (host := "") (Or.inl (ww hw 20 rfl)) Via.refl rfl fc16 fc17 (Or.inl (ww hw 21 rfl)) (ww hw 4 rfl) (ty := (.array .long)) (by decide) rfl rfl (g := (mkF m 47 #[va o0, vi 0, vl q0, ss, vl q1, ss, vi 4] [(.ref b2_13), (.ref o0)])) rfl rfl (hb hby d7_47)
  have Fw18 := fc16.same W18
  have O18 := O13.wr W18 g_o0
  have K18 : Keep h0 h18 [o0] := K13.wr W18 (Or.inl (List.mem_of_getElem? (i := 0) rfl))
  have N18 := Fr.snoc X18 N13 g_o0
  have fc19 := ((Fw10.keep Kc13 nin0).other W18 (Or.inr (slot_ne (Or.inl (ww hw 19 rfl)) (Or.inl (ww hw 21 rfl)) (by decide) (t := (.array .long)) (t' := (.array .long)) (by decide) (by decide))))
  obtain ⟨T20, X20, e20, st20⟩ := getF X18 hx hZ hown (host := "") (Or.inl (ww hw 18 rfl)) Via.refl e18 fc19 (g := (mkF m 51 #[va o0, vi 0, vl q0, ss, vl q1, ss, vi 4] [(.ref o0)])) rfl rfl (hb hby d7_51)
  obtain ⟨T21, X21, e21, st21⟩ := getF X20 hx hZ hown (host := "") (Or.inl (ww hw 18 rfl)) Via.refl e20 fc19 (g := (mkF m 56 #[va o0, vi 0, vl q0, ss, vl q1, ss, vi 4] [(.ref o0), (.int 0), (.ref b2_7)])) rfl rfl (hb hby d7_56)
  have fc22 := ((((F_ranges_o0.keep Kc7 nin0).other W10 (Or.inr (slot_ne (Or.inl (ww hw 37 rfl)) (Or.inl (ww hw 19 rfl)) (by decide) (t := .int) (t' := (.array .long)) (by decide) (by decide)))).keep Kc13 nin0).other W18 (Or.inr (slot_ne (Or.inl (ww hw 37 rfl)) (Or.inl (ww hw 21 rfl)) (by decide) (t := .int) (t' := (.array .long)) (by decide) (by decide))))
  obtain ⟨T23, X23, e23, st23⟩ := getF X21 hx hZ hown (host := "") (Or.inl (ww hw 36 rfl)) Via.refl e21 fc22 (g := (mkF m 63 #[va o0, vi 0, vl q0, ss, vl q1, ss, vi 4] [(.ref o0), (.int 1), (.ref b2_7), (.int 0), (.ref b2_7)])) rfl rfl (hb hby d7_63)
  have fc24 := ((fc15.keep Kc13 nin0).other W18 (Ne.symm ne_o0_b2_7))
  obtain ⟨T25, h25, L25, X25, e25, N25, Kc25, Vc25, st25⟩ := cpA X23 hx hZ hown (ww hw 58 rfl) (ww hw 57 rfl) (ww hw 55 rfl) (ww hw 56 rfl) e23 fc24 fc24 (us := []) (Or.inl ⟨rfl, rfl⟩) (sp := (0 : Int32)) (dp := (1 : Int32)) (nn := (0 : Int32)) (by decide) (by decide) (by decide) (by decide) (by decide) rfl (Nat.le_of_ble_eq_true rfl) N18 g_b2_7 (g := (mkF m 68 #[va o0, vi 0, vl q0, ss, vl q1, ss, vi 4] [(.int 0), (.int 1), (.ref b2_7), (.int 0), (.ref b2_7)])) rfl (by rw [hml]; rfl) (rest := []) rfl (hb hby d7_68) (by decide) (W := 0) (by show 2 * 0 + _ ≤ _; exact Nat.le_of_eq rfl) (by decide)
  have V25 : Arv Z h25 b2_7 k2_7 .long (4 : Int32) [(.long 0), (.long 0), (.long 0), (.long 0)] (.long 0) := Vc25
  have O25 := O18.keep Kc25 (allS g_b2_7 all0)
  have K25 : Keep h0 h25 [o0] := K18.trans Kc25 (allS (Or.inr sz_b2_7) all0)
  have fc26 := (Fw18.keep Kc25 (ninS ne_o0_b2_7 nin0))
  obtain ⟨T27, X27, e27, st27⟩ := getF X25 hx hZ hown (host := "") (Or.inl (ww hw 20 rfl)) Via.refl e25 fc26 (g := (mkF m 72 #[va o0, vi 0, vl q0, ss, vl q1, ss, vi 4] [(.ref o0)])) rfl rfl (hb hby d7_72)
  obtain ⟨T28, X28, e28, st28⟩ := getF X27 hx hZ hown (host := "") (Or.inl (ww hw 20 rfl)) Via.refl e27 fc26 (g := (mkF m 77 #[va o0, vi 0, vl q0, ss, vl q1, ss, vi 4] [(.ref o0), (.int 0), (.ref b2_13)])) rfl rfl (hb hby d7_77)
  have fc29 := (fc22.keep Kc25 (ninS ne_o0_b2_7 nin0))
  obtain ⟨T30, X30, e30, st30⟩ := getF X28 hx hZ hown (host := "") (Or.inl (ww hw 36 rfl)) Via.refl e28 fc29 (g := (mkF m 84 #[va o0, vi 0, vl q0, ss, vl q1, ss, vi 4] [(.ref o0), (.int 1), (.ref b2_13), (.int 0), (.ref b2_13)])) rfl rfl (hb hby d7_84)
  have fc31 := ((P0_13.other W18 (Ne.symm ne_o0_b2_13)).keep Kc25 (ninS (Ne.symm ne_b2_7_b2_13) nin0))
  obtain ⟨T32, h32, L32, X32, e32, N32, Kc32, Vc32, st32⟩ := cpA X30 hx hZ hown (ww hw 58 rfl) (ww hw 57 rfl) (ww hw 55 rfl) (ww hw 56 rfl) e30 fc31 fc31 (us := []) (Or.inl ⟨rfl, rfl⟩) (sp := (0 : Int32)) (dp := (1 : Int32)) (nn := (0 : Int32)) (by decide) (by decide) (by decide) (by decide) (by decide) rfl (Nat.le_of_ble_eq_true rfl) N25 g_b2_13 (g := (mkF m 89 #[va o0, vi 0, vl q0, ss, vl q1, ss, vi 4] [(.int 0), (.int 1), (.ref b2_13), (.int 0), (.ref b2_13)])) rfl (by rw [hml]; rfl) (rest := []) rfl (hb hby d7_89) (by decide) (W := 0) (by show 2 * 0 + _ ≤ _; exact Nat.le_of_eq rfl) (by decide)
  have V32 : Arv Z h32 b2_13 k2_13 .long (4 : Int32) [(.long 0), (.long 0), (.long 0), (.long 0)] (.long 0) := Vc32
  have O32 := O25.keep Kc32 (allS g_b2_13 all0)
  have K32 : Keep h0 h32 [o0] := K25.trans Kc32 (allS (Or.inr sz_b2_13) all0)
  have fc33 := ((fc19.keep Kc25 (ninS ne_o0_b2_7 nin0)).keep Kc32 (ninS ne_o0_b2_13 nin0))
  obtain ⟨T34, X34, e34, st34⟩ := getF X32 hx hZ hown (host := "") (Or.inl (ww hw 18 rfl)) Via.refl e32 fc33 (g := (mkF m 93 #[va o0, vi 0, vl q0, ss, vl q1, ss, vi 4] [(.ref o0)])) rfl rfl (hb hby d7_93)
  have fc35 := (V25.keep Kc32 (ninS ne_b2_7_b2_13 nin0))
  obtain ⟨cl36, Ar36, qk36, Sz36, Ng36, Hh36, Gg36⟩ := id fc35
  have hin36_0 : ¬ ((0 : Int32) < 0 ∨ cl36.slots.size ≤ ((0 : Int32)).toNatClampNeg) := inb_of Sz36 ⟨by decide, by decide⟩
  obtain ⟨T37, h37, X37, e37, W37, st37⟩ := stJ X34 hx hZ e34 Ar36 (j := (0 : Int32)) hin36_0 (g := (mkF m 98 #[va o0, vi 0, vl q0, ss, vl q1, ss, vi 4] [(.long q0), (.int 0), (.ref b2_7)])) rfl rfl (hb hby d7_98)
  have V37 : Arv Z h37 b2_7 k2_7 .long (4 : Int32) [(.long q0), (.long 0), (.long 0), (.long 0)] (.long 0) := Arv.set Ar36 qk36 Sz36 Ng36 Hh36 Gg36 rfl W37 0 rfl (Nat.le_of_ble_eq_true rfl)
  have O37 := O32.wr W37 g_b2_7
  have K37 : Keep h0 h37 [o0] := K32.wr W37 (Or.inr sz_b2_7)
  have N37 := Fr.snoc X37 N32 g_b2_7
  have fc38 := ((fc26.keep Kc32 (ninS ne_o0_b2_13 nin0)).other W37 (Or.inl ne_o0_b2_7))
  obtain ⟨T39, X39, e39, st39⟩ := getF X37 hx hZ hown (host := "") (Or.inl (ww hw 20 rfl)) Via.refl e37 fc38 (g := (mkF m 100 #[va o0, vi 0, vl q0, ss, vl q1, ss, vi 4] [(.ref o0)])) rfl rfl (hb hby d7_100)
  have fc40 := (V32.other W37 (Ne.symm ne_b2_7_b2_13))
  obtain ⟨cl41, Ar41, qk41, Sz41, Ng41, Hh41, Gg41⟩ := id fc40
  have hin41_0 : ¬ ((0 : Int32) < 0 ∨ cl41.slots.size ≤ ((0 : Int32)).toNatClampNeg) := inb_of Sz41 ⟨by decide, by decide⟩
  obtain ⟨T42, h42, X42, e42, W42, st42⟩ := stJ X39 hx hZ e39 Ar41 (j := (0 : Int32)) hin41_0 (g := (mkF m 106 #[va o0, vi 0, vl q0, ss, vl q1, ss, vi 4] [(.long q1), (.int 0), (.ref b2_13)])) rfl rfl (hb hby d7_106)
  have V42 : Arv Z h42 b2_13 k2_13 .long (4 : Int32) [(.long q1), (.long 0), (.long 0), (.long 0)] (.long 0) := Arv.set Ar41 qk41 Sz41 Ng41 Hh41 Gg41 rfl W42 0 rfl (Nat.le_of_ble_eq_true rfl)
  have O42 := O37.wr W42 g_b2_13
  have K42 : Keep h0 h42 [o0] := K37.wr W42 (Or.inr sz_b2_13)
  have N42 := Fr.snoc X42 N37 g_b2_13
  have fc43 := (((fc29.keep Kc32 (ninS ne_o0_b2_13 nin0)).other W37 (Or.inl ne_o0_b2_7)).other W42 (Or.inl ne_o0_b2_13))
  obtain ⟨T44, X44, e44, st44⟩ := getF X42 hx hZ hown (host := "") (Or.inl (ww hw 36 rfl)) Via.refl e42 fc43 (g := (mkF m 109 #[va o0, vi 0, vl q0, ss, vl q1, ss, vi 4] [(.ref o0), (.ref o0)])) rfl rfl (hb hby d7_109)
  have fc45 := (((((fc17.wr W18).keep Kc25).keep Kc32).wr W37).wr W42)
  obtain ⟨T46, h46, X46, e46, W46, st46⟩ := putF X44 hx hZ hown (host := "") (Or.inl (ww hw 36 rfl)) Via.refl e44 fc43 fc45 (Or.inl (ww hw 37 rfl)) (ww hw 4 rfl) (ty := .int) (by decide) rfl rfl (g := (mkF m 114 #[va o0, vi 0, vl q0, ss, vl q1, ss, vi 4] [(.int 1), (.ref o0)])) rfl rfl (hb hby d7_114)
  have Fw46 := fc43.same W46
  have O46 := O42.wr W46 g_o0
  have K46 : Keep h0 h46 [o0] := K42.wr W46 (Or.inl (List.mem_of_getElem? (i := 0) rfl))
  have N46 := Fr.snoc X46 N42 g_o0
  obtain ⟨fs, hr, hrun, hended, hW, hsame⟩ := X46.leave (v := none) (fun _ => rfl)
  have fc47 := (fc45.wr W46)
  have fc48 := (((((((((F_count_o0.keep Kc7 nin0).other W10 (Or.inr (slot_ne (Or.inl (ww hw 60 rfl)) (Or.inl (ww hw 19 rfl)) (by decide) (t := .long) (t' := (.array .long)) (by decide) (by decide)))).keep Kc13 nin0).other W18 (Or.inr (slot_ne (Or.inl (ww hw 60 rfl)) (Or.inl (ww hw 21 rfl)) (by decide) (t := .long) (t' := (.array .long)) (by decide) (by decide)))).keep Kc25 (ninS ne_o0_b2_7 nin0)).keep Kc32 (ninS ne_o0_b2_13 nin0)).other W37 (Or.inl ne_o0_b2_7)).other W42 (Or.inl ne_o0_b2_13)).other W46 (Or.inr (slot_ne (Or.inl (ww hw 60 rfl)) (Or.inl (ww hw 37 rfl)) (by decide) (t := .long) (t' := .int) (by decide) (by decide))))
  have fc49 := (((fc33.other W37 (Or.inl ne_o0_b2_7)).other W42 (Or.inl ne_o0_b2_13)).other W46 (Or.inr (slot_ne (Or.inl (ww hw 19 rfl)) (Or.inl (ww hw 37 rfl)) (by decide) (t := (.array .long)) (t' := .int) (by decide) (by decide))))
  have fc50 := ((fc38.other W42 (Or.inl ne_o0_b2_13)).other W46 (Or.inr (slot_ne (Or.inl (ww hw 21 rfl)) (Or.inl (ww hw 37 rfl)) (by decide) (t := (.array .long)) (t' := .int) (by decide) (by decide))))
  have fc51 := (((((((((F_maxRanges_o0.keep Kc7 nin0).other W10 (Or.inr (slot_ne (Or.inr (ww hw 23 rfl)) (Or.inl (ww hw 19 rfl)) (by decide) (t := .int) (t' := (.array .long)) (by decide) (by decide)))).keep Kc13 nin0).other W18 (Or.inr (slot_ne (Or.inr (ww hw 23 rfl)) (Or.inl (ww hw 21 rfl)) (by decide) (t := .int) (t' := (.array .long)) (by decide) (by decide)))).keep Kc25 (ninS ne_o0_b2_7 nin0)).keep Kc32 (ninS ne_o0_b2_13 nin0)).other W37 (Or.inl ne_o0_b2_7)).other W42 (Or.inl ne_o0_b2_13)).other W46 (Or.inr (slot_ne (Or.inr (ww hw 23 rfl)) (Or.inl (ww hw 37 rfl)) (by decide) (t := .int) (t' := .int) (by decide) (by decide))))
  have fc52 := ((V37.other W42 ne_b2_7_b2_13).other W46 (Ne.symm ne_o0_b2_7))
  have fc53 := (V42.other W46 (Ne.symm ne_o0_b2_13))
  refine ⟨_, _, ?_, hrun, hended, _, _, rfl, ?_, ⟨_, rfl⟩, hW, hsame.mono (by decide) (by decide)⟩
  · show Steps p.tables e below (s₁.setTop (mkF m 0 #[va o0, vi 0, vl q0, ss, vl q1, ss, uu] [])) _
    refine XS.aloadN X0.here hx rfl (hb hby d7_0) rfl rfl ?_
    refine st1 _ ?_
    refine XS.aloadN X1.here hx rfl (hb hby d7_4) rfl rfl ?_
    refine st2 _ ?_
    refine X2.arraylength hx (by rw [e2]; exact Ar3.1) (State.isArrayOf_alike hZ.alike Ar3.2.1) (g := (mkF m 8 #[va o0, vi 0, vl q0, ss, vl q1, ss, uu] [(.ref w_NONE), (.int 0)])) rfl rfl (hb hby d7_8) _ ?_
    rw [len_of Sz3 Ng3]
    refine XS.icmpNo X2.here hx rfl (hb hby d7_9) rfl (teq (by decide : (0 : Int32) = (0 : Int32))).2 ?_
    refine XS.iconst X2.here hx rfl (hb hby d7_12) ?_
    refine XS.iconst X2.here hx rfl (hb hby d7_13) ?_
    show Steps p.tables e below (T2.setTop (mkF m 14 #[va o0, vi 0, vl q0, ss, vl q1, ss, uu] [(.int 2), (.int 4)])) _
    refine XS.aloadN X2.here hx rfl (hb hby d7_14) rfl rfl ?_
    refine st4 _ ?_
    refine XS.imul X4.here hx rfl (hb hby d7_18) rfl ?_
    show Steps p.tables e below (T4.setTop (mkF m 19 #[va o0, vi 0, vl q0, ss, vl q1, ss, uu] [(.int ((2 : Int32) * (0 : Int32))), (.int 4)])) _
    rw [show (((2 : Int32) * (0 : Int32)) : Int32) = (0 : Int32) from by decide]
    refine st5 _ ?_
    refine XS.istore X5.here hx rfl (hb hby d7_22) rfl (l' := #[va o0, vi 0, vl q0, ss, vl q1, ss, vi 4]) rfl ?_
    refine XS.aloadN X5.here hx rfl (hb hby d7_24) rfl rfl ?_
    refine XS.aloadN X5.here hx rfl (hb hby d7_25) rfl rfl ?_
    refine st6 _ ?_
    refine XS.iload X6.here hx rfl (hb hby d7_29) rfl ?_
    refine st7 _ ?_
    show Steps p.tables e below (T7.setTop (mkF m 34 #[va o0, vi 0, vl q0, ss, vl q1, ss, vi 4] [(.ref b2_7), (.ref o0)])) _
    refine st10 _ ?_
    refine XS.aloadN X10.here hx rfl (hb hby d7_37) rfl rfl ?_
    refine XS.aloadN X10.here hx rfl (hb hby d7_38) rfl rfl ?_
    refine st12 _ ?_
    refine XS.iload X12.here hx rfl (hb hby d7_42) rfl ?_
    refine st13 _ ?_
    refine st18 _ ?_
    refine XS.aloadN X18.here hx rfl (hb hby d7_50) rfl rfl ?_
    show Steps p.tables e below (T18.setTop (mkF m 51 #[va o0, vi 0, vl q0, ss, vl q1, ss, vi 4] [(.ref o0)])) _
    refine st20 _ ?_
    refine XS.iloadN X20.here hx rfl (hb hby d7_54) rfl ?_
    refine XS.aloadN X20.here hx rfl (hb hby d7_55) rfl rfl ?_
    refine st21 _ ?_
    refine XS.iloadN X21.here hx rfl (hb hby d7_59) rfl ?_
    refine XS.iconst X21.here hx rfl (hb hby d7_60) ?_
    refine XS.iadd X21.here hx rfl (hb hby d7_61) rfl ?_
    show Steps p.tables e below (T21.setTop (mkF m 62 #[va o0, vi 0, vl q0, ss, vl q1, ss, vi 4] [(.int ((0 : Int32) + (1 : Int32))), (.ref b2_7), (.int 0), (.ref b2_7)])) _
    rw [show (((0 : Int32) + (1 : Int32)) : Int32) = (1 : Int32) from by decide]
    refine XS.aloadN X21.here hx rfl (hb hby d7_62) rfl rfl ?_
    refine st23 _ ?_
    refine XS.iloadN X23.here hx rfl (hb hby d7_66) rfl ?_
    refine XS.isub X23.here hx rfl (hb hby d7_67) rfl ?_
    show Steps p.tables e below (T23.setTop (mkF m 68 #[va o0, vi 0, vl q0, ss, vl q1, ss, vi 4] [(.int ((0 : Int32) - (0 : Int32))), (.int 1), (.ref b2_7), (.int 0), (.ref b2_7)])) _
    rw [show (((0 : Int32) - (0 : Int32)) : Int32) = (0 : Int32) from by decide]
    refine st25 _ ?_
    refine XS.aloadN X25.here hx rfl (hb hby d7_71) rfl rfl ?_
    refine st27 _ ?_
    refine XS.iloadN X27.here hx rfl (hb hby d7_75) rfl ?_
    refine XS.aloadN X27.here hx rfl (hb hby d7_76) rfl rfl ?_
    refine st28 _ ?_
    refine XS.iloadN X28.here hx rfl (hb hby d7_80) rfl ?_
    show Steps p.tables e below (T28.setTop (mkF m 81 #[va o0, vi 0, vl q0, ss, vl q1, ss, vi 4] [(.int 0), (.ref b2_13), (.int 0), (.ref b2_13)])) _
    refine XS.iconst X28.here hx rfl (hb hby d7_81) ?_
    refine XS.iadd X28.here hx rfl (hb hby d7_82) rfl ?_
    show Steps p.tables e below (T28.setTop (mkF m 83 #[va o0, vi 0, vl q0, ss, vl q1, ss, vi 4] [(.int ((0 : Int32) + (1 : Int32))), (.ref b2_13), (.int 0), (.ref b2_13)])) _
    rw [show (((0 : Int32) + (1 : Int32)) : Int32) = (1 : Int32) from by decide]
    refine XS.aloadN X28.here hx rfl (hb hby d7_83) rfl rfl ?_
    refine st30 _ ?_
    refine XS.iloadN X30.here hx rfl (hb hby d7_87) rfl ?_
    refine XS.isub X30.here hx rfl (hb hby d7_88) rfl ?_
    show Steps p.tables e below (T30.setTop (mkF m 89 #[va o0, vi 0, vl q0, ss, vl q1, ss, vi 4] [(.int ((0 : Int32) - (0 : Int32))), (.int 1), (.ref b2_13), (.int 0), (.ref b2_13)])) _
    rw [show (((0 : Int32) - (0 : Int32)) : Int32) = (0 : Int32) from by decide]
    refine st32 _ ?_
    refine XS.aloadN X32.here hx rfl (hb hby d7_92) rfl rfl ?_
    refine st34 _ ?_
    refine XS.iloadN X34.here hx rfl (hb hby d7_96) rfl ?_
    refine XS.lloadN X34.here hx rfl (hb hby d7_97) rfl ?_
    refine st37 _ ?_
    refine XS.aloadN X37.here hx rfl (hb hby d7_99) rfl rfl ?_
    show Steps p.tables e below (T37.setTop (mkF m 100 #[va o0, vi 0, vl q0, ss, vl q1, ss, vi 4] [(.ref o0)])) _
    refine st39 _ ?_
    refine XS.iloadN X39.here hx rfl (hb hby d7_103) rfl ?_
    refine XS.lload X39.here hx rfl (hb hby d7_104) rfl ?_
    refine st42 _ ?_
    refine XS.aloadN X42.here hx rfl (hb hby d7_107) rfl rfl ?_
    refine XS.dup X42.here hx rfl (hb hby d7_108) rfl rfl ?_
    refine st44 _ ?_
    refine XS.iconst X44.here hx rfl (hb hby d7_112) ?_
    show Steps p.tables e below (T44.setTop (mkF m 113 #[va o0, vi 0, vl q0, ss, vl q1, ss, vi 4] [(.int 1), (.int 0), (.ref o0)])) _
    refine XS.iadd X44.here hx rfl (hb hby d7_113) rfl ?_
    show Steps p.tables e below (T44.setTop (mkF m 114 #[va o0, vi 0, vl q0, ss, vl q1, ss, vi 4] [(.int ((0 : Int32) + (1 : Int32))), (.ref o0)])) _
    rw [show (((0 : Int32) + (1 : Int32)) : Int32) = (1 : Int32) from by decide]
    refine st46 _ ?_
    exact X46.returnOut hx hrt (hb hby d7_117) hr
  · show Q7_0 Z w_NONE o0 q0 q1 h0 n0 none T46.heap _
    rw [e46]; exact ⟨b2_7, b2_13, k2_7, k2_13, rfl, N46, K46, fc47, fc48, fc49, fc50, fc51, Fw46, fc52, fc53, sz_b2_7, sz_b2_13, ne_b2_7_b2_13⟩
theorem pd_9 : parseMethodDescriptor "(IJJ)V" = some ⟨[.int, .long, .long], none⟩ := by decide +kernel
theorem d4_88 : decode prog_55_method_8_code 88 = .ok (.aload_n 0, 1) := by decide +kernel
theorem d4_89 : decode prog_55_method_8_code 89 = .ok (.dup, 1) := by decide +kernel
theorem d4_90 : decode prog_55_method_8_code 90 = .ok (.getfield 43, 3) := by decide +kernel
theorem d4_93 : decode prog_55_method_8_code 93 = .ok (.lload_n 3, 1) := by decide +kernel
theorem d4_94 : decode prog_55_method_8_code 94 = .ok (.lload_n 1, 1) := by decide +kernel
theorem d4_95 : decode prog_55_method_8_code 95 = .ok (.lsub, 1) := by decide +kernel
theorem d4_96 : decode prog_55_method_8_code 96 = .ok (.lconst 1, 1) := by decide +kernel
theorem d4_97 : decode prog_55_method_8_code 97 = .ok (.ladd, 1) := by decide +kernel
theorem d4_98 : decode prog_55_method_8_code 98 = .ok (.ladd, 1) := by decide +kernel
theorem d4_99 : decode prog_55_method_8_code 99 = .ok (.putfield 43, 3) := by decide +kernel
theorem d4_102 : decode prog_55_method_8_code 102 = .ok (.goto 121, 3) := by decide +kernel
theorem d4_223 : decode prog_55_method_8_code 223 = .ok (.iconst 1, 1) := by decide +kernel
theorem d4_224 : decode prog_55_method_8_code 224 = .ok (.ireturn, 1) := by decide +kernel
def Q4_0 (Z : State) (w_NONE : Addr) (o0 : Addr) (q0 : Int64) (q1 : Int64) (h0 : Heap) (n0 : Nat) (v : Option Value) (h : Heap) (L : List Loc) : Prop := ∃ (b2_7_6 : Addr), ∃ (b2_13_6 : Addr), ∃ (k2_7_6 : ClassId), ∃ (k2_13_6 : ClassId), v = (some (.int 1)) ∧ Fr n0 L ∧ Keep h0 h [o0] ∧ Exa Z h o0 sC0 ∧ Fld Z h o0 sC0 "count" "J" (.long ((0 : Int64) + ((q1 - q0) + (1 : Int64)))) ∧ Fld Z h o0 sC0 "firsts" "[J" (.ref b2_7_6) ∧ Fld Z h o0 sC0 "lasts" "[J" (.ref b2_13_6) ∧ Fld Z h o0 sC0 "maxRanges" "I" (.int 2147483647) ∧ Fld Z h o0 sC0 "ranges" "I" (.int 1) ∧ Arv Z h b2_7_6 k2_7_6 .long (4 : Int32) [(.long q0), (.long 0), (.long 0), (.long 0)] (.long 0) ∧ Arv Z h b2_13_6 k2_13_6 .long (4 : Int32) [(.long q1), (.long 0), (.long 0), (.long 0)] (.long 0) ∧ h0.size ≤ b2_7_6 ∧ h0.size ≤ b2_13_6 ∧ b2_7_6 ≠ b2_13_6
theorem rm4_0 (l : Launch) (Z : State) (a0 : Array Value) (hw : HW Z a0) (ws : List Jvm.Cond) (w_NONE : Addr) (o0 : Addr) (q0 : Int64) (q1 : Int64) (h0 : Heap) (n0 : Nat) (O0 : Old Z n0 h0) (S : SF Z w_NONE) (E_o0 : Exa Z h0 o0 sC0) (F_count_o0 : Fld Z h0 o0 sC0 "count" "J" (.long 0)) (F_firsts_o0 : Fld Z h0 o0 sC0 "firsts" "[J" (.ref w_NONE)) (F_lasts_o0 : Fld Z h0 o0 sC0 "lasts" "[J" (.ref w_NONE)) (F_maxRanges_o0 : Fld Z h0 o0 sC0 "maxRanges" "I" (.int 2147483647)) (F_ranges_o0 : Fld Z h0 o0 sC0 "ranges" "I" (.int 0)) (g_o0 : n0 ≤ o0) (hc0 : ¬ (q0 < (0 : Int64))) (hc1 : ¬ (q1 < q0)) (hc2 : ¬ (q0 = (0 : Int64))) :
    Pay l Z My4 ws prog_55_method_8_code 13 (some .boolean) #[(.ref o0), (.long q0), (.long q1)] h0 ({ frames := 3, cells := 2, slots := 8, locals := 51 } : Room) (Q4_0 Z w_NONE o0 q0 q1 h0 n0) := by
  refine own_body (plainFor_of_name pn_1) (L0 := #[va o0, vl q0, ss, vl q1, ss, uu, uu, uu, uu, uu, uu, uu, uu]) (fun _ => by first | rfl | (simp [entryFrame, mkF, argsToLocals, Value.category]; done)) ?_
  intro p e s m below meth c s₁ hrt hlk hx hby hml hZ hown0 hnm X0 e0
  have hown : s.vm.findClass sC0 = some m.cls := hown0
  have N0 := Fr.nil n0
  have K0 : Keep h0 h0 [o0] := Keep.refl _ _
  obtain ⟨_, _, ⟨T1, L1, k1, n1⟩, -, X1, ⟨Lc1, hQ1, l1, y1, z1⟩, st1⟩ := Jvm.LawKit.callS X0 hx (y := My5) hown (mvT hZ (ww hw 29 rfl)) (mvT hZ (ww hw 30 rfl)) (mvT hZ (ww hw 5 rfl)) (mvT hZ (ww hw 31 rfl)) (by decide) (backOf (W := 0) (rm5_0 l Z a0 hw [] w_NONE q0 q1 h0 n0 O0 S hc0 hc1) hZ (ww hw 31 rfl) (ww hw 5 rfl) (by decide) (by decide)) (g := (mkF m 2 #[va o0, vl q0, ss, vl q1, ss, uu, uu, uu, uu, uu, uu, uu, uu] [(.long q1), (.long q0)])) rfl (by rw [hml]; rfl) (argsL := [(.long q0), (.long q1)]) (rest := []) (lenOf pd_6 rfl) rfl (by show 2 * 0 + _ ≤ _; exact Nat.le_of_eq rfl) (hb hby d4_2) (fun _ _ => ⟨rfl, e0, (by decide : 0 + 0 ≤ _), (by decide : 0 + 0 ≤ _)⟩)
  dsimp only [Pt.U, Pt.locs, Pt.cells, Pt.slots] at X1 l1 y1 z1 st1 hQ1
  subst l1 y1 z1
  obtain ⟨rfl, Nq1, e1⟩ := hQ1
  have N1 := Fr.app N0 Nq1
  obtain ⟨cq2, qa2, qb2⟩ := E_o0.cell
  obtain ⟨_, _, ⟨T2, L2, k2, n2⟩, -, X2, ⟨Lc2, hQ2, l2, y2, z2⟩, st2⟩ := X1.privateBack hx (y := My6) hown (mvT hZ (ww hw 32 rfl)) (mvT hZ (ww hw 33 rfl)) (own_selp (by decide) (mvT hZ (ww hw 4 rfl)) (mvP hZ (ww hw 34 rfl)) (mvT hZ (ww hw 33 rfl))) (Cond.privateMethod_at (mvP hZ (ww hw 34 rfl) (args := #[]))) (mvT hZ (ww hw 35 rfl)) (by decide) (backOf (W := 0) (rm6_0 l Z a0 hw [] w_NONE o0 (q0 - (1 : Int64)) h0 n0 O0 S F_ranges_o0) hZ (ww hw 35 rfl) (ww hw 5 rfl) (by decide) (by decide)) (g := (mkF m 19 #[va o0, vl q0, ss, vl q1, ss, uu, uu, uu, uu, uu, uu, uu, uu] [(.long (q0 - (1 : Int64))), (.ref o0)])) rfl (by rw [hml]; rfl) (Steps.refl _) (a := o0) (by rw [e1]; exact qa2) qb2 (argsL := [(.long (q0 - (1 : Int64)))]) (rest := []) (lenOf pd_4 rfl) rfl (by show 2 * 0 + _ ≤ _; exact Nat.le_of_eq rfl) (hb hby d4_19) (fun _ _ => ⟨rfl, e1, (by decide : 0 + 0 ≤ _), (by decide : 0 + 0 ≤ _)⟩)
  dsimp only [Pt.U, Pt.locs, Pt.cells, Pt.slots] at X2 l2 y2 z2 st2 hQ2
  subst l2 y2 z2
  obtain ⟨rfl, Nq2, e2⟩ := hQ2
  have N2 := Fr.app N1 Nq2
  obtain ⟨T3, X3, e3, st3⟩ := getF X2 hx hZ hown (host := "") (Or.inl (ww hw 36 rfl)) Via.refl e2 F_ranges_o0 (g := (mkF m 31 #[va o0, vl q0, ss, vl q1, ss, vi 0, vi 0, uu, uu, uu, uu, uu, uu] [(.ref o0), (.int 0)])) rfl rfl (hb hby d4_31)
  obtain ⟨T4, X4, e4, st4⟩ := getF X3 hx hZ hown (host := "") (Or.inl (ww hw 36 rfl)) Via.refl e3 F_ranges_o0 (g := (mkF m 68 #[va o0, vl q0, ss, vl q1, ss, vi 0, vi (-1), uu, uu, uu, uu, uu, uu] [(.ref o0)])) rfl rfl (hb hby d4_68)
  obtain ⟨T5, X5, e5, st5⟩ := getF X4 hx hZ hown (host := "") (Or.inl (ww hw 22 rfl)) Via.refl e4 F_maxRanges_o0 (g := (mkF m 72 #[va o0, vl q0, ss, vl q1, ss, vi 0, vi (-1), uu, uu, uu, uu, uu, uu] [(.ref o0), (.int 0)])) rfl rfl (hb hby d4_72)
  obtain ⟨cq6, qa6, qb6⟩ := E_o0.cell
  obtain ⟨_, _, ⟨T6, L6, k6, n6⟩, -, X6, ⟨Lc6, hQ6, l6, y6, z6⟩, st6⟩ := X5.privateBack hx (y := My7) hown (mvT hZ (ww hw 38 rfl)) (mvT hZ (ww hw 39 rfl)) (own_selp (by decide) (mvT hZ (ww hw 4 rfl)) (mvP hZ (ww hw 40 rfl)) (mvT hZ (ww hw 39 rfl))) (Cond.privateMethod_at (mvP hZ (ww hw 40 rfl) (args := #[]))) (mvT hZ (ww hw 41 rfl)) (by decide) (backOf (W := 0) (rm7_0 l Z a0 hw [] w_NONE o0 q0 q1 h0 n0 O0 S E_o0 F_count_o0 F_firsts_o0 F_lasts_o0 F_maxRanges_o0 F_ranges_o0 g_o0) hZ (ww hw 41 rfl) (ww hw 5 rfl) (by decide) (by decide)) (g := (mkF m 85 #[va o0, vl q0, ss, vl q1, ss, vi 0, vi (-1), uu, uu, uu, uu, uu, uu] [(.long q1), (.long q0), (.int 0), (.ref o0)])) rfl (by rw [hml]; rfl) (Steps.refl _) (a := o0) (by rw [e5]; exact qa6) qb6 (argsL := [(.int 0), (.long q0), (.long q1)]) (rest := []) (lenOf pd_9 rfl) rfl (by show 2 * 0 + _ ≤ _; exact Nat.le_of_eq rfl) (hb hby d4_85) (fun _ _ => ⟨rfl, e5, (by decide : 0 + 2 ≤ _), (by decide : 0 + 8 ≤ _)⟩)
  dsimp only [Pt.U, Pt.locs, Pt.cells, Pt.slots] at X6 l6 y6 z6 st6 hQ6
  subst l6 y6 z6
  obtain ⟨b2_7_6, b2_13_6, k2_7_6, k2_13_6, rfl, Nq6, Kc6, P0_6, P1_6, P2_6, P3_6, P4_6, P5_6, P6_6, P7_6, P8_6, P9_6, P10_6⟩ := hQ6
  have N6 := Fr.app N2 Nq6
  have ne_o0_b2_7_6 : o0 ≠ b2_7_6 := Nat.ne_of_lt (Nat.lt_of_lt_of_le E_o0.lt P8_6)
  have ne_o0_b2_13_6 : o0 ≠ b2_13_6 := Nat.ne_of_lt (Nat.lt_of_lt_of_le E_o0.lt P9_6)
  have g_b2_7_6 : n0 ≤ b2_7_6 := Nat.le_trans (own_old O0) P8_6
  have sz_b2_7_6 : h0.size ≤ b2_7_6 := Nat.le_trans K0.1 P8_6
  have g_b2_13_6 : n0 ≤ b2_13_6 := Nat.le_trans (own_old O0) P9_6
  have sz_b2_13_6 : h0.size ≤ b2_13_6 := Nat.le_trans K0.1 P9_6
  have O6 := O0.keep Kc6 (allS g_o0 all0)
  have K6 : Keep h0 T6.heap [o0] := K0.trans Kc6 (allS (Or.inl (List.mem_of_getElem? (i := 0) rfl)) all0)
  obtain ⟨T7, X7, e7, st7⟩ := getF X6 hx hZ hown (host := "") (Or.inl (ww hw 59 rfl)) Via.refl rfl P1_6 (g := (mkF m 90 #[va o0, vl q0, ss, vl q1, ss, vi 0, vi (-1), uu, uu, uu, uu, uu, uu] [(.ref o0), (.ref o0)])) rfl rfl (hb hby d4_90)
  obtain ⟨T8, h8, X8, e8, W8, st8⟩ := putF X7 hx hZ hown (host := "") (Or.inl (ww hw 59 rfl)) Via.refl e7 P1_6 P0_6 (Or.inl (ww hw 60 rfl)) (ww hw 4 rfl) (ty := .long) (by decide) rfl rfl (g := (mkF m 99 #[va o0, vl q0, ss, vl q1, ss, vi 0, vi (-1), uu, uu, uu, uu, uu, uu] [(.long ((0 : Int64) + ((q1 - q0) + (1 : Int64)))), (.ref o0)])) rfl rfl (hb hby d4_99)
  have Fw8 := P1_6.same W8
  have O8 := O6.wr W8 g_o0
  have K8 : Keep h0 h8 [o0] := K6.wr W8 (Or.inl (List.mem_of_getElem? (i := 0) rfl))
  have N8 := Fr.snoc X8 N6 g_o0
  obtain ⟨fs, hr, hrun, hended, hW, hsame⟩ := X8.leave (v := (some (.int 1))) (fun h => by rw [hrt] at h; cases h)
  have fc9 := (P0_6.wr W8)
  have fc10 := (P2_6.other W8 (Or.inr (slot_ne (Or.inl (ww hw 19 rfl)) (Or.inl (ww hw 60 rfl)) (by decide) (t := (.array .long)) (t' := .long) (by decide) (by decide))))
  have fc11 := (P3_6.other W8 (Or.inr (slot_ne (Or.inl (ww hw 21 rfl)) (Or.inl (ww hw 60 rfl)) (by decide) (t := (.array .long)) (t' := .long) (by decide) (by decide))))
  have fc12 := (P4_6.other W8 (Or.inr (slot_ne (Or.inr (ww hw 23 rfl)) (Or.inl (ww hw 60 rfl)) (by decide) (t := .int) (t' := .long) (by decide) (by decide))))
  have fc13 := (P5_6.other W8 (Or.inr (slot_ne (Or.inl (ww hw 37 rfl)) (Or.inl (ww hw 60 rfl)) (by decide) (t := .int) (t' := .long) (by decide) (by decide))))
  have fc14 := (P6_6.other W8 (Ne.symm ne_o0_b2_7_6))
  have fc15 := (P7_6.other W8 (Ne.symm ne_o0_b2_13_6))
  refine ⟨_, _, ?_, hrun, hended, _, _, rfl, ?_, ⟨_, rfl⟩, hW, hsame.mono (by decide) (by decide)⟩
  · show Steps p.tables e below (s₁.setTop (mkF m 0 #[va o0, vl q0, ss, vl q1, ss, uu, uu, uu, uu, uu, uu, uu, uu] [])) _
    refine XS.lloadN X0.here hx rfl (hb hby d4_0) rfl ?_
    refine XS.lloadN X0.here hx rfl (hb hby d4_1) rfl ?_
    refine st1 _ ?_
    refine XS.aloadN X1.here hx rfl (hb hby d4_5) rfl rfl ?_
    refine XS.lloadN X1.here hx rfl (hb hby d4_6) rfl ?_
    refine XS.lconst X1.here hx rfl (hb hby d4_7) ?_
    refine XS.lcmp X1.here hx rfl (hb hby d4_8) rfl ?_
    refine XS.ifYes X1.here hx rfl (pc0 := 9) (pc' := 16) rfl (hb hby d4_9) rfl (own_lc_eqF hc2).2 (by decide) (by decide) ?_
    show Steps p.tables e below (T1.setTop (mkF m 16 #[va o0, vl q0, ss, vl q1, ss, uu, uu, uu, uu, uu, uu, uu, uu] [(.ref o0)])) _
    refine XS.lloadN X1.here hx rfl (hb hby d4_16) rfl ?_
    refine XS.lconst X1.here hx rfl (hb hby d4_17) ?_
    refine XS.lsub X1.here hx rfl (hb hby d4_18) rfl ?_
    refine st2.trans ?_
    refine XS.istore X2.here hx rfl (hb hby d4_22) rfl (l' := #[va o0, vl q0, ss, vl q1, ss, vi 0, uu, uu, uu, uu, uu, uu, uu]) rfl ?_
    refine XS.iload X2.here hx rfl (hb hby d4_24) rfl ?_
    refine XS.istore X2.here hx rfl (hb hby d4_26) rfl (l' := #[va o0, vl q0, ss, vl q1, ss, vi 0, vi 0, uu, uu, uu, uu, uu, uu]) rfl ?_
    refine XS.iload X2.here hx rfl (hb hby d4_28) rfl ?_
    show Steps p.tables e below (T2.setTop (mkF m 30 #[va o0, vl q0, ss, vl q1, ss, vi 0, vi 0, uu, uu, uu, uu, uu, uu] [(.int 0)])) _
    refine XS.aloadN X2.here hx rfl (hb hby d4_30) rfl rfl ?_
    refine st3 _ ?_
    refine XS.icmpYes X3.here hx rfl (pc0 := 34) (pc' := 57) rfl (hb hby d4_34) rfl (flt (by decide : ¬ ((0 : Int32) < (0 : Int32)))).2.1 (by decide) (by decide) ?_
    refine XS.iinc X3.here hx rfl (hb hby d4_57) rfl (l' := #[va o0, vl q0, ss, vl q1, ss, vi 0, vi ((0 : Int32) + (-1 : Int32)), uu, uu, uu, uu, uu, uu]) rfl ?_
    show Steps p.tables e below (T3.setTop (mkF m 60 #[va o0, vl q0, ss, vl q1, ss, vi 0, vi ((0 : Int32) + (-1 : Int32)), uu, uu, uu, uu, uu, uu] [])) _
    rw [show (((0 : Int32) + (-1 : Int32)) : Int32) = (-1 : Int32) from by decide]
    refine XS.iload X3.here hx rfl (hb hby d4_60) rfl ?_
    refine XS.iload X3.here hx rfl (hb hby d4_62) rfl ?_
    refine XS.icmpNo X3.here hx rfl (hb hby d4_64) rfl (tlt (by decide : (-1 : Int32) < (0 : Int32))).2.1 ?_
    refine XS.aloadN X3.here hx rfl (hb hby d4_67) rfl rfl ?_
    refine st4 _ ?_
    refine XS.aloadN X4.here hx rfl (hb hby d4_71) rfl rfl ?_
    refine st5 _ ?_
    show Steps p.tables e below (T5.setTop (mkF m 75 #[va o0, vl q0, ss, vl q1, ss, vi 0, vi (-1), uu, uu, uu, uu, uu, uu] [(.int 2147483647), (.int 0)])) _
    refine XS.icmpYes X5.here hx rfl (pc0 := 75) (pc' := 80) rfl (hb hby d4_75) rfl (feq (by decide : ¬ ((0 : Int32) = (2147483647 : Int32)))).2 (by decide) (by decide) ?_
    refine XS.aloadN X5.here hx rfl (hb hby d4_80) rfl rfl ?_
    refine XS.iload X5.here hx rfl (hb hby d4_81) rfl ?_
    refine XS.lloadN X5.here hx rfl (hb hby d4_83) rfl ?_
    refine XS.lloadN X5.here hx rfl (hb hby d4_84) rfl ?_
    refine st6.trans ?_
    refine XS.aloadN X6.here hx rfl (hb hby d4_88) rfl rfl ?_
    refine XS.dup X6.here hx rfl (hb hby d4_89) rfl rfl ?_
    show Steps p.tables e below (T6.setTop (mkF m 90 #[va o0, vl q0, ss, vl q1, ss, vi 0, vi (-1), uu, uu, uu, uu, uu, uu] [(.ref o0), (.ref o0)])) _
    refine st7 _ ?_
    refine XS.lloadN X7.here hx rfl (hb hby d4_93) rfl ?_
    refine XS.lloadN X7.here hx rfl (hb hby d4_94) rfl ?_
    refine XS.lsub X7.here hx rfl (hb hby d4_95) rfl ?_
    refine XS.lconst X7.here hx rfl (hb hby d4_96) ?_
    refine XS.ladd X7.here hx rfl (hb hby d4_97) rfl ?_
    refine XS.ladd X7.here hx rfl (hb hby d4_98) rfl ?_
    refine st8 _ ?_
    show Steps p.tables e below (T8.setTop (mkF m 102 #[va o0, vl q0, ss, vl q1, ss, vi 0, vi (-1), uu, uu, uu, uu, uu, uu] [])) _
    refine XS.goto X8.here hx rfl (pc0 := 102) (pc' := 223) rfl (hb hby d4_102) (by decide) (by decide) ?_
    refine XS.iconst X8.here hx rfl (hb hby d4_223) ?_
    exact retN X8 hx (t := .boolean) hrt (by simp) (hb hby d4_224) hr
  · show Q4_0 Z w_NONE o0 q0 q1 h0 n0 (some (.int 1)) T8.heap _
    rw [e8]; exact ⟨b2_7_6, b2_13_6, k2_7_6, k2_13_6, rfl, N8, K8, fc9, Fw8, fc10, fc11, fc12, fc13, fc14, fc15, sz_b2_7_6, sz_b2_13_6, P10_6⟩
theorem d4_12 : decode prog_55_method_8_code 12 = .ok (.lconst 0, 1) := by decide +kernel
theorem d4_13 : decode prog_55_method_8_code 13 = .ok (.goto 6, 3) := by decide +kernel
def Q6_1 (Z : State) (w_NONE : Addr) (o0 : Addr) (h0 : Heap) (n0 : Nat) (v : Option Value) (h : Heap) (L : List Loc) : Prop := v = (some (.int 0)) ∧ Fr n0 L ∧ h = h0
theorem rm6_1 (l : Launch) (Z : State) (a0 : Array Value) (hw : HW Z a0) (ws : List Jvm.Cond) (w_NONE : Addr) (o0 : Addr) (h0 : Heap) (n0 : Nat) (O0 : Old Z n0 h0) (S : SF Z w_NONE) (F_ranges_o0 : Fld Z h0 o0 sC0 "ranges" "I" (.int 0)) :
    Pay l Z My6 ws prog_55_method_19_code 6 (some .int) #[(.ref o0), (.long 0)] h0 ({ frames := 0, cells := 0, slots := 0, locals := 0 } : Room) (Q6_1 Z w_NONE o0 h0 n0) := by
  refine own_body (plainFor_of_name pn_1) (L0 := #[va o0, vl 0, ss, uu, uu, uu]) (fun _ => by first | rfl | (simp [entryFrame, mkF, argsToLocals, Value.category]; done)) ?_
  intro p e s m below meth c s₁ hrt hlk hx hby hml hZ hown0 hnm X0 e0
  have hown : s.vm.findClass sC0 = some m.cls := hown0
  have N0 := Fr.nil n0
  have K0 : Keep h0 h0 [] := Keep.refl _ _
  obtain ⟨T1, X1, e1, st1⟩ := getF X0 hx hZ hown (host := "") (Or.inl (ww hw 36 rfl)) Via.refl e0 F_ranges_o0 (g := (mkF m 3 #[va o0, vl 0, ss, vi 0, uu, uu] [(.ref o0)])) rfl rfl (hb hby d6_3)
  obtain ⟨fs, hr, hrun, hended, hW, hsame⟩ := X1.leave (v := (some (.int 0))) (fun h => by rw [hrt] at h; cases h)
  refine ⟨_, _, ?_, hrun, hended, _, _, rfl, ?_, ⟨_, rfl⟩, hW, hsame.mono (by decide) (by decide)⟩
  · show Steps p.tables e below (s₁.setTop (mkF m 0 #[va o0, vl 0, ss, uu, uu, uu] [])) _
    refine XS.iconst X0.here hx rfl (hb hby d6_0) ?_
    refine XS.istoreN X0.here hx rfl (hb hby d6_1) rfl (l' := #[va o0, vl 0, ss, vi 0, uu, uu]) rfl ?_
    refine XS.aloadN X0.here hx rfl (hb hby d6_2) rfl rfl ?_
    refine st1 _ ?_
    refine XS.istore X1.here hx rfl (hb hby d6_6) rfl (l' := #[va o0, vl 0, ss, vi 0, vi 0, uu]) rfl ?_
    refine XS.iloadN X1.here hx rfl (hb hby d6_8) rfl ?_
    refine XS.iload X1.here hx rfl (hb hby d6_9) rfl ?_
    refine XS.icmpYes X1.here hx rfl (pc0 := 11) (pc' := 49) rfl (hb hby d6_11) rfl (flt (by decide : ¬ ((0 : Int32) < (0 : Int32)))).2.1 (by decide) (by decide) ?_
    show Steps p.tables e below (T1.setTop (mkF m 49 #[va o0, vl 0, ss, vi 0, vi 0, uu] [])) _
    refine XS.iloadN X1.here hx rfl (hb hby d6_49) rfl ?_
    exact retOut X1 hx (t := .int) (i := .ireturn) hrt rfl (Or.inl ⟨rfl, Or.inl rfl, _, rfl⟩) (hb hby d6_50) hr
  · show Q6_1 Z w_NONE o0 h0 n0 (some (.int 0)) T1.heap _
    exact (⟨rfl, N0, e1⟩)
def Q4_1 (Z : State) (w_NONE : Addr) (o0 : Addr) (q0 : Int64) (q1 : Int64) (h0 : Heap) (n0 : Nat) (v : Option Value) (h : Heap) (L : List Loc) : Prop := ∃ (b2_7_6 : Addr), ∃ (b2_13_6 : Addr), ∃ (k2_7_6 : ClassId), ∃ (k2_13_6 : ClassId), v = (some (.int 1)) ∧ Fr n0 L ∧ Keep h0 h [o0] ∧ Exa Z h o0 sC0 ∧ Fld Z h o0 sC0 "count" "J" (.long ((0 : Int64) + ((q1 - q0) + (1 : Int64)))) ∧ Fld Z h o0 sC0 "firsts" "[J" (.ref b2_7_6) ∧ Fld Z h o0 sC0 "lasts" "[J" (.ref b2_13_6) ∧ Fld Z h o0 sC0 "maxRanges" "I" (.int 2147483647) ∧ Fld Z h o0 sC0 "ranges" "I" (.int 1) ∧ Arv Z h b2_7_6 k2_7_6 .long (4 : Int32) [(.long q0), (.long 0), (.long 0), (.long 0)] (.long 0) ∧ Arv Z h b2_13_6 k2_13_6 .long (4 : Int32) [(.long q1), (.long 0), (.long 0), (.long 0)] (.long 0) ∧ h0.size ≤ b2_7_6 ∧ h0.size ≤ b2_13_6 ∧ b2_7_6 ≠ b2_13_6
theorem rm4_1 (l : Launch) (Z : State) (a0 : Array Value) (hw : HW Z a0) (ws : List Jvm.Cond) (w_NONE : Addr) (o0 : Addr) (q0 : Int64) (q1 : Int64) (h0 : Heap) (n0 : Nat) (O0 : Old Z n0 h0) (S : SF Z w_NONE) (E_o0 : Exa Z h0 o0 sC0) (F_count_o0 : Fld Z h0 o0 sC0 "count" "J" (.long 0)) (F_firsts_o0 : Fld Z h0 o0 sC0 "firsts" "[J" (.ref w_NONE)) (F_lasts_o0 : Fld Z h0 o0 sC0 "lasts" "[J" (.ref w_NONE)) (F_maxRanges_o0 : Fld Z h0 o0 sC0 "maxRanges" "I" (.int 2147483647)) (F_ranges_o0 : Fld Z h0 o0 sC0 "ranges" "I" (.int 0)) (g_o0 : n0 ≤ o0) (hc0 : ¬ (q0 < (0 : Int64))) (hc1 : ¬ (q1 < q0)) (hc2 : q0 = (0 : Int64)) :
    Pay l Z My4 ws prog_55_method_8_code 13 (some .boolean) #[(.ref o0), (.long q0), (.long q1)] h0 ({ frames := 3, cells := 2, slots := 8, locals := 51 } : Room) (Q4_1 Z w_NONE o0 q0 q1 h0 n0) := by
  refine own_body (plainFor_of_name pn_1) (L0 := #[va o0, vl q0, ss, vl q1, ss, uu, uu, uu, uu, uu, uu, uu, uu]) (fun _ => by first | rfl | (simp [entryFrame, mkF, argsToLocals, Value.category]; done)) ?_
  intro p e s m below meth c s₁ hrt hlk hx hby hml hZ hown0 hnm X0 e0
  have hown : s.vm.findClass sC0 = some m.cls := hown0
  have N0 := Fr.nil n0
  have K0 : Keep h0 h0 [o0] := Keep.refl _ _
  obtain ⟨_, _, ⟨T1, L1, k1, n1⟩, -, X1, ⟨Lc1, hQ1, l1, y1, z1⟩, st1⟩ := Jvm.LawKit.callS X0 hx (y := My5) hown (mvT hZ (ww hw 29 rfl)) (mvT hZ (ww hw 30 rfl)) (mvT hZ (ww hw 5 rfl)) (mvT hZ (ww hw 31 rfl)) (by decide) (backOf (W := 0) (rm5_0 l Z a0 hw [] w_NONE q0 q1 h0 n0 O0 S hc0 hc1) hZ (ww hw 31 rfl) (ww hw 5 rfl) (by decide) (by decide)) (g := (mkF m 2 #[va o0, vl q0, ss, vl q1, ss, uu, uu, uu, uu, uu, uu, uu, uu] [(.long q1), (.long q0)])) rfl (by rw [hml]; rfl) (argsL := [(.long q0), (.long q1)]) (rest := []) (lenOf pd_6 rfl) rfl (by show 2 * 0 + _ ≤ _; exact Nat.le_of_eq rfl) (hb hby d4_2) (fun _ _ => ⟨rfl, e0, (by decide : 0 + 0 ≤ _), (by decide : 0 + 0 ≤ _)⟩)
  dsimp only [Pt.U, Pt.locs, Pt.cells, Pt.slots] at X1 l1 y1 z1 st1 hQ1
  subst l1 y1 z1
  obtain ⟨rfl, Nq1, e1⟩ := hQ1
  have N1 := Fr.app N0 Nq1
  obtain ⟨cq2, qa2, qb2⟩ := E_o0.cell
  obtain ⟨_, _, ⟨T2, L2, k2, n2⟩, -, X2, ⟨Lc2, hQ2, l2, y2, z2⟩, st2⟩ := X1.privateBack hx (y := My6) hown (mvT hZ (ww hw 32 rfl)) (mvT hZ (ww hw 33 rfl)) (own_selp (by decide) (mvT hZ (ww hw 4 rfl)) (mvP hZ (ww hw 34 rfl)) (mvT hZ (ww hw 33 rfl))) (Cond.privateMethod_at (mvP hZ (ww hw 34 rfl) (args := #[]))) (mvT hZ (ww hw 35 rfl)) (by decide) (backOf (W := 0) (rm6_1 l Z a0 hw [] w_NONE o0 h0 n0 O0 S F_ranges_o0) hZ (ww hw 35 rfl) (ww hw 5 rfl) (by decide) (by decide)) (g := (mkF m 19 #[va o0, vl q0, ss, vl q1, ss, uu, uu, uu, uu, uu, uu, uu, uu] [(.long 0), (.ref o0)])) rfl (by rw [hml]; rfl) (Steps.refl _) (a := o0) (by rw [e1]; exact qa2) qb2 (argsL := [(.long 0)]) (rest := []) (lenOf pd_4 rfl) rfl (by show 2 * 0 + _ ≤ _; exact Nat.le_of_eq rfl) (hb hby d4_19) (fun _ _ => ⟨rfl, e1, (by decide : 0 + 0 ≤ _), (by decide : 0 + 0 ≤ _)⟩)
  dsimp only [Pt.U, Pt.locs, Pt.cells, Pt.slots] at X2 l2 y2 z2 st2 hQ2
  subst l2 y2 z2
  obtain ⟨rfl, Nq2, e2⟩ := hQ2
  have N2 := Fr.app N1 Nq2
  obtain ⟨T3, X3, e3, st3⟩ := getF X2 hx hZ hown (host := "") (Or.inl (ww hw 36 rfl)) Via.refl e2 F_ranges_o0 (g := (mkF m 31 #[va o0, vl q0, ss, vl q1, ss, vi 0, vi 0, uu, uu, uu, uu, uu, uu] [(.ref o0), (.int 0)])) rfl rfl (hb hby d4_31)
  obtain ⟨T4, X4, e4, st4⟩ := getF X3 hx hZ hown (host := "") (Or.inl (ww hw 36 rfl)) Via.refl e3 F_ranges_o0 (g := (mkF m 68 #[va o0, vl q0, ss, vl q1, ss, vi 0, vi (-1), uu, uu, uu, uu, uu, uu] [(.ref o0)])) rfl rfl (hb hby d4_68)
  obtain ⟨T5, X5, e5, st5⟩ := getF X4 hx hZ hown (host := "") (Or.inl (ww hw 22 rfl)) Via.refl e4 F_maxRanges_o0 (g := (mkF m 72 #[va o0, vl q0, ss, vl q1, ss, vi 0, vi (-1), uu, uu, uu, uu, uu, uu] [(.ref o0), (.int 0)])) rfl rfl (hb hby d4_72)
  obtain ⟨cq6, qa6, qb6⟩ := E_o0.cell
  obtain ⟨_, _, ⟨T6, L6, k6, n6⟩, -, X6, ⟨Lc6, hQ6, l6, y6, z6⟩, st6⟩ := X5.privateBack hx (y := My7) hown (mvT hZ (ww hw 38 rfl)) (mvT hZ (ww hw 39 rfl)) (own_selp (by decide) (mvT hZ (ww hw 4 rfl)) (mvP hZ (ww hw 40 rfl)) (mvT hZ (ww hw 39 rfl))) (Cond.privateMethod_at (mvP hZ (ww hw 40 rfl) (args := #[]))) (mvT hZ (ww hw 41 rfl)) (by decide) (backOf (W := 0) (rm7_0 l Z a0 hw [] w_NONE o0 q0 q1 h0 n0 O0 S E_o0 F_count_o0 F_firsts_o0 F_lasts_o0 F_maxRanges_o0 F_ranges_o0 g_o0) hZ (ww hw 41 rfl) (ww hw 5 rfl) (by decide) (by decide)) (g := (mkF m 85 #[va o0, vl q0, ss, vl q1, ss, vi 0, vi (-1), uu, uu, uu, uu, uu, uu] [(.long q1), (.long q0), (.int 0), (.ref o0)])) rfl (by rw [hml]; rfl) (Steps.refl _) (a := o0) (by rw [e5]; exact qa6) qb6 (argsL := [(.int 0), (.long q0), (.long q1)]) (rest := []) (lenOf pd_9 rfl) rfl (by show 2 * 0 + _ ≤ _; exact Nat.le_of_eq rfl) (hb hby d4_85) (fun _ _ => ⟨rfl, e5, (by decide : 0 + 2 ≤ _), (by decide : 0 + 8 ≤ _)⟩)
  dsimp only [Pt.U, Pt.locs, Pt.cells, Pt.slots] at X6 l6 y6 z6 st6 hQ6
  subst l6 y6 z6
  obtain ⟨b2_7_6, b2_13_6, k2_7_6, k2_13_6, rfl, Nq6, Kc6, P0_6, P1_6, P2_6, P3_6, P4_6, P5_6, P6_6, P7_6, P8_6, P9_6, P10_6⟩ := hQ6
  have N6 := Fr.app N2 Nq6
  have ne_o0_b2_7_6 : o0 ≠ b2_7_6 := Nat.ne_of_lt (Nat.lt_of_lt_of_le E_o0.lt P8_6)
  have ne_o0_b2_13_6 : o0 ≠ b2_13_6 := Nat.ne_of_lt (Nat.lt_of_lt_of_le E_o0.lt P9_6)
  have g_b2_7_6 : n0 ≤ b2_7_6 := Nat.le_trans (own_old O0) P8_6
  have sz_b2_7_6 : h0.size ≤ b2_7_6 := Nat.le_trans K0.1 P8_6
  have g_b2_13_6 : n0 ≤ b2_13_6 := Nat.le_trans (own_old O0) P9_6
  have sz_b2_13_6 : h0.size ≤ b2_13_6 := Nat.le_trans K0.1 P9_6
  have O6 := O0.keep Kc6 (allS g_o0 all0)
  have K6 : Keep h0 T6.heap [o0] := K0.trans Kc6 (allS (Or.inl (List.mem_of_getElem? (i := 0) rfl)) all0)
  obtain ⟨T7, X7, e7, st7⟩ := getF X6 hx hZ hown (host := "") (Or.inl (ww hw 59 rfl)) Via.refl rfl P1_6 (g := (mkF m 90 #[va o0, vl q0, ss, vl q1, ss, vi 0, vi (-1), uu, uu, uu, uu, uu, uu] [(.ref o0), (.ref o0)])) rfl rfl (hb hby d4_90)
  obtain ⟨T8, h8, X8, e8, W8, st8⟩ := putF X7 hx hZ hown (host := "") (Or.inl (ww hw 59 rfl)) Via.refl e7 P1_6 P0_6 (Or.inl (ww hw 60 rfl)) (ww hw 4 rfl) (ty := .long) (by decide) rfl rfl (g := (mkF m 99 #[va o0, vl q0, ss, vl q1, ss, vi 0, vi (-1), uu, uu, uu, uu, uu, uu] [(.long ((0 : Int64) + ((q1 - q0) + (1 : Int64)))), (.ref o0)])) rfl rfl (hb hby d4_99)
  have Fw8 := P1_6.same W8
  have O8 := O6.wr W8 g_o0
  have K8 : Keep h0 h8 [o0] := K6.wr W8 (Or.inl (List.mem_of_getElem? (i := 0) rfl))
  have N8 := Fr.snoc X8 N6 g_o0
  obtain ⟨fs, hr, hrun, hended, hW, hsame⟩ := X8.leave (v := (some (.int 1))) (fun h => by rw [hrt] at h; cases h)
  have fc9 := (P0_6.wr W8)
  have fc10 := (P2_6.other W8 (Or.inr (slot_ne (Or.inl (ww hw 19 rfl)) (Or.inl (ww hw 60 rfl)) (by decide) (t := (.array .long)) (t' := .long) (by decide) (by decide))))
  have fc11 := (P3_6.other W8 (Or.inr (slot_ne (Or.inl (ww hw 21 rfl)) (Or.inl (ww hw 60 rfl)) (by decide) (t := (.array .long)) (t' := .long) (by decide) (by decide))))
  have fc12 := (P4_6.other W8 (Or.inr (slot_ne (Or.inr (ww hw 23 rfl)) (Or.inl (ww hw 60 rfl)) (by decide) (t := .int) (t' := .long) (by decide) (by decide))))
  have fc13 := (P5_6.other W8 (Or.inr (slot_ne (Or.inl (ww hw 37 rfl)) (Or.inl (ww hw 60 rfl)) (by decide) (t := .int) (t' := .long) (by decide) (by decide))))
  have fc14 := (P6_6.other W8 (Ne.symm ne_o0_b2_7_6))
  have fc15 := (P7_6.other W8 (Ne.symm ne_o0_b2_13_6))
  refine ⟨_, _, ?_, hrun, hended, _, _, rfl, ?_, ⟨_, rfl⟩, hW, hsame.mono (by decide) (by decide)⟩
  · show Steps p.tables e below (s₁.setTop (mkF m 0 #[va o0, vl q0, ss, vl q1, ss, uu, uu, uu, uu, uu, uu, uu, uu] [])) _
    refine XS.lloadN X0.here hx rfl (hb hby d4_0) rfl ?_
    refine XS.lloadN X0.here hx rfl (hb hby d4_1) rfl ?_
    refine st1 _ ?_
    refine XS.aloadN X1.here hx rfl (hb hby d4_5) rfl rfl ?_
    refine XS.lloadN X1.here hx rfl (hb hby d4_6) rfl ?_
    refine XS.lconst X1.here hx rfl (hb hby d4_7) ?_
    refine XS.lcmp X1.here hx rfl (hb hby d4_8) rfl ?_
    refine XS.ifNo X1.here hx rfl (hb hby d4_9) rfl (own_lc_eqT hc2).2 ?_
    show Steps p.tables e below (T1.setTop (mkF m 12 #[va o0, vl q0, ss, vl q1, ss, uu, uu, uu, uu, uu, uu, uu, uu] [(.ref o0)])) _
    refine XS.lconst X1.here hx rfl (hb hby d4_12) ?_
    refine XS.goto X1.here hx rfl (pc0 := 13) (pc' := 19) rfl (hb hby d4_13) (by decide) (by decide) ?_
    refine st2.trans ?_
    refine XS.istore X2.here hx rfl (hb hby d4_22) rfl (l' := #[va o0, vl q0, ss, vl q1, ss, vi 0, uu, uu, uu, uu, uu, uu, uu]) rfl ?_
    refine XS.iload X2.here hx rfl (hb hby d4_24) rfl ?_
    refine XS.istore X2.here hx rfl (hb hby d4_26) rfl (l' := #[va o0, vl q0, ss, vl q1, ss, vi 0, vi 0, uu, uu, uu, uu, uu, uu]) rfl ?_
    refine XS.iload X2.here hx rfl (hb hby d4_28) rfl ?_
    refine XS.aloadN X2.here hx rfl (hb hby d4_30) rfl rfl ?_
    show Steps p.tables e below (T2.setTop (mkF m 31 #[va o0, vl q0, ss, vl q1, ss, vi 0, vi 0, uu, uu, uu, uu, uu, uu] [(.ref o0), (.int 0)])) _
    refine st3 _ ?_
    refine XS.icmpYes X3.here hx rfl (pc0 := 34) (pc' := 57) rfl (hb hby d4_34) rfl (flt (by decide : ¬ ((0 : Int32) < (0 : Int32)))).2.1 (by decide) (by decide) ?_
    refine XS.iinc X3.here hx rfl (hb hby d4_57) rfl (l' := #[va o0, vl q0, ss, vl q1, ss, vi 0, vi ((0 : Int32) + (-1 : Int32)), uu, uu, uu, uu, uu, uu]) rfl ?_
    show Steps p.tables e below (T3.setTop (mkF m 60 #[va o0, vl q0, ss, vl q1, ss, vi 0, vi ((0 : Int32) + (-1 : Int32)), uu, uu, uu, uu, uu, uu] [])) _
    rw [show (((0 : Int32) + (-1 : Int32)) : Int32) = (-1 : Int32) from by decide]
    refine XS.iload X3.here hx rfl (hb hby d4_60) rfl ?_
    refine XS.iload X3.here hx rfl (hb hby d4_62) rfl ?_
    refine XS.icmpNo X3.here hx rfl (hb hby d4_64) rfl (tlt (by decide : (-1 : Int32) < (0 : Int32))).2.1 ?_
    refine XS.aloadN X3.here hx rfl (hb hby d4_67) rfl rfl ?_
    refine st4 _ ?_
    refine XS.aloadN X4.here hx rfl (hb hby d4_71) rfl rfl ?_
    refine st5 _ ?_
    show Steps p.tables e below (T5.setTop (mkF m 75 #[va o0, vl q0, ss, vl q1, ss, vi 0, vi (-1), uu, uu, uu, uu, uu, uu] [(.int 2147483647), (.int 0)])) _
    refine XS.icmpYes X5.here hx rfl (pc0 := 75) (pc' := 80) rfl (hb hby d4_75) rfl (feq (by decide : ¬ ((0 : Int32) = (2147483647 : Int32)))).2 (by decide) (by decide) ?_
    refine XS.aloadN X5.here hx rfl (hb hby d4_80) rfl rfl ?_
    refine XS.iload X5.here hx rfl (hb hby d4_81) rfl ?_
    refine XS.lloadN X5.here hx rfl (hb hby d4_83) rfl ?_
    refine XS.lloadN X5.here hx rfl (hb hby d4_84) rfl ?_
    refine st6.trans ?_
    refine XS.aloadN X6.here hx rfl (hb hby d4_88) rfl rfl ?_
    refine XS.dup X6.here hx rfl (hb hby d4_89) rfl rfl ?_
    show Steps p.tables e below (T6.setTop (mkF m 90 #[va o0, vl q0, ss, vl q1, ss, vi 0, vi (-1), uu, uu, uu, uu, uu, uu] [(.ref o0), (.ref o0)])) _
    refine st7 _ ?_
    refine XS.lloadN X7.here hx rfl (hb hby d4_93) rfl ?_
    refine XS.lloadN X7.here hx rfl (hb hby d4_94) rfl ?_
    refine XS.lsub X7.here hx rfl (hb hby d4_95) rfl ?_
    refine XS.lconst X7.here hx rfl (hb hby d4_96) ?_
    refine XS.ladd X7.here hx rfl (hb hby d4_97) rfl ?_
    refine XS.ladd X7.here hx rfl (hb hby d4_98) rfl ?_
    refine st8 _ ?_
    show Steps p.tables e below (T8.setTop (mkF m 102 #[va o0, vl q0, ss, vl q1, ss, vi 0, vi (-1), uu, uu, uu, uu, uu, uu] [])) _
    refine XS.goto X8.here hx rfl (pc0 := 102) (pc' := 223) rfl (hb hby d4_102) (by decide) (by decide) ?_
    refine XS.iconst X8.here hx rfl (hb hby d4_223) ?_
    exact retN X8 hx (t := .boolean) hrt (by simp) (hb hby d4_224) hr
  · show Q4_1 Z w_NONE o0 q0 q1 h0 n0 (some (.int 1)) T8.heap _
    rw [e8]; exact ⟨b2_7_6, b2_13_6, k2_7_6, k2_13_6, rfl, N8, K8, fc9, Fw8, fc10, fc11, fc12, fc13, fc14, fc15, sz_b2_7_6, sz_b2_13_6, P10_6⟩
theorem pd_10 : parseMethodDescriptor "(JJ)Z" = some ⟨[.long, .long], some .boolean⟩ := by decide +kernel
def Q13_1 (Z : State) (w_NONE : Addr) (o0 : Addr) (o1 : Addr) (o2 : Addr) (kk_o1 : ClassId) (kk_o2 : ClassId) (q0 : Int64) (q1 : Int64) (q2 : Int64) (h0 : Heap) (n0 : Nat) (v : Option Value) (h : Heap) (L : List Loc) : Prop := v = (some (.long q0)) ∧ Fr n0 L ∧ h = h0
theorem rm13_1 (l : Launch) (Z : State) (a0 : Array Value) (hw : HW Z a0) (ws : List Jvm.Cond) (w_NONE : Addr) (o0 : Addr) (o1 : Addr) (o2 : Addr) (kk_o1 : ClassId) (kk_o2 : ClassId) (q0 : Int64) (q1 : Int64) (q2 : Int64) (h0 : Heap) (n0 : Nat) (O0 : Old Z n0 h0) (S : SF Z w_NONE) (F_count_o0 : Fld Z h0 o0 sC0 "count" "J" (.long q0)) :
    Pay l Z My13 ws prog_55_method_15_code 1 (some .long) #[(.ref o0)] h0 ({ frames := 0, cells := 0, slots := 0, locals := 0 } : Room) (Q13_1 Z w_NONE o0 o1 o2 kk_o1 kk_o2 q0 q1 q2 h0 n0) := by
  refine own_body (plainFor_of_name pn_1) (L0 := #[va o0]) (fun _ => by first | rfl | (simp [entryFrame, mkF, argsToLocals, Value.category]; done)) ?_
  intro p e s m below meth c s₁ hrt hlk hx hby hml hZ hown0 hnm X0 e0
  have hown : s.vm.findClass sC0 = some m.cls := hown0
  have N0 := Fr.nil n0
  have K0 : Keep h0 h0 [] := Keep.refl _ _
  obtain ⟨T1, X1, e1, st1⟩ := getF X0 hx hZ hown (host := "") (Or.inl (ww hw 59 rfl)) Via.refl e0 F_count_o0 (g := (mkF m 1 #[va o0] [(.ref o0)])) rfl rfl (hb hby d13_1)
  obtain ⟨fs, hr, hrun, hended, hW, hsame⟩ := X1.leave (v := (some (.long q0))) (fun h => by rw [hrt] at h; cases h)
  refine ⟨_, _, ?_, hrun, hended, _, _, rfl, ?_, ⟨_, rfl⟩, hW, hsame.mono (by decide) (by decide)⟩
  · show Steps p.tables e below (s₁.setTop (mkF m 0 #[va o0] [])) _
    refine XS.aloadN X0.here hx rfl (hb hby d13_0) rfl rfl ?_
    refine st1 _ ?_
    exact retOut X1 hx (t := .long) (i := .lreturn) hrt rfl (Or.inr (Or.inl ⟨rfl, rfl, _, rfl⟩)) (hb hby d13_4) hr
  · show Q13_1 Z w_NONE o0 o1 o2 kk_o1 kk_o2 q0 q1 q2 h0 n0 (some (.long q0)) T1.heap _
    exact (⟨rfl, N0, e1⟩)
theorem d6_14 : decode prog_55_method_19_code 14 = .ok (.iload_n 3, 1) := by decide +kernel
theorem d6_15 : decode prog_55_method_19_code 15 = .ok (.iload 4, 2) := by decide +kernel
theorem d6_17 : decode prog_55_method_19_code 17 = .ok (.iadd, 1) := by decide +kernel
theorem d6_18 : decode prog_55_method_19_code 18 = .ok (.iconst 1, 1) := by decide +kernel
theorem d6_19 : decode prog_55_method_19_code 19 = .ok (.iushr, 1) := by decide +kernel
theorem d6_20 : decode prog_55_method_19_code 20 = .ok (.istore 5, 2) := by decide +kernel
theorem d6_22 : decode prog_55_method_19_code 22 = .ok (.aload_n 0, 1) := by decide +kernel
theorem d6_23 : decode prog_55_method_19_code 23 = .ok (.getfield 22, 3) := by decide +kernel
theorem d6_26 : decode prog_55_method_19_code 26 = .ok (.iload 5, 2) := by decide +kernel
theorem d6_28 : decode prog_55_method_19_code 28 = .ok (.laload, 1) := by decide +kernel
theorem d6_29 : decode prog_55_method_19_code 29 = .ok (.lload_n 1, 1) := by decide +kernel
theorem d6_30 : decode prog_55_method_19_code 30 = .ok (.lcmp, 1) := by decide +kernel
theorem d6_31 : decode prog_55_method_19_code 31 = .ok (.ifCond .ge 11, 3) := by decide +kernel
theorem d6_42 : decode prog_55_method_19_code 42 = .ok (.iload 5, 2) := by decide +kernel
theorem d6_44 : decode prog_55_method_19_code 44 = .ok (.istore 4, 2) := by decide +kernel
theorem d6_46 : decode prog_55_method_19_code 46 = .ok (.goto (-38), 3) := by decide +kernel
def Q6_2 (Z : State) (w_NONE : Addr) (o0 : Addr) (o1 : Addr) (o2 : Addr) (kk_o1 : ClassId) (kk_o2 : ClassId) (q0 : Int64) (q1 : Int64) (q2 : Int64) (h0 : Heap) (n0 : Nat) (v : Option Value) (h : Heap) (L : List Loc) : Prop := v = (some (.int 0)) ∧ Fr n0 L ∧ h = h0
theorem rm6_2 (l : Launch) (Z : State) (a0 : Array Value) (hw : HW Z a0) (ws : List Jvm.Cond) (w_NONE : Addr) (o0 : Addr) (o1 : Addr) (o2 : Addr) (kk_o1 : ClassId) (kk_o2 : ClassId) (q0 : Int64) (q1 : Int64) (q2 : Int64) (h0 : Heap) (n0 : Nat) (O0 : Old Z n0 h0) (S : SF Z w_NONE) (F_lasts_o0 : Fld Z h0 o0 sC0 "lasts" "[J" (.ref o2)) (F_ranges_o0 : Fld Z h0 o0 sC0 "ranges" "I" (.int 1)) (V_o2 : Arv Z h0 o2 kk_o2 .long (4 : Int32) [(.long q2), (.long 0), (.long 0), (.long 0)] (.long 0)) (hc0 : ¬ (q2 < (0 : Int64))) :
    Pay l Z My6 ws prog_55_method_19_code 6 (some .int) #[(.ref o0), (.long 0)] h0 ({ frames := 0, cells := 0, slots := 0, locals := 0 } : Room) (Q6_2 Z w_NONE o0 o1 o2 kk_o1 kk_o2 q0 q1 q2 h0 n0) := by
  refine own_body (plainFor_of_name pn_1) (L0 := #[va o0, vl 0, ss, uu, uu, uu]) (fun _ => by first | rfl | (simp [entryFrame, mkF, argsToLocals, Value.category]; done)) ?_
  intro p e s m below meth c s₁ hrt hlk hx hby hml hZ hown0 hnm X0 e0
  have hown : s.vm.findClass sC0 = some m.cls := hown0
  have N0 := Fr.nil n0
  have K0 : Keep h0 h0 [] := Keep.refl _ _
  obtain ⟨T1, X1, e1, st1⟩ := getF X0 hx hZ hown (host := "") (Or.inl (ww hw 36 rfl)) Via.refl e0 F_ranges_o0 (g := (mkF m 3 #[va o0, vl 0, ss, vi 0, uu, uu] [(.ref o0)])) rfl rfl (hb hby d6_3)
  obtain ⟨T2, X2, e2, st2⟩ := getF X1 hx hZ hown (host := "") (Or.inl (ww hw 20 rfl)) Via.refl e1 F_lasts_o0 (g := (mkF m 23 #[va o0, vl 0, ss, vi 0, vi 1, vi 0] [(.ref o0)])) rfl rfl (hb hby d6_23)
  obtain ⟨cl3, Ar3, qk3, Sz3, Ng3, Hh3, Gg3⟩ := id V_o2
  have hin3_0 : ¬ ((0 : Int32) < 0 ∨ cl3.slots.size ≤ ((0 : Int32)).toNatClampNeg) := inb_of Sz3 ⟨by decide, by decide⟩
  obtain ⟨fs, hr, hrun, hended, hW, hsame⟩ := X2.leave (v := (some (.int 0))) (fun h => by rw [hrt] at h; cases h)
  refine ⟨_, _, ?_, hrun, hended, _, _, rfl, ?_, ⟨_, rfl⟩, hW, hsame.mono (by decide) (by decide)⟩
  · show Steps p.tables e below (s₁.setTop (mkF m 0 #[va o0, vl 0, ss, uu, uu, uu] [])) _
    refine XS.iconst X0.here hx rfl (hb hby d6_0) ?_
    refine XS.istoreN X0.here hx rfl (hb hby d6_1) rfl (l' := #[va o0, vl 0, ss, vi 0, uu, uu]) rfl ?_
    refine XS.aloadN X0.here hx rfl (hb hby d6_2) rfl rfl ?_
    refine st1 _ ?_
    refine XS.istore X1.here hx rfl (hb hby d6_6) rfl (l' := #[va o0, vl 0, ss, vi 0, vi 1, uu]) rfl ?_
    refine XS.iloadN X1.here hx rfl (hb hby d6_8) rfl ?_
    refine XS.iload X1.here hx rfl (hb hby d6_9) rfl ?_
    refine XS.icmpNo X1.here hx rfl (hb hby d6_11) rfl (tlt (by decide : (0 : Int32) < (1 : Int32))).2.1 ?_
    show Steps p.tables e below (T1.setTop (mkF m 14 #[va o0, vl 0, ss, vi 0, vi 1, uu] [])) _
    refine XS.iloadN X1.here hx rfl (hb hby d6_14) rfl ?_
    refine XS.iload X1.here hx rfl (hb hby d6_15) rfl ?_
    refine XS.iadd X1.here hx rfl (hb hby d6_17) rfl ?_
    show Steps p.tables e below (T1.setTop (mkF m 18 #[va o0, vl 0, ss, vi 0, vi 1, uu] [(.int ((0 : Int32) + (1 : Int32)))])) _
    rw [show (((0 : Int32) + (1 : Int32)) : Int32) = (1 : Int32) from by decide]
    refine XS.iconst X1.here hx rfl (hb hby d6_18) ?_
    refine XS.iushr X1.here hx rfl (hb hby d6_19) rfl ?_
    show Steps p.tables e below (T1.setTop (mkF m 20 #[va o0, vl 0, ss, vi 0, vi 1, uu] [(.int (((1 : Int32).toUInt32 >>> ((1 : Int32) &&& 31).toUInt32).toInt32))])) _
    rw [show ((((1 : Int32).toUInt32 >>> ((1 : Int32) &&& 31).toUInt32).toInt32) : Int32) = (0 : Int32) from by decide]
    refine XS.istore X1.here hx rfl (hb hby d6_20) rfl (l' := #[va o0, vl 0, ss, vi 0, vi 1, vi 0]) rfl ?_
    refine XS.aloadN X1.here hx rfl (hb hby d6_22) rfl rfl ?_
    refine st2 _ ?_
    refine XS.iload X2.here hx rfl (hb hby d6_26) rfl ?_
    refine X2.laload hx (j := (0 : Int32)) (v := (.long q2)) (by rw [e2]; exact Ar3.1) (State.isArrayOf_alike hZ.alike Ar3.2.1) Ar3.2.2 hin3_0 (Has.at Hh3 hin3_0 rfl) (g := (mkF m 28 #[va o0, vl 0, ss, vi 0, vi 1, vi 0] [(.int 0), (.ref o2)])) rfl rfl (hb hby d6_28) _ ?_
    refine XS.lloadN X2.here hx rfl (hb hby d6_29) rfl ?_
    refine XS.lcmp X2.here hx rfl (hb hby d6_30) rfl ?_
    show Steps p.tables e below (T2.setTop (mkF m 31 #[va o0, vl 0, ss, vi 0, vi 1, vi 0] [(.int (lcmpW q2 (0 : Int64)))])) _
    refine XS.ifYes X2.here hx rfl (pc0 := 31) (pc' := 42) rfl (hb hby d6_31) rfl (own_lc_ltF hc0).2 (by decide) (by decide) ?_
    refine XS.iload X2.here hx rfl (hb hby d6_42) rfl ?_
    refine XS.istore X2.here hx rfl (hb hby d6_44) rfl (l' := #[va o0, vl 0, ss, vi 0, vi 0, vi 0]) rfl ?_
    refine XS.goto X2.here hx rfl (pc0 := 46) (pc' := 8) rfl (hb hby d6_46) (by decide) (by decide) ?_
    refine XS.iloadN X2.here hx rfl (hb hby d6_8) rfl ?_
    refine XS.iload X2.here hx rfl (hb hby d6_9) rfl ?_
    refine XS.icmpYes X2.here hx rfl (pc0 := 11) (pc' := 49) rfl (hb hby d6_11) rfl (flt (by decide : ¬ ((0 : Int32) < (0 : Int32)))).2.1 (by decide) (by decide) ?_
    refine XS.iloadN X2.here hx rfl (hb hby d6_49) rfl ?_
    show Steps p.tables e below (T2.setTop (mkF m 50 #[va o0, vl 0, ss, vi 0, vi 0, vi 0] [(.int 0)])) _
    exact retOut X2 hx (t := .int) (i := .ireturn) hrt rfl (Or.inl ⟨rfl, Or.inl rfl, _, rfl⟩) (hb hby d6_50) hr
  · show Q6_2 Z w_NONE o0 o1 o2 kk_o1 kk_o2 q0 q1 q2 h0 n0 (some (.int 0)) T2.heap _
    exact (⟨rfl, N0, e2⟩)
theorem d15_20 : decode prog_55_method_12_code 20 = .ok (.lload_n 1, 1) := by decide +kernel
theorem d15_21 : decode prog_55_method_12_code 21 = .ok (.aload_n 0, 1) := by decide +kernel
theorem d15_22 : decode prog_55_method_12_code 22 = .ok (.getfield 19, 3) := by decide +kernel
theorem d15_25 : decode prog_55_method_12_code 25 = .ok (.iload_n 3, 1) := by decide +kernel
theorem d15_26 : decode prog_55_method_12_code 26 = .ok (.laload, 1) := by decide +kernel
theorem d15_27 : decode prog_55_method_12_code 27 = .ok (.invokestatic 65, 3) := by decide +kernel
theorem d16_0 : decode jdk_29_method_66_code 0 = .ok (.lload_n 0, 1) := by decide +kernel
theorem d16_1 : decode jdk_29_method_66_code 1 = .ok (.lload_n 2, 1) := by decide +kernel
theorem d16_2 : decode jdk_29_method_66_code 2 = .ok (.lcmp, 1) := by decide +kernel
theorem d16_3 : decode jdk_29_method_66_code 3 = .ok (.ifCond .lt 7, 3) := by decide +kernel
theorem d16_10 : decode jdk_29_method_66_code 10 = .ok (.lload_n 2, 1) := by decide +kernel
theorem d16_11 : decode jdk_29_method_66_code 11 = .ok (.lreturn, 1) := by decide +kernel
theorem d16_6 : decode jdk_29_method_66_code 6 = .ok (.lload_n 0, 1) := by decide +kernel
theorem d16_7 : decode jdk_29_method_66_code 7 = .ok (.goto 4, 3) := by decide +kernel
def Q16_0 (Z : State) (w_NONE : Addr) (q0 : Int64) (q1 : Int64) (h0 : Heap) (n0 : Nat) (v : Option Value) (h : Heap) (L : List Loc) : Prop := v = (some (.long q1)) ∧ Fr n0 L ∧ h = h0
theorem rm16_0 (l : Launch) (Z : State) (a0 : Array Value) (hw : HW Z a0) (ws : List Jvm.Cond) (w_NONE : Addr) (q0 : Int64) (q1 : Int64) (h0 : Heap) (n0 : Nat) (O0 : Old Z n0 h0) (S : SF Z w_NONE) (hc0 : q0 < q1) :
    Pay l Z My16 ws jdk_29_method_66_code 4 (some .long) #[(.long q0), (.long q1)] h0 ({ frames := 0, cells := 0, slots := 0, locals := 0 } : Room) (Q16_0 Z w_NONE q0 q1 h0 n0) := by
  refine own_body (Jvm.Free.JP.mathPlain rfl (by decide +kernel)) (L0 := #[vl q0, ss, vl q1, ss]) (fun _ => by first | rfl | (simp [entryFrame, mkF, argsToLocals, Value.category]; done)) ?_
  intro p e s m below meth c s₁ hrt hlk hx hby hml hZ hown0 hnm X0 e0
  have hown : s.vm.findClass sC1 = some m.cls := hown0
  have N0 := Fr.nil n0
  have K0 : Keep h0 h0 [] := Keep.refl _ _
  obtain ⟨fs, hr, hrun, hended, hW, hsame⟩ := X0.leave (v := (some (.long q1))) (fun h => by rw [hrt] at h; cases h)
  refine ⟨_, _, ?_, hrun, hended, _, _, rfl, ?_, ⟨_, rfl⟩, hW, hsame.mono (by decide) (by decide)⟩
  · show Steps p.tables e below (s₁.setTop (mkF m 0 #[vl q0, ss, vl q1, ss] [])) _
    refine XS.lloadN X0.here hx rfl (hb hby d16_0) rfl ?_
    refine XS.lloadN X0.here hx rfl (hb hby d16_1) rfl ?_
    refine XS.lcmp X0.here hx rfl (hb hby d16_2) rfl ?_
    refine XS.ifYes X0.here hx rfl (pc0 := 3) (pc' := 10) rfl (hb hby d16_3) rfl (own_lc_ltT hc0).1 (by decide) (by decide) ?_
    refine XS.lloadN X0.here hx rfl (hb hby d16_10) rfl ?_
    exact retOut X0 hx (t := .long) (i := .lreturn) hrt rfl (Or.inr (Or.inl ⟨rfl, rfl, _, rfl⟩)) (hb hby d16_11) hr
  · show Q16_0 Z w_NONE q0 q1 h0 n0 (some (.long q1)) s₁.heap _
    exact (⟨rfl, N0, e0⟩)
def Q16_1 (Z : State) (w_NONE : Addr) (q0 : Int64) (q1 : Int64) (h0 : Heap) (n0 : Nat) (v : Option Value) (h : Heap) (L : List Loc) : Prop := v = (some (.long q0)) ∧ Fr n0 L ∧ h = h0
theorem rm16_1 (l : Launch) (Z : State) (a0 : Array Value) (hw : HW Z a0) (ws : List Jvm.Cond) (w_NONE : Addr) (q0 : Int64) (q1 : Int64) (h0 : Heap) (n0 : Nat) (O0 : Old Z n0 h0) (S : SF Z w_NONE) (hc0 : ¬ (q0 < q1)) :
    Pay l Z My16 ws jdk_29_method_66_code 4 (some .long) #[(.long q0), (.long q1)] h0 ({ frames := 0, cells := 0, slots := 0, locals := 0 } : Room) (Q16_1 Z w_NONE q0 q1 h0 n0) := by
  refine own_body (Jvm.Free.JP.mathPlain rfl (by decide +kernel)) (L0 := #[vl q0, ss, vl q1, ss]) (fun _ => by first | rfl | (simp [entryFrame, mkF, argsToLocals, Value.category]; done)) ?_
  intro p e s m below meth c s₁ hrt hlk hx hby hml hZ hown0 hnm X0 e0
  have hown : s.vm.findClass sC1 = some m.cls := hown0
  have N0 := Fr.nil n0
  have K0 : Keep h0 h0 [] := Keep.refl _ _
  obtain ⟨fs, hr, hrun, hended, hW, hsame⟩ := X0.leave (v := (some (.long q0))) (fun h => by rw [hrt] at h; cases h)
  refine ⟨_, _, ?_, hrun, hended, _, _, rfl, ?_, ⟨_, rfl⟩, hW, hsame.mono (by decide) (by decide)⟩
  · show Steps p.tables e below (s₁.setTop (mkF m 0 #[vl q0, ss, vl q1, ss] [])) _
    refine XS.lloadN X0.here hx rfl (hb hby d16_0) rfl ?_
    refine XS.lloadN X0.here hx rfl (hb hby d16_1) rfl ?_
    refine XS.lcmp X0.here hx rfl (hb hby d16_2) rfl ?_
    refine XS.ifNo X0.here hx rfl (hb hby d16_3) rfl (own_lc_ltF hc0).1 ?_
    refine XS.lloadN X0.here hx rfl (hb hby d16_6) rfl ?_
    refine XS.goto X0.here hx rfl (pc0 := 7) (pc' := 11) rfl (hb hby d16_7) (by decide) (by decide) ?_
    exact retOut X0 hx (t := .long) (i := .lreturn) hrt rfl (Or.inr (Or.inl ⟨rfl, rfl, _, rfl⟩)) (hb hby d16_11) hr
  · show Q16_1 Z w_NONE q0 q1 h0 n0 (some (.long q0)) s₁.heap _
    exact (⟨rfl, N0, e0⟩)
def Qm16_0 (Z : State) (w_NONE : Addr) (q0 : Int64) (q1 : Int64) (h0 : Heap) (n0 : Nat) (v : Option Value) (h : Heap) (L : List Loc) : Prop := v = (some (.long (own_maxL q0 q1))) ∧ Fr n0 L ∧ h = h0
theorem mg16_0 (l : Launch) (Z : State) (a0 : Array Value) (hw : HW Z a0) (ws : List Jvm.Cond) (w_NONE : Addr) (q0 : Int64) (q1 : Int64) (h0 : Heap) (n0 : Nat) (O0 : Old Z n0 h0) (S : SF Z w_NONE) :
    Pay l Z My16 ws jdk_29_method_66_code 4 (some .long) #[(.long q0), (.long q1)] h0 ({ frames := 0, cells := 0, slots := 0, locals := 0 } : Room) (Qm16_0 Z w_NONE q0 q1 h0 n0) := by
  by_cases hm0 : q0 < q1
  · have q := rm16_0 l Z a0 hw ws w_NONE q0 q1 h0 n0 O0 S hm0
    have e : (own_maxL q0 q1) = q1 := by simp [own_maxL, hm0]
    rw [show (Qm16_0 Z w_NONE q0 q1 h0 n0) = (Q16_0 Z w_NONE q0 q1 h0 n0) from by funext v h L; unfold Qm16_0 Q16_0; rw [e]]; exact q
  · have q := rm16_1 l Z a0 hw ws w_NONE q0 q1 h0 n0 O0 S hm0
    have e : (own_maxL q0 q1) = q0 := by simp [own_maxL, hm0]
    rw [show (Qm16_0 Z w_NONE q0 q1 h0 n0) = (Q16_1 Z w_NONE q0 q1 h0 n0) from by funext v h L; unfold Qm16_0 Q16_1; rw [e]]; exact q
theorem pd_11 : parseMethodDescriptor "(JJ)J" = some ⟨[.long, .long], some .long⟩ := by decide +kernel
def Q15_1 (Z : State) (w_NONE : Addr) (o0 : Addr) (o1 : Addr) (o2 : Addr) (kk_o1 : ClassId) (kk_o2 : ClassId) (q0 : Int64) (q1 : Int64) (q2 : Int64) (h0 : Heap) (n0 : Nat) (v : Option Value) (h : Heap) (L : List Loc) : Prop := v = (some (.long (own_maxL (0 : Int64) q1))) ∧ Fr n0 L ∧ h = h0
theorem rm15_1 (l : Launch) (Z : State) (a0 : Array Value) (hw : HW Z a0) (ws : List Jvm.Cond) (w_NONE : Addr) (o0 : Addr) (o1 : Addr) (o2 : Addr) (kk_o1 : ClassId) (kk_o2 : ClassId) (q0 : Int64) (q1 : Int64) (q2 : Int64) (h0 : Heap) (n0 : Nat) (O0 : Old Z n0 h0) (S : SF Z w_NONE) (E_o0 : Exa Z h0 o0 sC0) (F_firsts_o0 : Fld Z h0 o0 sC0 "firsts" "[J" (.ref o1)) (F_lasts_o0 : Fld Z h0 o0 sC0 "lasts" "[J" (.ref o2)) (F_ranges_o0 : Fld Z h0 o0 sC0 "ranges" "I" (.int 1)) (V_o1 : Arv Z h0 o1 kk_o1 .long (4 : Int32) [(.long q1), (.long 0), (.long 0), (.long 0)] (.long 0)) (V_o2 : Arv Z h0 o2 kk_o2 .long (4 : Int32) [(.long q2), (.long 0), (.long 0), (.long 0)] (.long 0)) (hc0 : ¬ (q2 < (0 : Int64))) :
    Pay l Z My15 ws prog_55_method_12_code 4 (some .long) #[(.ref o0), (.long 0)] h0 ({ frames := 1, cells := 0, slots := 0, locals := 17 } : Room) (Q15_1 Z w_NONE o0 o1 o2 kk_o1 kk_o2 q0 q1 q2 h0 n0) := by
  refine own_body (plainFor_of_name pn_1) (L0 := #[va o0, vl 0, ss, uu]) (fun _ => by first | rfl | (simp [entryFrame, mkF, argsToLocals, Value.category]; done)) ?_
  intro p e s m below meth c s₁ hrt hlk hx hby hml hZ hown0 hnm X0 e0
  have hown : s.vm.findClass sC0 = some m.cls := hown0
  have N0 := Fr.nil n0
  have K0 : Keep h0 h0 [] := Keep.refl _ _
  obtain ⟨cq1, qa1, qb1⟩ := E_o0.cell
  obtain ⟨_, _, ⟨T1, L1, k1, n1⟩, -, X1, ⟨Lc1, hQ1, l1, y1, z1⟩, st1⟩ := X0.privateBack hx (y := My6) hown (mvT hZ (ww hw 32 rfl)) (mvT hZ (ww hw 33 rfl)) (own_selp (by decide) (mvT hZ (ww hw 4 rfl)) (mvP hZ (ww hw 34 rfl)) (mvT hZ (ww hw 33 rfl))) (Cond.privateMethod_at (mvP hZ (ww hw 34 rfl) (args := #[]))) (mvT hZ (ww hw 35 rfl)) (by decide) (backOf (W := 0) (rm6_2 l Z a0 hw [] w_NONE o0 o1 o2 kk_o1 kk_o2 q0 q1 q2 h0 n0 O0 S F_lasts_o0 F_ranges_o0 V_o2 hc0) hZ (ww hw 35 rfl) (ww hw 5 rfl) (by decide) (by decide)) (g := (mkF m 2 #[va o0, vl 0, ss, uu] [(.long 0), (.ref o0)])) rfl (by rw [hml]; rfl) (Steps.refl _) (a := o0) (by rw [e0]; exact qa1) qb1 (argsL := [(.long 0)]) (rest := []) (lenOf pd_4 rfl) rfl (by show 2 * 0 + _ ≤ _; exact Nat.le_of_eq rfl) (hb hby d15_2) (fun _ _ => ⟨rfl, e0, (by decide : 0 + 0 ≤ _), (by decide : 0 + 0 ≤ _)⟩)
  dsimp only [Pt.U, Pt.locs, Pt.cells, Pt.slots] at X1 l1 y1 z1 st1 hQ1
  subst l1 y1 z1
  obtain ⟨rfl, Nq1, e1⟩ := hQ1
  have N1 := Fr.app N0 Nq1
  obtain ⟨T2, X2, e2, st2⟩ := getF X1 hx hZ hown (host := "") (Or.inl (ww hw 36 rfl)) Via.refl e1 F_ranges_o0 (g := (mkF m 8 #[va o0, vl 0, ss, vi 0] [(.ref o0), (.int 0)])) rfl rfl (hb hby d15_8)
  obtain ⟨T3, X3, e3, st3⟩ := getF X2 hx hZ hown (host := "") (Or.inl (ww hw 18 rfl)) Via.refl e2 F_firsts_o0 (g := (mkF m 22 #[va o0, vl 0, ss, vi 0] [(.ref o0), (.long 0)])) rfl rfl (hb hby d15_22)
  obtain ⟨cl4, Ar4, qk4, Sz4, Ng4, Hh4, Gg4⟩ := id V_o1
  have hin4_0 : ¬ ((0 : Int32) < 0 ∨ cl4.slots.size ≤ ((0 : Int32)).toNatClampNeg) := inb_of Sz4 ⟨by decide, by decide⟩
  obtain ⟨_, _, ⟨T5, L5, k5, n5⟩, -, X5, ⟨Lc5, hQ5, l5, y5, z5⟩, st5⟩ := Jvm.LawKit.callS X3 hx (y := My16) hown (mvT hZ (ww hw 88 rfl)) (mvT hZ (ww hw 89 rfl)) (mvT hZ (ww hw 44 rfl)) (mvT hZ (ww hw 90 rfl)) (by decide) (backOf (W := 0) (mg16_0 l Z a0 hw [] w_NONE (0 : Int64) q1 h0 n0 O0 S) hZ (ww hw 90 rfl) (ww hw 44 rfl) (by decide) (by decide)) (g := (mkF m 27 #[va o0, vl 0, ss, vi 0] [(.long q1), (.long 0)])) rfl (by rw [hml]; rfl) (argsL := [(.long 0), (.long q1)]) (rest := []) (lenOf pd_11 rfl) rfl (by show 2 * 0 + _ ≤ _; exact Nat.le_of_eq rfl) (hb hby d15_27) (fun _ _ => ⟨rfl, e3, (by decide : 0 + 0 ≤ _), (by decide : 0 + 0 ≤ _)⟩)
  dsimp only [Pt.U, Pt.locs, Pt.cells, Pt.slots] at X5 l5 y5 z5 st5 hQ5
  subst l5 y5 z5
  obtain ⟨rfl, Nq5, e5⟩ := hQ5
  have N5 := Fr.app N1 Nq5
  obtain ⟨fs, hr, hrun, hended, hW, hsame⟩ := X5.leave (v := (some (.long (own_maxL (0 : Int64) q1)))) (fun h => by rw [hrt] at h; cases h)
  refine ⟨_, _, ?_, hrun, hended, _, _, rfl, ?_, ⟨_, rfl⟩, hW, hsame.mono (by decide) (by decide)⟩
  · show Steps p.tables e below (s₁.setTop (mkF m 0 #[va o0, vl 0, ss, uu] [])) _
    refine XS.aloadN X0.here hx rfl (hb hby d15_0) rfl rfl ?_
    refine XS.lloadN X0.here hx rfl (hb hby d15_1) rfl ?_
    refine st1.trans ?_
    refine XS.istoreN X1.here hx rfl (hb hby d15_5) rfl (l' := #[va o0, vl 0, ss, vi 0]) rfl ?_
    refine XS.iloadN X1.here hx rfl (hb hby d15_6) rfl ?_
    refine XS.aloadN X1.here hx rfl (hb hby d15_7) rfl rfl ?_
    refine st2 _ ?_
    refine XS.icmpYes X2.here hx rfl (pc0 := 11) (pc' := 20) rfl (hb hby d15_11) rfl (feq (by decide : ¬ ((0 : Int32) = (1 : Int32)))).2 (by decide) (by decide) ?_
    show Steps p.tables e below (T2.setTop (mkF m 20 #[va o0, vl 0, ss, vi 0] [])) _
    refine XS.lloadN X2.here hx rfl (hb hby d15_20) rfl ?_
    refine XS.aloadN X2.here hx rfl (hb hby d15_21) rfl rfl ?_
    refine st3 _ ?_
    refine XS.iloadN X3.here hx rfl (hb hby d15_25) rfl ?_
    refine X3.laload hx (j := (0 : Int32)) (v := (.long q1)) (by rw [e3]; exact Ar4.1) (State.isArrayOf_alike hZ.alike Ar4.2.1) Ar4.2.2 hin4_0 (Has.at Hh4 hin4_0 rfl) (g := (mkF m 26 #[va o0, vl 0, ss, vi 0] [(.int 0), (.ref o1), (.long 0)])) rfl rfl (hb hby d15_26) _ ?_
    refine st5 _ ?_
    exact retOut X5 hx (t := .long) (i := .lreturn) hrt rfl (Or.inr (Or.inl ⟨rfl, rfl, _, rfl⟩)) (hb hby d15_30) hr
  · show Q15_1 Z w_NONE o0 o1 o2 kk_o1 kk_o2 q0 q1 q2 h0 n0 (some (.long (own_maxL (0 : Int64) q1))) T5.heap _
    exact (⟨rfl, N5, e5⟩)
theorem ow1 (p5 : Int64) (m0 : Int64) (hm0 : m0 = (p5 &&& (4611686018427387903 : Int64))) : ¬ (m0 < (0 : Int64)) := by
  rw [Int64.lt_iff_toInt_lt]
  have u_m0 := congrArg Int64.toInt hm0
  have t1a := Int64.toInt_lt p5
  have t1b := Int64.le_toInt p5
  have t2 : ((4611686018427387903 : Int64) : Int64).toInt = 4611686018427387903 := by decide
  have t3 := Jvm.Kit.i64_mask p5 (4611686018427387903 : Int64) (k := 62) (by decide) (by decide)
  have t4a := Int64.toInt_lt m0
  have t4b := Int64.le_toInt m0
  have t5 : ((0 : Int64) : Int64).toInt = 0 := by decide
  omega
theorem ow2 (p4 : Int32) (p5 : Int64) (m0 : Int64) (m1 : Int64) (hm0 : m0 = (p5 &&& (4611686018427387903 : Int64))) (hm1 : m1 = (m0 + ((((p4.toUInt32 >>> ((8 : Int32) &&& 31).toUInt32).toInt32) &&& (65535 : Int32)).toInt64))) (hc5 : ¬ (m0 < (0 : Int64))) : ¬ (m1 < m0) := by
  rw [Int64.lt_iff_toInt_lt] at hc5
  rw [Int64.lt_iff_toInt_lt]
  have u_m0 := congrArg Int64.toInt hm0
  have u_m1 := congrArg Int64.toInt hm1
  have t1a := Int64.toInt_lt p5
  have t1b := Int64.le_toInt p5
  have t2 : ((4611686018427387903 : Int64) : Int64).toInt = 4611686018427387903 := by decide
  have t3 := Jvm.Kit.i64_mask p5 (4611686018427387903 : Int64) (k := 62) (by decide) (by decide)
  have t4a := Int64.toInt_lt m0
  have t4b := Int64.le_toInt m0
  have t5a := Int32.toInt_lt p4
  have t5b := Int32.le_toInt p4
  have t6 : ((8 : Int32) : Int32).toInt = 8 := by decide
  have t7a := Int32.toInt_lt ((p4.toUInt32 >>> ((8 : Int32) &&& 31).toUInt32).toInt32)
  have t7b := Int32.le_toInt ((p4.toUInt32 >>> ((8 : Int32) &&& 31).toUInt32).toInt32)
  have t8 : ((65535 : Int32) : Int32).toInt = 65535 := by decide
  have t9 := Jvm.Kit.i32_mask ((p4.toUInt32 >>> ((8 : Int32) &&& 31).toUInt32).toInt32) (65535 : Int32) (k := 16) (by decide) (by decide)
  have t10 := Int32.toInt_toInt64 (((p4.toUInt32 >>> ((8 : Int32) &&& 31).toUInt32).toInt32) &&& (65535 : Int32))
  have t11 := Jvm.Kit.i64_add (x := m0) (y := ((((p4.toUInt32 >>> ((8 : Int32) &&& 31).toUInt32).toInt32) &&& (65535 : Int32)).toInt64)) (by omega) (by omega)
  have t12 : ((0 : Int64) : Int64).toInt = 0 := by decide
  have t13a := Int64.toInt_lt m1
  have t13b := Int64.le_toInt m1
  omega
theorem ow3 (p4 : Int32) (p5 : Int64) (m0 : Int64) (m1 : Int64) (hm0 : m0 = (p5 &&& (4611686018427387903 : Int64))) (hm1 : m1 = (m0 + ((((p4.toUInt32 >>> ((8 : Int32) &&& 31).toUInt32).toInt32) &&& (65535 : Int32)).toInt64))) (hc5 : ¬ (m0 < (0 : Int64))) (hc6 : ¬ (m1 < m0)) (hc7 : m0 = (0 : Int64)) : ((0 : Int64) + ((m1 - m0) + (1 : Int64))) = ((m1 - m0) + (1 : Int64)) := by
  rw [Int64.lt_iff_toInt_lt] at hc5 hc6
  rw [← Int64.toInt_inj] at hc7
  rw [← Int64.toInt_inj]
  have u_m0 := congrArg Int64.toInt hm0
  have u_m1 := congrArg Int64.toInt hm1
  have t1a := Int64.toInt_lt p5
  have t1b := Int64.le_toInt p5
  have t2 : ((4611686018427387903 : Int64) : Int64).toInt = 4611686018427387903 := by decide
  have t3 := Jvm.Kit.i64_mask p5 (4611686018427387903 : Int64) (k := 62) (by decide) (by decide)
  have t4a := Int64.toInt_lt m0
  have t4b := Int64.le_toInt m0
  have t5a := Int32.toInt_lt p4
  have t5b := Int32.le_toInt p4
  have t6 : ((8 : Int32) : Int32).toInt = 8 := by decide
  have t7a := Int32.toInt_lt ((p4.toUInt32 >>> ((8 : Int32) &&& 31).toUInt32).toInt32)
  have t7b := Int32.le_toInt ((p4.toUInt32 >>> ((8 : Int32) &&& 31).toUInt32).toInt32)
  have t8 : ((65535 : Int32) : Int32).toInt = 65535 := by decide
  have t9 := Jvm.Kit.i32_mask ((p4.toUInt32 >>> ((8 : Int32) &&& 31).toUInt32).toInt32) (65535 : Int32) (k := 16) (by decide) (by decide)
  have t10 := Int32.toInt_toInt64 (((p4.toUInt32 >>> ((8 : Int32) &&& 31).toUInt32).toInt32) &&& (65535 : Int32))
  have t11 := Jvm.Kit.i64_add (x := m0) (y := ((((p4.toUInt32 >>> ((8 : Int32) &&& 31).toUInt32).toInt32) &&& (65535 : Int32)).toInt64)) (by omega) (by omega)
  have t12 : ((0 : Int64) : Int64).toInt = 0 := by decide
  have t13a := Int64.toInt_lt m1
  have t13b := Int64.le_toInt m1
  have t14 := Jvm.Kit.i64_sub (x := m1) (y := m0) (by omega) (by omega)
  have t15 : ((1 : Int64) : Int64).toInt = 1 := by decide
  have t16 := Jvm.Kit.i64_add (x := (m1 - m0)) (y := (1 : Int64)) (by omega) (by omega)
  have t17 := Jvm.Kit.i64_add (x := (0 : Int64)) (y := ((m1 - m0) + (1 : Int64))) (by omega) (by omega)
  omega
theorem ow4 (p4 : Int32) (p5 : Int64) (m0 : Int64) (m1 : Int64) (hm0 : m0 = (p5 &&& (4611686018427387903 : Int64))) (hm1 : m1 = (m0 + ((((p4.toUInt32 >>> ((8 : Int32) &&& 31).toUInt32).toInt32) &&& (65535 : Int32)).toInt64))) (hc5 : ¬ (m0 < (0 : Int64))) (hc6 : ¬ (m1 < m0)) (hc7 : m0 = (0 : Int64)) (hc11 : ((0 : Int64) + ((m1 - m0) + (1 : Int64))) = ((m1 - m0) + (1 : Int64))) : ¬ (m1 < (0 : Int64)) := by
  rw [Int64.lt_iff_toInt_lt] at hc5 hc6
  rw [← Int64.toInt_inj] at hc7 hc11
  rw [Int64.lt_iff_toInt_lt]
  have u_m0 := congrArg Int64.toInt hm0
  have u_m1 := congrArg Int64.toInt hm1
  have t1a := Int64.toInt_lt p5
  have t1b := Int64.le_toInt p5
  have t2 : ((4611686018427387903 : Int64) : Int64).toInt = 4611686018427387903 := by decide
  have t3 := Jvm.Kit.i64_mask p5 (4611686018427387903 : Int64) (k := 62) (by decide) (by decide)
  have t4a := Int64.toInt_lt m0
  have t4b := Int64.le_toInt m0
  have t5a := Int32.toInt_lt p4
  have t5b := Int32.le_toInt p4
  have t6 : ((8 : Int32) : Int32).toInt = 8 := by decide
  have t7a := Int32.toInt_lt ((p4.toUInt32 >>> ((8 : Int32) &&& 31).toUInt32).toInt32)
  have t7b := Int32.le_toInt ((p4.toUInt32 >>> ((8 : Int32) &&& 31).toUInt32).toInt32)
  have t8 : ((65535 : Int32) : Int32).toInt = 65535 := by decide
  have t9 := Jvm.Kit.i32_mask ((p4.toUInt32 >>> ((8 : Int32) &&& 31).toUInt32).toInt32) (65535 : Int32) (k := 16) (by decide) (by decide)
  have t10 := Int32.toInt_toInt64 (((p4.toUInt32 >>> ((8 : Int32) &&& 31).toUInt32).toInt32) &&& (65535 : Int32))
  have t11 := Jvm.Kit.i64_add (x := m0) (y := ((((p4.toUInt32 >>> ((8 : Int32) &&& 31).toUInt32).toInt32) &&& (65535 : Int32)).toInt64)) (by omega) (by omega)
  have t12 : ((0 : Int64) : Int64).toInt = 0 := by decide
  have t13a := Int64.toInt_lt m1
  have t13b := Int64.le_toInt m1
  have t14 := Jvm.Kit.i64_sub (x := m1) (y := m0) (by omega) (by omega)
  have t15 : ((1 : Int64) : Int64).toInt = 1 := by decide
  have t16 := Jvm.Kit.i64_add (x := (m1 - m0)) (y := (1 : Int64)) (by omega) (by omega)
  have t17 := Jvm.Kit.i64_add (x := (0 : Int64)) (y := ((m1 - m0) + (1 : Int64))) (by omega) (by omega)
  omega
theorem ow5 (p4 : Int32) (p5 : Int64) (m0 : Int64) (m1 : Int64) (hm0 : m0 = (p5 &&& (4611686018427387903 : Int64))) (hm1 : m1 = (m0 + ((((p4.toUInt32 >>> ((8 : Int32) &&& 31).toUInt32).toInt32) &&& (65535 : Int32)).toInt64))) (hc5 : ¬ (m0 < (0 : Int64))) (hc6 : ¬ (m1 < m0)) (hc7 : m0 = (0 : Int64)) (hc11 : ((0 : Int64) + ((m1 - m0) + (1 : Int64))) = ((m1 - m0) + (1 : Int64))) (hc12 : ¬ (m1 < (0 : Int64))) : (own_maxL (0 : Int64) m0) = m0 := by
  rw [Int64.lt_iff_toInt_lt] at hc5 hc6 hc12
  rw [← Int64.toInt_inj] at hc7 hc11
  rw [← Int64.toInt_inj]
  have u_m0 := congrArg Int64.toInt hm0
  have u_m1 := congrArg Int64.toInt hm1
  have t1a := Int64.toInt_lt p5
  have t1b := Int64.le_toInt p5
  have t2 : ((4611686018427387903 : Int64) : Int64).toInt = 4611686018427387903 := by decide
  have t3 := Jvm.Kit.i64_mask p5 (4611686018427387903 : Int64) (k := 62) (by decide) (by decide)
  have t4a := Int64.toInt_lt m0
  have t4b := Int64.le_toInt m0
  have t5a := Int32.toInt_lt p4
  have t5b := Int32.le_toInt p4
  have t6 : ((8 : Int32) : Int32).toInt = 8 := by decide
  have t7a := Int32.toInt_lt ((p4.toUInt32 >>> ((8 : Int32) &&& 31).toUInt32).toInt32)
  have t7b := Int32.le_toInt ((p4.toUInt32 >>> ((8 : Int32) &&& 31).toUInt32).toInt32)
  have t8 : ((65535 : Int32) : Int32).toInt = 65535 := by decide
  have t9 := Jvm.Kit.i32_mask ((p4.toUInt32 >>> ((8 : Int32) &&& 31).toUInt32).toInt32) (65535 : Int32) (k := 16) (by decide) (by decide)
  have t10 := Int32.toInt_toInt64 (((p4.toUInt32 >>> ((8 : Int32) &&& 31).toUInt32).toInt32) &&& (65535 : Int32))
  have t11 := Jvm.Kit.i64_add (x := m0) (y := ((((p4.toUInt32 >>> ((8 : Int32) &&& 31).toUInt32).toInt32) &&& (65535 : Int32)).toInt64)) (by omega) (by omega)
  have t12 : ((0 : Int64) : Int64).toInt = 0 := by decide
  have t13a := Int64.toInt_lt m1
  have t13b := Int64.le_toInt m1
  have t14 := Jvm.Kit.i64_sub (x := m1) (y := m0) (by omega) (by omega)
  have t15 : ((1 : Int64) : Int64).toInt = 1 := by decide
  have t16 := Jvm.Kit.i64_add (x := (m1 - m0)) (y := (1 : Int64)) (by omega) (by omega)
  have t17 := Jvm.Kit.i64_add (x := (0 : Int64)) (y := ((m1 - m0) + (1 : Int64))) (by omega) (by omega)
  have t18 := own_maxL_toInt (0 : Int64) m0
  omega
theorem ow6 (p4 : Int32) (p5 : Int64) (m0 : Int64) (m1 : Int64) (hm0 : m0 = (p5 &&& (4611686018427387903 : Int64))) (hm1 : m1 = (m0 + ((((p4.toUInt32 >>> ((8 : Int32) &&& 31).toUInt32).toInt32) &&& (65535 : Int32)).toInt64))) (hc5 : ¬ (m0 < (0 : Int64))) (hc6 : ¬ (m1 < m0)) (hc7 : ¬ (m0 = (0 : Int64))) : ((0 : Int64) + ((m1 - m0) + (1 : Int64))) = ((m1 - m0) + (1 : Int64)) := by
  rw [Int64.lt_iff_toInt_lt] at hc5 hc6
  rw [← Int64.toInt_inj] at hc7
  rw [← Int64.toInt_inj]
  have u_m0 := congrArg Int64.toInt hm0
  have u_m1 := congrArg Int64.toInt hm1
  have t1a := Int64.toInt_lt p5
  have t1b := Int64.le_toInt p5
  have t2 : ((4611686018427387903 : Int64) : Int64).toInt = 4611686018427387903 := by decide
  have t3 := Jvm.Kit.i64_mask p5 (4611686018427387903 : Int64) (k := 62) (by decide) (by decide)
  have t4a := Int64.toInt_lt m0
  have t4b := Int64.le_toInt m0
  have t5a := Int32.toInt_lt p4
  have t5b := Int32.le_toInt p4
  have t6 : ((8 : Int32) : Int32).toInt = 8 := by decide
  have t7a := Int32.toInt_lt ((p4.toUInt32 >>> ((8 : Int32) &&& 31).toUInt32).toInt32)
  have t7b := Int32.le_toInt ((p4.toUInt32 >>> ((8 : Int32) &&& 31).toUInt32).toInt32)
  have t8 : ((65535 : Int32) : Int32).toInt = 65535 := by decide
  have t9 := Jvm.Kit.i32_mask ((p4.toUInt32 >>> ((8 : Int32) &&& 31).toUInt32).toInt32) (65535 : Int32) (k := 16) (by decide) (by decide)
  have t10 := Int32.toInt_toInt64 (((p4.toUInt32 >>> ((8 : Int32) &&& 31).toUInt32).toInt32) &&& (65535 : Int32))
  have t11 := Jvm.Kit.i64_add (x := m0) (y := ((((p4.toUInt32 >>> ((8 : Int32) &&& 31).toUInt32).toInt32) &&& (65535 : Int32)).toInt64)) (by omega) (by omega)
  have t12 : ((0 : Int64) : Int64).toInt = 0 := by decide
  have t13a := Int64.toInt_lt m1
  have t13b := Int64.le_toInt m1
  have t14 := Jvm.Kit.i64_sub (x := m1) (y := m0) (by omega) (by omega)
  have t15 : ((1 : Int64) : Int64).toInt = 1 := by decide
  have t16 := Jvm.Kit.i64_add (x := (m1 - m0)) (y := (1 : Int64)) (by omega) (by omega)
  have t17 := Jvm.Kit.i64_add (x := (0 : Int64)) (y := ((m1 - m0) + (1 : Int64))) (by omega) (by omega)
  omega
theorem ow7 (p4 : Int32) (p5 : Int64) (m0 : Int64) (m1 : Int64) (hm0 : m0 = (p5 &&& (4611686018427387903 : Int64))) (hm1 : m1 = (m0 + ((((p4.toUInt32 >>> ((8 : Int32) &&& 31).toUInt32).toInt32) &&& (65535 : Int32)).toInt64))) (hc5 : ¬ (m0 < (0 : Int64))) (hc6 : ¬ (m1 < m0)) (hc7 : ¬ (m0 = (0 : Int64))) (hc11 : ((0 : Int64) + ((m1 - m0) + (1 : Int64))) = ((m1 - m0) + (1 : Int64))) : ¬ (m1 < (0 : Int64)) := by
  rw [Int64.lt_iff_toInt_lt] at hc5 hc6
  rw [← Int64.toInt_inj] at hc7 hc11
  rw [Int64.lt_iff_toInt_lt]
  have u_m0 := congrArg Int64.toInt hm0
  have u_m1 := congrArg Int64.toInt hm1
  have t1a := Int64.toInt_lt p5
  have t1b := Int64.le_toInt p5
  have t2 : ((4611686018427387903 : Int64) : Int64).toInt = 4611686018427387903 := by decide
  have t3 := Jvm.Kit.i64_mask p5 (4611686018427387903 : Int64) (k := 62) (by decide) (by decide)
  have t4a := Int64.toInt_lt m0
  have t4b := Int64.le_toInt m0
  have t5a := Int32.toInt_lt p4
  have t5b := Int32.le_toInt p4
  have t6 : ((8 : Int32) : Int32).toInt = 8 := by decide
  have t7a := Int32.toInt_lt ((p4.toUInt32 >>> ((8 : Int32) &&& 31).toUInt32).toInt32)
  have t7b := Int32.le_toInt ((p4.toUInt32 >>> ((8 : Int32) &&& 31).toUInt32).toInt32)
  have t8 : ((65535 : Int32) : Int32).toInt = 65535 := by decide
  have t9 := Jvm.Kit.i32_mask ((p4.toUInt32 >>> ((8 : Int32) &&& 31).toUInt32).toInt32) (65535 : Int32) (k := 16) (by decide) (by decide)
  have t10 := Int32.toInt_toInt64 (((p4.toUInt32 >>> ((8 : Int32) &&& 31).toUInt32).toInt32) &&& (65535 : Int32))
  have t11 := Jvm.Kit.i64_add (x := m0) (y := ((((p4.toUInt32 >>> ((8 : Int32) &&& 31).toUInt32).toInt32) &&& (65535 : Int32)).toInt64)) (by omega) (by omega)
  have t12 : ((0 : Int64) : Int64).toInt = 0 := by decide
  have t13a := Int64.toInt_lt m1
  have t13b := Int64.le_toInt m1
  have t14 := Jvm.Kit.i64_sub (x := m1) (y := m0) (by omega) (by omega)
  have t15 : ((1 : Int64) : Int64).toInt = 1 := by decide
  have t16 := Jvm.Kit.i64_add (x := (m1 - m0)) (y := (1 : Int64)) (by omega) (by omega)
  have t17 := Jvm.Kit.i64_add (x := (0 : Int64)) (y := ((m1 - m0) + (1 : Int64))) (by omega) (by omega)
  omega
theorem ow8 (p4 : Int32) (p5 : Int64) (m0 : Int64) (m1 : Int64) (hm0 : m0 = (p5 &&& (4611686018427387903 : Int64))) (hm1 : m1 = (m0 + ((((p4.toUInt32 >>> ((8 : Int32) &&& 31).toUInt32).toInt32) &&& (65535 : Int32)).toInt64))) (hc5 : ¬ (m0 < (0 : Int64))) (hc6 : ¬ (m1 < m0)) (hc7 : ¬ (m0 = (0 : Int64))) (hc11 : ((0 : Int64) + ((m1 - m0) + (1 : Int64))) = ((m1 - m0) + (1 : Int64))) (hc12 : ¬ (m1 < (0 : Int64))) : (own_maxL (0 : Int64) m0) = m0 := by
  rw [Int64.lt_iff_toInt_lt] at hc5 hc6 hc12
  rw [← Int64.toInt_inj] at hc7 hc11
  rw [← Int64.toInt_inj]
  have u_m0 := congrArg Int64.toInt hm0
  have u_m1 := congrArg Int64.toInt hm1
  have t1a := Int64.toInt_lt p5
  have t1b := Int64.le_toInt p5
  have t2 : ((4611686018427387903 : Int64) : Int64).toInt = 4611686018427387903 := by decide
  have t3 := Jvm.Kit.i64_mask p5 (4611686018427387903 : Int64) (k := 62) (by decide) (by decide)
  have t4a := Int64.toInt_lt m0
  have t4b := Int64.le_toInt m0
  have t5a := Int32.toInt_lt p4
  have t5b := Int32.le_toInt p4
  have t6 : ((8 : Int32) : Int32).toInt = 8 := by decide
  have t7a := Int32.toInt_lt ((p4.toUInt32 >>> ((8 : Int32) &&& 31).toUInt32).toInt32)
  have t7b := Int32.le_toInt ((p4.toUInt32 >>> ((8 : Int32) &&& 31).toUInt32).toInt32)
  have t8 : ((65535 : Int32) : Int32).toInt = 65535 := by decide
  have t9 := Jvm.Kit.i32_mask ((p4.toUInt32 >>> ((8 : Int32) &&& 31).toUInt32).toInt32) (65535 : Int32) (k := 16) (by decide) (by decide)
  have t10 := Int32.toInt_toInt64 (((p4.toUInt32 >>> ((8 : Int32) &&& 31).toUInt32).toInt32) &&& (65535 : Int32))
  have t11 := Jvm.Kit.i64_add (x := m0) (y := ((((p4.toUInt32 >>> ((8 : Int32) &&& 31).toUInt32).toInt32) &&& (65535 : Int32)).toInt64)) (by omega) (by omega)
  have t12 : ((0 : Int64) : Int64).toInt = 0 := by decide
  have t13a := Int64.toInt_lt m1
  have t13b := Int64.le_toInt m1
  have t14 := Jvm.Kit.i64_sub (x := m1) (y := m0) (by omega) (by omega)
  have t15 : ((1 : Int64) : Int64).toInt = 1 := by decide
  have t16 := Jvm.Kit.i64_add (x := (m1 - m0)) (y := (1 : Int64)) (by omega) (by omega)
  have t17 := Jvm.Kit.i64_add (x := (0 : Int64)) (y := ((m1 - m0) + (1 : Int64))) (by omega) (by omega)
  have t18 := own_maxL_toInt (0 : Int64) m0
  omega
def Q0 (n0 : Nat) (v : Option Value) (h : Heap) (L : List Loc) : Prop := v = (some (.int (1 : Int32))) ∧ Fr n0 L
theorem jn1 {p : Program} {l : Launch} {e : Env} {s : State} {m : MethodId} {below : List Frame} {meth : Method} {c : Code} {T0 : State} {locs : List Loc} {Z : State} {a0 : Array Value} {h0 : Heap} {n0 : Nat} (hx : p.tables.exec = Jvm.exec) (hZ : Z.Warmed39 s.vm) (hby : c.code = code) (hml : c.maxLocals = 26) (hown : s.vm.findClass "com/example/tributary/tributary/model/RangeSetClearPinLaw" = some m.cls) (hrt : meth.sig.returnType = ret) (hlk : meth.locks = false) (hw : HW Z a0) (w_NONE : Addr) (o0 : Addr) (p0 : Int64) (p1 : Int64) (p2 : Int64) (p3 : Int64) (p4 : Int32) (p5 : Int64) (m0 : Int64) (m1 : Int64) (f11 : Int64) (f13 : Int64) (f15 : Int64) (f17 : Int64) (X0 : Stand p l e room_1 s m #[(.long p0), (.long p1), (.long p2), (.long p3), (.int p4), (.long p5)] below meth c T0 locs 10 60) (e0 : T0.heap = h0) (N0 : Fr n0 locs) (O0 : Old Z n0 h0) (S : SF Z w_NONE) (E_o0 : Exa Z h0 o0 sC0) (F_count_o0 : Fld Z h0 o0 sC0 "count" "J" (.long 0)) (F_firsts_o0 : Fld Z h0 o0 sC0 "firsts" "[J" (.ref w_NONE)) (F_lasts_o0 : Fld Z h0 o0 sC0 "lasts" "[J" (.ref w_NONE)) (F_maxRanges_o0 : Fld Z h0 o0 sC0 "maxRanges" "I" (.int 2147483647)) (F_ranges_o0 : Fld Z h0 o0 sC0 "ranges" "I" (.int 0)) (g_o0 : n0 ≤ o0) (hm0 : m0 = (p5 &&& (4611686018427387903 : Int64))) (hm1 : m1 = (m0 + ((((p4.toUInt32 >>> ((8 : Int32) &&& 31).toUInt32).toInt32) &&& (65535 : Int32)).toInt64))) :
    ∃ s₂ o, Steps p.tables e below (T0.setTop (mkF m 106 #[vl p0, ss, vl p1, ss, vl p2, ss, vl p3, ss, vi p4, vl p5, ss, vl f11, ss, vl f13, ss, vl f15, ss, vl f17, ss, vl m0, ss, vl m1, ss, va o0, uu, uu] [])) s₂ ∧ s₂.status = .running ∧ Ended s₂ below o ∧ ∃ v L, o = .returned v ∧ Q0 n0 v s₂.heap L ∧ FrameEnd s o s₂ L room_1.cells room_1.slots := by
  have K0 : Keep h0 h0 [o0] := Keep.refl _ _
  obtain ⟨cq1, kq1, q1a, q1b, q1c⟩ := isOf hZ e0 E_o0
  obtain ⟨_, _, ⟨T1, L1, k1, n1⟩, -, X1, ⟨Lc1, hQ1, l1, y1, z1⟩, st1⟩ := X0.virtualBack hx (y := (⟨sC0, "isEmpty", "()Z"⟩ : MethodName)) (z := (⟨sC0, "isEmpty", "()Z"⟩ : MethodName)) hown (mvT hZ (ww hw 66 rfl)) (mvT hZ (ww hw 67 rfl)) (notFace_of_selects (args := #[]) (mvT hZ (ww hw 69 rfl))) (mvT hZ (ww hw 69 rfl)) (mvT hZ (ww hw 68 rfl)) (by decide) (backOf (W := 0) (rm12_0 l Z a0 hw [] w_NONE o0 h0 n0 O0 S F_ranges_o0) hZ (ww hw 70 rfl) (ww hw 5 rfl) (by decide) (by decide)) q1a q1c (g := (mkF m 108 #[vl p0, ss, vl p1, ss, vl p2, ss, vl p3, ss, vi p4, vl p5, ss, vl f11, ss, vl f13, ss, vl f15, ss, vl f17, ss, vl m0, ss, vl m1, ss, va o0, uu, uu] [(.ref o0)])) rfl (by rw [hml]; rfl) (Steps.refl _) (argsL := []) (rest := []) (lenOf pd_2 rfl) rfl (by show 2 * 0 + _ ≤ _; exact Nat.le_of_eq rfl) (hb hby at_108) (fun _ _ => ⟨rfl, e0, (by decide : 10 + 0 ≤ _), (by decide : 60 + 0 ≤ _)⟩)
  dsimp only [Pt.U, Pt.locs, Pt.cells, Pt.slots] at X1 l1 y1 z1 st1 hQ1
  subst l1 y1 z1
  obtain ⟨rfl, Nq1, e1⟩ := hQ1
  have N1 := Fr.app N0 Nq1
  obtain ⟨cq2, kq2, q2a, q2b, q2c⟩ := isOf hZ e1 E_o0
  obtain ⟨_, _, ⟨T2, L2, k2, n2⟩, -, X2, ⟨Lc2, hQ2, l2, y2, z2⟩, st2⟩ := X1.virtualBack hx (y := My13) (z := My13) hown (mvT hZ (ww hw 71 rfl)) (mvT hZ (ww hw 72 rfl)) (notFace_of_selects (args := #[]) (mvT hZ (ww hw 74 rfl))) (mvT hZ (ww hw 74 rfl)) (mvT hZ (ww hw 73 rfl)) (by decide) (backOf (W := 0) (rm13_0 l Z a0 hw [] w_NONE o0 h0 n0 O0 S F_count_o0) hZ (ww hw 75 rfl) (ww hw 5 rfl) (by decide) (by decide)) q2a q2c (g := (mkF m 116 #[vl p0, ss, vl p1, ss, vl p2, ss, vl p3, ss, vi p4, vl p5, ss, vl f11, ss, vl f13, ss, vl f15, ss, vl f17, ss, vl m0, ss, vl m1, ss, va o0, uu, uu] [(.ref o0)])) rfl (by rw [hml]; rfl) (Steps.refl _) (argsL := []) (rest := []) (lenOf pd_3 rfl) rfl (by show 2 * 0 + _ ≤ _; exact Nat.le_of_eq rfl) (hb hby at_116) (fun _ _ => ⟨rfl, e1, (by decide : 10 + 0 ≤ _), (by decide : 60 + 0 ≤ _)⟩)
  dsimp only [Pt.U, Pt.locs, Pt.cells, Pt.slots] at X2 l2 y2 z2 st2 hQ2
  subst l2 y2 z2
  obtain ⟨rfl, Nq2, e2⟩ := hQ2
  have N2 := Fr.app N1 Nq2
  obtain ⟨cq3, kq3, q3a, q3b, q3c⟩ := isOf hZ e2 E_o0
  obtain ⟨_, _, ⟨T3, L3, k3, n3⟩, -, X3, ⟨Lc3, hQ3, l3, y3, z3⟩, st3⟩ := X2.virtualBack hx (y := (⟨sC0, "end", "()J"⟩ : MethodName)) (z := (⟨sC0, "end", "()J"⟩ : MethodName)) hown (mvT hZ (ww hw 76 rfl)) (mvT hZ (ww hw 77 rfl)) (notFace_of_selects (args := #[]) (mvT hZ (ww hw 79 rfl))) (mvT hZ (ww hw 79 rfl)) (mvT hZ (ww hw 78 rfl)) (by decide) (backOf (W := 0) (rm14_0 l Z a0 hw [] w_NONE o0 h0 n0 O0 S F_ranges_o0) hZ (ww hw 80 rfl) (ww hw 5 rfl) (by decide) (by decide)) q3a q3c (g := (mkF m 126 #[vl p0, ss, vl p1, ss, vl p2, ss, vl p3, ss, vi p4, vl p5, ss, vl f11, ss, vl f13, ss, vl f15, ss, vl f17, ss, vl m0, ss, vl m1, ss, va o0, uu, uu] [(.ref o0)])) rfl (by rw [hml]; rfl) (Steps.refl _) (argsL := []) (rest := []) (lenOf pd_3 rfl) rfl (by show 2 * 0 + _ ≤ _; exact Nat.le_of_eq rfl) (hb hby at_126) (fun _ _ => ⟨rfl, e2, (by decide : 10 + 0 ≤ _), (by decide : 60 + 0 ≤ _)⟩)
  dsimp only [Pt.U, Pt.locs, Pt.cells, Pt.slots] at X3 l3 y3 z3 st3 hQ3
  subst l3 y3 z3
  obtain ⟨rfl, Nq3, e3⟩ := hQ3
  have N3 := Fr.app N2 Nq3
  obtain ⟨cq4, kq4, q4a, q4b, q4c⟩ := isOf hZ e3 E_o0
  obtain ⟨_, _, ⟨T4, L4, k4, n4⟩, -, X4, ⟨Lc4, hQ4, l4, y4, z4⟩, st4⟩ := X3.virtualBack hx (y := My15) (z := My15) hown (mvT hZ (ww hw 81 rfl)) (mvT hZ (ww hw 82 rfl)) (notFace_of_selects (args := #[]) (mvT hZ (ww hw 84 rfl))) (mvT hZ (ww hw 84 rfl)) (mvT hZ (ww hw 83 rfl)) (by decide) (backOf (W := 0) (rm15_0 l Z a0 hw [] w_NONE o0 p5 h0 n0 O0 S E_o0 F_ranges_o0) hZ (ww hw 85 rfl) (ww hw 5 rfl) (by decide) (by decide)) q4a q4c (g := (mkF m 138 #[vl p0, ss, vl p1, ss, vl p2, ss, vl p3, ss, vi p4, vl p5, ss, vl f11, ss, vl f13, ss, vl f15, ss, vl f17, ss, vl m0, ss, vl m1, ss, va o0, uu, uu] [(.long p5), (.ref o0)])) rfl (by rw [hml]; rfl) (Steps.refl _) (argsL := [(.long p5)]) (rest := []) (lenOf pd_5 rfl) rfl (by show 2 * 0 + _ ≤ _; exact Nat.le_of_eq rfl) (hb hby at_138) (fun _ _ => ⟨rfl, e3, (by decide : 10 + 0 ≤ _), (by decide : 60 + 0 ≤ _)⟩)
  dsimp only [Pt.U, Pt.locs, Pt.cells, Pt.slots] at X4 l4 y4 z4 st4 hQ4
  subst l4 y4 z4
  obtain ⟨rfl, Nq4, e4⟩ := hQ4
  have N4 := Fr.app N3 Nq4
  have hc5 : ¬ (m0 < (0 : Int64)) := ow1 p5 m0 hm0
  have hc6 : ¬ (m1 < m0) := ow2 p4 p5 m0 m1 hm0 hm1 hc5
  have pre_8 : ∀ t, Steps p.tables e below (T4.setTop (mkF m 168 #[vl p0, ss, vl p1, ss, vl p2, ss, vl p3, ss, vi p4, vl p5, ss, vl f11, ss, vl f13, ss, vl f15, ss, vl f17, ss, vl m0, ss, vl m1, ss, va o0, vi 1, uu] [(.long m1), (.long m0), (.ref o0)])) t → Steps p.tables e below (T0.setTop (mkF m 106 #[vl p0, ss, vl p1, ss, vl p2, ss, vl p3, ss, vi p4, vl p5, ss, vl f11, ss, vl f13, ss, vl f15, ss, vl f17, ss, vl m0, ss, vl m1, ss, va o0, uu, uu] [])) t := fun t k => (by
    show Steps p.tables e below (T0.setTop (mkF m 106 #[vl p0, ss, vl p1, ss, vl p2, ss, vl p3, ss, vi p4, vl p5, ss, vl f11, ss, vl f13, ss, vl f15, ss, vl f17, ss, vl m0, ss, vl m1, ss, va o0, uu, uu] [])) _
    refine XS.aload X0.here hx rfl (hb hby at_106) rfl rfl ?_
    refine st1.trans ?_
    refine XS.ifNo X1.here hx rfl (hb hby at_111) rfl ((if0 _ _).trans (feq (by decide : ¬ ((1 : Int32) = (0 : Int32)))).1) ?_
    refine XS.aload X1.here hx rfl (hb hby at_114) rfl rfl ?_
    refine st2.trans ?_
    refine XS.lconst X2.here hx rfl (hb hby at_119) ?_
    refine XS.lcmp X2.here hx rfl (hb hby at_120) rfl ?_
    refine XS.ifNo X2.here hx rfl (hb hby at_121) rfl (own_lc_eqT (by decide : (0 : Int64) = (0 : Int64))).2 ?_
    show Steps p.tables e below (T2.setTop (mkF m 124 #[vl p0, ss, vl p1, ss, vl p2, ss, vl p3, ss, vi p4, vl p5, ss, vl f11, ss, vl f13, ss, vl f15, ss, vl f17, ss, vl m0, ss, vl m1, ss, va o0, uu, uu] [])) _
    refine XS.aload X2.here hx rfl (hb hby at_124) rfl rfl ?_
    refine st3.trans ?_
    refine XS.lconst X3.here hx rfl (hb hby at_129) ?_
    refine XS.lcmp X3.here hx rfl (hb hby at_130) rfl ?_
    refine XS.ifNo X3.here hx rfl (hb hby at_131) rfl (own_lc_eqT (by decide : (0 : Int64) = (0 : Int64))).2 ?_
    refine XS.aload X3.here hx rfl (hb hby at_134) rfl rfl ?_
    refine XS.lload X3.here hx rfl (hb hby at_136) rfl ?_
    refine st4.trans ?_
    show Steps p.tables e below (T4.setTop (mkF m 141 #[vl p0, ss, vl p1, ss, vl p2, ss, vl p3, ss, vi p4, vl p5, ss, vl f11, ss, vl f13, ss, vl f15, ss, vl f17, ss, vl m0, ss, vl m1, ss, va o0, uu, uu] [(.long (-1))])) _
    refine X4.ldc2Long hx hown (mvT hZ (ww hw 87 rfl)) (g := (mkF m 141 #[vl p0, ss, vl p1, ss, vl p2, ss, vl p3, ss, vi p4, vl p5, ss, vl f11, ss, vl f13, ss, vl f15, ss, vl f17, ss, vl m0, ss, vl m1, ss, va o0, uu, uu] [(.long (-1))])) rfl (hb hby at_141) _ ?_
    refine XS.lcmp X4.here hx rfl (hb hby at_144) rfl ?_
    refine XS.ifNo X4.here hx rfl (hb hby at_145) rfl (own_lc_eqT (by decide : (-1 : Int64) = (-1 : Int64))).2 ?_
    refine XS.iconst X4.here hx rfl (hb hby at_148) ?_
    refine XS.goto X4.here hx rfl (pc0 := 149) (pc' := 153) rfl (hb hby at_149) (by decide) (by decide) ?_
    refine XS.istore X4.here hx rfl (hb hby at_153) rfl (l' := #[vl p0, ss, vl p1, ss, vl p2, ss, vl p3, ss, vi p4, vl p5, ss, vl f11, ss, vl f13, ss, vl f15, ss, vl f17, ss, vl m0, ss, vl m1, ss, va o0, vi 1, uu]) rfl ?_
    refine XS.iload X4.here hx rfl (hb hby at_155) rfl ?_
    refine XS.ifYes X4.here hx rfl (pc0 := 157) (pc' := 162) rfl (hb hby at_157) rfl ((if0 _ _).trans (feq (by decide : ¬ ((1 : Int32) = (0 : Int32)))).2) (by decide) (by decide) ?_
    show Steps p.tables e below (T4.setTop (mkF m 162 #[vl p0, ss, vl p1, ss, vl p2, ss, vl p3, ss, vi p4, vl p5, ss, vl f11, ss, vl f13, ss, vl f15, ss, vl f17, ss, vl m0, ss, vl m1, ss, va o0, vi 1, uu] [])) _
    refine XS.aload X4.here hx rfl (hb hby at_162) rfl rfl ?_
    refine XS.lload X4.here hx rfl (hb hby at_164) rfl ?_
    refine XS.lload X4.here hx rfl (hb hby at_166) rfl ?_
    exact k)
  by_cases hc7 : m0 = (0 : Int64)
  · obtain ⟨cq9, kq9, q9a, q9b, q9c⟩ := isOf hZ e4 E_o0
    obtain ⟨_, _, ⟨T9, L9, k9, n9⟩, -, X9, ⟨Lc9, hQ9, l9, y9, z9⟩, st9⟩ := X4.virtualBack hx (y := My4) (z := My4) hown (mvT hZ (ww hw 24 rfl)) (mvT hZ (ww hw 25 rfl)) (notFace_of_selects (args := #[]) (mvT hZ (ww hw 27 rfl))) (mvT hZ (ww hw 27 rfl)) (mvT hZ (ww hw 26 rfl)) (by decide) (backOf (W := 0) (rm4_1 l Z a0 hw [] w_NONE o0 m0 m1 h0 n0 O0 S E_o0 F_count_o0 F_firsts_o0 F_lasts_o0 F_maxRanges_o0 F_ranges_o0 g_o0 hc5 hc6 hc7) hZ (ww hw 28 rfl) (ww hw 5 rfl) (by decide) (by decide)) q9a q9c (g := (mkF m 168 #[vl p0, ss, vl p1, ss, vl p2, ss, vl p3, ss, vi p4, vl p5, ss, vl f11, ss, vl f13, ss, vl f15, ss, vl f17, ss, vl m0, ss, vl m1, ss, va o0, vi 1, uu] [(.long m1), (.long m0), (.ref o0)])) rfl (by rw [hml]; rfl) (Steps.refl _) (argsL := [(.long m0), (.long m1)]) (rest := []) (lenOf pd_10 rfl) rfl (by show 2 * 0 + _ ≤ _; exact Nat.le_of_eq rfl) (hb hby at_168) (fun _ _ => ⟨rfl, e4, (by decide : 10 + 2 ≤ _), (by decide : 60 + 8 ≤ _)⟩)
    dsimp only [Pt.U, Pt.locs, Pt.cells, Pt.slots] at X9 l9 y9 z9 st9 hQ9
    subst l9 y9 z9
    obtain ⟨b2_7_6_9, b2_13_6_9, k2_7_6_9, k2_13_6_9, rfl, Nq9, Kc9, P0_9, P1_9, P2_9, P3_9, P4_9, P5_9, P6_9, P7_9, P8_9, P9_9, P10_9⟩ := hQ9
    have N9 := Fr.app N4 Nq9
    have ne_o0_b2_7_6_9 : o0 ≠ b2_7_6_9 := Nat.ne_of_lt (Nat.lt_of_lt_of_le E_o0.lt P8_9)
    have ne_o0_b2_13_6_9 : o0 ≠ b2_13_6_9 := Nat.ne_of_lt (Nat.lt_of_lt_of_le E_o0.lt P9_9)
    have g_b2_7_6_9 : n0 ≤ b2_7_6_9 := Nat.le_trans (own_old O0) P8_9
    have sz_b2_7_6_9 : h0.size ≤ b2_7_6_9 := Nat.le_trans K0.1 P8_9
    have g_b2_13_6_9 : n0 ≤ b2_13_6_9 := Nat.le_trans (own_old O0) P9_9
    have sz_b2_13_6_9 : h0.size ≤ b2_13_6_9 := Nat.le_trans K0.1 P9_9
    have O9 := O0.keep Kc9 (allS g_o0 all0)
    have K9 : Keep h0 T9.heap [o0] := K0.trans Kc9 (allS (Or.inl (List.mem_of_getElem? (i := 0) rfl)) all0)
    obtain ⟨cq10, kq10, q10a, q10b, q10c⟩ := isOf hZ rfl P0_9
    obtain ⟨_, _, ⟨T10, L10, k10, n10⟩, -, X10, ⟨Lc10, hQ10, l10, y10, z10⟩, st10⟩ := X9.virtualBack hx (y := My13) (z := My13) hown (mvT hZ (ww hw 71 rfl)) (mvT hZ (ww hw 72 rfl)) (notFace_of_selects (args := #[]) (mvT hZ (ww hw 74 rfl))) (mvT hZ (ww hw 74 rfl)) (mvT hZ (ww hw 73 rfl)) (by decide) (backOf (W := 0) (rm13_1 l Z a0 hw [] w_NONE o0 b2_7_6_9 b2_13_6_9 k2_7_6_9 k2_13_6_9 ((0 : Int64) + ((m1 - m0) + (1 : Int64))) m0 m1 T9.heap n0 O9 S P1_9) hZ (ww hw 75 rfl) (ww hw 5 rfl) (by decide) (by decide)) q10a q10c (g := (mkF m 180 #[vl p0, ss, vl p1, ss, vl p2, ss, vl p3, ss, vi p4, vl p5, ss, vl f11, ss, vl f13, ss, vl f15, ss, vl f17, ss, vl m0, ss, vl m1, ss, va o0, vi 1, vi 1] [(.ref o0)])) rfl (by rw [hml]; rfl) (Steps.refl _) (argsL := []) (rest := []) (lenOf pd_3 rfl) rfl (by show 2 * 0 + _ ≤ _; exact Nat.le_of_eq rfl) (hb hby at_180) (fun _ _ => ⟨rfl, rfl, (by decide : 12 + 0 ≤ _), (by decide : 68 + 0 ≤ _)⟩)
    dsimp only [Pt.U, Pt.locs, Pt.cells, Pt.slots] at X10 l10 y10 z10 st10 hQ10
    subst l10 y10 z10
    obtain ⟨rfl, Nq10, e10⟩ := hQ10
    have N10 := Fr.app N9 Nq10
    have hc11 : ((0 : Int64) + ((m1 - m0) + (1 : Int64))) = ((m1 - m0) + (1 : Int64)) := ow3 p4 p5 m0 m1 hm0 hm1 hc5 hc6 hc7
    have hc12 : ¬ (m1 < (0 : Int64)) := ow4 p4 p5 m0 m1 hm0 hm1 hc5 hc6 hc7 hc11
    obtain ⟨cq13, kq13, q13a, q13b, q13c⟩ := isOf hZ e10 P0_9
    obtain ⟨_, _, ⟨T13, L13, k13, n13⟩, -, X13, ⟨Lc13, hQ13, l13, y13, z13⟩, st13⟩ := X10.virtualBack hx (y := My15) (z := My15) hown (mvT hZ (ww hw 81 rfl)) (mvT hZ (ww hw 82 rfl)) (notFace_of_selects (args := #[]) (mvT hZ (ww hw 84 rfl))) (mvT hZ (ww hw 84 rfl)) (mvT hZ (ww hw 83 rfl)) (by decide) (backOf (W := 0) (rm15_1 l Z a0 hw [] w_NONE o0 b2_7_6_9 b2_13_6_9 k2_7_6_9 k2_13_6_9 ((0 : Int64) + ((m1 - m0) + (1 : Int64))) m0 m1 T9.heap n0 O9 S P0_9 P2_9 P3_9 P5_9 P6_9 P7_9 hc12) hZ (ww hw 85 rfl) (ww hw 5 rfl) (by decide) (by decide)) q13a q13c (g := (mkF m 197 #[vl p0, ss, vl p1, ss, vl p2, ss, vl p3, ss, vi p4, vl p5, ss, vl f11, ss, vl f13, ss, vl f15, ss, vl f17, ss, vl m0, ss, vl m1, ss, va o0, vi 1, vi 1] [(.long 0), (.ref o0)])) rfl (by rw [hml]; rfl) (Steps.refl _) (argsL := [(.long 0)]) (rest := []) (lenOf pd_5 rfl) rfl (by show 2 * 0 + _ ≤ _; exact Nat.le_of_eq rfl) (hb hby at_197) (fun _ _ => ⟨rfl, e10, (by decide : 12 + 0 ≤ _), (by decide : 68 + 0 ≤ _)⟩)
    dsimp only [Pt.U, Pt.locs, Pt.cells, Pt.slots] at X13 l13 y13 z13 st13 hQ13
    subst l13 y13 z13
    obtain ⟨rfl, Nq13, e13⟩ := hQ13
    have N13 := Fr.app N10 Nq13
    have hc14 : (own_maxL (0 : Int64) m0) = m0 := ow5 p4 p5 m0 m1 hm0 hm1 hc5 hc6 hc7 hc11 hc12
    obtain ⟨fs, hr, hrun, hended, hW, hsame⟩ := X13.leave (v := (some (.int 1))) (fun h => by rw [hrt] at h; cases h)
    refine ⟨_, _, pre_8 _ ?_, hrun, hended, _, _, rfl, ?_, ⟨_, rfl⟩, hW, hsame.mono (by decide) (by decide)⟩
    · show Steps p.tables e below (T4.setTop (mkF m 168 #[vl p0, ss, vl p1, ss, vl p2, ss, vl p3, ss, vi p4, vl p5, ss, vl f11, ss, vl f13, ss, vl f15, ss, vl f17, ss, vl m0, ss, vl m1, ss, va o0, vi 1, uu] [(.long m1), (.long m0), (.ref o0)])) _
      refine st9.trans ?_
      refine XS.istore X9.here hx rfl (hb hby at_171) rfl (l' := #[vl p0, ss, vl p1, ss, vl p2, ss, vl p3, ss, vi p4, vl p5, ss, vl f11, ss, vl f13, ss, vl f15, ss, vl f17, ss, vl m0, ss, vl m1, ss, va o0, vi 1, vi 1]) rfl ?_
      refine XS.iload X9.here hx rfl (hb hby at_173) rfl ?_
      refine XS.ifNo X9.here hx rfl (hb hby at_175) rfl ((if0 _ _).trans (feq (by decide : ¬ ((1 : Int32) = (0 : Int32)))).1) ?_
      refine XS.aload X9.here hx rfl (hb hby at_178) rfl rfl ?_
      refine st10.trans ?_
      refine XS.lload X10.here hx rfl (hb hby at_183) rfl ?_
      refine XS.lload X10.here hx rfl (hb hby at_185) rfl ?_
      show Steps p.tables e below (T10.setTop (mkF m 187 #[vl p0, ss, vl p1, ss, vl p2, ss, vl p3, ss, vi p4, vl p5, ss, vl f11, ss, vl f13, ss, vl f15, ss, vl f17, ss, vl m0, ss, vl m1, ss, va o0, vi 1, vi 1] [(.long m0), (.long m1), (.long ((0 : Int64) + ((m1 - m0) + (1 : Int64))))])) _
      refine XS.lsub X10.here hx rfl (hb hby at_187) rfl ?_
      refine XS.lconst X10.here hx rfl (hb hby at_188) ?_
      refine XS.ladd X10.here hx rfl (hb hby at_189) rfl ?_
      refine XS.lcmp X10.here hx rfl (hb hby at_190) rfl ?_
      refine XS.ifNo X10.here hx rfl (hb hby at_191) rfl (own_lc_eqT hc11).2 ?_
      refine XS.aload X10.here hx rfl (hb hby at_194) rfl rfl ?_
      refine XS.lconst X10.here hx rfl (hb hby at_196) ?_
      refine st13.trans ?_
      show Steps p.tables e below (T13.setTop (mkF m 200 #[vl p0, ss, vl p1, ss, vl p2, ss, vl p3, ss, vi p4, vl p5, ss, vl f11, ss, vl f13, ss, vl f15, ss, vl f17, ss, vl m0, ss, vl m1, ss, va o0, vi 1, vi 1] [(.long (own_maxL (0 : Int64) m0))])) _
      refine XS.lload X13.here hx rfl (hb hby at_200) rfl ?_
      refine XS.lcmp X13.here hx rfl (hb hby at_202) rfl ?_
      refine XS.ifNo X13.here hx rfl (hb hby at_203) rfl (own_lc_eqT hc14).2 ?_
      refine XS.iconst X13.here hx rfl (hb hby at_206) ?_
      refine XS.goto X13.here hx rfl (pc0 := 207) (pc' := 211) rfl (hb hby at_207) (by decide) (by decide) ?_
      exact retN X13 hx (t := .boolean) hrt (by simp) (hb hby at_211) hr
    · show Q0 n0 (some (.int 1)) T13.heap _
      exact (⟨rfl, N13⟩)
  · obtain ⟨cq9, kq9, q9a, q9b, q9c⟩ := isOf hZ e4 E_o0
    obtain ⟨_, _, ⟨T9, L9, k9, n9⟩, -, X9, ⟨Lc9, hQ9, l9, y9, z9⟩, st9⟩ := X4.virtualBack hx (y := My4) (z := My4) hown (mvT hZ (ww hw 24 rfl)) (mvT hZ (ww hw 25 rfl)) (notFace_of_selects (args := #[]) (mvT hZ (ww hw 27 rfl))) (mvT hZ (ww hw 27 rfl)) (mvT hZ (ww hw 26 rfl)) (by decide) (backOf (W := 0) (rm4_0 l Z a0 hw [] w_NONE o0 m0 m1 h0 n0 O0 S E_o0 F_count_o0 F_firsts_o0 F_lasts_o0 F_maxRanges_o0 F_ranges_o0 g_o0 hc5 hc6 hc7) hZ (ww hw 28 rfl) (ww hw 5 rfl) (by decide) (by decide)) q9a q9c (g := (mkF m 168 #[vl p0, ss, vl p1, ss, vl p2, ss, vl p3, ss, vi p4, vl p5, ss, vl f11, ss, vl f13, ss, vl f15, ss, vl f17, ss, vl m0, ss, vl m1, ss, va o0, vi 1, uu] [(.long m1), (.long m0), (.ref o0)])) rfl (by rw [hml]; rfl) (Steps.refl _) (argsL := [(.long m0), (.long m1)]) (rest := []) (lenOf pd_10 rfl) rfl (by show 2 * 0 + _ ≤ _; exact Nat.le_of_eq rfl) (hb hby at_168) (fun _ _ => ⟨rfl, e4, (by decide : 10 + 2 ≤ _), (by decide : 60 + 8 ≤ _)⟩)
    dsimp only [Pt.U, Pt.locs, Pt.cells, Pt.slots] at X9 l9 y9 z9 st9 hQ9
    subst l9 y9 z9
    obtain ⟨b2_7_6_9, b2_13_6_9, k2_7_6_9, k2_13_6_9, rfl, Nq9, Kc9, P0_9, P1_9, P2_9, P3_9, P4_9, P5_9, P6_9, P7_9, P8_9, P9_9, P10_9⟩ := hQ9
    have N9 := Fr.app N4 Nq9
    have ne_o0_b2_7_6_9 : o0 ≠ b2_7_6_9 := Nat.ne_of_lt (Nat.lt_of_lt_of_le E_o0.lt P8_9)
    have ne_o0_b2_13_6_9 : o0 ≠ b2_13_6_9 := Nat.ne_of_lt (Nat.lt_of_lt_of_le E_o0.lt P9_9)
    have g_b2_7_6_9 : n0 ≤ b2_7_6_9 := Nat.le_trans (own_old O0) P8_9
    have sz_b2_7_6_9 : h0.size ≤ b2_7_6_9 := Nat.le_trans K0.1 P8_9
    have g_b2_13_6_9 : n0 ≤ b2_13_6_9 := Nat.le_trans (own_old O0) P9_9
    have sz_b2_13_6_9 : h0.size ≤ b2_13_6_9 := Nat.le_trans K0.1 P9_9
    have O9 := O0.keep Kc9 (allS g_o0 all0)
    have K9 : Keep h0 T9.heap [o0] := K0.trans Kc9 (allS (Or.inl (List.mem_of_getElem? (i := 0) rfl)) all0)
    obtain ⟨cq10, kq10, q10a, q10b, q10c⟩ := isOf hZ rfl P0_9
    obtain ⟨_, _, ⟨T10, L10, k10, n10⟩, -, X10, ⟨Lc10, hQ10, l10, y10, z10⟩, st10⟩ := X9.virtualBack hx (y := My13) (z := My13) hown (mvT hZ (ww hw 71 rfl)) (mvT hZ (ww hw 72 rfl)) (notFace_of_selects (args := #[]) (mvT hZ (ww hw 74 rfl))) (mvT hZ (ww hw 74 rfl)) (mvT hZ (ww hw 73 rfl)) (by decide) (backOf (W := 0) (rm13_1 l Z a0 hw [] w_NONE o0 b2_7_6_9 b2_13_6_9 k2_7_6_9 k2_13_6_9 ((0 : Int64) + ((m1 - m0) + (1 : Int64))) m0 m1 T9.heap n0 O9 S P1_9) hZ (ww hw 75 rfl) (ww hw 5 rfl) (by decide) (by decide)) q10a q10c (g := (mkF m 180 #[vl p0, ss, vl p1, ss, vl p2, ss, vl p3, ss, vi p4, vl p5, ss, vl f11, ss, vl f13, ss, vl f15, ss, vl f17, ss, vl m0, ss, vl m1, ss, va o0, vi 1, vi 1] [(.ref o0)])) rfl (by rw [hml]; rfl) (Steps.refl _) (argsL := []) (rest := []) (lenOf pd_3 rfl) rfl (by show 2 * 0 + _ ≤ _; exact Nat.le_of_eq rfl) (hb hby at_180) (fun _ _ => ⟨rfl, rfl, (by decide : 12 + 0 ≤ _), (by decide : 68 + 0 ≤ _)⟩)
    dsimp only [Pt.U, Pt.locs, Pt.cells, Pt.slots] at X10 l10 y10 z10 st10 hQ10
    subst l10 y10 z10
    obtain ⟨rfl, Nq10, e10⟩ := hQ10
    have N10 := Fr.app N9 Nq10
    have hc11 : ((0 : Int64) + ((m1 - m0) + (1 : Int64))) = ((m1 - m0) + (1 : Int64)) := ow6 p4 p5 m0 m1 hm0 hm1 hc5 hc6 hc7
    have hc12 : ¬ (m1 < (0 : Int64)) := ow7 p4 p5 m0 m1 hm0 hm1 hc5 hc6 hc7 hc11
    obtain ⟨cq13, kq13, q13a, q13b, q13c⟩ := isOf hZ e10 P0_9
    obtain ⟨_, _, ⟨T13, L13, k13, n13⟩, -, X13, ⟨Lc13, hQ13, l13, y13, z13⟩, st13⟩ := X10.virtualBack hx (y := My15) (z := My15) hown (mvT hZ (ww hw 81 rfl)) (mvT hZ (ww hw 82 rfl)) (notFace_of_selects (args := #[]) (mvT hZ (ww hw 84 rfl))) (mvT hZ (ww hw 84 rfl)) (mvT hZ (ww hw 83 rfl)) (by decide) (backOf (W := 0) (rm15_1 l Z a0 hw [] w_NONE o0 b2_7_6_9 b2_13_6_9 k2_7_6_9 k2_13_6_9 ((0 : Int64) + ((m1 - m0) + (1 : Int64))) m0 m1 T9.heap n0 O9 S P0_9 P2_9 P3_9 P5_9 P6_9 P7_9 hc12) hZ (ww hw 85 rfl) (ww hw 5 rfl) (by decide) (by decide)) q13a q13c (g := (mkF m 197 #[vl p0, ss, vl p1, ss, vl p2, ss, vl p3, ss, vi p4, vl p5, ss, vl f11, ss, vl f13, ss, vl f15, ss, vl f17, ss, vl m0, ss, vl m1, ss, va o0, vi 1, vi 1] [(.long 0), (.ref o0)])) rfl (by rw [hml]; rfl) (Steps.refl _) (argsL := [(.long 0)]) (rest := []) (lenOf pd_5 rfl) rfl (by show 2 * 0 + _ ≤ _; exact Nat.le_of_eq rfl) (hb hby at_197) (fun _ _ => ⟨rfl, e10, (by decide : 12 + 0 ≤ _), (by decide : 68 + 0 ≤ _)⟩)
    dsimp only [Pt.U, Pt.locs, Pt.cells, Pt.slots] at X13 l13 y13 z13 st13 hQ13
    subst l13 y13 z13
    obtain ⟨rfl, Nq13, e13⟩ := hQ13
    have N13 := Fr.app N10 Nq13
    have hc14 : (own_maxL (0 : Int64) m0) = m0 := ow8 p4 p5 m0 m1 hm0 hm1 hc5 hc6 hc7 hc11 hc12
    obtain ⟨fs, hr, hrun, hended, hW, hsame⟩ := X13.leave (v := (some (.int 1))) (fun h => by rw [hrt] at h; cases h)
    refine ⟨_, _, pre_8 _ ?_, hrun, hended, _, _, rfl, ?_, ⟨_, rfl⟩, hW, hsame.mono (by decide) (by decide)⟩
    · show Steps p.tables e below (T4.setTop (mkF m 168 #[vl p0, ss, vl p1, ss, vl p2, ss, vl p3, ss, vi p4, vl p5, ss, vl f11, ss, vl f13, ss, vl f15, ss, vl f17, ss, vl m0, ss, vl m1, ss, va o0, vi 1, uu] [(.long m1), (.long m0), (.ref o0)])) _
      refine st9.trans ?_
      refine XS.istore X9.here hx rfl (hb hby at_171) rfl (l' := #[vl p0, ss, vl p1, ss, vl p2, ss, vl p3, ss, vi p4, vl p5, ss, vl f11, ss, vl f13, ss, vl f15, ss, vl f17, ss, vl m0, ss, vl m1, ss, va o0, vi 1, vi 1]) rfl ?_
      refine XS.iload X9.here hx rfl (hb hby at_173) rfl ?_
      refine XS.ifNo X9.here hx rfl (hb hby at_175) rfl ((if0 _ _).trans (feq (by decide : ¬ ((1 : Int32) = (0 : Int32)))).1) ?_
      refine XS.aload X9.here hx rfl (hb hby at_178) rfl rfl ?_
      refine st10.trans ?_
      refine XS.lload X10.here hx rfl (hb hby at_183) rfl ?_
      refine XS.lload X10.here hx rfl (hb hby at_185) rfl ?_
      show Steps p.tables e below (T10.setTop (mkF m 187 #[vl p0, ss, vl p1, ss, vl p2, ss, vl p3, ss, vi p4, vl p5, ss, vl f11, ss, vl f13, ss, vl f15, ss, vl f17, ss, vl m0, ss, vl m1, ss, va o0, vi 1, vi 1] [(.long m0), (.long m1), (.long ((0 : Int64) + ((m1 - m0) + (1 : Int64))))])) _
      refine XS.lsub X10.here hx rfl (hb hby at_187) rfl ?_
      refine XS.lconst X10.here hx rfl (hb hby at_188) ?_
      refine XS.ladd X10.here hx rfl (hb hby at_189) rfl ?_
      refine XS.lcmp X10.here hx rfl (hb hby at_190) rfl ?_
      refine XS.ifNo X10.here hx rfl (hb hby at_191) rfl (own_lc_eqT hc11).2 ?_
      refine XS.aload X10.here hx rfl (hb hby at_194) rfl rfl ?_
      refine XS.lconst X10.here hx rfl (hb hby at_196) ?_
      refine st13.trans ?_
      show Steps p.tables e below (T13.setTop (mkF m 200 #[vl p0, ss, vl p1, ss, vl p2, ss, vl p3, ss, vi p4, vl p5, ss, vl f11, ss, vl f13, ss, vl f15, ss, vl f17, ss, vl m0, ss, vl m1, ss, va o0, vi 1, vi 1] [(.long (own_maxL (0 : Int64) m0))])) _
      refine XS.lload X13.here hx rfl (hb hby at_200) rfl ?_
      refine XS.lcmp X13.here hx rfl (hb hby at_202) rfl ?_
      refine XS.ifNo X13.here hx rfl (hb hby at_203) rfl (own_lc_eqT hc14).2 ?_
      refine XS.iconst X13.here hx rfl (hb hby at_206) ?_
      refine XS.goto X13.here hx rfl (pc0 := 207) (pc' := 211) rfl (hb hby at_207) (by decide) (by decide) ?_
      exact retN X13 hx (t := .boolean) hrt (by simp) (hb hby at_211) hr
    · show Q0 n0 (some (.int 1)) T13.heap _
      exact (⟨rfl, N13⟩)
def Q11_1 (Z : State) (w_NONE : Addr) (o0 : Addr) (o1 : Addr) (o2 : Addr) (kk_o1 : ClassId) (kk_o2 : ClassId) (q0 : Int64) (q1 : Int64) (q2 : Int64) (h0 : Heap) (n0 : Nat) (v : Option Value) (h : Heap) (L : List Loc) : Prop := v = none ∧ Fr n0 L ∧ Keep h0 h [o0] ∧ Exa Z h o0 sC0 ∧ Fld Z h o0 sC0 "count" "J" (.long 0) ∧ Fld Z h o0 sC0 "firsts" "[J" (.ref w_NONE) ∧ Fld Z h o0 sC0 "lasts" "[J" (.ref w_NONE) ∧ Fld Z h o0 sC0 "maxRanges" "I" (.int 2147483647) ∧ Fld Z h o0 sC0 "ranges" "I" (.int 0)
theorem rm11_1 (l : Launch) (Z : State) (a0 : Array Value) (hw : HW Z a0) (ws : List Jvm.Cond) (w_NONE : Addr) (o0 : Addr) (o1 : Addr) (o2 : Addr) (kk_o1 : ClassId) (kk_o2 : ClassId) (q0 : Int64) (q1 : Int64) (q2 : Int64) (h0 : Heap) (n0 : Nat) (O0 : Old Z n0 h0) (S : SF Z w_NONE) (E_o0 : Exa Z h0 o0 sC0) (F_count_o0 : Fld Z h0 o0 sC0 "count" "J" (.long q0)) (F_firsts_o0 : Fld Z h0 o0 sC0 "firsts" "[J" (.ref o1)) (F_lasts_o0 : Fld Z h0 o0 sC0 "lasts" "[J" (.ref o2)) (F_maxRanges_o0 : Fld Z h0 o0 sC0 "maxRanges" "I" (.int 2147483647)) (F_ranges_o0 : Fld Z h0 o0 sC0 "ranges" "I" (.int 1)) (g_o0 : n0 ≤ o0) :
    Pay l Z My11 ws prog_55_method_11_code 1 none #[(.ref o0)] h0 ({ frames := 0, cells := 0, slots := 0, locals := 0 } : Room) (Q11_1 Z w_NONE o0 o1 o2 kk_o1 kk_o2 q0 q1 q2 h0 n0) := by
  obtain ⟨S_w_NONE, -⟩ := id S
  refine own_body (plainFor_of_name pn_1) (L0 := #[va o0]) (fun _ => by first | rfl | (simp [entryFrame, mkF, argsToLocals, Value.category]; done)) ?_
  intro p e s m below meth c s₁ hrt hlk hx hby hml hZ hown0 hnm X0 e0
  have hown : s.vm.findClass sC0 = some m.cls := hown0
  have N0 := Fr.nil n0
  have K0 : Keep h0 h0 [o0] := Keep.refl _ _
  obtain ⟨T1, X1, e1, st1⟩ := getS2 X0 hx hZ hown (host := "") (Or.inl (ww hw 16 rfl)) Via.refl e0 (S_w_NONE.ext O0.2) (g := (mkF m 1 #[va o0] [(.ref o0)])) rfl (hb hby d11_1)
  obtain ⟨T2, h2, X2, e2, W2, st2⟩ := putF X1 hx hZ hown (host := "") (Or.inl (ww hw 18 rfl)) Via.refl e1 F_firsts_o0 E_o0 (Or.inl (ww hw 19 rfl)) (ww hw 4 rfl) (ty := (.array .long)) (by decide) rfl rfl (g := (mkF m 4 #[va o0] [(.ref w_NONE), (.ref o0)])) rfl rfl (hb hby d11_4)
  have Fw2 := F_firsts_o0.same W2
  have O2 := O0.wr W2 g_o0
  have K2 : Keep h0 h2 [o0] := K0.wr W2 (Or.inl (List.mem_of_getElem? (i := 0) rfl))
  have N2 := Fr.snoc X2 N0 g_o0
  obtain ⟨T3, X3, e3, st3⟩ := getS2 X2 hx hZ hown (host := "") (Or.inl (ww hw 16 rfl)) Via.refl e2 (S_w_NONE.ext O2.2) (g := (mkF m 8 #[va o0] [(.ref o0)])) rfl (hb hby d11_8)
  have fc4 := (F_lasts_o0.other W2 (Or.inr (slot_ne (Or.inl (ww hw 21 rfl)) (Or.inl (ww hw 19 rfl)) (by decide) (t := (.array .long)) (t' := (.array .long)) (by decide) (by decide))))
  have fc5 := (E_o0.wr W2)
  obtain ⟨T6, h6, X6, e6, W6, st6⟩ := putF X3 hx hZ hown (host := "") (Or.inl (ww hw 20 rfl)) Via.refl e3 fc4 fc5 (Or.inl (ww hw 21 rfl)) (ww hw 4 rfl) (ty := (.array .long)) (by decide) rfl rfl (g := (mkF m 11 #[va o0] [(.ref w_NONE), (.ref o0)])) rfl rfl (hb hby d11_11)
  have Fw6 := fc4.same W6
  have O6 := O2.wr W6 g_o0
  have K6 : Keep h0 h6 [o0] := K2.wr W6 (Or.inl (List.mem_of_getElem? (i := 0) rfl))
  have N6 := Fr.snoc X6 N2 g_o0
  have fc7 := ((F_ranges_o0.other W2 (Or.inr (slot_ne (Or.inl (ww hw 37 rfl)) (Or.inl (ww hw 19 rfl)) (by decide) (t := .int) (t' := (.array .long)) (by decide) (by decide)))).other W6 (Or.inr (slot_ne (Or.inl (ww hw 37 rfl)) (Or.inl (ww hw 21 rfl)) (by decide) (t := .int) (t' := (.array .long)) (by decide) (by decide))))
  have fc8 := (fc5.wr W6)
  obtain ⟨T9, h9, X9, e9, W9, st9⟩ := putF X6 hx hZ hown (host := "") (Or.inl (ww hw 36 rfl)) Via.refl e6 fc7 fc8 (Or.inl (ww hw 37 rfl)) (ww hw 4 rfl) (ty := .int) (by decide) rfl rfl (g := (mkF m 16 #[va o0] [(.int 0), (.ref o0)])) rfl rfl (hb hby d11_16)
  have Fw9 := fc7.same W9
  have O9 := O6.wr W9 g_o0
  have K9 : Keep h0 h9 [o0] := K6.wr W9 (Or.inl (List.mem_of_getElem? (i := 0) rfl))
  have N9 := Fr.snoc X9 N6 g_o0
  have fc10 := (((F_count_o0.other W2 (Or.inr (slot_ne (Or.inl (ww hw 60 rfl)) (Or.inl (ww hw 19 rfl)) (by decide) (t := .long) (t' := (.array .long)) (by decide) (by decide)))).other W6 (Or.inr (slot_ne (Or.inl (ww hw 60 rfl)) (Or.inl (ww hw 21 rfl)) (by decide) (t := .long) (t' := (.array .long)) (by decide) (by decide)))).other W9 (Or.inr (slot_ne (Or.inl (ww hw 60 rfl)) (Or.inl (ww hw 37 rfl)) (by decide) (t := .long) (t' := .int) (by decide) (by decide))))
  have fc11 := (fc8.wr W9)
  obtain ⟨T12, h12, X12, e12, W12, st12⟩ := putF X9 hx hZ hown (host := "") (Or.inl (ww hw 59 rfl)) Via.refl e9 fc10 fc11 (Or.inl (ww hw 60 rfl)) (ww hw 4 rfl) (ty := .long) (by decide) rfl rfl (g := (mkF m 21 #[va o0] [(.long 0), (.ref o0)])) rfl rfl (hb hby d11_21)
  have Fw12 := fc10.same W12
  have O12 := O9.wr W12 g_o0
  have K12 : Keep h0 h12 [o0] := K9.wr W12 (Or.inl (List.mem_of_getElem? (i := 0) rfl))
  have N12 := Fr.snoc X12 N9 g_o0
  obtain ⟨fs, hr, hrun, hended, hW, hsame⟩ := X12.leave (v := none) (fun _ => rfl)
  have fc13 := (fc11.wr W12)
  have fc14 := (((Fw2.other W6 (Or.inr (slot_ne (Or.inl (ww hw 19 rfl)) (Or.inl (ww hw 21 rfl)) (by decide) (t := (.array .long)) (t' := (.array .long)) (by decide) (by decide)))).other W9 (Or.inr (slot_ne (Or.inl (ww hw 19 rfl)) (Or.inl (ww hw 37 rfl)) (by decide) (t := (.array .long)) (t' := .int) (by decide) (by decide)))).other W12 (Or.inr (slot_ne (Or.inl (ww hw 19 rfl)) (Or.inl (ww hw 60 rfl)) (by decide) (t := (.array .long)) (t' := .long) (by decide) (by decide))))
  have fc15 := ((Fw6.other W9 (Or.inr (slot_ne (Or.inl (ww hw 21 rfl)) (Or.inl (ww hw 37 rfl)) (by decide) (t := (.array .long)) (t' := .int) (by decide) (by decide)))).other W12 (Or.inr (slot_ne (Or.inl (ww hw 21 rfl)) (Or.inl (ww hw 60 rfl)) (by decide) (t := (.array .long)) (t' := .long) (by decide) (by decide))))
  have fc16 := ((((F_maxRanges_o0.other W2 (Or.inr (slot_ne (Or.inr (ww hw 23 rfl)) (Or.inl (ww hw 19 rfl)) (by decide) (t := .int) (t' := (.array .long)) (by decide) (by decide)))).other W6 (Or.inr (slot_ne (Or.inr (ww hw 23 rfl)) (Or.inl (ww hw 21 rfl)) (by decide) (t := .int) (t' := (.array .long)) (by decide) (by decide)))).other W9 (Or.inr (slot_ne (Or.inr (ww hw 23 rfl)) (Or.inl (ww hw 37 rfl)) (by decide) (t := .int) (t' := .int) (by decide) (by decide)))).other W12 (Or.inr (slot_ne (Or.inr (ww hw 23 rfl)) (Or.inl (ww hw 60 rfl)) (by decide) (t := .int) (t' := .long) (by decide) (by decide))))
  have fc17 := (Fw9.other W12 (Or.inr (slot_ne (Or.inl (ww hw 37 rfl)) (Or.inl (ww hw 60 rfl)) (by decide) (t := .int) (t' := .long) (by decide) (by decide))))
  refine ⟨_, _, ?_, hrun, hended, _, _, rfl, ?_, ⟨_, rfl⟩, hW, hsame.mono (by decide) (by decide)⟩
  · show Steps p.tables e below (s₁.setTop (mkF m 0 #[va o0] [])) _
    refine XS.aloadN X0.here hx rfl (hb hby d11_0) rfl rfl ?_
    refine st1 _ ?_
    refine st2 _ ?_
    refine XS.aloadN X2.here hx rfl (hb hby d11_7) rfl rfl ?_
    refine st3 _ ?_
    refine st6 _ ?_
    refine XS.aloadN X6.here hx rfl (hb hby d11_14) rfl rfl ?_
    refine XS.iconst X6.here hx rfl (hb hby d11_15) ?_
    show Steps p.tables e below (T6.setTop (mkF m 16 #[va o0] [(.int 0), (.ref o0)])) _
    refine st9 _ ?_
    refine XS.aloadN X9.here hx rfl (hb hby d11_19) rfl rfl ?_
    refine XS.lconst X9.here hx rfl (hb hby d11_20) ?_
    refine st12 _ ?_
    exact X12.returnOut hx hrt (hb hby d11_24) hr
  · show Q11_1 Z w_NONE o0 o1 o2 kk_o1 kk_o2 q0 q1 q2 h0 n0 none T12.heap _
    rw [e12]; exact ⟨rfl, N12, K12, fc13, Fw12, fc14, fc15, fc16, fc17⟩
def Q6_3 (Z : State) (w_NONE : Addr) (o0 : Addr) (o1 : Addr) (o2 : Addr) (kk_o1 : ClassId) (kk_o2 : ClassId) (q3 : Int64) (q0 : Int64) (q1 : Int64) (q2 : Int64) (h0 : Heap) (n0 : Nat) (v : Option Value) (h : Heap) (L : List Loc) : Prop := v = (some (.int 0)) ∧ Fr n0 L ∧ h = h0
theorem rm6_3 (l : Launch) (Z : State) (a0 : Array Value) (hw : HW Z a0) (ws : List Jvm.Cond) (w_NONE : Addr) (o0 : Addr) (o1 : Addr) (o2 : Addr) (kk_o1 : ClassId) (kk_o2 : ClassId) (q3 : Int64) (q0 : Int64) (q1 : Int64) (q2 : Int64) (h0 : Heap) (n0 : Nat) (O0 : Old Z n0 h0) (S : SF Z w_NONE) (F_lasts_o0 : Fld Z h0 o0 sC0 "lasts" "[J" (.ref o2)) (F_ranges_o0 : Fld Z h0 o0 sC0 "ranges" "I" (.int 1)) (V_o2 : Arv Z h0 o2 kk_o2 .long (4 : Int32) [(.long q2), (.long 0), (.long 0), (.long 0)] (.long 0)) (hc0 : ¬ (q2 < q3)) :
    Pay l Z My6 ws prog_55_method_19_code 6 (some .int) #[(.ref o0), (.long q3)] h0 ({ frames := 0, cells := 0, slots := 0, locals := 0 } : Room) (Q6_3 Z w_NONE o0 o1 o2 kk_o1 kk_o2 q3 q0 q1 q2 h0 n0) := by
  refine own_body (plainFor_of_name pn_1) (L0 := #[va o0, vl q3, ss, uu, uu, uu]) (fun _ => by first | rfl | (simp [entryFrame, mkF, argsToLocals, Value.category]; done)) ?_
  intro p e s m below meth c s₁ hrt hlk hx hby hml hZ hown0 hnm X0 e0
  have hown : s.vm.findClass sC0 = some m.cls := hown0
  have N0 := Fr.nil n0
  have K0 : Keep h0 h0 [] := Keep.refl _ _
  obtain ⟨T1, X1, e1, st1⟩ := getF X0 hx hZ hown (host := "") (Or.inl (ww hw 36 rfl)) Via.refl e0 F_ranges_o0 (g := (mkF m 3 #[va o0, vl q3, ss, vi 0, uu, uu] [(.ref o0)])) rfl rfl (hb hby d6_3)
  obtain ⟨T2, X2, e2, st2⟩ := getF X1 hx hZ hown (host := "") (Or.inl (ww hw 20 rfl)) Via.refl e1 F_lasts_o0 (g := (mkF m 23 #[va o0, vl q3, ss, vi 0, vi 1, vi 0] [(.ref o0)])) rfl rfl (hb hby d6_23)
  obtain ⟨cl3, Ar3, qk3, Sz3, Ng3, Hh3, Gg3⟩ := id V_o2
  have hin3_0 : ¬ ((0 : Int32) < 0 ∨ cl3.slots.size ≤ ((0 : Int32)).toNatClampNeg) := inb_of Sz3 ⟨by decide, by decide⟩
  obtain ⟨fs, hr, hrun, hended, hW, hsame⟩ := X2.leave (v := (some (.int 0))) (fun h => by rw [hrt] at h; cases h)
  refine ⟨_, _, ?_, hrun, hended, _, _, rfl, ?_, ⟨_, rfl⟩, hW, hsame.mono (by decide) (by decide)⟩
  · show Steps p.tables e below (s₁.setTop (mkF m 0 #[va o0, vl q3, ss, uu, uu, uu] [])) _
    refine XS.iconst X0.here hx rfl (hb hby d6_0) ?_
    refine XS.istoreN X0.here hx rfl (hb hby d6_1) rfl (l' := #[va o0, vl q3, ss, vi 0, uu, uu]) rfl ?_
    refine XS.aloadN X0.here hx rfl (hb hby d6_2) rfl rfl ?_
    refine st1 _ ?_
    refine XS.istore X1.here hx rfl (hb hby d6_6) rfl (l' := #[va o0, vl q3, ss, vi 0, vi 1, uu]) rfl ?_
    refine XS.iloadN X1.here hx rfl (hb hby d6_8) rfl ?_
    refine XS.iload X1.here hx rfl (hb hby d6_9) rfl ?_
    refine XS.icmpNo X1.here hx rfl (hb hby d6_11) rfl (tlt (by decide : (0 : Int32) < (1 : Int32))).2.1 ?_
    show Steps p.tables e below (T1.setTop (mkF m 14 #[va o0, vl q3, ss, vi 0, vi 1, uu] [])) _
    refine XS.iloadN X1.here hx rfl (hb hby d6_14) rfl ?_
    refine XS.iload X1.here hx rfl (hb hby d6_15) rfl ?_
    refine XS.iadd X1.here hx rfl (hb hby d6_17) rfl ?_
    show Steps p.tables e below (T1.setTop (mkF m 18 #[va o0, vl q3, ss, vi 0, vi 1, uu] [(.int ((0 : Int32) + (1 : Int32)))])) _
    rw [show (((0 : Int32) + (1 : Int32)) : Int32) = (1 : Int32) from by decide]
    refine XS.iconst X1.here hx rfl (hb hby d6_18) ?_
    refine XS.iushr X1.here hx rfl (hb hby d6_19) rfl ?_
    show Steps p.tables e below (T1.setTop (mkF m 20 #[va o0, vl q3, ss, vi 0, vi 1, uu] [(.int (((1 : Int32).toUInt32 >>> ((1 : Int32) &&& 31).toUInt32).toInt32))])) _
    rw [show ((((1 : Int32).toUInt32 >>> ((1 : Int32) &&& 31).toUInt32).toInt32) : Int32) = (0 : Int32) from by decide]
    refine XS.istore X1.here hx rfl (hb hby d6_20) rfl (l' := #[va o0, vl q3, ss, vi 0, vi 1, vi 0]) rfl ?_
    refine XS.aloadN X1.here hx rfl (hb hby d6_22) rfl rfl ?_
    refine st2 _ ?_
    refine XS.iload X2.here hx rfl (hb hby d6_26) rfl ?_
    refine X2.laload hx (j := (0 : Int32)) (v := (.long q2)) (by rw [e2]; exact Ar3.1) (State.isArrayOf_alike hZ.alike Ar3.2.1) Ar3.2.2 hin3_0 (Has.at Hh3 hin3_0 rfl) (g := (mkF m 28 #[va o0, vl q3, ss, vi 0, vi 1, vi 0] [(.int 0), (.ref o2)])) rfl rfl (hb hby d6_28) _ ?_
    refine XS.lloadN X2.here hx rfl (hb hby d6_29) rfl ?_
    refine XS.lcmp X2.here hx rfl (hb hby d6_30) rfl ?_
    show Steps p.tables e below (T2.setTop (mkF m 31 #[va o0, vl q3, ss, vi 0, vi 1, vi 0] [(.int (lcmpW q2 q3))])) _
    refine XS.ifYes X2.here hx rfl (pc0 := 31) (pc' := 42) rfl (hb hby d6_31) rfl (own_lc_ltF hc0).2 (by decide) (by decide) ?_
    refine XS.iload X2.here hx rfl (hb hby d6_42) rfl ?_
    refine XS.istore X2.here hx rfl (hb hby d6_44) rfl (l' := #[va o0, vl q3, ss, vi 0, vi 0, vi 0]) rfl ?_
    refine XS.goto X2.here hx rfl (pc0 := 46) (pc' := 8) rfl (hb hby d6_46) (by decide) (by decide) ?_
    refine XS.iloadN X2.here hx rfl (hb hby d6_8) rfl ?_
    refine XS.iload X2.here hx rfl (hb hby d6_9) rfl ?_
    refine XS.icmpYes X2.here hx rfl (pc0 := 11) (pc' := 49) rfl (hb hby d6_11) rfl (flt (by decide : ¬ ((0 : Int32) < (0 : Int32)))).2.1 (by decide) (by decide) ?_
    refine XS.iloadN X2.here hx rfl (hb hby d6_49) rfl ?_
    show Steps p.tables e below (T2.setTop (mkF m 50 #[va o0, vl q3, ss, vi 0, vi 0, vi 0] [(.int 0)])) _
    exact retOut X2 hx (t := .int) (i := .ireturn) hrt rfl (Or.inl ⟨rfl, Or.inl rfl, _, rfl⟩) (hb hby d6_50) hr
  · show Q6_3 Z w_NONE o0 o1 o2 kk_o1 kk_o2 q3 q0 q1 q2 h0 n0 (some (.int 0)) T2.heap _
    exact (⟨rfl, N0, e2⟩)
theorem d4_37 : decode prog_55_method_8_code 37 = .ok (.aload_n 0, 1) := by decide +kernel
theorem d4_38 : decode prog_55_method_8_code 38 = .ok (.getfield 19, 3) := by decide +kernel
theorem d4_41 : decode prog_55_method_8_code 41 = .ok (.iload 6, 2) := by decide +kernel
theorem d4_43 : decode prog_55_method_8_code 43 = .ok (.laload, 1) := by decide +kernel
theorem d4_44 : decode prog_55_method_8_code 44 = .ok (.lload_n 3, 1) := by decide +kernel
theorem d4_45 : decode prog_55_method_8_code 45 = .ok (.lconst 1, 1) := by decide +kernel
theorem d4_46 : decode prog_55_method_8_code 46 = .ok (.ladd, 1) := by decide +kernel
theorem d4_47 : decode prog_55_method_8_code 47 = .ok (.lcmp, 1) := by decide +kernel
theorem d4_48 : decode prog_55_method_8_code 48 = .ok (.ifCond .gt 9, 3) := by decide +kernel
theorem d4_51 : decode prog_55_method_8_code 51 = .ok (.iinc 6 1, 3) := by decide +kernel
theorem d4_54 : decode prog_55_method_8_code 54 = .ok (.goto (-26), 3) := by decide +kernel
theorem d4_105 : decode prog_55_method_8_code 105 = .ok (.lconst 0, 1) := by decide +kernel
theorem d4_106 : decode prog_55_method_8_code 106 = .ok (.lstore 7, 2) := by decide +kernel
theorem d4_108 : decode prog_55_method_8_code 108 = .ok (.iload 5, 2) := by decide +kernel
theorem d4_110 : decode prog_55_method_8_code 110 = .ok (.istore 9, 2) := by decide +kernel
theorem d4_112 : decode prog_55_method_8_code 112 = .ok (.iload 9, 2) := by decide +kernel
theorem d4_114 : decode prog_55_method_8_code 114 = .ok (.iload 6, 2) := by decide +kernel
theorem d4_116 : decode prog_55_method_8_code 116 = .ok (.if_icmp .gt 31, 3) := by decide +kernel
theorem d4_119 : decode prog_55_method_8_code 119 = .ok (.lload 7, 2) := by decide +kernel
theorem d4_121 : decode prog_55_method_8_code 121 = .ok (.aload_n 0, 1) := by decide +kernel
theorem d4_122 : decode prog_55_method_8_code 122 = .ok (.getfield 22, 3) := by decide +kernel
theorem d4_125 : decode prog_55_method_8_code 125 = .ok (.iload 9, 2) := by decide +kernel
theorem d4_127 : decode prog_55_method_8_code 127 = .ok (.laload, 1) := by decide +kernel
theorem d4_128 : decode prog_55_method_8_code 128 = .ok (.aload_n 0, 1) := by decide +kernel
theorem d4_129 : decode prog_55_method_8_code 129 = .ok (.getfield 19, 3) := by decide +kernel
theorem d4_132 : decode prog_55_method_8_code 132 = .ok (.iload 9, 2) := by decide +kernel
theorem d4_134 : decode prog_55_method_8_code 134 = .ok (.laload, 1) := by decide +kernel
theorem d4_135 : decode prog_55_method_8_code 135 = .ok (.lsub, 1) := by decide +kernel
theorem d4_136 : decode prog_55_method_8_code 136 = .ok (.lconst 1, 1) := by decide +kernel
theorem d4_137 : decode prog_55_method_8_code 137 = .ok (.ladd, 1) := by decide +kernel
theorem d4_138 : decode prog_55_method_8_code 138 = .ok (.ladd, 1) := by decide +kernel
theorem d4_139 : decode prog_55_method_8_code 139 = .ok (.lstore 7, 2) := by decide +kernel
theorem d4_141 : decode prog_55_method_8_code 141 = .ok (.iinc 9 1, 3) := by decide +kernel
theorem d4_144 : decode prog_55_method_8_code 144 = .ok (.goto (-32), 3) := by decide +kernel
theorem d4_147 : decode prog_55_method_8_code 147 = .ok (.lload_n 1, 1) := by decide +kernel
theorem d4_148 : decode prog_55_method_8_code 148 = .ok (.aload_n 0, 1) := by decide +kernel
theorem d4_149 : decode prog_55_method_8_code 149 = .ok (.getfield 19, 3) := by decide +kernel
theorem d4_152 : decode prog_55_method_8_code 152 = .ok (.iload 5, 2) := by decide +kernel
theorem d4_154 : decode prog_55_method_8_code 154 = .ok (.laload, 1) := by decide +kernel
theorem d4_155 : decode prog_55_method_8_code 155 = .ok (.invokestatic 59, 3) := by decide +kernel
theorem d17_0 : decode jdk_29_method_70_code 0 = .ok (.lload_n 0, 1) := by decide +kernel
theorem d17_1 : decode jdk_29_method_70_code 1 = .ok (.lload_n 2, 1) := by decide +kernel
theorem d17_2 : decode jdk_29_method_70_code 2 = .ok (.lcmp, 1) := by decide +kernel
theorem d17_3 : decode jdk_29_method_70_code 3 = .ok (.ifCond .gt 7, 3) := by decide +kernel
theorem d17_6 : decode jdk_29_method_70_code 6 = .ok (.lload_n 0, 1) := by decide +kernel
theorem d17_7 : decode jdk_29_method_70_code 7 = .ok (.goto 4, 3) := by decide +kernel
theorem d17_11 : decode jdk_29_method_70_code 11 = .ok (.lreturn, 1) := by decide +kernel
theorem d17_10 : decode jdk_29_method_70_code 10 = .ok (.lload_n 2, 1) := by decide +kernel
def Q17_0 (Z : State) (w_NONE : Addr) (q0 : Int64) (q1 : Int64) (h0 : Heap) (n0 : Nat) (v : Option Value) (h : Heap) (L : List Loc) : Prop := v = (some (.long q0)) ∧ Fr n0 L ∧ h = h0
theorem rm17_0 (l : Launch) (Z : State) (a0 : Array Value) (hw : HW Z a0) (ws : List Jvm.Cond) (w_NONE : Addr) (q0 : Int64) (q1 : Int64) (h0 : Heap) (n0 : Nat) (O0 : Old Z n0 h0) (S : SF Z w_NONE) (hc0 : ¬ (q1 < q0)) :
    Pay l Z My17 ws jdk_29_method_70_code 4 (some .long) #[(.long q0), (.long q1)] h0 ({ frames := 0, cells := 0, slots := 0, locals := 0 } : Room) (Q17_0 Z w_NONE q0 q1 h0 n0) := by
  refine own_body (Jvm.Free.JP.mathPlain rfl (by decide +kernel)) (L0 := #[vl q0, ss, vl q1, ss]) (fun _ => by first | rfl | (simp [entryFrame, mkF, argsToLocals, Value.category]; done)) ?_
  intro p e s m below meth c s₁ hrt hlk hx hby hml hZ hown0 hnm X0 e0
  have hown : s.vm.findClass sC1 = some m.cls := hown0
  have N0 := Fr.nil n0
  have K0 : Keep h0 h0 [] := Keep.refl _ _
  obtain ⟨fs, hr, hrun, hended, hW, hsame⟩ := X0.leave (v := (some (.long q0))) (fun h => by rw [hrt] at h; cases h)
  refine ⟨_, _, ?_, hrun, hended, _, _, rfl, ?_, ⟨_, rfl⟩, hW, hsame.mono (by decide) (by decide)⟩
  · show Steps p.tables e below (s₁.setTop (mkF m 0 #[vl q0, ss, vl q1, ss] [])) _
    refine XS.lloadN X0.here hx rfl (hb hby d17_0) rfl ?_
    refine XS.lloadN X0.here hx rfl (hb hby d17_1) rfl ?_
    refine XS.lcmp X0.here hx rfl (hb hby d17_2) rfl ?_
    refine XS.ifNo X0.here hx rfl (hb hby d17_3) rfl (own_lc_gtF hc0).1 ?_
    refine XS.lloadN X0.here hx rfl (hb hby d17_6) rfl ?_
    refine XS.goto X0.here hx rfl (pc0 := 7) (pc' := 11) rfl (hb hby d17_7) (by decide) (by decide) ?_
    exact retOut X0 hx (t := .long) (i := .lreturn) hrt rfl (Or.inr (Or.inl ⟨rfl, rfl, _, rfl⟩)) (hb hby d17_11) hr
  · show Q17_0 Z w_NONE q0 q1 h0 n0 (some (.long q0)) s₁.heap _
    exact (⟨rfl, N0, e0⟩)
def Q17_1 (Z : State) (w_NONE : Addr) (q0 : Int64) (q1 : Int64) (h0 : Heap) (n0 : Nat) (v : Option Value) (h : Heap) (L : List Loc) : Prop := v = (some (.long q1)) ∧ Fr n0 L ∧ h = h0
theorem rm17_1 (l : Launch) (Z : State) (a0 : Array Value) (hw : HW Z a0) (ws : List Jvm.Cond) (w_NONE : Addr) (q0 : Int64) (q1 : Int64) (h0 : Heap) (n0 : Nat) (O0 : Old Z n0 h0) (S : SF Z w_NONE) (hc0 : q1 < q0) :
    Pay l Z My17 ws jdk_29_method_70_code 4 (some .long) #[(.long q0), (.long q1)] h0 ({ frames := 0, cells := 0, slots := 0, locals := 0 } : Room) (Q17_1 Z w_NONE q0 q1 h0 n0) := by
  refine own_body (Jvm.Free.JP.mathPlain rfl (by decide +kernel)) (L0 := #[vl q0, ss, vl q1, ss]) (fun _ => by first | rfl | (simp [entryFrame, mkF, argsToLocals, Value.category]; done)) ?_
  intro p e s m below meth c s₁ hrt hlk hx hby hml hZ hown0 hnm X0 e0
  have hown : s.vm.findClass sC1 = some m.cls := hown0
  have N0 := Fr.nil n0
  have K0 : Keep h0 h0 [] := Keep.refl _ _
  obtain ⟨fs, hr, hrun, hended, hW, hsame⟩ := X0.leave (v := (some (.long q1))) (fun h => by rw [hrt] at h; cases h)
  refine ⟨_, _, ?_, hrun, hended, _, _, rfl, ?_, ⟨_, rfl⟩, hW, hsame.mono (by decide) (by decide)⟩
  · show Steps p.tables e below (s₁.setTop (mkF m 0 #[vl q0, ss, vl q1, ss] [])) _
    refine XS.lloadN X0.here hx rfl (hb hby d17_0) rfl ?_
    refine XS.lloadN X0.here hx rfl (hb hby d17_1) rfl ?_
    refine XS.lcmp X0.here hx rfl (hb hby d17_2) rfl ?_
    refine XS.ifYes X0.here hx rfl (pc0 := 3) (pc' := 10) rfl (hb hby d17_3) rfl (own_lc_gtT hc0).1 (by decide) (by decide) ?_
    refine XS.lloadN X0.here hx rfl (hb hby d17_10) rfl ?_
    exact retOut X0 hx (t := .long) (i := .lreturn) hrt rfl (Or.inr (Or.inl ⟨rfl, rfl, _, rfl⟩)) (hb hby d17_11) hr
  · show Q17_1 Z w_NONE q0 q1 h0 n0 (some (.long q1)) s₁.heap _
    exact (⟨rfl, N0, e0⟩)
def Qm17_0 (Z : State) (w_NONE : Addr) (q0 : Int64) (q1 : Int64) (h0 : Heap) (n0 : Nat) (v : Option Value) (h : Heap) (L : List Loc) : Prop := v = (some (.long (own_minL q0 q1))) ∧ Fr n0 L ∧ h = h0
theorem mg17_0 (l : Launch) (Z : State) (a0 : Array Value) (hw : HW Z a0) (ws : List Jvm.Cond) (w_NONE : Addr) (q0 : Int64) (q1 : Int64) (h0 : Heap) (n0 : Nat) (O0 : Old Z n0 h0) (S : SF Z w_NONE) :
    Pay l Z My17 ws jdk_29_method_70_code 4 (some .long) #[(.long q0), (.long q1)] h0 ({ frames := 0, cells := 0, slots := 0, locals := 0 } : Room) (Qm17_0 Z w_NONE q0 q1 h0 n0) := by
  by_cases hm0 : q1 < q0
  · have q := rm17_1 l Z a0 hw ws w_NONE q0 q1 h0 n0 O0 S hm0
    have e : (own_minL q0 q1) = q1 := by simp [own_minL, hm0]
    rw [show (Qm17_0 Z w_NONE q0 q1 h0 n0) = (Q17_1 Z w_NONE q0 q1 h0 n0) from by funext v h L; unfold Qm17_0 Q17_1; rw [e]]; exact q
  · have q := rm17_0 l Z a0 hw ws w_NONE q0 q1 h0 n0 O0 S hm0
    have e : (own_minL q0 q1) = q0 := by simp [own_minL, hm0]
    rw [show (Qm17_0 Z w_NONE q0 q1 h0 n0) = (Q17_0 Z w_NONE q0 q1 h0 n0) from by funext v h L; unfold Qm17_0 Q17_0; rw [e]]; exact q
theorem d4_158 : decode prog_55_method_8_code 158 = .ok (.lstore 9, 2) := by decide +kernel
theorem d4_160 : decode prog_55_method_8_code 160 = .ok (.lload_n 3, 1) := by decide +kernel
theorem d4_161 : decode prog_55_method_8_code 161 = .ok (.aload_n 0, 1) := by decide +kernel
theorem d4_162 : decode prog_55_method_8_code 162 = .ok (.getfield 22, 3) := by decide +kernel
theorem d4_165 : decode prog_55_method_8_code 165 = .ok (.iload 6, 2) := by decide +kernel
theorem d4_167 : decode prog_55_method_8_code 167 = .ok (.laload, 1) := by decide +kernel
theorem d4_168 : decode prog_55_method_8_code 168 = .ok (.invokestatic 65, 3) := by decide +kernel
theorem d4_171 : decode prog_55_method_8_code 171 = .ok (.lstore 11, 2) := by decide +kernel
theorem d4_173 : decode prog_55_method_8_code 173 = .ok (.aload_n 0, 1) := by decide +kernel
theorem d4_174 : decode prog_55_method_8_code 174 = .ok (.getfield 19, 3) := by decide +kernel
theorem d4_177 : decode prog_55_method_8_code 177 = .ok (.iload 5, 2) := by decide +kernel
theorem d4_179 : decode prog_55_method_8_code 179 = .ok (.lload 9, 2) := by decide +kernel
theorem d4_181 : decode prog_55_method_8_code 181 = .ok (.lastore, 1) := by decide +kernel
theorem d4_182 : decode prog_55_method_8_code 182 = .ok (.aload_n 0, 1) := by decide +kernel
theorem d4_183 : decode prog_55_method_8_code 183 = .ok (.getfield 22, 3) := by decide +kernel
theorem d4_186 : decode prog_55_method_8_code 186 = .ok (.iload 5, 2) := by decide +kernel
theorem d4_188 : decode prog_55_method_8_code 188 = .ok (.lload 11, 2) := by decide +kernel
theorem d4_190 : decode prog_55_method_8_code 190 = .ok (.lastore, 1) := by decide +kernel
theorem d4_191 : decode prog_55_method_8_code 191 = .ok (.aload_n 0, 1) := by decide +kernel
theorem d4_192 : decode prog_55_method_8_code 192 = .ok (.iload 5, 2) := by decide +kernel
theorem d4_194 : decode prog_55_method_8_code 194 = .ok (.iconst 1, 1) := by decide +kernel
theorem d4_195 : decode prog_55_method_8_code 195 = .ok (.iadd, 1) := by decide +kernel
theorem d4_196 : decode prog_55_method_8_code 196 = .ok (.iload 6, 2) := by decide +kernel
theorem d4_198 : decode prog_55_method_8_code 198 = .ok (.iload 5, 2) := by decide +kernel
theorem d4_200 : decode prog_55_method_8_code 200 = .ok (.isub, 1) := by decide +kernel
theorem d4_201 : decode prog_55_method_8_code 201 = .ok (.invokevirtual 68, 3) := by decide +kernel
theorem d18_0 : decode prog_55_method_22_code 0 = .ok (.aload_n 0, 1) := by decide +kernel
theorem d18_1 : decode prog_55_method_22_code 1 = .ok (.getfield 19, 3) := by decide +kernel
theorem d18_4 : decode prog_55_method_22_code 4 = .ok (.iload_n 1, 1) := by decide +kernel
theorem d18_5 : decode prog_55_method_22_code 5 = .ok (.iload_n 2, 1) := by decide +kernel
theorem d18_6 : decode prog_55_method_22_code 6 = .ok (.iadd, 1) := by decide +kernel
theorem d18_7 : decode prog_55_method_22_code 7 = .ok (.aload_n 0, 1) := by decide +kernel
theorem d18_8 : decode prog_55_method_22_code 8 = .ok (.getfield 19, 3) := by decide +kernel
theorem d18_11 : decode prog_55_method_22_code 11 = .ok (.iload_n 1, 1) := by decide +kernel
theorem d18_12 : decode prog_55_method_22_code 12 = .ok (.aload_n 0, 1) := by decide +kernel
theorem d18_13 : decode prog_55_method_22_code 13 = .ok (.getfield 34, 3) := by decide +kernel
theorem d18_16 : decode prog_55_method_22_code 16 = .ok (.iload_n 1, 1) := by decide +kernel
theorem d18_17 : decode prog_55_method_22_code 17 = .ok (.isub, 1) := by decide +kernel
theorem d18_18 : decode prog_55_method_22_code 18 = .ok (.iload_n 2, 1) := by decide +kernel
theorem d18_19 : decode prog_55_method_22_code 19 = .ok (.isub, 1) := by decide +kernel
theorem d18_20 : decode prog_55_method_22_code 20 = .ok (.invokestatic 89, 3) := by decide +kernel
theorem d18_23 : decode prog_55_method_22_code 23 = .ok (.aload_n 0, 1) := by decide +kernel
theorem d18_24 : decode prog_55_method_22_code 24 = .ok (.getfield 22, 3) := by decide +kernel
theorem d18_27 : decode prog_55_method_22_code 27 = .ok (.iload_n 1, 1) := by decide +kernel
theorem d18_28 : decode prog_55_method_22_code 28 = .ok (.iload_n 2, 1) := by decide +kernel
theorem d18_29 : decode prog_55_method_22_code 29 = .ok (.iadd, 1) := by decide +kernel
theorem d18_30 : decode prog_55_method_22_code 30 = .ok (.aload_n 0, 1) := by decide +kernel
theorem d18_31 : decode prog_55_method_22_code 31 = .ok (.getfield 22, 3) := by decide +kernel
theorem d18_34 : decode prog_55_method_22_code 34 = .ok (.iload_n 1, 1) := by decide +kernel
theorem d18_35 : decode prog_55_method_22_code 35 = .ok (.aload_n 0, 1) := by decide +kernel
theorem d18_36 : decode prog_55_method_22_code 36 = .ok (.getfield 34, 3) := by decide +kernel
theorem d18_39 : decode prog_55_method_22_code 39 = .ok (.iload_n 1, 1) := by decide +kernel
theorem d18_40 : decode prog_55_method_22_code 40 = .ok (.isub, 1) := by decide +kernel
theorem d18_41 : decode prog_55_method_22_code 41 = .ok (.iload_n 2, 1) := by decide +kernel
theorem d18_42 : decode prog_55_method_22_code 42 = .ok (.isub, 1) := by decide +kernel
theorem d18_43 : decode prog_55_method_22_code 43 = .ok (.invokestatic 89, 3) := by decide +kernel
theorem d18_46 : decode prog_55_method_22_code 46 = .ok (.aload_n 0, 1) := by decide +kernel
theorem d18_47 : decode prog_55_method_22_code 47 = .ok (.dup, 1) := by decide +kernel
theorem d18_48 : decode prog_55_method_22_code 48 = .ok (.getfield 34, 3) := by decide +kernel
theorem d18_51 : decode prog_55_method_22_code 51 = .ok (.iload_n 2, 1) := by decide +kernel
theorem d18_52 : decode prog_55_method_22_code 52 = .ok (.isub, 1) := by decide +kernel
theorem d18_53 : decode prog_55_method_22_code 53 = .ok (.putfield 34, 3) := by decide +kernel
theorem d18_56 : decode prog_55_method_22_code 56 = .ok (.return_, 1) := by decide +kernel
def Q18_0 (Z : State) (w_NONE : Addr) (o0 : Addr) (o1 : Addr) (o2 : Addr) (kk_o1 : ClassId) (kk_o2 : ClassId) (q0 : Int64) (q1 : Int64) (q2 : Int64) (h0 : Heap) (n0 : Nat) (v : Option Value) (h : Heap) (L : List Loc) : Prop := v = none ∧ Fr n0 L ∧ Keep h0 h [o1, o2, o0] ∧ Exa Z h o0 sC0 ∧ Fld Z h o0 sC0 "count" "J" (.long q0) ∧ Fld Z h o0 sC0 "firsts" "[J" (.ref o1) ∧ Fld Z h o0 sC0 "lasts" "[J" (.ref o2) ∧ Fld Z h o0 sC0 "maxRanges" "I" (.int 2147483647) ∧ Fld Z h o0 sC0 "ranges" "I" (.int 1) ∧ Arv Z h o1 kk_o1 .long (4 : Int32) [(.long q1), (.long 0), (.long 0), (.long 0)] (.long 0) ∧ Arv Z h o2 kk_o2 .long (4 : Int32) [(.long q2), (.long 0), (.long 0), (.long 0)] (.long 0)
theorem rm18_0 (l : Launch) (Z : State) (a0 : Array Value) (hw : HW Z a0) (ws : List Jvm.Cond) (w_NONE : Addr) (o0 : Addr) (o1 : Addr) (o2 : Addr) (kk_o1 : ClassId) (kk_o2 : ClassId) (q0 : Int64) (q1 : Int64) (q2 : Int64) (h0 : Heap) (n0 : Nat) (O0 : Old Z n0 h0) (S : SF Z w_NONE) (E_o0 : Exa Z h0 o0 sC0) (F_count_o0 : Fld Z h0 o0 sC0 "count" "J" (.long q0)) (F_firsts_o0 : Fld Z h0 o0 sC0 "firsts" "[J" (.ref o1)) (F_lasts_o0 : Fld Z h0 o0 sC0 "lasts" "[J" (.ref o2)) (F_maxRanges_o0 : Fld Z h0 o0 sC0 "maxRanges" "I" (.int 2147483647)) (F_ranges_o0 : Fld Z h0 o0 sC0 "ranges" "I" (.int 1)) (V_o1 : Arv Z h0 o1 kk_o1 .long (4 : Int32) [(.long q1), (.long 0), (.long 0), (.long 0)] (.long 0)) (V_o2 : Arv Z h0 o2 kk_o2 .long (4 : Int32) [(.long q2), (.long 0), (.long 0), (.long 0)] (.long 0)) (ne_o0_o1 : o0 ≠ o1) (ne_o0_o2 : o0 ≠ o2) (ne_o1_o2 : o1 ≠ o2) (g_o0 : n0 ≤ o0) (g_o1 : n0 ≤ o1) (g_o2 : n0 ≤ o2) :
    Pay l Z (⟨sC0, "delete", "(II)V"⟩ : MethodName) ws prog_55_method_22_code 3 none #[(.ref o0), (.int 1), (.int 0)] h0 ({ frames := 1, cells := 0, slots := 0, locals := 18 } : Room) (Q18_0 Z w_NONE o0 o1 o2 kk_o1 kk_o2 q0 q1 q2 h0 n0) := by
  refine own_body (plainFor_of_name pn_1) (L0 := #[va o0, vi 1, vi 0]) (fun _ => by first | rfl | (simp [entryFrame, mkF, argsToLocals, Value.category]; done)) ?_
  intro p e s m below meth c s₁ hrt hlk hx hby hml hZ hown0 hnm X0 e0
  have hown : s.vm.findClass sC0 = some m.cls := hown0
  have N0 := Fr.nil n0
  have K0 : Keep h0 h0 [o1, o2, o0] := Keep.refl _ _
  obtain ⟨T1, X1, e1, st1⟩ := getF X0 hx hZ hown (host := "") (Or.inl (ww hw 18 rfl)) Via.refl e0 F_firsts_o0 (g := (mkF m 1 #[va o0, vi 1, vi 0] [(.ref o0)])) rfl rfl (hb hby d18_1)
  obtain ⟨T2, X2, e2, st2⟩ := getF X1 hx hZ hown (host := "") (Or.inl (ww hw 18 rfl)) Via.refl e1 F_firsts_o0 (g := (mkF m 8 #[va o0, vi 1, vi 0] [(.ref o0), (.int 1), (.ref o1)])) rfl rfl (hb hby d18_8)
  obtain ⟨T3, X3, e3, st3⟩ := getF X2 hx hZ hown (host := "") (Or.inl (ww hw 36 rfl)) Via.refl e2 F_ranges_o0 (g := (mkF m 13 #[va o0, vi 1, vi 0] [(.ref o0), (.int 1), (.ref o1), (.int 1), (.ref o1)])) rfl rfl (hb hby d18_13)
  obtain ⟨T4, h4, L4, X4, e4, N4, Kc4, Vc4, st4⟩ := cpA X3 hx hZ hown (ww hw 58 rfl) (ww hw 57 rfl) (ww hw 55 rfl) (ww hw 56 rfl) e3 V_o1 V_o1 (us := []) (Or.inl ⟨rfl, rfl⟩) (sp := (1 : Int32)) (dp := (1 : Int32)) (nn := (0 : Int32)) (by decide) (by decide) (by decide) (by decide) (by decide) rfl (Nat.le_of_ble_eq_true rfl) N0 g_o1 (g := (mkF m 20 #[va o0, vi 1, vi 0] [(.int 0), (.int 1), (.ref o1), (.int 1), (.ref o1)])) rfl (by rw [hml]; rfl) (rest := []) rfl (hb hby d18_20) (by decide) (W := 0) (by show 2 * 0 + _ ≤ _; exact Nat.le_of_eq rfl) (by decide)
  have V4 : Arv Z h4 o1 kk_o1 .long (4 : Int32) [(.long q1), (.long 0), (.long 0), (.long 0)] (.long 0) := Vc4
  have O4 := O0.keep Kc4 (allS g_o1 all0)
  have K4 : Keep h0 h4 [o1, o2, o0] := K0.trans Kc4 (allS (Or.inl (List.mem_of_getElem? (i := 0) rfl)) all0)
  have fc5 := (F_lasts_o0.keep Kc4 (ninS ne_o0_o1 nin0))
  obtain ⟨T6, X6, e6, st6⟩ := getF X4 hx hZ hown (host := "") (Or.inl (ww hw 20 rfl)) Via.refl e4 fc5 (g := (mkF m 24 #[va o0, vi 1, vi 0] [(.ref o0)])) rfl rfl (hb hby d18_24)
  obtain ⟨T7, X7, e7, st7⟩ := getF X6 hx hZ hown (host := "") (Or.inl (ww hw 20 rfl)) Via.refl e6 fc5 (g := (mkF m 31 #[va o0, vi 1, vi 0] [(.ref o0), (.int 1), (.ref o2)])) rfl rfl (hb hby d18_31)
  have fc8 := (F_ranges_o0.keep Kc4 (ninS ne_o0_o1 nin0))
  obtain ⟨T9, X9, e9, st9⟩ := getF X7 hx hZ hown (host := "") (Or.inl (ww hw 36 rfl)) Via.refl e7 fc8 (g := (mkF m 36 #[va o0, vi 1, vi 0] [(.ref o0), (.int 1), (.ref o2), (.int 1), (.ref o2)])) rfl rfl (hb hby d18_36)
  have fc10 := (V_o2.keep Kc4 (ninS (Ne.symm ne_o1_o2) nin0))
  obtain ⟨T11, h11, L11, X11, e11, N11, Kc11, Vc11, st11⟩ := cpA X9 hx hZ hown (ww hw 58 rfl) (ww hw 57 rfl) (ww hw 55 rfl) (ww hw 56 rfl) e9 fc10 fc10 (us := []) (Or.inl ⟨rfl, rfl⟩) (sp := (1 : Int32)) (dp := (1 : Int32)) (nn := (0 : Int32)) (by decide) (by decide) (by decide) (by decide) (by decide) rfl (Nat.le_of_ble_eq_true rfl) N4 g_o2 (g := (mkF m 43 #[va o0, vi 1, vi 0] [(.int 0), (.int 1), (.ref o2), (.int 1), (.ref o2)])) rfl (by rw [hml]; rfl) (rest := []) rfl (hb hby d18_43) (by decide) (W := 0) (by show 2 * 0 + _ ≤ _; exact Nat.le_of_eq rfl) (by decide)
  have V11 : Arv Z h11 o2 kk_o2 .long (4 : Int32) [(.long q2), (.long 0), (.long 0), (.long 0)] (.long 0) := Vc11
  have O11 := O4.keep Kc11 (allS g_o2 all0)
  have K11 : Keep h0 h11 [o1, o2, o0] := K4.trans Kc11 (allS (Or.inl (List.mem_of_getElem? (i := 1) rfl)) all0)
  have fc12 := (fc8.keep Kc11 (ninS ne_o0_o2 nin0))
  obtain ⟨T13, X13, e13, st13⟩ := getF X11 hx hZ hown (host := "") (Or.inl (ww hw 36 rfl)) Via.refl e11 fc12 (g := (mkF m 48 #[va o0, vi 1, vi 0] [(.ref o0), (.ref o0)])) rfl rfl (hb hby d18_48)
  have fc14 := ((E_o0.keep Kc4).keep Kc11)
  obtain ⟨T15, h15, X15, e15, W15, st15⟩ := putF X13 hx hZ hown (host := "") (Or.inl (ww hw 36 rfl)) Via.refl e13 fc12 fc14 (Or.inl (ww hw 37 rfl)) (ww hw 4 rfl) (ty := .int) (by decide) rfl rfl (g := (mkF m 53 #[va o0, vi 1, vi 0] [(.int 1), (.ref o0)])) rfl rfl (hb hby d18_53)
  have Fw15 := fc12.same W15
  have O15 := O11.wr W15 g_o0
  have K15 : Keep h0 h15 [o1, o2, o0] := K11.wr W15 (Or.inl (List.mem_of_getElem? (i := 2) rfl))
  have N15 := Fr.snoc X15 N11 g_o0
  obtain ⟨fs, hr, hrun, hended, hW, hsame⟩ := X15.leave (v := none) (fun _ => rfl)
  have fc16 := (fc14.wr W15)
  have fc17 := (((F_count_o0.keep Kc4 (ninS ne_o0_o1 nin0)).keep Kc11 (ninS ne_o0_o2 nin0)).other W15 (Or.inr (slot_ne (Or.inl (ww hw 60 rfl)) (Or.inl (ww hw 37 rfl)) (by decide) (t := .long) (t' := .int) (by decide) (by decide))))
  have fc18 := (((F_firsts_o0.keep Kc4 (ninS ne_o0_o1 nin0)).keep Kc11 (ninS ne_o0_o2 nin0)).other W15 (Or.inr (slot_ne (Or.inl (ww hw 19 rfl)) (Or.inl (ww hw 37 rfl)) (by decide) (t := (.array .long)) (t' := .int) (by decide) (by decide))))
  have fc19 := ((fc5.keep Kc11 (ninS ne_o0_o2 nin0)).other W15 (Or.inr (slot_ne (Or.inl (ww hw 21 rfl)) (Or.inl (ww hw 37 rfl)) (by decide) (t := (.array .long)) (t' := .int) (by decide) (by decide))))
  have fc20 := (((F_maxRanges_o0.keep Kc4 (ninS ne_o0_o1 nin0)).keep Kc11 (ninS ne_o0_o2 nin0)).other W15 (Or.inr (slot_ne (Or.inr (ww hw 23 rfl)) (Or.inl (ww hw 37 rfl)) (by decide) (t := .int) (t' := .int) (by decide) (by decide))))
  have fc21 := ((V4.keep Kc11 (ninS ne_o1_o2 nin0)).other W15 (Ne.symm ne_o0_o1))
  have fc22 := (V11.other W15 (Ne.symm ne_o0_o2))
  refine ⟨_, _, ?_, hrun, hended, _, _, rfl, ?_, ⟨_, rfl⟩, hW, hsame.mono (by decide) (by decide)⟩
  · show Steps p.tables e below (s₁.setTop (mkF m 0 #[va o0, vi 1, vi 0] [])) _
    refine XS.aloadN X0.here hx rfl (hb hby d18_0) rfl rfl ?_
    refine st1 _ ?_
    refine XS.iloadN X1.here hx rfl (hb hby d18_4) rfl ?_
    refine XS.iloadN X1.here hx rfl (hb hby d18_5) rfl ?_
    refine XS.iadd X1.here hx rfl (hb hby d18_6) rfl ?_
    show Steps p.tables e below (T1.setTop (mkF m 7 #[va o0, vi 1, vi 0] [(.int ((1 : Int32) + (0 : Int32))), (.ref o1)])) _
    rw [show (((1 : Int32) + (0 : Int32)) : Int32) = (1 : Int32) from by decide]
    refine XS.aloadN X1.here hx rfl (hb hby d18_7) rfl rfl ?_
    refine st2 _ ?_
    refine XS.iloadN X2.here hx rfl (hb hby d18_11) rfl ?_
    refine XS.aloadN X2.here hx rfl (hb hby d18_12) rfl rfl ?_
    refine st3 _ ?_
    refine XS.iloadN X3.here hx rfl (hb hby d18_16) rfl ?_
    refine XS.isub X3.here hx rfl (hb hby d18_17) rfl ?_
    show Steps p.tables e below (T3.setTop (mkF m 18 #[va o0, vi 1, vi 0] [(.int ((1 : Int32) - (1 : Int32))), (.int 1), (.ref o1), (.int 1), (.ref o1)])) _
    rw [show (((1 : Int32) - (1 : Int32)) : Int32) = (0 : Int32) from by decide]
    refine XS.iloadN X3.here hx rfl (hb hby d18_18) rfl ?_
    refine XS.isub X3.here hx rfl (hb hby d18_19) rfl ?_
    show Steps p.tables e below (T3.setTop (mkF m 20 #[va o0, vi 1, vi 0] [(.int ((0 : Int32) - (0 : Int32))), (.int 1), (.ref o1), (.int 1), (.ref o1)])) _
    rw [show (((0 : Int32) - (0 : Int32)) : Int32) = (0 : Int32) from by decide]
    refine st4 _ ?_
    refine XS.aloadN X4.here hx rfl (hb hby d18_23) rfl rfl ?_
    refine st6 _ ?_
    refine XS.iloadN X6.here hx rfl (hb hby d18_27) rfl ?_
    refine XS.iloadN X6.here hx rfl (hb hby d18_28) rfl ?_
    refine XS.iadd X6.here hx rfl (hb hby d18_29) rfl ?_
    show Steps p.tables e below (T6.setTop (mkF m 30 #[va o0, vi 1, vi 0] [(.int ((1 : Int32) + (0 : Int32))), (.ref o2)])) _
    rw [show (((1 : Int32) + (0 : Int32)) : Int32) = (1 : Int32) from by decide]
    refine XS.aloadN X6.here hx rfl (hb hby d18_30) rfl rfl ?_
    refine st7 _ ?_
    refine XS.iloadN X7.here hx rfl (hb hby d18_34) rfl ?_
    refine XS.aloadN X7.here hx rfl (hb hby d18_35) rfl rfl ?_
    refine st9 _ ?_
    refine XS.iloadN X9.here hx rfl (hb hby d18_39) rfl ?_
    refine XS.isub X9.here hx rfl (hb hby d18_40) rfl ?_
    show Steps p.tables e below (T9.setTop (mkF m 41 #[va o0, vi 1, vi 0] [(.int ((1 : Int32) - (1 : Int32))), (.int 1), (.ref o2), (.int 1), (.ref o2)])) _
    rw [show (((1 : Int32) - (1 : Int32)) : Int32) = (0 : Int32) from by decide]
    refine XS.iloadN X9.here hx rfl (hb hby d18_41) rfl ?_
    refine XS.isub X9.here hx rfl (hb hby d18_42) rfl ?_
    show Steps p.tables e below (T9.setTop (mkF m 43 #[va o0, vi 1, vi 0] [(.int ((0 : Int32) - (0 : Int32))), (.int 1), (.ref o2), (.int 1), (.ref o2)])) _
    rw [show (((0 : Int32) - (0 : Int32)) : Int32) = (0 : Int32) from by decide]
    refine st11 _ ?_
    refine XS.aloadN X11.here hx rfl (hb hby d18_46) rfl rfl ?_
    refine XS.dup X11.here hx rfl (hb hby d18_47) rfl rfl ?_
    refine st13 _ ?_
    refine XS.iloadN X13.here hx rfl (hb hby d18_51) rfl ?_
    refine XS.isub X13.here hx rfl (hb hby d18_52) rfl ?_
    show Steps p.tables e below (T13.setTop (mkF m 53 #[va o0, vi 1, vi 0] [(.int ((1 : Int32) - (0 : Int32))), (.ref o0)])) _
    rw [show (((1 : Int32) - (0 : Int32)) : Int32) = (1 : Int32) from by decide]
    refine st15 _ ?_
    exact X15.returnOut hx hrt (hb hby d18_56) hr
  · show Q18_0 Z w_NONE o0 o1 o2 kk_o1 kk_o2 q0 q1 q2 h0 n0 none T15.heap _
    rw [e15]; exact ⟨rfl, N15, K15, fc16, fc17, fc18, fc19, fc20, Fw15, fc21, fc22⟩
theorem pd_12 : parseMethodDescriptor "(II)V" = some ⟨[.int, .int], none⟩ := by decide +kernel
theorem d4_204 : decode prog_55_method_8_code 204 = .ok (.aload_n 0, 1) := by decide +kernel
theorem d4_205 : decode prog_55_method_8_code 205 = .ok (.dup, 1) := by decide +kernel
theorem d4_206 : decode prog_55_method_8_code 206 = .ok (.getfield 43, 3) := by decide +kernel
theorem d4_209 : decode prog_55_method_8_code 209 = .ok (.lload 11, 2) := by decide +kernel
theorem d4_211 : decode prog_55_method_8_code 211 = .ok (.lload 9, 2) := by decide +kernel
theorem d4_213 : decode prog_55_method_8_code 213 = .ok (.lsub, 1) := by decide +kernel
theorem d4_214 : decode prog_55_method_8_code 214 = .ok (.lconst 1, 1) := by decide +kernel
theorem d4_215 : decode prog_55_method_8_code 215 = .ok (.ladd, 1) := by decide +kernel
theorem d4_216 : decode prog_55_method_8_code 216 = .ok (.lload 7, 2) := by decide +kernel
theorem d4_218 : decode prog_55_method_8_code 218 = .ok (.lsub, 1) := by decide +kernel
theorem d4_219 : decode prog_55_method_8_code 219 = .ok (.ladd, 1) := by decide +kernel
theorem d4_220 : decode prog_55_method_8_code 220 = .ok (.putfield 43, 3) := by decide +kernel
def Q4_2 (Z : State) (w_NONE : Addr) (o0 : Addr) (o1 : Addr) (o2 : Addr) (kk_o1 : ClassId) (kk_o2 : ClassId) (q3 : Int64) (q4 : Int64) (q0 : Int64) (q1 : Int64) (q2 : Int64) (h0 : Heap) (n0 : Nat) (v : Option Value) (h : Heap) (L : List Loc) : Prop := v = (some (.int 1)) ∧ Fr n0 L ∧ Keep h0 h [o1, o2, o0] ∧ Exa Z h o0 sC0 ∧ Fld Z h o0 sC0 "count" "J" (.long (q0 + ((((own_maxL q4 q2) - (own_minL q3 q1)) + (1 : Int64)) - ((0 : Int64) + ((q2 - q1) + (1 : Int64)))))) ∧ Fld Z h o0 sC0 "firsts" "[J" (.ref o1) ∧ Fld Z h o0 sC0 "lasts" "[J" (.ref o2) ∧ Fld Z h o0 sC0 "maxRanges" "I" (.int 2147483647) ∧ Fld Z h o0 sC0 "ranges" "I" (.int 1) ∧ Arv Z h o1 kk_o1 .long (4 : Int32) [(.long (own_minL q3 q1)), (.long 0), (.long 0), (.long 0)] (.long 0) ∧ Arv Z h o2 kk_o2 .long (4 : Int32) [(.long (own_maxL q4 q2)), (.long 0), (.long 0), (.long 0)] (.long 0)
theorem rm4_2 (l : Launch) (Z : State) (a0 : Array Value) (hw : HW Z a0) (ws : List Jvm.Cond) (w_NONE : Addr) (o0 : Addr) (o1 : Addr) (o2 : Addr) (kk_o1 : ClassId) (kk_o2 : ClassId) (q3 : Int64) (q4 : Int64) (q0 : Int64) (q1 : Int64) (q2 : Int64) (h0 : Heap) (n0 : Nat) (O0 : Old Z n0 h0) (S : SF Z w_NONE) (E_o0 : Exa Z h0 o0 sC0) (F_count_o0 : Fld Z h0 o0 sC0 "count" "J" (.long q0)) (F_firsts_o0 : Fld Z h0 o0 sC0 "firsts" "[J" (.ref o1)) (F_lasts_o0 : Fld Z h0 o0 sC0 "lasts" "[J" (.ref o2)) (F_maxRanges_o0 : Fld Z h0 o0 sC0 "maxRanges" "I" (.int 2147483647)) (F_ranges_o0 : Fld Z h0 o0 sC0 "ranges" "I" (.int 1)) (V_o1 : Arv Z h0 o1 kk_o1 .long (4 : Int32) [(.long q1), (.long 0), (.long 0), (.long 0)] (.long 0)) (V_o2 : Arv Z h0 o2 kk_o2 .long (4 : Int32) [(.long q2), (.long 0), (.long 0), (.long 0)] (.long 0)) (ne_o0_o1 : o0 ≠ o1) (ne_o0_o2 : o0 ≠ o2) (ne_o1_o2 : o1 ≠ o2) (g_o0 : n0 ≤ o0) (g_o1 : n0 ≤ o1) (g_o2 : n0 ≤ o2) (hc0 : ¬ (q3 < (0 : Int64))) (hc1 : ¬ (q4 < q3)) (hc2 : ¬ (q3 = (0 : Int64))) (hc3 : ¬ (q2 < (q3 - (1 : Int64)))) (hc4 : ¬ ((q4 + (1 : Int64)) < q1)) :
    Pay l Z My4 ws prog_55_method_8_code 13 (some .boolean) #[(.ref o0), (.long q3), (.long q4)] h0 ({ frames := 2, cells := 0, slots := 0, locals := 32 } : Room) (Q4_2 Z w_NONE o0 o1 o2 kk_o1 kk_o2 q3 q4 q0 q1 q2 h0 n0) := by
  refine own_body (plainFor_of_name pn_1) (L0 := #[va o0, vl q3, ss, vl q4, ss, uu, uu, uu, uu, uu, uu, uu, uu]) (fun _ => by first | rfl | (simp [entryFrame, mkF, argsToLocals, Value.category]; done)) ?_
  intro p e s m below meth c s₁ hrt hlk hx hby hml hZ hown0 hnm X0 e0
  have hown : s.vm.findClass sC0 = some m.cls := hown0
  have N0 := Fr.nil n0
  have K0 : Keep h0 h0 [o1, o2, o0] := Keep.refl _ _
  obtain ⟨_, _, ⟨T1, L1, k1, n1⟩, -, X1, ⟨Lc1, hQ1, l1, y1, z1⟩, st1⟩ := Jvm.LawKit.callS X0 hx (y := My5) hown (mvT hZ (ww hw 29 rfl)) (mvT hZ (ww hw 30 rfl)) (mvT hZ (ww hw 5 rfl)) (mvT hZ (ww hw 31 rfl)) (by decide) (backOf (W := 0) (rm5_0 l Z a0 hw [] w_NONE q3 q4 h0 n0 O0 S hc0 hc1) hZ (ww hw 31 rfl) (ww hw 5 rfl) (by decide) (by decide)) (g := (mkF m 2 #[va o0, vl q3, ss, vl q4, ss, uu, uu, uu, uu, uu, uu, uu, uu] [(.long q4), (.long q3)])) rfl (by rw [hml]; rfl) (argsL := [(.long q3), (.long q4)]) (rest := []) (lenOf pd_6 rfl) rfl (by show 2 * 0 + _ ≤ _; exact Nat.le_of_eq rfl) (hb hby d4_2) (fun _ _ => ⟨rfl, e0, (by decide : 0 + 0 ≤ _), (by decide : 0 + 0 ≤ _)⟩)
  dsimp only [Pt.U, Pt.locs, Pt.cells, Pt.slots] at X1 l1 y1 z1 st1 hQ1
  subst l1 y1 z1
  obtain ⟨rfl, Nq1, e1⟩ := hQ1
  have N1 := Fr.app N0 Nq1
  obtain ⟨cq2, qa2, qb2⟩ := E_o0.cell
  obtain ⟨_, _, ⟨T2, L2, k2, n2⟩, -, X2, ⟨Lc2, hQ2, l2, y2, z2⟩, st2⟩ := X1.privateBack hx (y := My6) hown (mvT hZ (ww hw 32 rfl)) (mvT hZ (ww hw 33 rfl)) (own_selp (by decide) (mvT hZ (ww hw 4 rfl)) (mvP hZ (ww hw 34 rfl)) (mvT hZ (ww hw 33 rfl))) (Cond.privateMethod_at (mvP hZ (ww hw 34 rfl) (args := #[]))) (mvT hZ (ww hw 35 rfl)) (by decide) (backOf (W := 0) (rm6_3 l Z a0 hw [] w_NONE o0 o1 o2 kk_o1 kk_o2 (q3 - (1 : Int64)) q0 q1 q2 h0 n0 O0 S F_lasts_o0 F_ranges_o0 V_o2 hc3) hZ (ww hw 35 rfl) (ww hw 5 rfl) (by decide) (by decide)) (g := (mkF m 19 #[va o0, vl q3, ss, vl q4, ss, uu, uu, uu, uu, uu, uu, uu, uu] [(.long (q3 - (1 : Int64))), (.ref o0)])) rfl (by rw [hml]; rfl) (Steps.refl _) (a := o0) (by rw [e1]; exact qa2) qb2 (argsL := [(.long (q3 - (1 : Int64)))]) (rest := []) (lenOf pd_4 rfl) rfl (by show 2 * 0 + _ ≤ _; exact Nat.le_of_eq rfl) (hb hby d4_19) (fun _ _ => ⟨rfl, e1, (by decide : 0 + 0 ≤ _), (by decide : 0 + 0 ≤ _)⟩)
  dsimp only [Pt.U, Pt.locs, Pt.cells, Pt.slots] at X2 l2 y2 z2 st2 hQ2
  subst l2 y2 z2
  obtain ⟨rfl, Nq2, e2⟩ := hQ2
  have N2 := Fr.app N1 Nq2
  obtain ⟨T3, X3, e3, st3⟩ := getF X2 hx hZ hown (host := "") (Or.inl (ww hw 36 rfl)) Via.refl e2 F_ranges_o0 (g := (mkF m 31 #[va o0, vl q3, ss, vl q4, ss, vi 0, vi 0, uu, uu, uu, uu, uu, uu] [(.ref o0), (.int 0)])) rfl rfl (hb hby d4_31)
  obtain ⟨T4, X4, e4, st4⟩ := getF X3 hx hZ hown (host := "") (Or.inl (ww hw 18 rfl)) Via.refl e3 F_firsts_o0 (g := (mkF m 38 #[va o0, vl q3, ss, vl q4, ss, vi 0, vi 0, uu, uu, uu, uu, uu, uu] [(.ref o0)])) rfl rfl (hb hby d4_38)
  obtain ⟨cl5, Ar5, qk5, Sz5, Ng5, Hh5, Gg5⟩ := id V_o1
  have hin5_0 : ¬ ((0 : Int32) < 0 ∨ cl5.slots.size ≤ ((0 : Int32)).toNatClampNeg) := inb_of Sz5 ⟨by decide, by decide⟩
  obtain ⟨T6, X6, e6, st6⟩ := getF X4 hx hZ hown (host := "") (Or.inl (ww hw 36 rfl)) Via.refl e4 F_ranges_o0 (g := (mkF m 31 #[va o0, vl q3, ss, vl q4, ss, vi 0, vi 1, uu, uu, uu, uu, uu, uu] [(.ref o0), (.int 1)])) rfl rfl (hb hby d4_31)
  obtain ⟨T7, X7, e7, st7⟩ := getF X6 hx hZ hown (host := "") (Or.inl (ww hw 20 rfl)) Via.refl e6 F_lasts_o0 (g := (mkF m 122 #[va o0, vl q3, ss, vl q4, ss, vi 0, vi 0, vl 0, ss, vi 0, uu, uu, uu] [(.ref o0), (.long 0)])) rfl rfl (hb hby d4_122)
  obtain ⟨cl8, Ar8, qk8, Sz8, Ng8, Hh8, Gg8⟩ := id V_o2
  have hin8_0 : ¬ ((0 : Int32) < 0 ∨ cl8.slots.size ≤ ((0 : Int32)).toNatClampNeg) := inb_of Sz8 ⟨by decide, by decide⟩
  obtain ⟨T9, X9, e9, st9⟩ := getF X7 hx hZ hown (host := "") (Or.inl (ww hw 18 rfl)) Via.refl e7 F_firsts_o0 (g := (mkF m 129 #[va o0, vl q3, ss, vl q4, ss, vi 0, vi 0, vl 0, ss, vi 0, uu, uu, uu] [(.ref o0), (.long q2), (.long 0)])) rfl rfl (hb hby d4_129)
  obtain ⟨T10, X10, e10, st10⟩ := getF X9 hx hZ hown (host := "") (Or.inl (ww hw 18 rfl)) Via.refl e9 F_firsts_o0 (g := (mkF m 149 #[va o0, vl q3, ss, vl q4, ss, vi 0, vi 0, vl ((0 : Int64) + ((q2 - q1) + (1 : Int64))), ss, vi 1, uu, uu, uu] [(.ref o0), (.long q3)])) rfl rfl (hb hby d4_149)
  obtain ⟨_, _, ⟨T11, L11, k11, n11⟩, -, X11, ⟨Lc11, hQ11, l11, y11, z11⟩, st11⟩ := Jvm.LawKit.callS X10 hx (y := My17) hown (mvT hZ (ww hw 91 rfl)) (mvT hZ (ww hw 92 rfl)) (mvT hZ (ww hw 44 rfl)) (mvT hZ (ww hw 93 rfl)) (by decide) (backOf (W := 0) (mg17_0 l Z a0 hw [] w_NONE q3 q1 h0 n0 O0 S) hZ (ww hw 93 rfl) (ww hw 44 rfl) (by decide) (by decide)) (g := (mkF m 155 #[va o0, vl q3, ss, vl q4, ss, vi 0, vi 0, vl ((0 : Int64) + ((q2 - q1) + (1 : Int64))), ss, vi 1, uu, uu, uu] [(.long q1), (.long q3)])) rfl (by rw [hml]; rfl) (argsL := [(.long q3), (.long q1)]) (rest := []) (lenOf pd_11 rfl) rfl (by show 2 * 0 + _ ≤ _; exact Nat.le_of_eq rfl) (hb hby d4_155) (fun _ _ => ⟨rfl, e10, (by decide : 0 + 0 ≤ _), (by decide : 0 + 0 ≤ _)⟩)
  dsimp only [Pt.U, Pt.locs, Pt.cells, Pt.slots] at X11 l11 y11 z11 st11 hQ11
  subst l11 y11 z11
  obtain ⟨rfl, Nq11, e11⟩ := hQ11
  have N11 := Fr.app N2 Nq11
  obtain ⟨T12, X12, e12, st12⟩ := getF X11 hx hZ hown (host := "") (Or.inl (ww hw 20 rfl)) Via.refl e11 F_lasts_o0 (g := (mkF m 162 #[va o0, vl q3, ss, vl q4, ss, vi 0, vi 0, vl ((0 : Int64) + ((q2 - q1) + (1 : Int64))), ss, vl (own_minL q3 q1), ss, uu, uu] [(.ref o0), (.long q4)])) rfl rfl (hb hby d4_162)
  obtain ⟨_, _, ⟨T13, L13, k13, n13⟩, -, X13, ⟨Lc13, hQ13, l13, y13, z13⟩, st13⟩ := Jvm.LawKit.callS X12 hx (y := My16) hown (mvT hZ (ww hw 88 rfl)) (mvT hZ (ww hw 89 rfl)) (mvT hZ (ww hw 44 rfl)) (mvT hZ (ww hw 90 rfl)) (by decide) (backOf (W := 0) (mg16_0 l Z a0 hw [] w_NONE q4 q2 h0 n0 O0 S) hZ (ww hw 90 rfl) (ww hw 44 rfl) (by decide) (by decide)) (g := (mkF m 168 #[va o0, vl q3, ss, vl q4, ss, vi 0, vi 0, vl ((0 : Int64) + ((q2 - q1) + (1 : Int64))), ss, vl (own_minL q3 q1), ss, uu, uu] [(.long q2), (.long q4)])) rfl (by rw [hml]; rfl) (argsL := [(.long q4), (.long q2)]) (rest := []) (lenOf pd_11 rfl) rfl (by show 2 * 0 + _ ≤ _; exact Nat.le_of_eq rfl) (hb hby d4_168) (fun _ _ => ⟨rfl, e12, (by decide : 0 + 0 ≤ _), (by decide : 0 + 0 ≤ _)⟩)
  dsimp only [Pt.U, Pt.locs, Pt.cells, Pt.slots] at X13 l13 y13 z13 st13 hQ13
  subst l13 y13 z13
  obtain ⟨rfl, Nq13, e13⟩ := hQ13
  have N13 := Fr.app N11 Nq13
  obtain ⟨T14, X14, e14, st14⟩ := getF X13 hx hZ hown (host := "") (Or.inl (ww hw 18 rfl)) Via.refl e13 F_firsts_o0 (g := (mkF m 174 #[va o0, vl q3, ss, vl q4, ss, vi 0, vi 0, vl ((0 : Int64) + ((q2 - q1) + (1 : Int64))), ss, vl (own_minL q3 q1), ss, vl (own_maxL q4 q2), ss] [(.ref o0)])) rfl rfl (hb hby d4_174)
  obtain ⟨T15, h15, X15, e15, W15, st15⟩ := stJ X14 hx hZ e14 Ar5 (j := (0 : Int32)) hin5_0 (g := (mkF m 181 #[va o0, vl q3, ss, vl q4, ss, vi 0, vi 0, vl ((0 : Int64) + ((q2 - q1) + (1 : Int64))), ss, vl (own_minL q3 q1), ss, vl (own_maxL q4 q2), ss] [(.long (own_minL q3 q1)), (.int 0), (.ref o1)])) rfl rfl (hb hby d4_181)
  have V15 : Arv Z h15 o1 kk_o1 .long (4 : Int32) [(.long (own_minL q3 q1)), (.long 0), (.long 0), (.long 0)] (.long 0) := Arv.set Ar5 qk5 Sz5 Ng5 Hh5 Gg5 rfl W15 0 rfl (Nat.le_of_ble_eq_true rfl)
  have O15 := O0.wr W15 g_o1
  have K15 : Keep h0 h15 [o1, o2, o0] := K0.wr W15 (Or.inl (List.mem_of_getElem? (i := 0) rfl))
  have N15 := Fr.snoc X15 N13 g_o1
  have fc16 := (F_lasts_o0.other W15 (Or.inl ne_o0_o1))
  obtain ⟨T17, X17, e17, st17⟩ := getF X15 hx hZ hown (host := "") (Or.inl (ww hw 20 rfl)) Via.refl e15 fc16 (g := (mkF m 183 #[va o0, vl q3, ss, vl q4, ss, vi 0, vi 0, vl ((0 : Int64) + ((q2 - q1) + (1 : Int64))), ss, vl (own_minL q3 q1), ss, vl (own_maxL q4 q2), ss] [(.ref o0)])) rfl rfl (hb hby d4_183)
  have fc18 := (V_o2.other W15 (Ne.symm ne_o1_o2))
  obtain ⟨cl19, Ar19, qk19, Sz19, Ng19, Hh19, Gg19⟩ := id fc18
  have hin19_0 : ¬ ((0 : Int32) < 0 ∨ cl19.slots.size ≤ ((0 : Int32)).toNatClampNeg) := inb_of Sz19 ⟨by decide, by decide⟩
  obtain ⟨T20, h20, X20, e20, W20, st20⟩ := stJ X17 hx hZ e17 Ar19 (j := (0 : Int32)) hin19_0 (g := (mkF m 190 #[va o0, vl q3, ss, vl q4, ss, vi 0, vi 0, vl ((0 : Int64) + ((q2 - q1) + (1 : Int64))), ss, vl (own_minL q3 q1), ss, vl (own_maxL q4 q2), ss] [(.long (own_maxL q4 q2)), (.int 0), (.ref o2)])) rfl rfl (hb hby d4_190)
  have V20 : Arv Z h20 o2 kk_o2 .long (4 : Int32) [(.long (own_maxL q4 q2)), (.long 0), (.long 0), (.long 0)] (.long 0) := Arv.set Ar19 qk19 Sz19 Ng19 Hh19 Gg19 rfl W20 0 rfl (Nat.le_of_ble_eq_true rfl)
  have O20 := O15.wr W20 g_o2
  have K20 : Keep h0 h20 [o1, o2, o0] := K15.wr W20 (Or.inl (List.mem_of_getElem? (i := 1) rfl))
  have N20 := Fr.snoc X20 N15 g_o2
  have fc21 := ((E_o0.wr W15).wr W20)
  have fc22 := ((F_count_o0.other W15 (Or.inl ne_o0_o1)).other W20 (Or.inl ne_o0_o2))
  have fc23 := ((F_firsts_o0.other W15 (Or.inl ne_o0_o1)).other W20 (Or.inl ne_o0_o2))
  have fc24 := (fc16.other W20 (Or.inl ne_o0_o2))
  have fc25 := ((F_maxRanges_o0.other W15 (Or.inl ne_o0_o1)).other W20 (Or.inl ne_o0_o2))
  have fc26 := ((F_ranges_o0.other W15 (Or.inl ne_o0_o1)).other W20 (Or.inl ne_o0_o2))
  have fc27 := (V15.other W20 ne_o1_o2)
  obtain ⟨cq28, qa28, qb28⟩ := fc21.cell
  obtain ⟨_, _, ⟨T28, L28, k28, n28⟩, -, X28, ⟨Lc28, hQ28, l28, y28, z28⟩, st28⟩ := X20.privateBack hx (y := (⟨sC0, "delete", "(II)V"⟩ : MethodName)) hown (mvT hZ (ww hw 94 rfl)) (mvT hZ (ww hw 95 rfl)) (own_selp (by decide) (mvT hZ (ww hw 4 rfl)) (mvP hZ (ww hw 96 rfl)) (mvT hZ (ww hw 95 rfl))) (Cond.privateMethod_at (mvP hZ (ww hw 96 rfl) (args := #[]))) (mvT hZ (ww hw 97 rfl)) (by decide) (backOf (W := 0) (rm18_0 l Z a0 hw [] w_NONE o0 o1 o2 kk_o1 kk_o2 q0 (own_minL q3 q1) (own_maxL q4 q2) h20 n0 O20 S fc21 fc22 fc23 fc24 fc25 fc26 fc27 V20 ne_o0_o1 ne_o0_o2 ne_o1_o2 g_o0 g_o1 g_o2) hZ (ww hw 97 rfl) (ww hw 5 rfl) (by decide) (by decide)) (g := (mkF m 201 #[va o0, vl q3, ss, vl q4, ss, vi 0, vi 0, vl ((0 : Int64) + ((q2 - q1) + (1 : Int64))), ss, vl (own_minL q3 q1), ss, vl (own_maxL q4 q2), ss] [(.int 0), (.int 1), (.ref o0)])) rfl (by rw [hml]; rfl) (Steps.refl _) (a := o0) (by rw [e20]; exact qa28) qb28 (argsL := [(.int 1), (.int 0)]) (rest := []) (lenOf pd_12 rfl) rfl (by show 2 * 0 + _ ≤ _; exact Nat.le_of_eq rfl) (hb hby d4_201) (fun _ _ => ⟨rfl, e20, (by decide : 0 + 0 ≤ _), (by decide : 0 + 0 ≤ _)⟩)
  dsimp only [Pt.U, Pt.locs, Pt.cells, Pt.slots] at X28 l28 y28 z28 st28 hQ28
  subst l28 y28 z28
  obtain ⟨rfl, Nq28, Kc28, P0_28, P1_28, P2_28, P3_28, P4_28, P5_28, P6_28, P7_28⟩ := hQ28
  have N28 := Fr.app N20 Nq28
  have O28 := O20.keep Kc28 (allS g_o1 (allS g_o2 (allS g_o0 all0)))
  have K28 : Keep h0 T28.heap [o1, o2, o0] := K20.trans Kc28 (allS (Or.inl (List.mem_of_getElem? (i := 0) rfl)) (allS (Or.inl (List.mem_of_getElem? (i := 1) rfl)) (allS (Or.inl (List.mem_of_getElem? (i := 2) rfl)) all0)))
  obtain ⟨T29, X29, e29, st29⟩ := getF X28 hx hZ hown (host := "") (Or.inl (ww hw 59 rfl)) Via.refl rfl P1_28 (g := (mkF m 206 #[va o0, vl q3, ss, vl q4, ss, vi 0, vi 0, vl ((0 : Int64) + ((q2 - q1) + (1 : Int64))), ss, vl (own_minL q3 q1), ss, vl (own_maxL q4 q2), ss] [(.ref o0), (.ref o0)])) rfl rfl (hb hby d4_206)
  obtain ⟨T30, h30, X30, e30, W30, st30⟩ := putF X29 hx hZ hown (host := "") (Or.inl (ww hw 59 rfl)) Via.refl e29 P1_28 P0_28 (Or.inl (ww hw 60 rfl)) (ww hw 4 rfl) (ty := .long) (by decide) rfl rfl (g := (mkF m 220 #[va o0, vl q3, ss, vl q4, ss, vi 0, vi 0, vl ((0 : Int64) + ((q2 - q1) + (1 : Int64))), ss, vl (own_minL q3 q1), ss, vl (own_maxL q4 q2), ss] [(.long (q0 + ((((own_maxL q4 q2) - (own_minL q3 q1)) + (1 : Int64)) - ((0 : Int64) + ((q2 - q1) + (1 : Int64)))))), (.ref o0)])) rfl rfl (hb hby d4_220)
  have Fw30 := P1_28.same W30
  have O30 := O28.wr W30 g_o0
  have K30 : Keep h0 h30 [o1, o2, o0] := K28.wr W30 (Or.inl (List.mem_of_getElem? (i := 2) rfl))
  have N30 := Fr.snoc X30 N28 g_o0
  obtain ⟨fs, hr, hrun, hended, hW, hsame⟩ := X30.leave (v := (some (.int 1))) (fun h => by rw [hrt] at h; cases h)
  have fc31 := (P0_28.wr W30)
  have fc32 := (P2_28.other W30 (Or.inr (slot_ne (Or.inl (ww hw 19 rfl)) (Or.inl (ww hw 60 rfl)) (by decide) (t := (.array .long)) (t' := .long) (by decide) (by decide))))
  have fc33 := (P3_28.other W30 (Or.inr (slot_ne (Or.inl (ww hw 21 rfl)) (Or.inl (ww hw 60 rfl)) (by decide) (t := (.array .long)) (t' := .long) (by decide) (by decide))))
  have fc34 := (P4_28.other W30 (Or.inr (slot_ne (Or.inr (ww hw 23 rfl)) (Or.inl (ww hw 60 rfl)) (by decide) (t := .int) (t' := .long) (by decide) (by decide))))
  have fc35 := (P5_28.other W30 (Or.inr (slot_ne (Or.inl (ww hw 37 rfl)) (Or.inl (ww hw 60 rfl)) (by decide) (t := .int) (t' := .long) (by decide) (by decide))))
  have fc36 := (P6_28.other W30 (Ne.symm ne_o0_o1))
  have fc37 := (P7_28.other W30 (Ne.symm ne_o0_o2))
  refine ⟨_, _, ?_, hrun, hended, _, _, rfl, ?_, ⟨_, rfl⟩, hW, hsame.mono (by decide) (by decide)⟩
  · show Steps p.tables e below (s₁.setTop (mkF m 0 #[va o0, vl q3, ss, vl q4, ss, uu, uu, uu, uu, uu, uu, uu, uu] [])) _
    refine XS.lloadN X0.here hx rfl (hb hby d4_0) rfl ?_
    refine XS.lloadN X0.here hx rfl (hb hby d4_1) rfl ?_
    refine st1 _ ?_
    refine XS.aloadN X1.here hx rfl (hb hby d4_5) rfl rfl ?_
    refine XS.lloadN X1.here hx rfl (hb hby d4_6) rfl ?_
    refine XS.lconst X1.here hx rfl (hb hby d4_7) ?_
    refine XS.lcmp X1.here hx rfl (hb hby d4_8) rfl ?_
    refine XS.ifYes X1.here hx rfl (pc0 := 9) (pc' := 16) rfl (hb hby d4_9) rfl (own_lc_eqF hc2).2 (by decide) (by decide) ?_
    show Steps p.tables e below (T1.setTop (mkF m 16 #[va o0, vl q3, ss, vl q4, ss, uu, uu, uu, uu, uu, uu, uu, uu] [(.ref o0)])) _
    refine XS.lloadN X1.here hx rfl (hb hby d4_16) rfl ?_
    refine XS.lconst X1.here hx rfl (hb hby d4_17) ?_
    refine XS.lsub X1.here hx rfl (hb hby d4_18) rfl ?_
    refine st2.trans ?_
    refine XS.istore X2.here hx rfl (hb hby d4_22) rfl (l' := #[va o0, vl q3, ss, vl q4, ss, vi 0, uu, uu, uu, uu, uu, uu, uu]) rfl ?_
    refine XS.iload X2.here hx rfl (hb hby d4_24) rfl ?_
    refine XS.istore X2.here hx rfl (hb hby d4_26) rfl (l' := #[va o0, vl q3, ss, vl q4, ss, vi 0, vi 0, uu, uu, uu, uu, uu, uu]) rfl ?_
    refine XS.iload X2.here hx rfl (hb hby d4_28) rfl ?_
    show Steps p.tables e below (T2.setTop (mkF m 30 #[va o0, vl q3, ss, vl q4, ss, vi 0, vi 0, uu, uu, uu, uu, uu, uu] [(.int 0)])) _
    refine XS.aloadN X2.here hx rfl (hb hby d4_30) rfl rfl ?_
    refine st3 _ ?_
    refine XS.icmpNo X3.here hx rfl (hb hby d4_34) rfl (tlt (by decide : (0 : Int32) < (1 : Int32))).2.1 ?_
    refine XS.aloadN X3.here hx rfl (hb hby d4_37) rfl rfl ?_
    refine st4 _ ?_
    refine XS.iload X4.here hx rfl (hb hby d4_41) rfl ?_
    refine X4.laload hx (j := (0 : Int32)) (v := (.long q1)) (by rw [e4]; exact Ar5.1) (State.isArrayOf_alike hZ.alike Ar5.2.1) Ar5.2.2 hin5_0 (Has.at Hh5 hin5_0 rfl) (g := (mkF m 43 #[va o0, vl q3, ss, vl q4, ss, vi 0, vi 0, uu, uu, uu, uu, uu, uu] [(.int 0), (.ref o1)])) rfl rfl (hb hby d4_43) _ ?_
    refine XS.lloadN X4.here hx rfl (hb hby d4_44) rfl ?_
    show Steps p.tables e below (T4.setTop (mkF m 45 #[va o0, vl q3, ss, vl q4, ss, vi 0, vi 0, uu, uu, uu, uu, uu, uu] [(.long q4), (.long q1)])) _
    refine XS.lconst X4.here hx rfl (hb hby d4_45) ?_
    refine XS.ladd X4.here hx rfl (hb hby d4_46) rfl ?_
    refine XS.lcmp X4.here hx rfl (hb hby d4_47) rfl ?_
    refine XS.ifNo X4.here hx rfl (hb hby d4_48) rfl (own_lc_gtF hc4).1 ?_
    refine XS.iinc X4.here hx rfl (hb hby d4_51) rfl (l' := #[va o0, vl q3, ss, vl q4, ss, vi 0, vi ((0 : Int32) + (1 : Int32)), uu, uu, uu, uu, uu, uu]) rfl ?_
    show Steps p.tables e below (T4.setTop (mkF m 54 #[va o0, vl q3, ss, vl q4, ss, vi 0, vi ((0 : Int32) + (1 : Int32)), uu, uu, uu, uu, uu, uu] [])) _
    rw [show (((0 : Int32) + (1 : Int32)) : Int32) = (1 : Int32) from by decide]
    refine XS.goto X4.here hx rfl (pc0 := 54) (pc' := 28) rfl (hb hby d4_54) (by decide) (by decide) ?_
    refine XS.iload X4.here hx rfl (hb hby d4_28) rfl ?_
    refine XS.aloadN X4.here hx rfl (hb hby d4_30) rfl rfl ?_
    refine st6 _ ?_
    refine XS.icmpYes X6.here hx rfl (pc0 := 34) (pc' := 57) rfl (hb hby d4_34) rfl (flt (by decide : ¬ ((1 : Int32) < (1 : Int32)))).2.1 (by decide) (by decide) ?_
    refine XS.iinc X6.here hx rfl (hb hby d4_57) rfl (l' := #[va o0, vl q3, ss, vl q4, ss, vi 0, vi ((1 : Int32) + (-1 : Int32)), uu, uu, uu, uu, uu, uu]) rfl ?_
    show Steps p.tables e below (T6.setTop (mkF m 60 #[va o0, vl q3, ss, vl q4, ss, vi 0, vi ((1 : Int32) + (-1 : Int32)), uu, uu, uu, uu, uu, uu] [])) _
    rw [show (((1 : Int32) + (-1 : Int32)) : Int32) = (0 : Int32) from by decide]
    refine XS.iload X6.here hx rfl (hb hby d4_60) rfl ?_
    refine XS.iload X6.here hx rfl (hb hby d4_62) rfl ?_
    refine XS.icmpYes X6.here hx rfl (pc0 := 64) (pc' := 105) rfl (hb hby d4_64) rfl (flt (by decide : ¬ ((0 : Int32) < (0 : Int32)))).2.1 (by decide) (by decide) ?_
    refine XS.lconst X6.here hx rfl (hb hby d4_105) ?_
    refine XS.lstore X6.here hx rfl (hb hby d4_106) rfl (l' := #[va o0, vl q3, ss, vl q4, ss, vi 0, vi 0, vl 0, ss, uu, uu, uu, uu]) rfl ?_
    refine XS.iload X6.here hx rfl (hb hby d4_108) rfl ?_
    refine XS.istore X6.here hx rfl (hb hby d4_110) rfl (l' := #[va o0, vl q3, ss, vl q4, ss, vi 0, vi 0, vl 0, ss, vi 0, uu, uu, uu]) rfl ?_
    show Steps p.tables e below (T6.setTop (mkF m 112 #[va o0, vl q3, ss, vl q4, ss, vi 0, vi 0, vl 0, ss, vi 0, uu, uu, uu] [])) _
    refine XS.iload X6.here hx rfl (hb hby d4_112) rfl ?_
    refine XS.iload X6.here hx rfl (hb hby d4_114) rfl ?_
    refine XS.icmpNo X6.here hx rfl (hb hby d4_116) rfl (flt (by decide : ¬ ((0 : Int32) < (0 : Int32)))).2.2.1 ?_
    refine XS.lload X6.here hx rfl (hb hby d4_119) rfl ?_
    refine XS.aloadN X6.here hx rfl (hb hby d4_121) rfl rfl ?_
    refine st7 _ ?_
    refine XS.iload X7.here hx rfl (hb hby d4_125) rfl ?_
    refine X7.laload hx (j := (0 : Int32)) (v := (.long q2)) (by rw [e7]; exact Ar8.1) (State.isArrayOf_alike hZ.alike Ar8.2.1) Ar8.2.2 hin8_0 (Has.at Hh8 hin8_0 rfl) (g := (mkF m 127 #[va o0, vl q3, ss, vl q4, ss, vi 0, vi 0, vl 0, ss, vi 0, uu, uu, uu] [(.int 0), (.ref o2), (.long 0)])) rfl rfl (hb hby d4_127) _ ?_
    show Steps p.tables e below (T7.setTop (mkF m 128 #[va o0, vl q3, ss, vl q4, ss, vi 0, vi 0, vl 0, ss, vi 0, uu, uu, uu] [(.long q2), (.long 0)])) _
    refine XS.aloadN X7.here hx rfl (hb hby d4_128) rfl rfl ?_
    refine st9 _ ?_
    refine XS.iload X9.here hx rfl (hb hby d4_132) rfl ?_
    refine X9.laload hx (j := (0 : Int32)) (v := (.long q1)) (by rw [e9]; exact Ar5.1) (State.isArrayOf_alike hZ.alike Ar5.2.1) Ar5.2.2 hin5_0 (Has.at Hh5 hin5_0 rfl) (g := (mkF m 134 #[va o0, vl q3, ss, vl q4, ss, vi 0, vi 0, vl 0, ss, vi 0, uu, uu, uu] [(.int 0), (.ref o1), (.long q2), (.long 0)])) rfl rfl (hb hby d4_134) _ ?_
    refine XS.lsub X9.here hx rfl (hb hby d4_135) rfl ?_
    refine XS.lconst X9.here hx rfl (hb hby d4_136) ?_
    refine XS.ladd X9.here hx rfl (hb hby d4_137) rfl ?_
    refine XS.ladd X9.here hx rfl (hb hby d4_138) rfl ?_
    show Steps p.tables e below (T9.setTop (mkF m 139 #[va o0, vl q3, ss, vl q4, ss, vi 0, vi 0, vl 0, ss, vi 0, uu, uu, uu] [(.long ((0 : Int64) + ((q2 - q1) + (1 : Int64))))])) _
    refine XS.lstore X9.here hx rfl (hb hby d4_139) rfl (l' := #[va o0, vl q3, ss, vl q4, ss, vi 0, vi 0, vl ((0 : Int64) + ((q2 - q1) + (1 : Int64))), ss, vi 0, uu, uu, uu]) rfl ?_
    refine XS.iinc X9.here hx rfl (hb hby d4_141) rfl (l' := #[va o0, vl q3, ss, vl q4, ss, vi 0, vi 0, vl ((0 : Int64) + ((q2 - q1) + (1 : Int64))), ss, vi ((0 : Int32) + (1 : Int32)), uu, uu, uu]) rfl ?_
    show Steps p.tables e below (T9.setTop (mkF m 144 #[va o0, vl q3, ss, vl q4, ss, vi 0, vi 0, vl ((0 : Int64) + ((q2 - q1) + (1 : Int64))), ss, vi ((0 : Int32) + (1 : Int32)), uu, uu, uu] [])) _
    rw [show (((0 : Int32) + (1 : Int32)) : Int32) = (1 : Int32) from by decide]
    refine XS.goto X9.here hx rfl (pc0 := 144) (pc' := 112) rfl (hb hby d4_144) (by decide) (by decide) ?_
    refine XS.iload X9.here hx rfl (hb hby d4_112) rfl ?_
    refine XS.iload X9.here hx rfl (hb hby d4_114) rfl ?_
    refine XS.icmpYes X9.here hx rfl (pc0 := 116) (pc' := 147) rfl (hb hby d4_116) rfl (tlt (by decide : (0 : Int32) < (1 : Int32))).2.2.1 (by decide) (by decide) ?_
    refine XS.lloadN X9.here hx rfl (hb hby d4_147) rfl ?_
    refine XS.aloadN X9.here hx rfl (hb hby d4_148) rfl rfl ?_
    refine st10 _ ?_
    show Steps p.tables e below (T10.setTop (mkF m 152 #[va o0, vl q3, ss, vl q4, ss, vi 0, vi 0, vl ((0 : Int64) + ((q2 - q1) + (1 : Int64))), ss, vi 1, uu, uu, uu] [(.ref o1), (.long q3)])) _
    refine XS.iload X10.here hx rfl (hb hby d4_152) rfl ?_
    refine X10.laload hx (j := (0 : Int32)) (v := (.long q1)) (by rw [e10]; exact Ar5.1) (State.isArrayOf_alike hZ.alike Ar5.2.1) Ar5.2.2 hin5_0 (Has.at Hh5 hin5_0 rfl) (g := (mkF m 154 #[va o0, vl q3, ss, vl q4, ss, vi 0, vi 0, vl ((0 : Int64) + ((q2 - q1) + (1 : Int64))), ss, vi 1, uu, uu, uu] [(.int 0), (.ref o1), (.long q3)])) rfl rfl (hb hby d4_154) _ ?_
    refine st11 _ ?_
    refine XS.lstore X11.here hx rfl (hb hby d4_158) rfl (l' := #[va o0, vl q3, ss, vl q4, ss, vi 0, vi 0, vl ((0 : Int64) + ((q2 - q1) + (1 : Int64))), ss, vl (own_minL q3 q1), ss, uu, uu]) rfl ?_
    refine XS.lloadN X11.here hx rfl (hb hby d4_160) rfl ?_
    refine XS.aloadN X11.here hx rfl (hb hby d4_161) rfl rfl ?_
    refine st12 _ ?_
    refine XS.iload X12.here hx rfl (hb hby d4_165) rfl ?_
    show Steps p.tables e below (T12.setTop (mkF m 167 #[va o0, vl q3, ss, vl q4, ss, vi 0, vi 0, vl ((0 : Int64) + ((q2 - q1) + (1 : Int64))), ss, vl (own_minL q3 q1), ss, uu, uu] [(.int 0), (.ref o2), (.long q4)])) _
    refine X12.laload hx (j := (0 : Int32)) (v := (.long q2)) (by rw [e12]; exact Ar8.1) (State.isArrayOf_alike hZ.alike Ar8.2.1) Ar8.2.2 hin8_0 (Has.at Hh8 hin8_0 rfl) (g := (mkF m 167 #[va o0, vl q3, ss, vl q4, ss, vi 0, vi 0, vl ((0 : Int64) + ((q2 - q1) + (1 : Int64))), ss, vl (own_minL q3 q1), ss, uu, uu] [(.int 0), (.ref o2), (.long q4)])) rfl rfl (hb hby d4_167) _ ?_
    refine st13 _ ?_
    refine XS.lstore X13.here hx rfl (hb hby d4_171) rfl (l' := #[va o0, vl q3, ss, vl q4, ss, vi 0, vi 0, vl ((0 : Int64) + ((q2 - q1) + (1 : Int64))), ss, vl (own_minL q3 q1), ss, vl (own_maxL q4 q2), ss]) rfl ?_
    refine XS.aloadN X13.here hx rfl (hb hby d4_173) rfl rfl ?_
    refine st14 _ ?_
    refine XS.iload X14.here hx rfl (hb hby d4_177) rfl ?_
    refine XS.lload X14.here hx rfl (hb hby d4_179) rfl ?_
    refine st15 _ ?_
    show Steps p.tables e below (T15.setTop (mkF m 182 #[va o0, vl q3, ss, vl q4, ss, vi 0, vi 0, vl ((0 : Int64) + ((q2 - q1) + (1 : Int64))), ss, vl (own_minL q3 q1), ss, vl (own_maxL q4 q2), ss] [])) _
    refine XS.aloadN X15.here hx rfl (hb hby d4_182) rfl rfl ?_
    refine st17 _ ?_
    refine XS.iload X17.here hx rfl (hb hby d4_186) rfl ?_
    refine XS.lload X17.here hx rfl (hb hby d4_188) rfl ?_
    refine st20 _ ?_
    refine XS.aloadN X20.here hx rfl (hb hby d4_191) rfl rfl ?_
    refine XS.iload X20.here hx rfl (hb hby d4_192) rfl ?_
    refine XS.iconst X20.here hx rfl (hb hby d4_194) ?_
    show Steps p.tables e below (T20.setTop (mkF m 195 #[va o0, vl q3, ss, vl q4, ss, vi 0, vi 0, vl ((0 : Int64) + ((q2 - q1) + (1 : Int64))), ss, vl (own_minL q3 q1), ss, vl (own_maxL q4 q2), ss] [(.int 1), (.int 0), (.ref o0)])) _
    refine XS.iadd X20.here hx rfl (hb hby d4_195) rfl ?_
    show Steps p.tables e below (T20.setTop (mkF m 196 #[va o0, vl q3, ss, vl q4, ss, vi 0, vi 0, vl ((0 : Int64) + ((q2 - q1) + (1 : Int64))), ss, vl (own_minL q3 q1), ss, vl (own_maxL q4 q2), ss] [(.int ((0 : Int32) + (1 : Int32))), (.ref o0)])) _
    rw [show (((0 : Int32) + (1 : Int32)) : Int32) = (1 : Int32) from by decide]
    refine XS.iload X20.here hx rfl (hb hby d4_196) rfl ?_
    refine XS.iload X20.here hx rfl (hb hby d4_198) rfl ?_
    refine XS.isub X20.here hx rfl (hb hby d4_200) rfl ?_
    show Steps p.tables e below (T20.setTop (mkF m 201 #[va o0, vl q3, ss, vl q4, ss, vi 0, vi 0, vl ((0 : Int64) + ((q2 - q1) + (1 : Int64))), ss, vl (own_minL q3 q1), ss, vl (own_maxL q4 q2), ss] [(.int ((0 : Int32) - (0 : Int32))), (.int 1), (.ref o0)])) _
    rw [show (((0 : Int32) - (0 : Int32)) : Int32) = (0 : Int32) from by decide]
    refine st28.trans ?_
    refine XS.aloadN X28.here hx rfl (hb hby d4_204) rfl rfl ?_
    refine XS.dup X28.here hx rfl (hb hby d4_205) rfl rfl ?_
    refine st29 _ ?_
    refine XS.lload X29.here hx rfl (hb hby d4_209) rfl ?_
    refine XS.lload X29.here hx rfl (hb hby d4_211) rfl ?_
    refine XS.lsub X29.here hx rfl (hb hby d4_213) rfl ?_
    show Steps p.tables e below (T29.setTop (mkF m 214 #[va o0, vl q3, ss, vl q4, ss, vi 0, vi 0, vl ((0 : Int64) + ((q2 - q1) + (1 : Int64))), ss, vl (own_minL q3 q1), ss, vl (own_maxL q4 q2), ss] [(.long ((own_maxL q4 q2) - (own_minL q3 q1))), (.long q0), (.ref o0)])) _
    refine XS.lconst X29.here hx rfl (hb hby d4_214) ?_
    refine XS.ladd X29.here hx rfl (hb hby d4_215) rfl ?_
    refine XS.lload X29.here hx rfl (hb hby d4_216) rfl ?_
    refine XS.lsub X29.here hx rfl (hb hby d4_218) rfl ?_
    refine XS.ladd X29.here hx rfl (hb hby d4_219) rfl ?_
    refine st30 _ ?_
    refine XS.iconst X30.here hx rfl (hb hby d4_223) ?_
    exact retN X30 hx (t := .boolean) hrt (by simp) (hb hby d4_224) hr
  · show Q4_2 Z w_NONE o0 o1 o2 kk_o1 kk_o2 q3 q4 q0 q1 q2 h0 n0 (some (.int 1)) T30.heap _
    rw [e30]; exact ⟨rfl, N30, K30, fc31, Fw30, fc32, fc33, fc34, fc35, fc36, fc37⟩
def Q4_3 (Z : State) (w_NONE : Addr) (o0 : Addr) (o1 : Addr) (o2 : Addr) (kk_o1 : ClassId) (kk_o2 : ClassId) (q3 : Int64) (q4 : Int64) (q0 : Int64) (q1 : Int64) (q2 : Int64) (h0 : Heap) (n0 : Nat) (v : Option Value) (h : Heap) (L : List Loc) : Prop := v = (some (.int 1)) ∧ Fr n0 L ∧ Keep h0 h [o1, o2, o0] ∧ Exa Z h o0 sC0 ∧ Fld Z h o0 sC0 "count" "J" (.long (q0 + ((((own_maxL q4 q2) - (own_minL q3 q1)) + (1 : Int64)) - ((0 : Int64) + ((q2 - q1) + (1 : Int64)))))) ∧ Fld Z h o0 sC0 "firsts" "[J" (.ref o1) ∧ Fld Z h o0 sC0 "lasts" "[J" (.ref o2) ∧ Fld Z h o0 sC0 "maxRanges" "I" (.int 2147483647) ∧ Fld Z h o0 sC0 "ranges" "I" (.int 1) ∧ Arv Z h o1 kk_o1 .long (4 : Int32) [(.long (own_minL q3 q1)), (.long 0), (.long 0), (.long 0)] (.long 0) ∧ Arv Z h o2 kk_o2 .long (4 : Int32) [(.long (own_maxL q4 q2)), (.long 0), (.long 0), (.long 0)] (.long 0)
theorem rm4_3 (l : Launch) (Z : State) (a0 : Array Value) (hw : HW Z a0) (ws : List Jvm.Cond) (w_NONE : Addr) (o0 : Addr) (o1 : Addr) (o2 : Addr) (kk_o1 : ClassId) (kk_o2 : ClassId) (q3 : Int64) (q4 : Int64) (q0 : Int64) (q1 : Int64) (q2 : Int64) (h0 : Heap) (n0 : Nat) (O0 : Old Z n0 h0) (S : SF Z w_NONE) (E_o0 : Exa Z h0 o0 sC0) (F_count_o0 : Fld Z h0 o0 sC0 "count" "J" (.long q0)) (F_firsts_o0 : Fld Z h0 o0 sC0 "firsts" "[J" (.ref o1)) (F_lasts_o0 : Fld Z h0 o0 sC0 "lasts" "[J" (.ref o2)) (F_maxRanges_o0 : Fld Z h0 o0 sC0 "maxRanges" "I" (.int 2147483647)) (F_ranges_o0 : Fld Z h0 o0 sC0 "ranges" "I" (.int 1)) (V_o1 : Arv Z h0 o1 kk_o1 .long (4 : Int32) [(.long q1), (.long 0), (.long 0), (.long 0)] (.long 0)) (V_o2 : Arv Z h0 o2 kk_o2 .long (4 : Int32) [(.long q2), (.long 0), (.long 0), (.long 0)] (.long 0)) (ne_o0_o1 : o0 ≠ o1) (ne_o0_o2 : o0 ≠ o2) (ne_o1_o2 : o1 ≠ o2) (g_o0 : n0 ≤ o0) (g_o1 : n0 ≤ o1) (g_o2 : n0 ≤ o2) (hc0 : ¬ (q3 < (0 : Int64))) (hc1 : ¬ (q4 < q3)) (hc2 : q3 = (0 : Int64)) (hc3 : ¬ (q2 < (0 : Int64))) (hc4 : ¬ ((q4 + (1 : Int64)) < q1)) :
    Pay l Z My4 ws prog_55_method_8_code 13 (some .boolean) #[(.ref o0), (.long q3), (.long q4)] h0 ({ frames := 2, cells := 0, slots := 0, locals := 32 } : Room) (Q4_3 Z w_NONE o0 o1 o2 kk_o1 kk_o2 q3 q4 q0 q1 q2 h0 n0) := by
  refine own_body (plainFor_of_name pn_1) (L0 := #[va o0, vl q3, ss, vl q4, ss, uu, uu, uu, uu, uu, uu, uu, uu]) (fun _ => by first | rfl | (simp [entryFrame, mkF, argsToLocals, Value.category]; done)) ?_
  intro p e s m below meth c s₁ hrt hlk hx hby hml hZ hown0 hnm X0 e0
  have hown : s.vm.findClass sC0 = some m.cls := hown0
  have N0 := Fr.nil n0
  have K0 : Keep h0 h0 [o1, o2, o0] := Keep.refl _ _
  obtain ⟨_, _, ⟨T1, L1, k1, n1⟩, -, X1, ⟨Lc1, hQ1, l1, y1, z1⟩, st1⟩ := Jvm.LawKit.callS X0 hx (y := My5) hown (mvT hZ (ww hw 29 rfl)) (mvT hZ (ww hw 30 rfl)) (mvT hZ (ww hw 5 rfl)) (mvT hZ (ww hw 31 rfl)) (by decide) (backOf (W := 0) (rm5_0 l Z a0 hw [] w_NONE q3 q4 h0 n0 O0 S hc0 hc1) hZ (ww hw 31 rfl) (ww hw 5 rfl) (by decide) (by decide)) (g := (mkF m 2 #[va o0, vl q3, ss, vl q4, ss, uu, uu, uu, uu, uu, uu, uu, uu] [(.long q4), (.long q3)])) rfl (by rw [hml]; rfl) (argsL := [(.long q3), (.long q4)]) (rest := []) (lenOf pd_6 rfl) rfl (by show 2 * 0 + _ ≤ _; exact Nat.le_of_eq rfl) (hb hby d4_2) (fun _ _ => ⟨rfl, e0, (by decide : 0 + 0 ≤ _), (by decide : 0 + 0 ≤ _)⟩)
  dsimp only [Pt.U, Pt.locs, Pt.cells, Pt.slots] at X1 l1 y1 z1 st1 hQ1
  subst l1 y1 z1
  obtain ⟨rfl, Nq1, e1⟩ := hQ1
  have N1 := Fr.app N0 Nq1
  obtain ⟨cq2, qa2, qb2⟩ := E_o0.cell
  obtain ⟨_, _, ⟨T2, L2, k2, n2⟩, -, X2, ⟨Lc2, hQ2, l2, y2, z2⟩, st2⟩ := X1.privateBack hx (y := My6) hown (mvT hZ (ww hw 32 rfl)) (mvT hZ (ww hw 33 rfl)) (own_selp (by decide) (mvT hZ (ww hw 4 rfl)) (mvP hZ (ww hw 34 rfl)) (mvT hZ (ww hw 33 rfl))) (Cond.privateMethod_at (mvP hZ (ww hw 34 rfl) (args := #[]))) (mvT hZ (ww hw 35 rfl)) (by decide) (backOf (W := 0) (rm6_2 l Z a0 hw [] w_NONE o0 o1 o2 kk_o1 kk_o2 q0 q1 q2 h0 n0 O0 S F_lasts_o0 F_ranges_o0 V_o2 hc3) hZ (ww hw 35 rfl) (ww hw 5 rfl) (by decide) (by decide)) (g := (mkF m 19 #[va o0, vl q3, ss, vl q4, ss, uu, uu, uu, uu, uu, uu, uu, uu] [(.long 0), (.ref o0)])) rfl (by rw [hml]; rfl) (Steps.refl _) (a := o0) (by rw [e1]; exact qa2) qb2 (argsL := [(.long 0)]) (rest := []) (lenOf pd_4 rfl) rfl (by show 2 * 0 + _ ≤ _; exact Nat.le_of_eq rfl) (hb hby d4_19) (fun _ _ => ⟨rfl, e1, (by decide : 0 + 0 ≤ _), (by decide : 0 + 0 ≤ _)⟩)
  dsimp only [Pt.U, Pt.locs, Pt.cells, Pt.slots] at X2 l2 y2 z2 st2 hQ2
  subst l2 y2 z2
  obtain ⟨rfl, Nq2, e2⟩ := hQ2
  have N2 := Fr.app N1 Nq2
  obtain ⟨T3, X3, e3, st3⟩ := getF X2 hx hZ hown (host := "") (Or.inl (ww hw 36 rfl)) Via.refl e2 F_ranges_o0 (g := (mkF m 31 #[va o0, vl q3, ss, vl q4, ss, vi 0, vi 0, uu, uu, uu, uu, uu, uu] [(.ref o0), (.int 0)])) rfl rfl (hb hby d4_31)
  obtain ⟨T4, X4, e4, st4⟩ := getF X3 hx hZ hown (host := "") (Or.inl (ww hw 18 rfl)) Via.refl e3 F_firsts_o0 (g := (mkF m 38 #[va o0, vl q3, ss, vl q4, ss, vi 0, vi 0, uu, uu, uu, uu, uu, uu] [(.ref o0)])) rfl rfl (hb hby d4_38)
  obtain ⟨cl5, Ar5, qk5, Sz5, Ng5, Hh5, Gg5⟩ := id V_o1
  have hin5_0 : ¬ ((0 : Int32) < 0 ∨ cl5.slots.size ≤ ((0 : Int32)).toNatClampNeg) := inb_of Sz5 ⟨by decide, by decide⟩
  obtain ⟨T6, X6, e6, st6⟩ := getF X4 hx hZ hown (host := "") (Or.inl (ww hw 36 rfl)) Via.refl e4 F_ranges_o0 (g := (mkF m 31 #[va o0, vl q3, ss, vl q4, ss, vi 0, vi 1, uu, uu, uu, uu, uu, uu] [(.ref o0), (.int 1)])) rfl rfl (hb hby d4_31)
  obtain ⟨T7, X7, e7, st7⟩ := getF X6 hx hZ hown (host := "") (Or.inl (ww hw 20 rfl)) Via.refl e6 F_lasts_o0 (g := (mkF m 122 #[va o0, vl q3, ss, vl q4, ss, vi 0, vi 0, vl 0, ss, vi 0, uu, uu, uu] [(.ref o0), (.long 0)])) rfl rfl (hb hby d4_122)
  obtain ⟨cl8, Ar8, qk8, Sz8, Ng8, Hh8, Gg8⟩ := id V_o2
  have hin8_0 : ¬ ((0 : Int32) < 0 ∨ cl8.slots.size ≤ ((0 : Int32)).toNatClampNeg) := inb_of Sz8 ⟨by decide, by decide⟩
  obtain ⟨T9, X9, e9, st9⟩ := getF X7 hx hZ hown (host := "") (Or.inl (ww hw 18 rfl)) Via.refl e7 F_firsts_o0 (g := (mkF m 129 #[va o0, vl q3, ss, vl q4, ss, vi 0, vi 0, vl 0, ss, vi 0, uu, uu, uu] [(.ref o0), (.long q2), (.long 0)])) rfl rfl (hb hby d4_129)
  obtain ⟨T10, X10, e10, st10⟩ := getF X9 hx hZ hown (host := "") (Or.inl (ww hw 18 rfl)) Via.refl e9 F_firsts_o0 (g := (mkF m 149 #[va o0, vl q3, ss, vl q4, ss, vi 0, vi 0, vl ((0 : Int64) + ((q2 - q1) + (1 : Int64))), ss, vi 1, uu, uu, uu] [(.ref o0), (.long q3)])) rfl rfl (hb hby d4_149)
  obtain ⟨_, _, ⟨T11, L11, k11, n11⟩, -, X11, ⟨Lc11, hQ11, l11, y11, z11⟩, st11⟩ := Jvm.LawKit.callS X10 hx (y := My17) hown (mvT hZ (ww hw 91 rfl)) (mvT hZ (ww hw 92 rfl)) (mvT hZ (ww hw 44 rfl)) (mvT hZ (ww hw 93 rfl)) (by decide) (backOf (W := 0) (mg17_0 l Z a0 hw [] w_NONE q3 q1 h0 n0 O0 S) hZ (ww hw 93 rfl) (ww hw 44 rfl) (by decide) (by decide)) (g := (mkF m 155 #[va o0, vl q3, ss, vl q4, ss, vi 0, vi 0, vl ((0 : Int64) + ((q2 - q1) + (1 : Int64))), ss, vi 1, uu, uu, uu] [(.long q1), (.long q3)])) rfl (by rw [hml]; rfl) (argsL := [(.long q3), (.long q1)]) (rest := []) (lenOf pd_11 rfl) rfl (by show 2 * 0 + _ ≤ _; exact Nat.le_of_eq rfl) (hb hby d4_155) (fun _ _ => ⟨rfl, e10, (by decide : 0 + 0 ≤ _), (by decide : 0 + 0 ≤ _)⟩)
  dsimp only [Pt.U, Pt.locs, Pt.cells, Pt.slots] at X11 l11 y11 z11 st11 hQ11
  subst l11 y11 z11
  obtain ⟨rfl, Nq11, e11⟩ := hQ11
  have N11 := Fr.app N2 Nq11
  obtain ⟨T12, X12, e12, st12⟩ := getF X11 hx hZ hown (host := "") (Or.inl (ww hw 20 rfl)) Via.refl e11 F_lasts_o0 (g := (mkF m 162 #[va o0, vl q3, ss, vl q4, ss, vi 0, vi 0, vl ((0 : Int64) + ((q2 - q1) + (1 : Int64))), ss, vl (own_minL q3 q1), ss, uu, uu] [(.ref o0), (.long q4)])) rfl rfl (hb hby d4_162)
  obtain ⟨_, _, ⟨T13, L13, k13, n13⟩, -, X13, ⟨Lc13, hQ13, l13, y13, z13⟩, st13⟩ := Jvm.LawKit.callS X12 hx (y := My16) hown (mvT hZ (ww hw 88 rfl)) (mvT hZ (ww hw 89 rfl)) (mvT hZ (ww hw 44 rfl)) (mvT hZ (ww hw 90 rfl)) (by decide) (backOf (W := 0) (mg16_0 l Z a0 hw [] w_NONE q4 q2 h0 n0 O0 S) hZ (ww hw 90 rfl) (ww hw 44 rfl) (by decide) (by decide)) (g := (mkF m 168 #[va o0, vl q3, ss, vl q4, ss, vi 0, vi 0, vl ((0 : Int64) + ((q2 - q1) + (1 : Int64))), ss, vl (own_minL q3 q1), ss, uu, uu] [(.long q2), (.long q4)])) rfl (by rw [hml]; rfl) (argsL := [(.long q4), (.long q2)]) (rest := []) (lenOf pd_11 rfl) rfl (by show 2 * 0 + _ ≤ _; exact Nat.le_of_eq rfl) (hb hby d4_168) (fun _ _ => ⟨rfl, e12, (by decide : 0 + 0 ≤ _), (by decide : 0 + 0 ≤ _)⟩)
  dsimp only [Pt.U, Pt.locs, Pt.cells, Pt.slots] at X13 l13 y13 z13 st13 hQ13
  subst l13 y13 z13
  obtain ⟨rfl, Nq13, e13⟩ := hQ13
  have N13 := Fr.app N11 Nq13
  obtain ⟨T14, X14, e14, st14⟩ := getF X13 hx hZ hown (host := "") (Or.inl (ww hw 18 rfl)) Via.refl e13 F_firsts_o0 (g := (mkF m 174 #[va o0, vl q3, ss, vl q4, ss, vi 0, vi 0, vl ((0 : Int64) + ((q2 - q1) + (1 : Int64))), ss, vl (own_minL q3 q1), ss, vl (own_maxL q4 q2), ss] [(.ref o0)])) rfl rfl (hb hby d4_174)
  obtain ⟨T15, h15, X15, e15, W15, st15⟩ := stJ X14 hx hZ e14 Ar5 (j := (0 : Int32)) hin5_0 (g := (mkF m 181 #[va o0, vl q3, ss, vl q4, ss, vi 0, vi 0, vl ((0 : Int64) + ((q2 - q1) + (1 : Int64))), ss, vl (own_minL q3 q1), ss, vl (own_maxL q4 q2), ss] [(.long (own_minL q3 q1)), (.int 0), (.ref o1)])) rfl rfl (hb hby d4_181)
  have V15 : Arv Z h15 o1 kk_o1 .long (4 : Int32) [(.long (own_minL q3 q1)), (.long 0), (.long 0), (.long 0)] (.long 0) := Arv.set Ar5 qk5 Sz5 Ng5 Hh5 Gg5 rfl W15 0 rfl (Nat.le_of_ble_eq_true rfl)
  have O15 := O0.wr W15 g_o1
  have K15 : Keep h0 h15 [o1, o2, o0] := K0.wr W15 (Or.inl (List.mem_of_getElem? (i := 0) rfl))
  have N15 := Fr.snoc X15 N13 g_o1
  have fc16 := (F_lasts_o0.other W15 (Or.inl ne_o0_o1))
  obtain ⟨T17, X17, e17, st17⟩ := getF X15 hx hZ hown (host := "") (Or.inl (ww hw 20 rfl)) Via.refl e15 fc16 (g := (mkF m 183 #[va o0, vl q3, ss, vl q4, ss, vi 0, vi 0, vl ((0 : Int64) + ((q2 - q1) + (1 : Int64))), ss, vl (own_minL q3 q1), ss, vl (own_maxL q4 q2), ss] [(.ref o0)])) rfl rfl (hb hby d4_183)
  have fc18 := (V_o2.other W15 (Ne.symm ne_o1_o2))
  obtain ⟨cl19, Ar19, qk19, Sz19, Ng19, Hh19, Gg19⟩ := id fc18
  have hin19_0 : ¬ ((0 : Int32) < 0 ∨ cl19.slots.size ≤ ((0 : Int32)).toNatClampNeg) := inb_of Sz19 ⟨by decide, by decide⟩
  obtain ⟨T20, h20, X20, e20, W20, st20⟩ := stJ X17 hx hZ e17 Ar19 (j := (0 : Int32)) hin19_0 (g := (mkF m 190 #[va o0, vl q3, ss, vl q4, ss, vi 0, vi 0, vl ((0 : Int64) + ((q2 - q1) + (1 : Int64))), ss, vl (own_minL q3 q1), ss, vl (own_maxL q4 q2), ss] [(.long (own_maxL q4 q2)), (.int 0), (.ref o2)])) rfl rfl (hb hby d4_190)
  have V20 : Arv Z h20 o2 kk_o2 .long (4 : Int32) [(.long (own_maxL q4 q2)), (.long 0), (.long 0), (.long 0)] (.long 0) := Arv.set Ar19 qk19 Sz19 Ng19 Hh19 Gg19 rfl W20 0 rfl (Nat.le_of_ble_eq_true rfl)
  have O20 := O15.wr W20 g_o2
  have K20 : Keep h0 h20 [o1, o2, o0] := K15.wr W20 (Or.inl (List.mem_of_getElem? (i := 1) rfl))
  have N20 := Fr.snoc X20 N15 g_o2
  have fc21 := ((E_o0.wr W15).wr W20)
  have fc22 := ((F_count_o0.other W15 (Or.inl ne_o0_o1)).other W20 (Or.inl ne_o0_o2))
  have fc23 := ((F_firsts_o0.other W15 (Or.inl ne_o0_o1)).other W20 (Or.inl ne_o0_o2))
  have fc24 := (fc16.other W20 (Or.inl ne_o0_o2))
  have fc25 := ((F_maxRanges_o0.other W15 (Or.inl ne_o0_o1)).other W20 (Or.inl ne_o0_o2))
  have fc26 := ((F_ranges_o0.other W15 (Or.inl ne_o0_o1)).other W20 (Or.inl ne_o0_o2))
  have fc27 := (V15.other W20 ne_o1_o2)
  obtain ⟨cq28, qa28, qb28⟩ := fc21.cell
  obtain ⟨_, _, ⟨T28, L28, k28, n28⟩, -, X28, ⟨Lc28, hQ28, l28, y28, z28⟩, st28⟩ := X20.privateBack hx (y := (⟨sC0, "delete", "(II)V"⟩ : MethodName)) hown (mvT hZ (ww hw 94 rfl)) (mvT hZ (ww hw 95 rfl)) (own_selp (by decide) (mvT hZ (ww hw 4 rfl)) (mvP hZ (ww hw 96 rfl)) (mvT hZ (ww hw 95 rfl))) (Cond.privateMethod_at (mvP hZ (ww hw 96 rfl) (args := #[]))) (mvT hZ (ww hw 97 rfl)) (by decide) (backOf (W := 0) (rm18_0 l Z a0 hw [] w_NONE o0 o1 o2 kk_o1 kk_o2 q0 (own_minL q3 q1) (own_maxL q4 q2) h20 n0 O20 S fc21 fc22 fc23 fc24 fc25 fc26 fc27 V20 ne_o0_o1 ne_o0_o2 ne_o1_o2 g_o0 g_o1 g_o2) hZ (ww hw 97 rfl) (ww hw 5 rfl) (by decide) (by decide)) (g := (mkF m 201 #[va o0, vl q3, ss, vl q4, ss, vi 0, vi 0, vl ((0 : Int64) + ((q2 - q1) + (1 : Int64))), ss, vl (own_minL q3 q1), ss, vl (own_maxL q4 q2), ss] [(.int 0), (.int 1), (.ref o0)])) rfl (by rw [hml]; rfl) (Steps.refl _) (a := o0) (by rw [e20]; exact qa28) qb28 (argsL := [(.int 1), (.int 0)]) (rest := []) (lenOf pd_12 rfl) rfl (by show 2 * 0 + _ ≤ _; exact Nat.le_of_eq rfl) (hb hby d4_201) (fun _ _ => ⟨rfl, e20, (by decide : 0 + 0 ≤ _), (by decide : 0 + 0 ≤ _)⟩)
  dsimp only [Pt.U, Pt.locs, Pt.cells, Pt.slots] at X28 l28 y28 z28 st28 hQ28
  subst l28 y28 z28
  obtain ⟨rfl, Nq28, Kc28, P0_28, P1_28, P2_28, P3_28, P4_28, P5_28, P6_28, P7_28⟩ := hQ28
  have N28 := Fr.app N20 Nq28
  have O28 := O20.keep Kc28 (allS g_o1 (allS g_o2 (allS g_o0 all0)))
  have K28 : Keep h0 T28.heap [o1, o2, o0] := K20.trans Kc28 (allS (Or.inl (List.mem_of_getElem? (i := 0) rfl)) (allS (Or.inl (List.mem_of_getElem? (i := 1) rfl)) (allS (Or.inl (List.mem_of_getElem? (i := 2) rfl)) all0)))
  obtain ⟨T29, X29, e29, st29⟩ := getF X28 hx hZ hown (host := "") (Or.inl (ww hw 59 rfl)) Via.refl rfl P1_28 (g := (mkF m 206 #[va o0, vl q3, ss, vl q4, ss, vi 0, vi 0, vl ((0 : Int64) + ((q2 - q1) + (1 : Int64))), ss, vl (own_minL q3 q1), ss, vl (own_maxL q4 q2), ss] [(.ref o0), (.ref o0)])) rfl rfl (hb hby d4_206)
  obtain ⟨T30, h30, X30, e30, W30, st30⟩ := putF X29 hx hZ hown (host := "") (Or.inl (ww hw 59 rfl)) Via.refl e29 P1_28 P0_28 (Or.inl (ww hw 60 rfl)) (ww hw 4 rfl) (ty := .long) (by decide) rfl rfl (g := (mkF m 220 #[va o0, vl q3, ss, vl q4, ss, vi 0, vi 0, vl ((0 : Int64) + ((q2 - q1) + (1 : Int64))), ss, vl (own_minL q3 q1), ss, vl (own_maxL q4 q2), ss] [(.long (q0 + ((((own_maxL q4 q2) - (own_minL q3 q1)) + (1 : Int64)) - ((0 : Int64) + ((q2 - q1) + (1 : Int64)))))), (.ref o0)])) rfl rfl (hb hby d4_220)
  have Fw30 := P1_28.same W30
  have O30 := O28.wr W30 g_o0
  have K30 : Keep h0 h30 [o1, o2, o0] := K28.wr W30 (Or.inl (List.mem_of_getElem? (i := 2) rfl))
  have N30 := Fr.snoc X30 N28 g_o0
  obtain ⟨fs, hr, hrun, hended, hW, hsame⟩ := X30.leave (v := (some (.int 1))) (fun h => by rw [hrt] at h; cases h)
  have fc31 := (P0_28.wr W30)
  have fc32 := (P2_28.other W30 (Or.inr (slot_ne (Or.inl (ww hw 19 rfl)) (Or.inl (ww hw 60 rfl)) (by decide) (t := (.array .long)) (t' := .long) (by decide) (by decide))))
  have fc33 := (P3_28.other W30 (Or.inr (slot_ne (Or.inl (ww hw 21 rfl)) (Or.inl (ww hw 60 rfl)) (by decide) (t := (.array .long)) (t' := .long) (by decide) (by decide))))
  have fc34 := (P4_28.other W30 (Or.inr (slot_ne (Or.inr (ww hw 23 rfl)) (Or.inl (ww hw 60 rfl)) (by decide) (t := .int) (t' := .long) (by decide) (by decide))))
  have fc35 := (P5_28.other W30 (Or.inr (slot_ne (Or.inl (ww hw 37 rfl)) (Or.inl (ww hw 60 rfl)) (by decide) (t := .int) (t' := .long) (by decide) (by decide))))
  have fc36 := (P6_28.other W30 (Ne.symm ne_o0_o1))
  have fc37 := (P7_28.other W30 (Ne.symm ne_o0_o2))
  refine ⟨_, _, ?_, hrun, hended, _, _, rfl, ?_, ⟨_, rfl⟩, hW, hsame.mono (by decide) (by decide)⟩
  · show Steps p.tables e below (s₁.setTop (mkF m 0 #[va o0, vl q3, ss, vl q4, ss, uu, uu, uu, uu, uu, uu, uu, uu] [])) _
    refine XS.lloadN X0.here hx rfl (hb hby d4_0) rfl ?_
    refine XS.lloadN X0.here hx rfl (hb hby d4_1) rfl ?_
    refine st1 _ ?_
    refine XS.aloadN X1.here hx rfl (hb hby d4_5) rfl rfl ?_
    refine XS.lloadN X1.here hx rfl (hb hby d4_6) rfl ?_
    refine XS.lconst X1.here hx rfl (hb hby d4_7) ?_
    refine XS.lcmp X1.here hx rfl (hb hby d4_8) rfl ?_
    refine XS.ifNo X1.here hx rfl (hb hby d4_9) rfl (own_lc_eqT hc2).2 ?_
    show Steps p.tables e below (T1.setTop (mkF m 12 #[va o0, vl q3, ss, vl q4, ss, uu, uu, uu, uu, uu, uu, uu, uu] [(.ref o0)])) _
    refine XS.lconst X1.here hx rfl (hb hby d4_12) ?_
    refine XS.goto X1.here hx rfl (pc0 := 13) (pc' := 19) rfl (hb hby d4_13) (by decide) (by decide) ?_
    refine st2.trans ?_
    refine XS.istore X2.here hx rfl (hb hby d4_22) rfl (l' := #[va o0, vl q3, ss, vl q4, ss, vi 0, uu, uu, uu, uu, uu, uu, uu]) rfl ?_
    refine XS.iload X2.here hx rfl (hb hby d4_24) rfl ?_
    refine XS.istore X2.here hx rfl (hb hby d4_26) rfl (l' := #[va o0, vl q3, ss, vl q4, ss, vi 0, vi 0, uu, uu, uu, uu, uu, uu]) rfl ?_
    refine XS.iload X2.here hx rfl (hb hby d4_28) rfl ?_
    refine XS.aloadN X2.here hx rfl (hb hby d4_30) rfl rfl ?_
    show Steps p.tables e below (T2.setTop (mkF m 31 #[va o0, vl q3, ss, vl q4, ss, vi 0, vi 0, uu, uu, uu, uu, uu, uu] [(.ref o0), (.int 0)])) _
    refine st3 _ ?_
    refine XS.icmpNo X3.here hx rfl (hb hby d4_34) rfl (tlt (by decide : (0 : Int32) < (1 : Int32))).2.1 ?_
    refine XS.aloadN X3.here hx rfl (hb hby d4_37) rfl rfl ?_
    refine st4 _ ?_
    refine XS.iload X4.here hx rfl (hb hby d4_41) rfl ?_
    refine X4.laload hx (j := (0 : Int32)) (v := (.long q1)) (by rw [e4]; exact Ar5.1) (State.isArrayOf_alike hZ.alike Ar5.2.1) Ar5.2.2 hin5_0 (Has.at Hh5 hin5_0 rfl) (g := (mkF m 43 #[va o0, vl q3, ss, vl q4, ss, vi 0, vi 0, uu, uu, uu, uu, uu, uu] [(.int 0), (.ref o1)])) rfl rfl (hb hby d4_43) _ ?_
    refine XS.lloadN X4.here hx rfl (hb hby d4_44) rfl ?_
    refine XS.lconst X4.here hx rfl (hb hby d4_45) ?_
    show Steps p.tables e below (T4.setTop (mkF m 46 #[va o0, vl q3, ss, vl q4, ss, vi 0, vi 0, uu, uu, uu, uu, uu, uu] [(.long 1), (.long q4), (.long q1)])) _
    refine XS.ladd X4.here hx rfl (hb hby d4_46) rfl ?_
    refine XS.lcmp X4.here hx rfl (hb hby d4_47) rfl ?_
    refine XS.ifNo X4.here hx rfl (hb hby d4_48) rfl (own_lc_gtF hc4).1 ?_
    refine XS.iinc X4.here hx rfl (hb hby d4_51) rfl (l' := #[va o0, vl q3, ss, vl q4, ss, vi 0, vi ((0 : Int32) + (1 : Int32)), uu, uu, uu, uu, uu, uu]) rfl ?_
    show Steps p.tables e below (T4.setTop (mkF m 54 #[va o0, vl q3, ss, vl q4, ss, vi 0, vi ((0 : Int32) + (1 : Int32)), uu, uu, uu, uu, uu, uu] [])) _
    rw [show (((0 : Int32) + (1 : Int32)) : Int32) = (1 : Int32) from by decide]
    refine XS.goto X4.here hx rfl (pc0 := 54) (pc' := 28) rfl (hb hby d4_54) (by decide) (by decide) ?_
    refine XS.iload X4.here hx rfl (hb hby d4_28) rfl ?_
    refine XS.aloadN X4.here hx rfl (hb hby d4_30) rfl rfl ?_
    refine st6 _ ?_
    refine XS.icmpYes X6.here hx rfl (pc0 := 34) (pc' := 57) rfl (hb hby d4_34) rfl (flt (by decide : ¬ ((1 : Int32) < (1 : Int32)))).2.1 (by decide) (by decide) ?_
    refine XS.iinc X6.here hx rfl (hb hby d4_57) rfl (l' := #[va o0, vl q3, ss, vl q4, ss, vi 0, vi ((1 : Int32) + (-1 : Int32)), uu, uu, uu, uu, uu, uu]) rfl ?_
    show Steps p.tables e below (T6.setTop (mkF m 60 #[va o0, vl q3, ss, vl q4, ss, vi 0, vi ((1 : Int32) + (-1 : Int32)), uu, uu, uu, uu, uu, uu] [])) _
    rw [show (((1 : Int32) + (-1 : Int32)) : Int32) = (0 : Int32) from by decide]
    refine XS.iload X6.here hx rfl (hb hby d4_60) rfl ?_
    refine XS.iload X6.here hx rfl (hb hby d4_62) rfl ?_
    refine XS.icmpYes X6.here hx rfl (pc0 := 64) (pc' := 105) rfl (hb hby d4_64) rfl (flt (by decide : ¬ ((0 : Int32) < (0 : Int32)))).2.1 (by decide) (by decide) ?_
    refine XS.lconst X6.here hx rfl (hb hby d4_105) ?_
    refine XS.lstore X6.here hx rfl (hb hby d4_106) rfl (l' := #[va o0, vl q3, ss, vl q4, ss, vi 0, vi 0, vl 0, ss, uu, uu, uu, uu]) rfl ?_
    refine XS.iload X6.here hx rfl (hb hby d4_108) rfl ?_
    refine XS.istore X6.here hx rfl (hb hby d4_110) rfl (l' := #[va o0, vl q3, ss, vl q4, ss, vi 0, vi 0, vl 0, ss, vi 0, uu, uu, uu]) rfl ?_
    show Steps p.tables e below (T6.setTop (mkF m 112 #[va o0, vl q3, ss, vl q4, ss, vi 0, vi 0, vl 0, ss, vi 0, uu, uu, uu] [])) _
    refine XS.iload X6.here hx rfl (hb hby d4_112) rfl ?_
    refine XS.iload X6.here hx rfl (hb hby d4_114) rfl ?_
    refine XS.icmpNo X6.here hx rfl (hb hby d4_116) rfl (flt (by decide : ¬ ((0 : Int32) < (0 : Int32)))).2.2.1 ?_
    refine XS.lload X6.here hx rfl (hb hby d4_119) rfl ?_
    refine XS.aloadN X6.here hx rfl (hb hby d4_121) rfl rfl ?_
    refine st7 _ ?_
    refine XS.iload X7.here hx rfl (hb hby d4_125) rfl ?_
    refine X7.laload hx (j := (0 : Int32)) (v := (.long q2)) (by rw [e7]; exact Ar8.1) (State.isArrayOf_alike hZ.alike Ar8.2.1) Ar8.2.2 hin8_0 (Has.at Hh8 hin8_0 rfl) (g := (mkF m 127 #[va o0, vl q3, ss, vl q4, ss, vi 0, vi 0, vl 0, ss, vi 0, uu, uu, uu] [(.int 0), (.ref o2), (.long 0)])) rfl rfl (hb hby d4_127) _ ?_
    show Steps p.tables e below (T7.setTop (mkF m 128 #[va o0, vl q3, ss, vl q4, ss, vi 0, vi 0, vl 0, ss, vi 0, uu, uu, uu] [(.long q2), (.long 0)])) _
    refine XS.aloadN X7.here hx rfl (hb hby d4_128) rfl rfl ?_
    refine st9 _ ?_
    refine XS.iload X9.here hx rfl (hb hby d4_132) rfl ?_
    refine X9.laload hx (j := (0 : Int32)) (v := (.long q1)) (by rw [e9]; exact Ar5.1) (State.isArrayOf_alike hZ.alike Ar5.2.1) Ar5.2.2 hin5_0 (Has.at Hh5 hin5_0 rfl) (g := (mkF m 134 #[va o0, vl q3, ss, vl q4, ss, vi 0, vi 0, vl 0, ss, vi 0, uu, uu, uu] [(.int 0), (.ref o1), (.long q2), (.long 0)])) rfl rfl (hb hby d4_134) _ ?_
    refine XS.lsub X9.here hx rfl (hb hby d4_135) rfl ?_
    refine XS.lconst X9.here hx rfl (hb hby d4_136) ?_
    refine XS.ladd X9.here hx rfl (hb hby d4_137) rfl ?_
    refine XS.ladd X9.here hx rfl (hb hby d4_138) rfl ?_
    show Steps p.tables e below (T9.setTop (mkF m 139 #[va o0, vl q3, ss, vl q4, ss, vi 0, vi 0, vl 0, ss, vi 0, uu, uu, uu] [(.long ((0 : Int64) + ((q2 - q1) + (1 : Int64))))])) _
    refine XS.lstore X9.here hx rfl (hb hby d4_139) rfl (l' := #[va o0, vl q3, ss, vl q4, ss, vi 0, vi 0, vl ((0 : Int64) + ((q2 - q1) + (1 : Int64))), ss, vi 0, uu, uu, uu]) rfl ?_
    refine XS.iinc X9.here hx rfl (hb hby d4_141) rfl (l' := #[va o0, vl q3, ss, vl q4, ss, vi 0, vi 0, vl ((0 : Int64) + ((q2 - q1) + (1 : Int64))), ss, vi ((0 : Int32) + (1 : Int32)), uu, uu, uu]) rfl ?_
    show Steps p.tables e below (T9.setTop (mkF m 144 #[va o0, vl q3, ss, vl q4, ss, vi 0, vi 0, vl ((0 : Int64) + ((q2 - q1) + (1 : Int64))), ss, vi ((0 : Int32) + (1 : Int32)), uu, uu, uu] [])) _
    rw [show (((0 : Int32) + (1 : Int32)) : Int32) = (1 : Int32) from by decide]
    refine XS.goto X9.here hx rfl (pc0 := 144) (pc' := 112) rfl (hb hby d4_144) (by decide) (by decide) ?_
    refine XS.iload X9.here hx rfl (hb hby d4_112) rfl ?_
    refine XS.iload X9.here hx rfl (hb hby d4_114) rfl ?_
    refine XS.icmpYes X9.here hx rfl (pc0 := 116) (pc' := 147) rfl (hb hby d4_116) rfl (tlt (by decide : (0 : Int32) < (1 : Int32))).2.2.1 (by decide) (by decide) ?_
    refine XS.lloadN X9.here hx rfl (hb hby d4_147) rfl ?_
    refine XS.aloadN X9.here hx rfl (hb hby d4_148) rfl rfl ?_
    refine st10 _ ?_
    show Steps p.tables e below (T10.setTop (mkF m 152 #[va o0, vl q3, ss, vl q4, ss, vi 0, vi 0, vl ((0 : Int64) + ((q2 - q1) + (1 : Int64))), ss, vi 1, uu, uu, uu] [(.ref o1), (.long q3)])) _
    refine XS.iload X10.here hx rfl (hb hby d4_152) rfl ?_
    refine X10.laload hx (j := (0 : Int32)) (v := (.long q1)) (by rw [e10]; exact Ar5.1) (State.isArrayOf_alike hZ.alike Ar5.2.1) Ar5.2.2 hin5_0 (Has.at Hh5 hin5_0 rfl) (g := (mkF m 154 #[va o0, vl q3, ss, vl q4, ss, vi 0, vi 0, vl ((0 : Int64) + ((q2 - q1) + (1 : Int64))), ss, vi 1, uu, uu, uu] [(.int 0), (.ref o1), (.long q3)])) rfl rfl (hb hby d4_154) _ ?_
    refine st11 _ ?_
    refine XS.lstore X11.here hx rfl (hb hby d4_158) rfl (l' := #[va o0, vl q3, ss, vl q4, ss, vi 0, vi 0, vl ((0 : Int64) + ((q2 - q1) + (1 : Int64))), ss, vl (own_minL q3 q1), ss, uu, uu]) rfl ?_
    refine XS.lloadN X11.here hx rfl (hb hby d4_160) rfl ?_
    refine XS.aloadN X11.here hx rfl (hb hby d4_161) rfl rfl ?_
    refine st12 _ ?_
    refine XS.iload X12.here hx rfl (hb hby d4_165) rfl ?_
    show Steps p.tables e below (T12.setTop (mkF m 167 #[va o0, vl q3, ss, vl q4, ss, vi 0, vi 0, vl ((0 : Int64) + ((q2 - q1) + (1 : Int64))), ss, vl (own_minL q3 q1), ss, uu, uu] [(.int 0), (.ref o2), (.long q4)])) _
    refine X12.laload hx (j := (0 : Int32)) (v := (.long q2)) (by rw [e12]; exact Ar8.1) (State.isArrayOf_alike hZ.alike Ar8.2.1) Ar8.2.2 hin8_0 (Has.at Hh8 hin8_0 rfl) (g := (mkF m 167 #[va o0, vl q3, ss, vl q4, ss, vi 0, vi 0, vl ((0 : Int64) + ((q2 - q1) + (1 : Int64))), ss, vl (own_minL q3 q1), ss, uu, uu] [(.int 0), (.ref o2), (.long q4)])) rfl rfl (hb hby d4_167) _ ?_
    refine st13 _ ?_
    refine XS.lstore X13.here hx rfl (hb hby d4_171) rfl (l' := #[va o0, vl q3, ss, vl q4, ss, vi 0, vi 0, vl ((0 : Int64) + ((q2 - q1) + (1 : Int64))), ss, vl (own_minL q3 q1), ss, vl (own_maxL q4 q2), ss]) rfl ?_
    refine XS.aloadN X13.here hx rfl (hb hby d4_173) rfl rfl ?_
    refine st14 _ ?_
    refine XS.iload X14.here hx rfl (hb hby d4_177) rfl ?_
    refine XS.lload X14.here hx rfl (hb hby d4_179) rfl ?_
    refine st15 _ ?_
    show Steps p.tables e below (T15.setTop (mkF m 182 #[va o0, vl q3, ss, vl q4, ss, vi 0, vi 0, vl ((0 : Int64) + ((q2 - q1) + (1 : Int64))), ss, vl (own_minL q3 q1), ss, vl (own_maxL q4 q2), ss] [])) _
    refine XS.aloadN X15.here hx rfl (hb hby d4_182) rfl rfl ?_
    refine st17 _ ?_
    refine XS.iload X17.here hx rfl (hb hby d4_186) rfl ?_
    refine XS.lload X17.here hx rfl (hb hby d4_188) rfl ?_
    refine st20 _ ?_
    refine XS.aloadN X20.here hx rfl (hb hby d4_191) rfl rfl ?_
    refine XS.iload X20.here hx rfl (hb hby d4_192) rfl ?_
    refine XS.iconst X20.here hx rfl (hb hby d4_194) ?_
    show Steps p.tables e below (T20.setTop (mkF m 195 #[va o0, vl q3, ss, vl q4, ss, vi 0, vi 0, vl ((0 : Int64) + ((q2 - q1) + (1 : Int64))), ss, vl (own_minL q3 q1), ss, vl (own_maxL q4 q2), ss] [(.int 1), (.int 0), (.ref o0)])) _
    refine XS.iadd X20.here hx rfl (hb hby d4_195) rfl ?_
    show Steps p.tables e below (T20.setTop (mkF m 196 #[va o0, vl q3, ss, vl q4, ss, vi 0, vi 0, vl ((0 : Int64) + ((q2 - q1) + (1 : Int64))), ss, vl (own_minL q3 q1), ss, vl (own_maxL q4 q2), ss] [(.int ((0 : Int32) + (1 : Int32))), (.ref o0)])) _
    rw [show (((0 : Int32) + (1 : Int32)) : Int32) = (1 : Int32) from by decide]
    refine XS.iload X20.here hx rfl (hb hby d4_196) rfl ?_
    refine XS.iload X20.here hx rfl (hb hby d4_198) rfl ?_
    refine XS.isub X20.here hx rfl (hb hby d4_200) rfl ?_
    show Steps p.tables e below (T20.setTop (mkF m 201 #[va o0, vl q3, ss, vl q4, ss, vi 0, vi 0, vl ((0 : Int64) + ((q2 - q1) + (1 : Int64))), ss, vl (own_minL q3 q1), ss, vl (own_maxL q4 q2), ss] [(.int ((0 : Int32) - (0 : Int32))), (.int 1), (.ref o0)])) _
    rw [show (((0 : Int32) - (0 : Int32)) : Int32) = (0 : Int32) from by decide]
    refine st28.trans ?_
    refine XS.aloadN X28.here hx rfl (hb hby d4_204) rfl rfl ?_
    refine XS.dup X28.here hx rfl (hb hby d4_205) rfl rfl ?_
    refine st29 _ ?_
    refine XS.lload X29.here hx rfl (hb hby d4_209) rfl ?_
    refine XS.lload X29.here hx rfl (hb hby d4_211) rfl ?_
    refine XS.lsub X29.here hx rfl (hb hby d4_213) rfl ?_
    show Steps p.tables e below (T29.setTop (mkF m 214 #[va o0, vl q3, ss, vl q4, ss, vi 0, vi 0, vl ((0 : Int64) + ((q2 - q1) + (1 : Int64))), ss, vl (own_minL q3 q1), ss, vl (own_maxL q4 q2), ss] [(.long ((own_maxL q4 q2) - (own_minL q3 q1))), (.long q0), (.ref o0)])) _
    refine XS.lconst X29.here hx rfl (hb hby d4_214) ?_
    refine XS.ladd X29.here hx rfl (hb hby d4_215) rfl ?_
    refine XS.lload X29.here hx rfl (hb hby d4_216) rfl ?_
    refine XS.lsub X29.here hx rfl (hb hby d4_218) rfl ?_
    refine XS.ladd X29.here hx rfl (hb hby d4_219) rfl ?_
    refine st30 _ ?_
    refine XS.iconst X30.here hx rfl (hb hby d4_223) ?_
    exact retN X30 hx (t := .boolean) hrt (by simp) (hb hby d4_224) hr
  · show Q4_3 Z w_NONE o0 o1 o2 kk_o1 kk_o2 q3 q4 q0 q1 q2 h0 n0 (some (.int 1)) T30.heap _
    rw [e30]; exact ⟨rfl, N30, K30, fc31, Fw30, fc32, fc33, fc34, fc35, fc36, fc37⟩
theorem d6_34 : decode prog_55_method_19_code 34 = .ok (.iload 5, 2) := by decide +kernel
theorem d6_36 : decode prog_55_method_19_code 36 = .ok (.iconst 1, 1) := by decide +kernel
theorem d6_37 : decode prog_55_method_19_code 37 = .ok (.iadd, 1) := by decide +kernel
theorem d6_38 : decode prog_55_method_19_code 38 = .ok (.istore_n 3, 1) := by decide +kernel
theorem d6_39 : decode prog_55_method_19_code 39 = .ok (.goto 7, 3) := by decide +kernel
def Q6_4 (Z : State) (w_NONE : Addr) (o0 : Addr) (o1 : Addr) (o2 : Addr) (kk_o1 : ClassId) (kk_o2 : ClassId) (q3 : Int64) (q0 : Int64) (q1 : Int64) (q2 : Int64) (h0 : Heap) (n0 : Nat) (v : Option Value) (h : Heap) (L : List Loc) : Prop := v = (some (.int 1)) ∧ Fr n0 L ∧ h = h0
theorem rm6_4 (l : Launch) (Z : State) (a0 : Array Value) (hw : HW Z a0) (ws : List Jvm.Cond) (w_NONE : Addr) (o0 : Addr) (o1 : Addr) (o2 : Addr) (kk_o1 : ClassId) (kk_o2 : ClassId) (q3 : Int64) (q0 : Int64) (q1 : Int64) (q2 : Int64) (h0 : Heap) (n0 : Nat) (O0 : Old Z n0 h0) (S : SF Z w_NONE) (F_lasts_o0 : Fld Z h0 o0 sC0 "lasts" "[J" (.ref o2)) (F_ranges_o0 : Fld Z h0 o0 sC0 "ranges" "I" (.int 1)) (V_o2 : Arv Z h0 o2 kk_o2 .long (4 : Int32) [(.long q2), (.long 0), (.long 0), (.long 0)] (.long 0)) (hc0 : q2 < q3) :
    Pay l Z My6 ws prog_55_method_19_code 6 (some .int) #[(.ref o0), (.long q3)] h0 ({ frames := 0, cells := 0, slots := 0, locals := 0 } : Room) (Q6_4 Z w_NONE o0 o1 o2 kk_o1 kk_o2 q3 q0 q1 q2 h0 n0) := by
  refine own_body (plainFor_of_name pn_1) (L0 := #[va o0, vl q3, ss, uu, uu, uu]) (fun _ => by first | rfl | (simp [entryFrame, mkF, argsToLocals, Value.category]; done)) ?_
  intro p e s m below meth c s₁ hrt hlk hx hby hml hZ hown0 hnm X0 e0
  have hown : s.vm.findClass sC0 = some m.cls := hown0
  have N0 := Fr.nil n0
  have K0 : Keep h0 h0 [] := Keep.refl _ _
  obtain ⟨T1, X1, e1, st1⟩ := getF X0 hx hZ hown (host := "") (Or.inl (ww hw 36 rfl)) Via.refl e0 F_ranges_o0 (g := (mkF m 3 #[va o0, vl q3, ss, vi 0, uu, uu] [(.ref o0)])) rfl rfl (hb hby d6_3)
  obtain ⟨T2, X2, e2, st2⟩ := getF X1 hx hZ hown (host := "") (Or.inl (ww hw 20 rfl)) Via.refl e1 F_lasts_o0 (g := (mkF m 23 #[va o0, vl q3, ss, vi 0, vi 1, vi 0] [(.ref o0)])) rfl rfl (hb hby d6_23)
  obtain ⟨cl3, Ar3, qk3, Sz3, Ng3, Hh3, Gg3⟩ := id V_o2
  have hin3_0 : ¬ ((0 : Int32) < 0 ∨ cl3.slots.size ≤ ((0 : Int32)).toNatClampNeg) := inb_of Sz3 ⟨by decide, by decide⟩
  obtain ⟨fs, hr, hrun, hended, hW, hsame⟩ := X2.leave (v := (some (.int 1))) (fun h => by rw [hrt] at h; cases h)
  refine ⟨_, _, ?_, hrun, hended, _, _, rfl, ?_, ⟨_, rfl⟩, hW, hsame.mono (by decide) (by decide)⟩
  · show Steps p.tables e below (s₁.setTop (mkF m 0 #[va o0, vl q3, ss, uu, uu, uu] [])) _
    refine XS.iconst X0.here hx rfl (hb hby d6_0) ?_
    refine XS.istoreN X0.here hx rfl (hb hby d6_1) rfl (l' := #[va o0, vl q3, ss, vi 0, uu, uu]) rfl ?_
    refine XS.aloadN X0.here hx rfl (hb hby d6_2) rfl rfl ?_
    refine st1 _ ?_
    refine XS.istore X1.here hx rfl (hb hby d6_6) rfl (l' := #[va o0, vl q3, ss, vi 0, vi 1, uu]) rfl ?_
    refine XS.iloadN X1.here hx rfl (hb hby d6_8) rfl ?_
    refine XS.iload X1.here hx rfl (hb hby d6_9) rfl ?_
    refine XS.icmpNo X1.here hx rfl (hb hby d6_11) rfl (tlt (by decide : (0 : Int32) < (1 : Int32))).2.1 ?_
    show Steps p.tables e below (T1.setTop (mkF m 14 #[va o0, vl q3, ss, vi 0, vi 1, uu] [])) _
    refine XS.iloadN X1.here hx rfl (hb hby d6_14) rfl ?_
    refine XS.iload X1.here hx rfl (hb hby d6_15) rfl ?_
    refine XS.iadd X1.here hx rfl (hb hby d6_17) rfl ?_
    show Steps p.tables e below (T1.setTop (mkF m 18 #[va o0, vl q3, ss, vi 0, vi 1, uu] [(.int ((0 : Int32) + (1 : Int32)))])) _
    rw [show (((0 : Int32) + (1 : Int32)) : Int32) = (1 : Int32) from by decide]
    refine XS.iconst X1.here hx rfl (hb hby d6_18) ?_
    refine XS.iushr X1.here hx rfl (hb hby d6_19) rfl ?_
    show Steps p.tables e below (T1.setTop (mkF m 20 #[va o0, vl q3, ss, vi 0, vi 1, uu] [(.int (((1 : Int32).toUInt32 >>> ((1 : Int32) &&& 31).toUInt32).toInt32))])) _
    rw [show ((((1 : Int32).toUInt32 >>> ((1 : Int32) &&& 31).toUInt32).toInt32) : Int32) = (0 : Int32) from by decide]
    refine XS.istore X1.here hx rfl (hb hby d6_20) rfl (l' := #[va o0, vl q3, ss, vi 0, vi 1, vi 0]) rfl ?_
    refine XS.aloadN X1.here hx rfl (hb hby d6_22) rfl rfl ?_
    refine st2 _ ?_
    refine XS.iload X2.here hx rfl (hb hby d6_26) rfl ?_
    refine X2.laload hx (j := (0 : Int32)) (v := (.long q2)) (by rw [e2]; exact Ar3.1) (State.isArrayOf_alike hZ.alike Ar3.2.1) Ar3.2.2 hin3_0 (Has.at Hh3 hin3_0 rfl) (g := (mkF m 28 #[va o0, vl q3, ss, vi 0, vi 1, vi 0] [(.int 0), (.ref o2)])) rfl rfl (hb hby d6_28) _ ?_
    refine XS.lloadN X2.here hx rfl (hb hby d6_29) rfl ?_
    refine XS.lcmp X2.here hx rfl (hb hby d6_30) rfl ?_
    show Steps p.tables e below (T2.setTop (mkF m 31 #[va o0, vl q3, ss, vi 0, vi 1, vi 0] [(.int (lcmpW q2 q3))])) _
    refine XS.ifNo X2.here hx rfl (hb hby d6_31) rfl (own_lc_ltT hc0).2 ?_
    refine XS.iload X2.here hx rfl (hb hby d6_34) rfl ?_
    refine XS.iconst X2.here hx rfl (hb hby d6_36) ?_
    refine XS.iadd X2.here hx rfl (hb hby d6_37) rfl ?_
    show Steps p.tables e below (T2.setTop (mkF m 38 #[va o0, vl q3, ss, vi 0, vi 1, vi 0] [(.int ((0 : Int32) + (1 : Int32)))])) _
    rw [show (((0 : Int32) + (1 : Int32)) : Int32) = (1 : Int32) from by decide]
    refine XS.istoreN X2.here hx rfl (hb hby d6_38) rfl (l' := #[va o0, vl q3, ss, vi 1, vi 1, vi 0]) rfl ?_
    refine XS.goto X2.here hx rfl (pc0 := 39) (pc' := 46) rfl (hb hby d6_39) (by decide) (by decide) ?_
    refine XS.goto X2.here hx rfl (pc0 := 46) (pc' := 8) rfl (hb hby d6_46) (by decide) (by decide) ?_
    refine XS.iloadN X2.here hx rfl (hb hby d6_8) rfl ?_
    refine XS.iload X2.here hx rfl (hb hby d6_9) rfl ?_
    refine XS.icmpYes X2.here hx rfl (pc0 := 11) (pc' := 49) rfl (hb hby d6_11) rfl (flt (by decide : ¬ ((1 : Int32) < (1 : Int32)))).2.1 (by decide) (by decide) ?_
    refine XS.iloadN X2.here hx rfl (hb hby d6_49) rfl ?_
    show Steps p.tables e below (T2.setTop (mkF m 50 #[va o0, vl q3, ss, vi 1, vi 1, vi 0] [(.int 1)])) _
    exact retOut X2 hx (t := .int) (i := .ireturn) hrt rfl (Or.inl ⟨rfl, Or.inl rfl, _, rfl⟩) (hb hby d6_50) hr
  · show Q6_4 Z w_NONE o0 o1 o2 kk_o1 kk_o2 q3 q0 q1 q2 h0 n0 (some (.int 1)) T2.heap _
    exact (⟨rfl, N0, e2⟩)
def Q7_1 (Z : State) (w_NONE : Addr) (o0 : Addr) (o1 : Addr) (o2 : Addr) (kk_o1 : ClassId) (kk_o2 : ClassId) (q3 : Int64) (q4 : Int64) (q0 : Int64) (q1 : Int64) (q2 : Int64) (h0 : Heap) (n0 : Nat) (v : Option Value) (h : Heap) (L : List Loc) : Prop := v = none ∧ Fr n0 L ∧ Keep h0 h [o1, o2, o0] ∧ Exa Z h o0 sC0 ∧ Fld Z h o0 sC0 "count" "J" (.long q0) ∧ Fld Z h o0 sC0 "firsts" "[J" (.ref o1) ∧ Fld Z h o0 sC0 "lasts" "[J" (.ref o2) ∧ Fld Z h o0 sC0 "maxRanges" "I" (.int 2147483647) ∧ Fld Z h o0 sC0 "ranges" "I" (.int 2) ∧ Arv Z h o1 kk_o1 .long (4 : Int32) [(.long q1), (.long q3), (.long 0), (.long 0)] (.long 0) ∧ Arv Z h o2 kk_o2 .long (4 : Int32) [(.long q2), (.long q4), (.long 0), (.long 0)] (.long 0)
theorem rm7_1 (l : Launch) (Z : State) (a0 : Array Value) (hw : HW Z a0) (ws : List Jvm.Cond) (w_NONE : Addr) (o0 : Addr) (o1 : Addr) (o2 : Addr) (kk_o1 : ClassId) (kk_o2 : ClassId) (q3 : Int64) (q4 : Int64) (q0 : Int64) (q1 : Int64) (q2 : Int64) (h0 : Heap) (n0 : Nat) (O0 : Old Z n0 h0) (S : SF Z w_NONE) (E_o0 : Exa Z h0 o0 sC0) (F_count_o0 : Fld Z h0 o0 sC0 "count" "J" (.long q0)) (F_firsts_o0 : Fld Z h0 o0 sC0 "firsts" "[J" (.ref o1)) (F_lasts_o0 : Fld Z h0 o0 sC0 "lasts" "[J" (.ref o2)) (F_maxRanges_o0 : Fld Z h0 o0 sC0 "maxRanges" "I" (.int 2147483647)) (F_ranges_o0 : Fld Z h0 o0 sC0 "ranges" "I" (.int 1)) (V_o1 : Arv Z h0 o1 kk_o1 .long (4 : Int32) [(.long q1), (.long 0), (.long 0), (.long 0)] (.long 0)) (V_o2 : Arv Z h0 o2 kk_o2 .long (4 : Int32) [(.long q2), (.long 0), (.long 0), (.long 0)] (.long 0)) (ne_o0_o1 : o0 ≠ o1) (ne_o0_o2 : o0 ≠ o2) (ne_o1_o2 : o1 ≠ o2) (g_o0 : n0 ≤ o0) (g_o1 : n0 ≤ o1) (g_o2 : n0 ≤ o2) :
    Pay l Z My7 ws prog_55_method_21_code 7 none #[(.ref o0), (.int 1), (.long q3), (.long q4)] h0 ({ frames := 1, cells := 0, slots := 0, locals := 18 } : Room) (Q7_1 Z w_NONE o0 o1 o2 kk_o1 kk_o2 q3 q4 q0 q1 q2 h0 n0) := by
  refine own_body (plainFor_of_name pn_1) (L0 := #[va o0, vi 1, vl q3, ss, vl q4, ss, uu]) (fun _ => by first | rfl | (simp [entryFrame, mkF, argsToLocals, Value.category]; done)) ?_
  intro p e s m below meth c s₁ hrt hlk hx hby hml hZ hown0 hnm X0 e0
  have hown : s.vm.findClass sC0 = some m.cls := hown0
  have N0 := Fr.nil n0
  have K0 : Keep h0 h0 [o1, o2, o0] := Keep.refl _ _
  obtain ⟨T1, X1, e1, st1⟩ := getF X0 hx hZ hown (host := "") (Or.inl (ww hw 36 rfl)) Via.refl e0 F_ranges_o0 (g := (mkF m 1 #[va o0, vi 1, vl q3, ss, vl q4, ss, uu] [(.ref o0)])) rfl rfl (hb hby d7_1)
  obtain ⟨T2, X2, e2, st2⟩ := getF X1 hx hZ hown (host := "") (Or.inl (ww hw 18 rfl)) Via.refl e1 F_firsts_o0 (g := (mkF m 5 #[va o0, vi 1, vl q3, ss, vl q4, ss, uu] [(.ref o0), (.int 1)])) rfl rfl (hb hby d7_5)
  obtain ⟨cl3, Ar3, qk3, Sz3, Ng3, Hh3, Gg3⟩ := id V_o1
  obtain ⟨T4, X4, e4, st4⟩ := getF X2 hx hZ hown (host := "") (Or.inl (ww hw 18 rfl)) Via.refl e2 F_firsts_o0 (g := (mkF m 51 #[va o0, vi 1, vl q3, ss, vl q4, ss, uu] [(.ref o0)])) rfl rfl (hb hby d7_51)
  obtain ⟨T5, X5, e5, st5⟩ := getF X4 hx hZ hown (host := "") (Or.inl (ww hw 18 rfl)) Via.refl e4 F_firsts_o0 (g := (mkF m 56 #[va o0, vi 1, vl q3, ss, vl q4, ss, uu] [(.ref o0), (.int 1), (.ref o1)])) rfl rfl (hb hby d7_56)
  obtain ⟨T6, X6, e6, st6⟩ := getF X5 hx hZ hown (host := "") (Or.inl (ww hw 36 rfl)) Via.refl e5 F_ranges_o0 (g := (mkF m 63 #[va o0, vi 1, vl q3, ss, vl q4, ss, uu] [(.ref o0), (.int 2), (.ref o1), (.int 1), (.ref o1)])) rfl rfl (hb hby d7_63)
  obtain ⟨T7, h7, L7, X7, e7, N7, Kc7, Vc7, st7⟩ := cpA X6 hx hZ hown (ww hw 58 rfl) (ww hw 57 rfl) (ww hw 55 rfl) (ww hw 56 rfl) e6 V_o1 V_o1 (us := []) (Or.inl ⟨rfl, rfl⟩) (sp := (1 : Int32)) (dp := (2 : Int32)) (nn := (0 : Int32)) (by decide) (by decide) (by decide) (by decide) (by decide) rfl (Nat.le_of_ble_eq_true rfl) N0 g_o1 (g := (mkF m 68 #[va o0, vi 1, vl q3, ss, vl q4, ss, uu] [(.int 0), (.int 2), (.ref o1), (.int 1), (.ref o1)])) rfl (by rw [hml]; rfl) (rest := []) rfl (hb hby d7_68) (by decide) (W := 0) (by show 2 * 0 + _ ≤ _; exact Nat.le_of_eq rfl) (by decide)
  have V7 : Arv Z h7 o1 kk_o1 .long (4 : Int32) [(.long q1), (.long 0), (.long 0), (.long 0)] (.long 0) := Vc7
  have O7 := O0.keep Kc7 (allS g_o1 all0)
  have K7 : Keep h0 h7 [o1, o2, o0] := K0.trans Kc7 (allS (Or.inl (List.mem_of_getElem? (i := 0) rfl)) all0)
  have fc8 := (F_lasts_o0.keep Kc7 (ninS ne_o0_o1 nin0))
  obtain ⟨T9, X9, e9, st9⟩ := getF X7 hx hZ hown (host := "") (Or.inl (ww hw 20 rfl)) Via.refl e7 fc8 (g := (mkF m 72 #[va o0, vi 1, vl q3, ss, vl q4, ss, uu] [(.ref o0)])) rfl rfl (hb hby d7_72)
  obtain ⟨T10, X10, e10, st10⟩ := getF X9 hx hZ hown (host := "") (Or.inl (ww hw 20 rfl)) Via.refl e9 fc8 (g := (mkF m 77 #[va o0, vi 1, vl q3, ss, vl q4, ss, uu] [(.ref o0), (.int 1), (.ref o2)])) rfl rfl (hb hby d7_77)
  have fc11 := (F_ranges_o0.keep Kc7 (ninS ne_o0_o1 nin0))
  obtain ⟨T12, X12, e12, st12⟩ := getF X10 hx hZ hown (host := "") (Or.inl (ww hw 36 rfl)) Via.refl e10 fc11 (g := (mkF m 84 #[va o0, vi 1, vl q3, ss, vl q4, ss, uu] [(.ref o0), (.int 2), (.ref o2), (.int 1), (.ref o2)])) rfl rfl (hb hby d7_84)
  have fc13 := (V_o2.keep Kc7 (ninS (Ne.symm ne_o1_o2) nin0))
  obtain ⟨T14, h14, L14, X14, e14, N14, Kc14, Vc14, st14⟩ := cpA X12 hx hZ hown (ww hw 58 rfl) (ww hw 57 rfl) (ww hw 55 rfl) (ww hw 56 rfl) e12 fc13 fc13 (us := []) (Or.inl ⟨rfl, rfl⟩) (sp := (1 : Int32)) (dp := (2 : Int32)) (nn := (0 : Int32)) (by decide) (by decide) (by decide) (by decide) (by decide) rfl (Nat.le_of_ble_eq_true rfl) N7 g_o2 (g := (mkF m 89 #[va o0, vi 1, vl q3, ss, vl q4, ss, uu] [(.int 0), (.int 2), (.ref o2), (.int 1), (.ref o2)])) rfl (by rw [hml]; rfl) (rest := []) rfl (hb hby d7_89) (by decide) (W := 0) (by show 2 * 0 + _ ≤ _; exact Nat.le_of_eq rfl) (by decide)
  have V14 : Arv Z h14 o2 kk_o2 .long (4 : Int32) [(.long q2), (.long 0), (.long 0), (.long 0)] (.long 0) := Vc14
  have O14 := O7.keep Kc14 (allS g_o2 all0)
  have K14 : Keep h0 h14 [o1, o2, o0] := K7.trans Kc14 (allS (Or.inl (List.mem_of_getElem? (i := 1) rfl)) all0)
  have fc15 := ((F_firsts_o0.keep Kc7 (ninS ne_o0_o1 nin0)).keep Kc14 (ninS ne_o0_o2 nin0))
  obtain ⟨T16, X16, e16, st16⟩ := getF X14 hx hZ hown (host := "") (Or.inl (ww hw 18 rfl)) Via.refl e14 fc15 (g := (mkF m 93 #[va o0, vi 1, vl q3, ss, vl q4, ss, uu] [(.ref o0)])) rfl rfl (hb hby d7_93)
  have fc17 := (V7.keep Kc14 (ninS ne_o1_o2 nin0))
  obtain ⟨cl18, Ar18, qk18, Sz18, Ng18, Hh18, Gg18⟩ := id fc17
  have hin18_1 : ¬ ((1 : Int32) < 0 ∨ cl18.slots.size ≤ ((1 : Int32)).toNatClampNeg) := inb_of Sz18 ⟨by decide, by decide⟩
  obtain ⟨T19, h19, X19, e19, W19, st19⟩ := stJ X16 hx hZ e16 Ar18 (j := (1 : Int32)) hin18_1 (g := (mkF m 98 #[va o0, vi 1, vl q3, ss, vl q4, ss, uu] [(.long q3), (.int 1), (.ref o1)])) rfl rfl (hb hby d7_98)
  have V19 : Arv Z h19 o1 kk_o1 .long (4 : Int32) [(.long q1), (.long q3), (.long 0), (.long 0)] (.long 0) := Arv.set Ar18 qk18 Sz18 Ng18 Hh18 Gg18 rfl W19 1 rfl (Nat.le_of_ble_eq_true rfl)
  have O19 := O14.wr W19 g_o1
  have K19 : Keep h0 h19 [o1, o2, o0] := K14.wr W19 (Or.inl (List.mem_of_getElem? (i := 0) rfl))
  have N19 := Fr.snoc X19 N14 g_o1
  have fc20 := ((fc8.keep Kc14 (ninS ne_o0_o2 nin0)).other W19 (Or.inl ne_o0_o1))
  obtain ⟨T21, X21, e21, st21⟩ := getF X19 hx hZ hown (host := "") (Or.inl (ww hw 20 rfl)) Via.refl e19 fc20 (g := (mkF m 100 #[va o0, vi 1, vl q3, ss, vl q4, ss, uu] [(.ref o0)])) rfl rfl (hb hby d7_100)
  have fc22 := (V14.other W19 (Ne.symm ne_o1_o2))
  obtain ⟨cl23, Ar23, qk23, Sz23, Ng23, Hh23, Gg23⟩ := id fc22
  have hin23_1 : ¬ ((1 : Int32) < 0 ∨ cl23.slots.size ≤ ((1 : Int32)).toNatClampNeg) := inb_of Sz23 ⟨by decide, by decide⟩
  obtain ⟨T24, h24, X24, e24, W24, st24⟩ := stJ X21 hx hZ e21 Ar23 (j := (1 : Int32)) hin23_1 (g := (mkF m 106 #[va o0, vi 1, vl q3, ss, vl q4, ss, uu] [(.long q4), (.int 1), (.ref o2)])) rfl rfl (hb hby d7_106)
  have V24 : Arv Z h24 o2 kk_o2 .long (4 : Int32) [(.long q2), (.long q4), (.long 0), (.long 0)] (.long 0) := Arv.set Ar23 qk23 Sz23 Ng23 Hh23 Gg23 rfl W24 1 rfl (Nat.le_of_ble_eq_true rfl)
  have O24 := O19.wr W24 g_o2
  have K24 : Keep h0 h24 [o1, o2, o0] := K19.wr W24 (Or.inl (List.mem_of_getElem? (i := 1) rfl))
  have N24 := Fr.snoc X24 N19 g_o2
  have fc25 := (((fc11.keep Kc14 (ninS ne_o0_o2 nin0)).other W19 (Or.inl ne_o0_o1)).other W24 (Or.inl ne_o0_o2))
  obtain ⟨T26, X26, e26, st26⟩ := getF X24 hx hZ hown (host := "") (Or.inl (ww hw 36 rfl)) Via.refl e24 fc25 (g := (mkF m 109 #[va o0, vi 1, vl q3, ss, vl q4, ss, uu] [(.ref o0), (.ref o0)])) rfl rfl (hb hby d7_109)
  have fc27 := ((((E_o0.keep Kc7).keep Kc14).wr W19).wr W24)
  obtain ⟨T28, h28, X28, e28, W28, st28⟩ := putF X26 hx hZ hown (host := "") (Or.inl (ww hw 36 rfl)) Via.refl e26 fc25 fc27 (Or.inl (ww hw 37 rfl)) (ww hw 4 rfl) (ty := .int) (by decide) rfl rfl (g := (mkF m 114 #[va o0, vi 1, vl q3, ss, vl q4, ss, uu] [(.int 2), (.ref o0)])) rfl rfl (hb hby d7_114)
  have Fw28 := fc25.same W28
  have O28 := O24.wr W28 g_o0
  have K28 : Keep h0 h28 [o1, o2, o0] := K24.wr W28 (Or.inl (List.mem_of_getElem? (i := 2) rfl))
  have N28 := Fr.snoc X28 N24 g_o0
  obtain ⟨fs, hr, hrun, hended, hW, hsame⟩ := X28.leave (v := none) (fun _ => rfl)
  have fc29 := (fc27.wr W28)
  have fc30 := (((((F_count_o0.keep Kc7 (ninS ne_o0_o1 nin0)).keep Kc14 (ninS ne_o0_o2 nin0)).other W19 (Or.inl ne_o0_o1)).other W24 (Or.inl ne_o0_o2)).other W28 (Or.inr (slot_ne (Or.inl (ww hw 60 rfl)) (Or.inl (ww hw 37 rfl)) (by decide) (t := .long) (t' := .int) (by decide) (by decide))))
  have fc31 := (((fc15.other W19 (Or.inl ne_o0_o1)).other W24 (Or.inl ne_o0_o2)).other W28 (Or.inr (slot_ne (Or.inl (ww hw 19 rfl)) (Or.inl (ww hw 37 rfl)) (by decide) (t := (.array .long)) (t' := .int) (by decide) (by decide))))
  have fc32 := ((fc20.other W24 (Or.inl ne_o0_o2)).other W28 (Or.inr (slot_ne (Or.inl (ww hw 21 rfl)) (Or.inl (ww hw 37 rfl)) (by decide) (t := (.array .long)) (t' := .int) (by decide) (by decide))))
  have fc33 := (((((F_maxRanges_o0.keep Kc7 (ninS ne_o0_o1 nin0)).keep Kc14 (ninS ne_o0_o2 nin0)).other W19 (Or.inl ne_o0_o1)).other W24 (Or.inl ne_o0_o2)).other W28 (Or.inr (slot_ne (Or.inr (ww hw 23 rfl)) (Or.inl (ww hw 37 rfl)) (by decide) (t := .int) (t' := .int) (by decide) (by decide))))
  have fc34 := ((V19.other W24 ne_o1_o2).other W28 (Ne.symm ne_o0_o1))
  have fc35 := (V24.other W28 (Ne.symm ne_o0_o2))
  refine ⟨_, _, ?_, hrun, hended, _, _, rfl, ?_, ⟨_, rfl⟩, hW, hsame.mono (by decide) (by decide)⟩
  · show Steps p.tables e below (s₁.setTop (mkF m 0 #[va o0, vi 1, vl q3, ss, vl q4, ss, uu] [])) _
    refine XS.aloadN X0.here hx rfl (hb hby d7_0) rfl rfl ?_
    refine st1 _ ?_
    refine XS.aloadN X1.here hx rfl (hb hby d7_4) rfl rfl ?_
    refine st2 _ ?_
    refine X2.arraylength hx (by rw [e2]; exact Ar3.1) (State.isArrayOf_alike hZ.alike Ar3.2.1) (g := (mkF m 8 #[va o0, vi 1, vl q3, ss, vl q4, ss, uu] [(.ref o1), (.int 1)])) rfl rfl (hb hby d7_8) _ ?_
    rw [len_of Sz3 Ng3]
    refine XS.icmpYes X2.here hx rfl (pc0 := 9) (pc' := 50) rfl (hb hby d7_9) rfl (feq (by decide : ¬ ((1 : Int32) = (4 : Int32)))).2 (by decide) (by decide) ?_
    refine XS.aloadN X2.here hx rfl (hb hby d7_50) rfl rfl ?_
    refine st4 _ ?_
    show Steps p.tables e below (T4.setTop (mkF m 54 #[va o0, vi 1, vl q3, ss, vl q4, ss, uu] [(.ref o1)])) _
    refine XS.iloadN X4.here hx rfl (hb hby d7_54) rfl ?_
    refine XS.aloadN X4.here hx rfl (hb hby d7_55) rfl rfl ?_
    refine st5 _ ?_
    refine XS.iloadN X5.here hx rfl (hb hby d7_59) rfl ?_
    refine XS.iconst X5.here hx rfl (hb hby d7_60) ?_
    refine XS.iadd X5.here hx rfl (hb hby d7_61) rfl ?_
    show Steps p.tables e below (T5.setTop (mkF m 62 #[va o0, vi 1, vl q3, ss, vl q4, ss, uu] [(.int ((1 : Int32) + (1 : Int32))), (.ref o1), (.int 1), (.ref o1)])) _
    rw [show (((1 : Int32) + (1 : Int32)) : Int32) = (2 : Int32) from by decide]
    refine XS.aloadN X5.here hx rfl (hb hby d7_62) rfl rfl ?_
    refine st6 _ ?_
    refine XS.iloadN X6.here hx rfl (hb hby d7_66) rfl ?_
    refine XS.isub X6.here hx rfl (hb hby d7_67) rfl ?_
    show Steps p.tables e below (T6.setTop (mkF m 68 #[va o0, vi 1, vl q3, ss, vl q4, ss, uu] [(.int ((1 : Int32) - (1 : Int32))), (.int 2), (.ref o1), (.int 1), (.ref o1)])) _
    rw [show (((1 : Int32) - (1 : Int32)) : Int32) = (0 : Int32) from by decide]
    refine st7 _ ?_
    refine XS.aloadN X7.here hx rfl (hb hby d7_71) rfl rfl ?_
    refine st9 _ ?_
    refine XS.iloadN X9.here hx rfl (hb hby d7_75) rfl ?_
    refine XS.aloadN X9.here hx rfl (hb hby d7_76) rfl rfl ?_
    refine st10 _ ?_
    refine XS.iloadN X10.here hx rfl (hb hby d7_80) rfl ?_
    show Steps p.tables e below (T10.setTop (mkF m 81 #[va o0, vi 1, vl q3, ss, vl q4, ss, uu] [(.int 1), (.ref o2), (.int 1), (.ref o2)])) _
    refine XS.iconst X10.here hx rfl (hb hby d7_81) ?_
    refine XS.iadd X10.here hx rfl (hb hby d7_82) rfl ?_
    show Steps p.tables e below (T10.setTop (mkF m 83 #[va o0, vi 1, vl q3, ss, vl q4, ss, uu] [(.int ((1 : Int32) + (1 : Int32))), (.ref o2), (.int 1), (.ref o2)])) _
    rw [show (((1 : Int32) + (1 : Int32)) : Int32) = (2 : Int32) from by decide]
    refine XS.aloadN X10.here hx rfl (hb hby d7_83) rfl rfl ?_
    refine st12 _ ?_
    refine XS.iloadN X12.here hx rfl (hb hby d7_87) rfl ?_
    refine XS.isub X12.here hx rfl (hb hby d7_88) rfl ?_
    show Steps p.tables e below (T12.setTop (mkF m 89 #[va o0, vi 1, vl q3, ss, vl q4, ss, uu] [(.int ((1 : Int32) - (1 : Int32))), (.int 2), (.ref o2), (.int 1), (.ref o2)])) _
    rw [show (((1 : Int32) - (1 : Int32)) : Int32) = (0 : Int32) from by decide]
    refine st14 _ ?_
    refine XS.aloadN X14.here hx rfl (hb hby d7_92) rfl rfl ?_
    refine st16 _ ?_
    refine XS.iloadN X16.here hx rfl (hb hby d7_96) rfl ?_
    refine XS.lloadN X16.here hx rfl (hb hby d7_97) rfl ?_
    refine st19 _ ?_
    refine XS.aloadN X19.here hx rfl (hb hby d7_99) rfl rfl ?_
    show Steps p.tables e below (T19.setTop (mkF m 100 #[va o0, vi 1, vl q3, ss, vl q4, ss, uu] [(.ref o0)])) _
    refine st21 _ ?_
    refine XS.iloadN X21.here hx rfl (hb hby d7_103) rfl ?_
    refine XS.lload X21.here hx rfl (hb hby d7_104) rfl ?_
    refine st24 _ ?_
    refine XS.aloadN X24.here hx rfl (hb hby d7_107) rfl rfl ?_
    refine XS.dup X24.here hx rfl (hb hby d7_108) rfl rfl ?_
    refine st26 _ ?_
    refine XS.iconst X26.here hx rfl (hb hby d7_112) ?_
    show Steps p.tables e below (T26.setTop (mkF m 113 #[va o0, vi 1, vl q3, ss, vl q4, ss, uu] [(.int 1), (.int 1), (.ref o0)])) _
    refine XS.iadd X26.here hx rfl (hb hby d7_113) rfl ?_
    show Steps p.tables e below (T26.setTop (mkF m 114 #[va o0, vi 1, vl q3, ss, vl q4, ss, uu] [(.int ((1 : Int32) + (1 : Int32))), (.ref o0)])) _
    rw [show (((1 : Int32) + (1 : Int32)) : Int32) = (2 : Int32) from by decide]
    refine st28 _ ?_
    exact X28.returnOut hx hrt (hb hby d7_117) hr
  · show Q7_1 Z w_NONE o0 o1 o2 kk_o1 kk_o2 q3 q4 q0 q1 q2 h0 n0 none T28.heap _
    rw [e28]; exact ⟨rfl, N28, K28, fc29, fc30, fc31, fc32, fc33, Fw28, fc34, fc35⟩
def Q4_4 (Z : State) (w_NONE : Addr) (o0 : Addr) (o1 : Addr) (o2 : Addr) (kk_o1 : ClassId) (kk_o2 : ClassId) (q3 : Int64) (q4 : Int64) (q0 : Int64) (q1 : Int64) (q2 : Int64) (h0 : Heap) (n0 : Nat) (v : Option Value) (h : Heap) (L : List Loc) : Prop := v = (some (.int 1)) ∧ Fr n0 L ∧ Keep h0 h [o0, o2, o1] ∧ Exa Z h o0 sC0 ∧ Fld Z h o0 sC0 "count" "J" (.long (q0 + ((q4 - q3) + (1 : Int64)))) ∧ Fld Z h o0 sC0 "firsts" "[J" (.ref o1) ∧ Fld Z h o0 sC0 "lasts" "[J" (.ref o2) ∧ Fld Z h o0 sC0 "maxRanges" "I" (.int 2147483647) ∧ Fld Z h o0 sC0 "ranges" "I" (.int 2) ∧ Arv Z h o1 kk_o1 .long (4 : Int32) [(.long q1), (.long q3), (.long 0), (.long 0)] (.long 0) ∧ Arv Z h o2 kk_o2 .long (4 : Int32) [(.long q2), (.long q4), (.long 0), (.long 0)] (.long 0)
theorem rm4_4 (l : Launch) (Z : State) (a0 : Array Value) (hw : HW Z a0) (ws : List Jvm.Cond) (w_NONE : Addr) (o0 : Addr) (o1 : Addr) (o2 : Addr) (kk_o1 : ClassId) (kk_o2 : ClassId) (q3 : Int64) (q4 : Int64) (q0 : Int64) (q1 : Int64) (q2 : Int64) (h0 : Heap) (n0 : Nat) (O0 : Old Z n0 h0) (S : SF Z w_NONE) (E_o0 : Exa Z h0 o0 sC0) (F_count_o0 : Fld Z h0 o0 sC0 "count" "J" (.long q0)) (F_firsts_o0 : Fld Z h0 o0 sC0 "firsts" "[J" (.ref o1)) (F_lasts_o0 : Fld Z h0 o0 sC0 "lasts" "[J" (.ref o2)) (F_maxRanges_o0 : Fld Z h0 o0 sC0 "maxRanges" "I" (.int 2147483647)) (F_ranges_o0 : Fld Z h0 o0 sC0 "ranges" "I" (.int 1)) (V_o1 : Arv Z h0 o1 kk_o1 .long (4 : Int32) [(.long q1), (.long 0), (.long 0), (.long 0)] (.long 0)) (V_o2 : Arv Z h0 o2 kk_o2 .long (4 : Int32) [(.long q2), (.long 0), (.long 0), (.long 0)] (.long 0)) (ne_o0_o1 : o0 ≠ o1) (ne_o0_o2 : o0 ≠ o2) (ne_o1_o2 : o1 ≠ o2) (g_o0 : n0 ≤ o0) (g_o1 : n0 ≤ o1) (g_o2 : n0 ≤ o2) (hc0 : ¬ (q3 < (0 : Int64))) (hc1 : ¬ (q4 < q3)) (hc2 : ¬ (q3 = (0 : Int64))) (hc3 : q2 < (q3 - (1 : Int64))) :
    Pay l Z My4 ws prog_55_method_8_code 13 (some .boolean) #[(.ref o0), (.long q3), (.long q4)] h0 ({ frames := 2, cells := 0, slots := 0, locals := 36 } : Room) (Q4_4 Z w_NONE o0 o1 o2 kk_o1 kk_o2 q3 q4 q0 q1 q2 h0 n0) := by
  refine own_body (plainFor_of_name pn_1) (L0 := #[va o0, vl q3, ss, vl q4, ss, uu, uu, uu, uu, uu, uu, uu, uu]) (fun _ => by first | rfl | (simp [entryFrame, mkF, argsToLocals, Value.category]; done)) ?_
  intro p e s m below meth c s₁ hrt hlk hx hby hml hZ hown0 hnm X0 e0
  have hown : s.vm.findClass sC0 = some m.cls := hown0
  have N0 := Fr.nil n0
  have K0 : Keep h0 h0 [o0, o2, o1] := Keep.refl _ _
  obtain ⟨_, _, ⟨T1, L1, k1, n1⟩, -, X1, ⟨Lc1, hQ1, l1, y1, z1⟩, st1⟩ := Jvm.LawKit.callS X0 hx (y := My5) hown (mvT hZ (ww hw 29 rfl)) (mvT hZ (ww hw 30 rfl)) (mvT hZ (ww hw 5 rfl)) (mvT hZ (ww hw 31 rfl)) (by decide) (backOf (W := 0) (rm5_0 l Z a0 hw [] w_NONE q3 q4 h0 n0 O0 S hc0 hc1) hZ (ww hw 31 rfl) (ww hw 5 rfl) (by decide) (by decide)) (g := (mkF m 2 #[va o0, vl q3, ss, vl q4, ss, uu, uu, uu, uu, uu, uu, uu, uu] [(.long q4), (.long q3)])) rfl (by rw [hml]; rfl) (argsL := [(.long q3), (.long q4)]) (rest := []) (lenOf pd_6 rfl) rfl (by show 2 * 0 + _ ≤ _; exact Nat.le_of_eq rfl) (hb hby d4_2) (fun _ _ => ⟨rfl, e0, (by decide : 0 + 0 ≤ _), (by decide : 0 + 0 ≤ _)⟩)
  dsimp only [Pt.U, Pt.locs, Pt.cells, Pt.slots] at X1 l1 y1 z1 st1 hQ1
  subst l1 y1 z1
  obtain ⟨rfl, Nq1, e1⟩ := hQ1
  have N1 := Fr.app N0 Nq1
  obtain ⟨cq2, qa2, qb2⟩ := E_o0.cell
  obtain ⟨_, _, ⟨T2, L2, k2, n2⟩, -, X2, ⟨Lc2, hQ2, l2, y2, z2⟩, st2⟩ := X1.privateBack hx (y := My6) hown (mvT hZ (ww hw 32 rfl)) (mvT hZ (ww hw 33 rfl)) (own_selp (by decide) (mvT hZ (ww hw 4 rfl)) (mvP hZ (ww hw 34 rfl)) (mvT hZ (ww hw 33 rfl))) (Cond.privateMethod_at (mvP hZ (ww hw 34 rfl) (args := #[]))) (mvT hZ (ww hw 35 rfl)) (by decide) (backOf (W := 0) (rm6_4 l Z a0 hw [] w_NONE o0 o1 o2 kk_o1 kk_o2 (q3 - (1 : Int64)) q0 q1 q2 h0 n0 O0 S F_lasts_o0 F_ranges_o0 V_o2 hc3) hZ (ww hw 35 rfl) (ww hw 5 rfl) (by decide) (by decide)) (g := (mkF m 19 #[va o0, vl q3, ss, vl q4, ss, uu, uu, uu, uu, uu, uu, uu, uu] [(.long (q3 - (1 : Int64))), (.ref o0)])) rfl (by rw [hml]; rfl) (Steps.refl _) (a := o0) (by rw [e1]; exact qa2) qb2 (argsL := [(.long (q3 - (1 : Int64)))]) (rest := []) (lenOf pd_4 rfl) rfl (by show 2 * 0 + _ ≤ _; exact Nat.le_of_eq rfl) (hb hby d4_19) (fun _ _ => ⟨rfl, e1, (by decide : 0 + 0 ≤ _), (by decide : 0 + 0 ≤ _)⟩)
  dsimp only [Pt.U, Pt.locs, Pt.cells, Pt.slots] at X2 l2 y2 z2 st2 hQ2
  subst l2 y2 z2
  obtain ⟨rfl, Nq2, e2⟩ := hQ2
  have N2 := Fr.app N1 Nq2
  obtain ⟨T3, X3, e3, st3⟩ := getF X2 hx hZ hown (host := "") (Or.inl (ww hw 36 rfl)) Via.refl e2 F_ranges_o0 (g := (mkF m 31 #[va o0, vl q3, ss, vl q4, ss, vi 1, vi 1, uu, uu, uu, uu, uu, uu] [(.ref o0), (.int 1)])) rfl rfl (hb hby d4_31)
  obtain ⟨T4, X4, e4, st4⟩ := getF X3 hx hZ hown (host := "") (Or.inl (ww hw 36 rfl)) Via.refl e3 F_ranges_o0 (g := (mkF m 68 #[va o0, vl q3, ss, vl q4, ss, vi 1, vi 0, uu, uu, uu, uu, uu, uu] [(.ref o0)])) rfl rfl (hb hby d4_68)
  obtain ⟨T5, X5, e5, st5⟩ := getF X4 hx hZ hown (host := "") (Or.inl (ww hw 22 rfl)) Via.refl e4 F_maxRanges_o0 (g := (mkF m 72 #[va o0, vl q3, ss, vl q4, ss, vi 1, vi 0, uu, uu, uu, uu, uu, uu] [(.ref o0), (.int 1)])) rfl rfl (hb hby d4_72)
  obtain ⟨cq6, qa6, qb6⟩ := E_o0.cell
  obtain ⟨_, _, ⟨T6, L6, k6, n6⟩, -, X6, ⟨Lc6, hQ6, l6, y6, z6⟩, st6⟩ := X5.privateBack hx (y := My7) hown (mvT hZ (ww hw 38 rfl)) (mvT hZ (ww hw 39 rfl)) (own_selp (by decide) (mvT hZ (ww hw 4 rfl)) (mvP hZ (ww hw 40 rfl)) (mvT hZ (ww hw 39 rfl))) (Cond.privateMethod_at (mvP hZ (ww hw 40 rfl) (args := #[]))) (mvT hZ (ww hw 41 rfl)) (by decide) (backOf (W := 0) (rm7_1 l Z a0 hw [] w_NONE o0 o1 o2 kk_o1 kk_o2 q3 q4 q0 q1 q2 h0 n0 O0 S E_o0 F_count_o0 F_firsts_o0 F_lasts_o0 F_maxRanges_o0 F_ranges_o0 V_o1 V_o2 ne_o0_o1 ne_o0_o2 ne_o1_o2 g_o0 g_o1 g_o2) hZ (ww hw 41 rfl) (ww hw 5 rfl) (by decide) (by decide)) (g := (mkF m 85 #[va o0, vl q3, ss, vl q4, ss, vi 1, vi 0, uu, uu, uu, uu, uu, uu] [(.long q4), (.long q3), (.int 1), (.ref o0)])) rfl (by rw [hml]; rfl) (Steps.refl _) (a := o0) (by rw [e5]; exact qa6) qb6 (argsL := [(.int 1), (.long q3), (.long q4)]) (rest := []) (lenOf pd_9 rfl) rfl (by show 2 * 0 + _ ≤ _; exact Nat.le_of_eq rfl) (hb hby d4_85) (fun _ _ => ⟨rfl, e5, (by decide : 0 + 0 ≤ _), (by decide : 0 + 0 ≤ _)⟩)
  dsimp only [Pt.U, Pt.locs, Pt.cells, Pt.slots] at X6 l6 y6 z6 st6 hQ6
  subst l6 y6 z6
  obtain ⟨rfl, Nq6, Kc6, P0_6, P1_6, P2_6, P3_6, P4_6, P5_6, P6_6, P7_6⟩ := hQ6
  have N6 := Fr.app N2 Nq6
  have O6 := O0.keep Kc6 (allS g_o1 (allS g_o2 (allS g_o0 all0)))
  have K6 : Keep h0 T6.heap [o0, o2, o1] := K0.trans Kc6 (allS (Or.inl (List.mem_of_getElem? (i := 2) rfl)) (allS (Or.inl (List.mem_of_getElem? (i := 1) rfl)) (allS (Or.inl (List.mem_of_getElem? (i := 0) rfl)) all0)))
  obtain ⟨T7, X7, e7, st7⟩ := getF X6 hx hZ hown (host := "") (Or.inl (ww hw 59 rfl)) Via.refl rfl P1_6 (g := (mkF m 90 #[va o0, vl q3, ss, vl q4, ss, vi 1, vi 0, uu, uu, uu, uu, uu, uu] [(.ref o0), (.ref o0)])) rfl rfl (hb hby d4_90)
  obtain ⟨T8, h8, X8, e8, W8, st8⟩ := putF X7 hx hZ hown (host := "") (Or.inl (ww hw 59 rfl)) Via.refl e7 P1_6 P0_6 (Or.inl (ww hw 60 rfl)) (ww hw 4 rfl) (ty := .long) (by decide) rfl rfl (g := (mkF m 99 #[va o0, vl q3, ss, vl q4, ss, vi 1, vi 0, uu, uu, uu, uu, uu, uu] [(.long (q0 + ((q4 - q3) + (1 : Int64)))), (.ref o0)])) rfl rfl (hb hby d4_99)
  have Fw8 := P1_6.same W8
  have O8 := O6.wr W8 g_o0
  have K8 : Keep h0 h8 [o0, o2, o1] := K6.wr W8 (Or.inl (List.mem_of_getElem? (i := 0) rfl))
  have N8 := Fr.snoc X8 N6 g_o0
  obtain ⟨fs, hr, hrun, hended, hW, hsame⟩ := X8.leave (v := (some (.int 1))) (fun h => by rw [hrt] at h; cases h)
  have fc9 := (P0_6.wr W8)
  have fc10 := (P2_6.other W8 (Or.inr (slot_ne (Or.inl (ww hw 19 rfl)) (Or.inl (ww hw 60 rfl)) (by decide) (t := (.array .long)) (t' := .long) (by decide) (by decide))))
  have fc11 := (P3_6.other W8 (Or.inr (slot_ne (Or.inl (ww hw 21 rfl)) (Or.inl (ww hw 60 rfl)) (by decide) (t := (.array .long)) (t' := .long) (by decide) (by decide))))
  have fc12 := (P4_6.other W8 (Or.inr (slot_ne (Or.inr (ww hw 23 rfl)) (Or.inl (ww hw 60 rfl)) (by decide) (t := .int) (t' := .long) (by decide) (by decide))))
  have fc13 := (P5_6.other W8 (Or.inr (slot_ne (Or.inl (ww hw 37 rfl)) (Or.inl (ww hw 60 rfl)) (by decide) (t := .int) (t' := .long) (by decide) (by decide))))
  have fc14 := (P6_6.other W8 (Ne.symm ne_o0_o1))
  have fc15 := (P7_6.other W8 (Ne.symm ne_o0_o2))
  refine ⟨_, _, ?_, hrun, hended, _, _, rfl, ?_, ⟨_, rfl⟩, hW, hsame.mono (by decide) (by decide)⟩
  · show Steps p.tables e below (s₁.setTop (mkF m 0 #[va o0, vl q3, ss, vl q4, ss, uu, uu, uu, uu, uu, uu, uu, uu] [])) _
    refine XS.lloadN X0.here hx rfl (hb hby d4_0) rfl ?_
    refine XS.lloadN X0.here hx rfl (hb hby d4_1) rfl ?_
    refine st1 _ ?_
    refine XS.aloadN X1.here hx rfl (hb hby d4_5) rfl rfl ?_
    refine XS.lloadN X1.here hx rfl (hb hby d4_6) rfl ?_
    refine XS.lconst X1.here hx rfl (hb hby d4_7) ?_
    refine XS.lcmp X1.here hx rfl (hb hby d4_8) rfl ?_
    refine XS.ifYes X1.here hx rfl (pc0 := 9) (pc' := 16) rfl (hb hby d4_9) rfl (own_lc_eqF hc2).2 (by decide) (by decide) ?_
    show Steps p.tables e below (T1.setTop (mkF m 16 #[va o0, vl q3, ss, vl q4, ss, uu, uu, uu, uu, uu, uu, uu, uu] [(.ref o0)])) _
    refine XS.lloadN X1.here hx rfl (hb hby d4_16) rfl ?_
    refine XS.lconst X1.here hx rfl (hb hby d4_17) ?_
    refine XS.lsub X1.here hx rfl (hb hby d4_18) rfl ?_
    refine st2.trans ?_
    refine XS.istore X2.here hx rfl (hb hby d4_22) rfl (l' := #[va o0, vl q3, ss, vl q4, ss, vi 1, uu, uu, uu, uu, uu, uu, uu]) rfl ?_
    refine XS.iload X2.here hx rfl (hb hby d4_24) rfl ?_
    refine XS.istore X2.here hx rfl (hb hby d4_26) rfl (l' := #[va o0, vl q3, ss, vl q4, ss, vi 1, vi 1, uu, uu, uu, uu, uu, uu]) rfl ?_
    refine XS.iload X2.here hx rfl (hb hby d4_28) rfl ?_
    show Steps p.tables e below (T2.setTop (mkF m 30 #[va o0, vl q3, ss, vl q4, ss, vi 1, vi 1, uu, uu, uu, uu, uu, uu] [(.int 1)])) _
    refine XS.aloadN X2.here hx rfl (hb hby d4_30) rfl rfl ?_
    refine st3 _ ?_
    refine XS.icmpYes X3.here hx rfl (pc0 := 34) (pc' := 57) rfl (hb hby d4_34) rfl (flt (by decide : ¬ ((1 : Int32) < (1 : Int32)))).2.1 (by decide) (by decide) ?_
    refine XS.iinc X3.here hx rfl (hb hby d4_57) rfl (l' := #[va o0, vl q3, ss, vl q4, ss, vi 1, vi ((1 : Int32) + (-1 : Int32)), uu, uu, uu, uu, uu, uu]) rfl ?_
    show Steps p.tables e below (T3.setTop (mkF m 60 #[va o0, vl q3, ss, vl q4, ss, vi 1, vi ((1 : Int32) + (-1 : Int32)), uu, uu, uu, uu, uu, uu] [])) _
    rw [show (((1 : Int32) + (-1 : Int32)) : Int32) = (0 : Int32) from by decide]
    refine XS.iload X3.here hx rfl (hb hby d4_60) rfl ?_
    refine XS.iload X3.here hx rfl (hb hby d4_62) rfl ?_
    refine XS.icmpNo X3.here hx rfl (hb hby d4_64) rfl (tlt (by decide : (0 : Int32) < (1 : Int32))).2.1 ?_
    refine XS.aloadN X3.here hx rfl (hb hby d4_67) rfl rfl ?_
    refine st4 _ ?_
    refine XS.aloadN X4.here hx rfl (hb hby d4_71) rfl rfl ?_
    refine st5 _ ?_
    show Steps p.tables e below (T5.setTop (mkF m 75 #[va o0, vl q3, ss, vl q4, ss, vi 1, vi 0, uu, uu, uu, uu, uu, uu] [(.int 2147483647), (.int 1)])) _
    refine XS.icmpYes X5.here hx rfl (pc0 := 75) (pc' := 80) rfl (hb hby d4_75) rfl (feq (by decide : ¬ ((1 : Int32) = (2147483647 : Int32)))).2 (by decide) (by decide) ?_
    refine XS.aloadN X5.here hx rfl (hb hby d4_80) rfl rfl ?_
    refine XS.iload X5.here hx rfl (hb hby d4_81) rfl ?_
    refine XS.lloadN X5.here hx rfl (hb hby d4_83) rfl ?_
    refine XS.lloadN X5.here hx rfl (hb hby d4_84) rfl ?_
    refine st6.trans ?_
    refine XS.aloadN X6.here hx rfl (hb hby d4_88) rfl rfl ?_
    refine XS.dup X6.here hx rfl (hb hby d4_89) rfl rfl ?_
    show Steps p.tables e below (T6.setTop (mkF m 90 #[va o0, vl q3, ss, vl q4, ss, vi 1, vi 0, uu, uu, uu, uu, uu, uu] [(.ref o0), (.ref o0)])) _
    refine st7 _ ?_
    refine XS.lloadN X7.here hx rfl (hb hby d4_93) rfl ?_
    refine XS.lloadN X7.here hx rfl (hb hby d4_94) rfl ?_
    refine XS.lsub X7.here hx rfl (hb hby d4_95) rfl ?_
    refine XS.lconst X7.here hx rfl (hb hby d4_96) ?_
    refine XS.ladd X7.here hx rfl (hb hby d4_97) rfl ?_
    refine XS.ladd X7.here hx rfl (hb hby d4_98) rfl ?_
    refine st8 _ ?_
    show Steps p.tables e below (T8.setTop (mkF m 102 #[va o0, vl q3, ss, vl q4, ss, vi 1, vi 0, uu, uu, uu, uu, uu, uu] [])) _
    refine XS.goto X8.here hx rfl (pc0 := 102) (pc' := 223) rfl (hb hby d4_102) (by decide) (by decide) ?_
    refine XS.iconst X8.here hx rfl (hb hby d4_223) ?_
    exact retN X8 hx (t := .boolean) hrt (by simp) (hb hby d4_224) hr
  · show Q4_4 Z w_NONE o0 o1 o2 kk_o1 kk_o2 q3 q4 q0 q1 q2 h0 n0 (some (.int 1)) T8.heap _
    rw [e8]; exact ⟨rfl, N8, K8, fc9, Fw8, fc10, fc11, fc12, fc13, fc14, fc15⟩
def Q11_2 (Z : State) (w_NONE : Addr) (o0 : Addr) (o1 : Addr) (o2 : Addr) (kk_o1 : ClassId) (kk_o2 : ClassId) (q0 : Int64) (q1 : Int64) (q2 : Int64) (q3 : Int64) (q4 : Int64) (h0 : Heap) (n0 : Nat) (v : Option Value) (h : Heap) (L : List Loc) : Prop := v = none ∧ Fr n0 L ∧ Keep h0 h [o0] ∧ Exa Z h o0 sC0 ∧ Fld Z h o0 sC0 "count" "J" (.long 0) ∧ Fld Z h o0 sC0 "firsts" "[J" (.ref w_NONE) ∧ Fld Z h o0 sC0 "lasts" "[J" (.ref w_NONE) ∧ Fld Z h o0 sC0 "maxRanges" "I" (.int 2147483647) ∧ Fld Z h o0 sC0 "ranges" "I" (.int 0)
theorem rm11_2 (l : Launch) (Z : State) (a0 : Array Value) (hw : HW Z a0) (ws : List Jvm.Cond) (w_NONE : Addr) (o0 : Addr) (o1 : Addr) (o2 : Addr) (kk_o1 : ClassId) (kk_o2 : ClassId) (q0 : Int64) (q1 : Int64) (q2 : Int64) (q3 : Int64) (q4 : Int64) (h0 : Heap) (n0 : Nat) (O0 : Old Z n0 h0) (S : SF Z w_NONE) (E_o0 : Exa Z h0 o0 sC0) (F_count_o0 : Fld Z h0 o0 sC0 "count" "J" (.long q0)) (F_firsts_o0 : Fld Z h0 o0 sC0 "firsts" "[J" (.ref o1)) (F_lasts_o0 : Fld Z h0 o0 sC0 "lasts" "[J" (.ref o2)) (F_maxRanges_o0 : Fld Z h0 o0 sC0 "maxRanges" "I" (.int 2147483647)) (F_ranges_o0 : Fld Z h0 o0 sC0 "ranges" "I" (.int 2)) (g_o0 : n0 ≤ o0) :
    Pay l Z My11 ws prog_55_method_11_code 1 none #[(.ref o0)] h0 ({ frames := 0, cells := 0, slots := 0, locals := 0 } : Room) (Q11_2 Z w_NONE o0 o1 o2 kk_o1 kk_o2 q0 q1 q2 q3 q4 h0 n0) := by
  obtain ⟨S_w_NONE, -⟩ := id S
  refine own_body (plainFor_of_name pn_1) (L0 := #[va o0]) (fun _ => by first | rfl | (simp [entryFrame, mkF, argsToLocals, Value.category]; done)) ?_
  intro p e s m below meth c s₁ hrt hlk hx hby hml hZ hown0 hnm X0 e0
  have hown : s.vm.findClass sC0 = some m.cls := hown0
  have N0 := Fr.nil n0
  have K0 : Keep h0 h0 [o0] := Keep.refl _ _
  obtain ⟨T1, X1, e1, st1⟩ := getS2 X0 hx hZ hown (host := "") (Or.inl (ww hw 16 rfl)) Via.refl e0 (S_w_NONE.ext O0.2) (g := (mkF m 1 #[va o0] [(.ref o0)])) rfl (hb hby d11_1)
  obtain ⟨T2, h2, X2, e2, W2, st2⟩ := putF X1 hx hZ hown (host := "") (Or.inl (ww hw 18 rfl)) Via.refl e1 F_firsts_o0 E_o0 (Or.inl (ww hw 19 rfl)) (ww hw 4 rfl) (ty := (.array .long)) (by decide) rfl rfl (g := (mkF m 4 #[va o0] [(.ref w_NONE), (.ref o0)])) rfl rfl (hb hby d11_4)
  have Fw2 := F_firsts_o0.same W2
  have O2 := O0.wr W2 g_o0
  have K2 : Keep h0 h2 [o0] := K0.wr W2 (Or.inl (List.mem_of_getElem? (i := 0) rfl))
  have N2 := Fr.snoc X2 N0 g_o0
  obtain ⟨T3, X3, e3, st3⟩ := getS2 X2 hx hZ hown (host := "") (Or.inl (ww hw 16 rfl)) Via.refl e2 (S_w_NONE.ext O2.2) (g := (mkF m 8 #[va o0] [(.ref o0)])) rfl (hb hby d11_8)
  have fc4 := (F_lasts_o0.other W2 (Or.inr (slot_ne (Or.inl (ww hw 21 rfl)) (Or.inl (ww hw 19 rfl)) (by decide) (t := (.array .long)) (t' := (.array .long)) (by decide) (by decide))))
  have fc5 := (E_o0.wr W2)
  obtain ⟨T6, h6, X6, e6, W6, st6⟩ := putF X3 hx hZ hown (host := "") (Or.inl (ww hw 20 rfl)) Via.refl e3 fc4 fc5 (Or.inl (ww hw 21 rfl)) (ww hw 4 rfl) (ty := (.array .long)) (by decide) rfl rfl (g := (mkF m 11 #[va o0] [(.ref w_NONE), (.ref o0)])) rfl rfl (hb hby d11_11)
  have Fw6 := fc4.same W6
  have O6 := O2.wr W6 g_o0
  have K6 : Keep h0 h6 [o0] := K2.wr W6 (Or.inl (List.mem_of_getElem? (i := 0) rfl))
  have N6 := Fr.snoc X6 N2 g_o0
  have fc7 := ((F_ranges_o0.other W2 (Or.inr (slot_ne (Or.inl (ww hw 37 rfl)) (Or.inl (ww hw 19 rfl)) (by decide) (t := .int) (t' := (.array .long)) (by decide) (by decide)))).other W6 (Or.inr (slot_ne (Or.inl (ww hw 37 rfl)) (Or.inl (ww hw 21 rfl)) (by decide) (t := .int) (t' := (.array .long)) (by decide) (by decide))))
  have fc8 := (fc5.wr W6)
  obtain ⟨T9, h9, X9, e9, W9, st9⟩ := putF X6 hx hZ hown (host := "") (Or.inl (ww hw 36 rfl)) Via.refl e6 fc7 fc8 (Or.inl (ww hw 37 rfl)) (ww hw 4 rfl) (ty := .int) (by decide) rfl rfl (g := (mkF m 16 #[va o0] [(.int 0), (.ref o0)])) rfl rfl (hb hby d11_16)
  have Fw9 := fc7.same W9
  have O9 := O6.wr W9 g_o0
  have K9 : Keep h0 h9 [o0] := K6.wr W9 (Or.inl (List.mem_of_getElem? (i := 0) rfl))
  have N9 := Fr.snoc X9 N6 g_o0
  have fc10 := (((F_count_o0.other W2 (Or.inr (slot_ne (Or.inl (ww hw 60 rfl)) (Or.inl (ww hw 19 rfl)) (by decide) (t := .long) (t' := (.array .long)) (by decide) (by decide)))).other W6 (Or.inr (slot_ne (Or.inl (ww hw 60 rfl)) (Or.inl (ww hw 21 rfl)) (by decide) (t := .long) (t' := (.array .long)) (by decide) (by decide)))).other W9 (Or.inr (slot_ne (Or.inl (ww hw 60 rfl)) (Or.inl (ww hw 37 rfl)) (by decide) (t := .long) (t' := .int) (by decide) (by decide))))
  have fc11 := (fc8.wr W9)
  obtain ⟨T12, h12, X12, e12, W12, st12⟩ := putF X9 hx hZ hown (host := "") (Or.inl (ww hw 59 rfl)) Via.refl e9 fc10 fc11 (Or.inl (ww hw 60 rfl)) (ww hw 4 rfl) (ty := .long) (by decide) rfl rfl (g := (mkF m 21 #[va o0] [(.long 0), (.ref o0)])) rfl rfl (hb hby d11_21)
  have Fw12 := fc10.same W12
  have O12 := O9.wr W12 g_o0
  have K12 : Keep h0 h12 [o0] := K9.wr W12 (Or.inl (List.mem_of_getElem? (i := 0) rfl))
  have N12 := Fr.snoc X12 N9 g_o0
  obtain ⟨fs, hr, hrun, hended, hW, hsame⟩ := X12.leave (v := none) (fun _ => rfl)
  have fc13 := (fc11.wr W12)
  have fc14 := (((Fw2.other W6 (Or.inr (slot_ne (Or.inl (ww hw 19 rfl)) (Or.inl (ww hw 21 rfl)) (by decide) (t := (.array .long)) (t' := (.array .long)) (by decide) (by decide)))).other W9 (Or.inr (slot_ne (Or.inl (ww hw 19 rfl)) (Or.inl (ww hw 37 rfl)) (by decide) (t := (.array .long)) (t' := .int) (by decide) (by decide)))).other W12 (Or.inr (slot_ne (Or.inl (ww hw 19 rfl)) (Or.inl (ww hw 60 rfl)) (by decide) (t := (.array .long)) (t' := .long) (by decide) (by decide))))
  have fc15 := ((Fw6.other W9 (Or.inr (slot_ne (Or.inl (ww hw 21 rfl)) (Or.inl (ww hw 37 rfl)) (by decide) (t := (.array .long)) (t' := .int) (by decide) (by decide)))).other W12 (Or.inr (slot_ne (Or.inl (ww hw 21 rfl)) (Or.inl (ww hw 60 rfl)) (by decide) (t := (.array .long)) (t' := .long) (by decide) (by decide))))
  have fc16 := ((((F_maxRanges_o0.other W2 (Or.inr (slot_ne (Or.inr (ww hw 23 rfl)) (Or.inl (ww hw 19 rfl)) (by decide) (t := .int) (t' := (.array .long)) (by decide) (by decide)))).other W6 (Or.inr (slot_ne (Or.inr (ww hw 23 rfl)) (Or.inl (ww hw 21 rfl)) (by decide) (t := .int) (t' := (.array .long)) (by decide) (by decide)))).other W9 (Or.inr (slot_ne (Or.inr (ww hw 23 rfl)) (Or.inl (ww hw 37 rfl)) (by decide) (t := .int) (t' := .int) (by decide) (by decide)))).other W12 (Or.inr (slot_ne (Or.inr (ww hw 23 rfl)) (Or.inl (ww hw 60 rfl)) (by decide) (t := .int) (t' := .long) (by decide) (by decide))))
  have fc17 := (Fw9.other W12 (Or.inr (slot_ne (Or.inl (ww hw 37 rfl)) (Or.inl (ww hw 60 rfl)) (by decide) (t := .int) (t' := .long) (by decide) (by decide))))
  refine ⟨_, _, ?_, hrun, hended, _, _, rfl, ?_, ⟨_, rfl⟩, hW, hsame.mono (by decide) (by decide)⟩
  · show Steps p.tables e below (s₁.setTop (mkF m 0 #[va o0] [])) _
    refine XS.aloadN X0.here hx rfl (hb hby d11_0) rfl rfl ?_
    refine st1 _ ?_
    refine st2 _ ?_
    refine XS.aloadN X2.here hx rfl (hb hby d11_7) rfl rfl ?_
    refine st3 _ ?_
    refine st6 _ ?_
    refine XS.aloadN X6.here hx rfl (hb hby d11_14) rfl rfl ?_
    refine XS.iconst X6.here hx rfl (hb hby d11_15) ?_
    show Steps p.tables e below (T6.setTop (mkF m 16 #[va o0] [(.int 0), (.ref o0)])) _
    refine st9 _ ?_
    refine XS.aloadN X9.here hx rfl (hb hby d11_19) rfl rfl ?_
    refine XS.lconst X9.here hx rfl (hb hby d11_20) ?_
    refine st12 _ ?_
    exact X12.returnOut hx hrt (hb hby d11_24) hr
  · show Q11_2 Z w_NONE o0 o1 o2 kk_o1 kk_o2 q0 q1 q2 q3 q4 h0 n0 none T12.heap _
    rw [e12]; exact ⟨rfl, N12, K12, fc13, Fw12, fc14, fc15, fc16, fc17⟩
def Q7_2 (Z : State) (w_NONE : Addr) (o0 : Addr) (o1 : Addr) (o2 : Addr) (kk_o1 : ClassId) (kk_o2 : ClassId) (q3 : Int64) (q4 : Int64) (q0 : Int64) (q1 : Int64) (q2 : Int64) (h0 : Heap) (n0 : Nat) (v : Option Value) (h : Heap) (L : List Loc) : Prop := v = none ∧ Fr n0 L ∧ Keep h0 h [o1, o2, o0] ∧ Exa Z h o0 sC0 ∧ Fld Z h o0 sC0 "count" "J" (.long q0) ∧ Fld Z h o0 sC0 "firsts" "[J" (.ref o1) ∧ Fld Z h o0 sC0 "lasts" "[J" (.ref o2) ∧ Fld Z h o0 sC0 "maxRanges" "I" (.int 2147483647) ∧ Fld Z h o0 sC0 "ranges" "I" (.int 2) ∧ Arv Z h o1 kk_o1 .long (4 : Int32) [(.long q3), (.long q1), (.long 0), (.long 0)] (.long 0) ∧ Arv Z h o2 kk_o2 .long (4 : Int32) [(.long q4), (.long q2), (.long 0), (.long 0)] (.long 0)
theorem rm7_2 (l : Launch) (Z : State) (a0 : Array Value) (hw : HW Z a0) (ws : List Jvm.Cond) (w_NONE : Addr) (o0 : Addr) (o1 : Addr) (o2 : Addr) (kk_o1 : ClassId) (kk_o2 : ClassId) (q3 : Int64) (q4 : Int64) (q0 : Int64) (q1 : Int64) (q2 : Int64) (h0 : Heap) (n0 : Nat) (O0 : Old Z n0 h0) (S : SF Z w_NONE) (E_o0 : Exa Z h0 o0 sC0) (F_count_o0 : Fld Z h0 o0 sC0 "count" "J" (.long q0)) (F_firsts_o0 : Fld Z h0 o0 sC0 "firsts" "[J" (.ref o1)) (F_lasts_o0 : Fld Z h0 o0 sC0 "lasts" "[J" (.ref o2)) (F_maxRanges_o0 : Fld Z h0 o0 sC0 "maxRanges" "I" (.int 2147483647)) (F_ranges_o0 : Fld Z h0 o0 sC0 "ranges" "I" (.int 1)) (V_o1 : Arv Z h0 o1 kk_o1 .long (4 : Int32) [(.long q1), (.long 0), (.long 0), (.long 0)] (.long 0)) (V_o2 : Arv Z h0 o2 kk_o2 .long (4 : Int32) [(.long q2), (.long 0), (.long 0), (.long 0)] (.long 0)) (ne_o0_o1 : o0 ≠ o1) (ne_o0_o2 : o0 ≠ o2) (ne_o1_o2 : o1 ≠ o2) (g_o0 : n0 ≤ o0) (g_o1 : n0 ≤ o1) (g_o2 : n0 ≤ o2) :
    Pay l Z My7 ws prog_55_method_21_code 7 none #[(.ref o0), (.int 0), (.long q3), (.long q4)] h0 ({ frames := 1, cells := 0, slots := 0, locals := 18 } : Room) (Q7_2 Z w_NONE o0 o1 o2 kk_o1 kk_o2 q3 q4 q0 q1 q2 h0 n0) := by
  refine own_body (plainFor_of_name pn_1) (L0 := #[va o0, vi 0, vl q3, ss, vl q4, ss, uu]) (fun _ => by first | rfl | (simp [entryFrame, mkF, argsToLocals, Value.category]; done)) ?_
  intro p e s m below meth c s₁ hrt hlk hx hby hml hZ hown0 hnm X0 e0
  have hown : s.vm.findClass sC0 = some m.cls := hown0
  have N0 := Fr.nil n0
  have K0 : Keep h0 h0 [o1, o2, o0] := Keep.refl _ _
  obtain ⟨T1, X1, e1, st1⟩ := getF X0 hx hZ hown (host := "") (Or.inl (ww hw 36 rfl)) Via.refl e0 F_ranges_o0 (g := (mkF m 1 #[va o0, vi 0, vl q3, ss, vl q4, ss, uu] [(.ref o0)])) rfl rfl (hb hby d7_1)
  obtain ⟨T2, X2, e2, st2⟩ := getF X1 hx hZ hown (host := "") (Or.inl (ww hw 18 rfl)) Via.refl e1 F_firsts_o0 (g := (mkF m 5 #[va o0, vi 0, vl q3, ss, vl q4, ss, uu] [(.ref o0), (.int 1)])) rfl rfl (hb hby d7_5)
  obtain ⟨cl3, Ar3, qk3, Sz3, Ng3, Hh3, Gg3⟩ := id V_o1
  obtain ⟨T4, X4, e4, st4⟩ := getF X2 hx hZ hown (host := "") (Or.inl (ww hw 18 rfl)) Via.refl e2 F_firsts_o0 (g := (mkF m 51 #[va o0, vi 0, vl q3, ss, vl q4, ss, uu] [(.ref o0)])) rfl rfl (hb hby d7_51)
  obtain ⟨T5, X5, e5, st5⟩ := getF X4 hx hZ hown (host := "") (Or.inl (ww hw 18 rfl)) Via.refl e4 F_firsts_o0 (g := (mkF m 56 #[va o0, vi 0, vl q3, ss, vl q4, ss, uu] [(.ref o0), (.int 0), (.ref o1)])) rfl rfl (hb hby d7_56)
  obtain ⟨T6, X6, e6, st6⟩ := getF X5 hx hZ hown (host := "") (Or.inl (ww hw 36 rfl)) Via.refl e5 F_ranges_o0 (g := (mkF m 63 #[va o0, vi 0, vl q3, ss, vl q4, ss, uu] [(.ref o0), (.int 1), (.ref o1), (.int 0), (.ref o1)])) rfl rfl (hb hby d7_63)
  obtain ⟨T7, h7, L7, X7, e7, N7, Kc7, Vc7, st7⟩ := cpA X6 hx hZ hown (ww hw 58 rfl) (ww hw 57 rfl) (ww hw 55 rfl) (ww hw 56 rfl) e6 V_o1 V_o1 (us := [(.long q1)]) (Or.inl ⟨rfl, rfl⟩) (sp := (0 : Int32)) (dp := (1 : Int32)) (nn := (1 : Int32)) (by decide) (by decide) (by decide) (by decide) (by decide) rfl (Nat.le_of_ble_eq_true rfl) N0 g_o1 (g := (mkF m 68 #[va o0, vi 0, vl q3, ss, vl q4, ss, uu] [(.int 1), (.int 1), (.ref o1), (.int 0), (.ref o1)])) rfl (by rw [hml]; rfl) (rest := []) rfl (hb hby d7_68) (by decide) (W := 0) (by show 2 * 0 + _ ≤ _; exact Nat.le_of_eq rfl) (by decide)
  have V7 : Arv Z h7 o1 kk_o1 .long (4 : Int32) [(.long q1), (.long q1), (.long 0), (.long 0)] (.long 0) := Vc7
  have O7 := O0.keep Kc7 (allS g_o1 all0)
  have K7 : Keep h0 h7 [o1, o2, o0] := K0.trans Kc7 (allS (Or.inl (List.mem_of_getElem? (i := 0) rfl)) all0)
  have fc8 := (F_lasts_o0.keep Kc7 (ninS ne_o0_o1 nin0))
  obtain ⟨T9, X9, e9, st9⟩ := getF X7 hx hZ hown (host := "") (Or.inl (ww hw 20 rfl)) Via.refl e7 fc8 (g := (mkF m 72 #[va o0, vi 0, vl q3, ss, vl q4, ss, uu] [(.ref o0)])) rfl rfl (hb hby d7_72)
  obtain ⟨T10, X10, e10, st10⟩ := getF X9 hx hZ hown (host := "") (Or.inl (ww hw 20 rfl)) Via.refl e9 fc8 (g := (mkF m 77 #[va o0, vi 0, vl q3, ss, vl q4, ss, uu] [(.ref o0), (.int 0), (.ref o2)])) rfl rfl (hb hby d7_77)
  have fc11 := (F_ranges_o0.keep Kc7 (ninS ne_o0_o1 nin0))
  obtain ⟨T12, X12, e12, st12⟩ := getF X10 hx hZ hown (host := "") (Or.inl (ww hw 36 rfl)) Via.refl e10 fc11 (g := (mkF m 84 #[va o0, vi 0, vl q3, ss, vl q4, ss, uu] [(.ref o0), (.int 1), (.ref o2), (.int 0), (.ref o2)])) rfl rfl (hb hby d7_84)
  have fc13 := (V_o2.keep Kc7 (ninS (Ne.symm ne_o1_o2) nin0))
  obtain ⟨T14, h14, L14, X14, e14, N14, Kc14, Vc14, st14⟩ := cpA X12 hx hZ hown (ww hw 58 rfl) (ww hw 57 rfl) (ww hw 55 rfl) (ww hw 56 rfl) e12 fc13 fc13 (us := [(.long q2)]) (Or.inl ⟨rfl, rfl⟩) (sp := (0 : Int32)) (dp := (1 : Int32)) (nn := (1 : Int32)) (by decide) (by decide) (by decide) (by decide) (by decide) rfl (Nat.le_of_ble_eq_true rfl) N7 g_o2 (g := (mkF m 89 #[va o0, vi 0, vl q3, ss, vl q4, ss, uu] [(.int 1), (.int 1), (.ref o2), (.int 0), (.ref o2)])) rfl (by rw [hml]; rfl) (rest := []) rfl (hb hby d7_89) (by decide) (W := 0) (by show 2 * 0 + _ ≤ _; exact Nat.le_of_eq rfl) (by decide)
  have V14 : Arv Z h14 o2 kk_o2 .long (4 : Int32) [(.long q2), (.long q2), (.long 0), (.long 0)] (.long 0) := Vc14
  have O14 := O7.keep Kc14 (allS g_o2 all0)
  have K14 : Keep h0 h14 [o1, o2, o0] := K7.trans Kc14 (allS (Or.inl (List.mem_of_getElem? (i := 1) rfl)) all0)
  have fc15 := ((F_firsts_o0.keep Kc7 (ninS ne_o0_o1 nin0)).keep Kc14 (ninS ne_o0_o2 nin0))
  obtain ⟨T16, X16, e16, st16⟩ := getF X14 hx hZ hown (host := "") (Or.inl (ww hw 18 rfl)) Via.refl e14 fc15 (g := (mkF m 93 #[va o0, vi 0, vl q3, ss, vl q4, ss, uu] [(.ref o0)])) rfl rfl (hb hby d7_93)
  have fc17 := (V7.keep Kc14 (ninS ne_o1_o2 nin0))
  obtain ⟨cl18, Ar18, qk18, Sz18, Ng18, Hh18, Gg18⟩ := id fc17
  have hin18_0 : ¬ ((0 : Int32) < 0 ∨ cl18.slots.size ≤ ((0 : Int32)).toNatClampNeg) := inb_of Sz18 ⟨by decide, by decide⟩
  obtain ⟨T19, h19, X19, e19, W19, st19⟩ := stJ X16 hx hZ e16 Ar18 (j := (0 : Int32)) hin18_0 (g := (mkF m 98 #[va o0, vi 0, vl q3, ss, vl q4, ss, uu] [(.long q3), (.int 0), (.ref o1)])) rfl rfl (hb hby d7_98)
  have V19 : Arv Z h19 o1 kk_o1 .long (4 : Int32) [(.long q3), (.long q1), (.long 0), (.long 0)] (.long 0) := Arv.set Ar18 qk18 Sz18 Ng18 Hh18 Gg18 rfl W19 0 rfl (Nat.le_of_ble_eq_true rfl)
  have O19 := O14.wr W19 g_o1
  have K19 : Keep h0 h19 [o1, o2, o0] := K14.wr W19 (Or.inl (List.mem_of_getElem? (i := 0) rfl))
  have N19 := Fr.snoc X19 N14 g_o1
  have fc20 := ((fc8.keep Kc14 (ninS ne_o0_o2 nin0)).other W19 (Or.inl ne_o0_o1))
  obtain ⟨T21, X21, e21, st21⟩ := getF X19 hx hZ hown (host := "") (Or.inl (ww hw 20 rfl)) Via.refl e19 fc20 (g := (mkF m 100 #[va o0, vi 0, vl q3, ss, vl q4, ss, uu] [(.ref o0)])) rfl rfl (hb hby d7_100)
  have fc22 := (V14.other W19 (Ne.symm ne_o1_o2))
  obtain ⟨cl23, Ar23, qk23, Sz23, Ng23, Hh23, Gg23⟩ := id fc22
  have hin23_0 : ¬ ((0 : Int32) < 0 ∨ cl23.slots.size ≤ ((0 : Int32)).toNatClampNeg) := inb_of Sz23 ⟨by decide, by decide⟩
  obtain ⟨T24, h24, X24, e24, W24, st24⟩ := stJ X21 hx hZ e21 Ar23 (j := (0 : Int32)) hin23_0 (g := (mkF m 106 #[va o0, vi 0, vl q3, ss, vl q4, ss, uu] [(.long q4), (.int 0), (.ref o2)])) rfl rfl (hb hby d7_106)
  have V24 : Arv Z h24 o2 kk_o2 .long (4 : Int32) [(.long q4), (.long q2), (.long 0), (.long 0)] (.long 0) := Arv.set Ar23 qk23 Sz23 Ng23 Hh23 Gg23 rfl W24 0 rfl (Nat.le_of_ble_eq_true rfl)
  have O24 := O19.wr W24 g_o2
  have K24 : Keep h0 h24 [o1, o2, o0] := K19.wr W24 (Or.inl (List.mem_of_getElem? (i := 1) rfl))
  have N24 := Fr.snoc X24 N19 g_o2
  have fc25 := (((fc11.keep Kc14 (ninS ne_o0_o2 nin0)).other W19 (Or.inl ne_o0_o1)).other W24 (Or.inl ne_o0_o2))
  obtain ⟨T26, X26, e26, st26⟩ := getF X24 hx hZ hown (host := "") (Or.inl (ww hw 36 rfl)) Via.refl e24 fc25 (g := (mkF m 109 #[va o0, vi 0, vl q3, ss, vl q4, ss, uu] [(.ref o0), (.ref o0)])) rfl rfl (hb hby d7_109)
  have fc27 := ((((E_o0.keep Kc7).keep Kc14).wr W19).wr W24)
  obtain ⟨T28, h28, X28, e28, W28, st28⟩ := putF X26 hx hZ hown (host := "") (Or.inl (ww hw 36 rfl)) Via.refl e26 fc25 fc27 (Or.inl (ww hw 37 rfl)) (ww hw 4 rfl) (ty := .int) (by decide) rfl rfl (g := (mkF m 114 #[va o0, vi 0, vl q3, ss, vl q4, ss, uu] [(.int 2), (.ref o0)])) rfl rfl (hb hby d7_114)
  have Fw28 := fc25.same W28
  have O28 := O24.wr W28 g_o0
  have K28 : Keep h0 h28 [o1, o2, o0] := K24.wr W28 (Or.inl (List.mem_of_getElem? (i := 2) rfl))
  have N28 := Fr.snoc X28 N24 g_o0
  obtain ⟨fs, hr, hrun, hended, hW, hsame⟩ := X28.leave (v := none) (fun _ => rfl)
  have fc29 := (fc27.wr W28)
  have fc30 := (((((F_count_o0.keep Kc7 (ninS ne_o0_o1 nin0)).keep Kc14 (ninS ne_o0_o2 nin0)).other W19 (Or.inl ne_o0_o1)).other W24 (Or.inl ne_o0_o2)).other W28 (Or.inr (slot_ne (Or.inl (ww hw 60 rfl)) (Or.inl (ww hw 37 rfl)) (by decide) (t := .long) (t' := .int) (by decide) (by decide))))
  have fc31 := (((fc15.other W19 (Or.inl ne_o0_o1)).other W24 (Or.inl ne_o0_o2)).other W28 (Or.inr (slot_ne (Or.inl (ww hw 19 rfl)) (Or.inl (ww hw 37 rfl)) (by decide) (t := (.array .long)) (t' := .int) (by decide) (by decide))))
  have fc32 := ((fc20.other W24 (Or.inl ne_o0_o2)).other W28 (Or.inr (slot_ne (Or.inl (ww hw 21 rfl)) (Or.inl (ww hw 37 rfl)) (by decide) (t := (.array .long)) (t' := .int) (by decide) (by decide))))
  have fc33 := (((((F_maxRanges_o0.keep Kc7 (ninS ne_o0_o1 nin0)).keep Kc14 (ninS ne_o0_o2 nin0)).other W19 (Or.inl ne_o0_o1)).other W24 (Or.inl ne_o0_o2)).other W28 (Or.inr (slot_ne (Or.inr (ww hw 23 rfl)) (Or.inl (ww hw 37 rfl)) (by decide) (t := .int) (t' := .int) (by decide) (by decide))))
  have fc34 := ((V19.other W24 ne_o1_o2).other W28 (Ne.symm ne_o0_o1))
  have fc35 := (V24.other W28 (Ne.symm ne_o0_o2))
  refine ⟨_, _, ?_, hrun, hended, _, _, rfl, ?_, ⟨_, rfl⟩, hW, hsame.mono (by decide) (by decide)⟩
  · show Steps p.tables e below (s₁.setTop (mkF m 0 #[va o0, vi 0, vl q3, ss, vl q4, ss, uu] [])) _
    refine XS.aloadN X0.here hx rfl (hb hby d7_0) rfl rfl ?_
    refine st1 _ ?_
    refine XS.aloadN X1.here hx rfl (hb hby d7_4) rfl rfl ?_
    refine st2 _ ?_
    refine X2.arraylength hx (by rw [e2]; exact Ar3.1) (State.isArrayOf_alike hZ.alike Ar3.2.1) (g := (mkF m 8 #[va o0, vi 0, vl q3, ss, vl q4, ss, uu] [(.ref o1), (.int 1)])) rfl rfl (hb hby d7_8) _ ?_
    rw [len_of Sz3 Ng3]
    refine XS.icmpYes X2.here hx rfl (pc0 := 9) (pc' := 50) rfl (hb hby d7_9) rfl (feq (by decide : ¬ ((1 : Int32) = (4 : Int32)))).2 (by decide) (by decide) ?_
    refine XS.aloadN X2.here hx rfl (hb hby d7_50) rfl rfl ?_
    refine st4 _ ?_
    show Steps p.tables e below (T4.setTop (mkF m 54 #[va o0, vi 0, vl q3, ss, vl q4, ss, uu] [(.ref o1)])) _
    refine XS.iloadN X4.here hx rfl (hb hby d7_54) rfl ?_
    refine XS.aloadN X4.here hx rfl (hb hby d7_55) rfl rfl ?_
    refine st5 _ ?_
    refine XS.iloadN X5.here hx rfl (hb hby d7_59) rfl ?_
    refine XS.iconst X5.here hx rfl (hb hby d7_60) ?_
    refine XS.iadd X5.here hx rfl (hb hby d7_61) rfl ?_
    show Steps p.tables e below (T5.setTop (mkF m 62 #[va o0, vi 0, vl q3, ss, vl q4, ss, uu] [(.int ((0 : Int32) + (1 : Int32))), (.ref o1), (.int 0), (.ref o1)])) _
    rw [show (((0 : Int32) + (1 : Int32)) : Int32) = (1 : Int32) from by decide]
    refine XS.aloadN X5.here hx rfl (hb hby d7_62) rfl rfl ?_
    refine st6 _ ?_
    refine XS.iloadN X6.here hx rfl (hb hby d7_66) rfl ?_
    refine XS.isub X6.here hx rfl (hb hby d7_67) rfl ?_
    show Steps p.tables e below (T6.setTop (mkF m 68 #[va o0, vi 0, vl q3, ss, vl q4, ss, uu] [(.int ((1 : Int32) - (0 : Int32))), (.int 1), (.ref o1), (.int 0), (.ref o1)])) _
    rw [show (((1 : Int32) - (0 : Int32)) : Int32) = (1 : Int32) from by decide]
    refine st7 _ ?_
    refine XS.aloadN X7.here hx rfl (hb hby d7_71) rfl rfl ?_
    refine st9 _ ?_
    refine XS.iloadN X9.here hx rfl (hb hby d7_75) rfl ?_
    refine XS.aloadN X9.here hx rfl (hb hby d7_76) rfl rfl ?_
    refine st10 _ ?_
    refine XS.iloadN X10.here hx rfl (hb hby d7_80) rfl ?_
    show Steps p.tables e below (T10.setTop (mkF m 81 #[va o0, vi 0, vl q3, ss, vl q4, ss, uu] [(.int 0), (.ref o2), (.int 0), (.ref o2)])) _
    refine XS.iconst X10.here hx rfl (hb hby d7_81) ?_
    refine XS.iadd X10.here hx rfl (hb hby d7_82) rfl ?_
    show Steps p.tables e below (T10.setTop (mkF m 83 #[va o0, vi 0, vl q3, ss, vl q4, ss, uu] [(.int ((0 : Int32) + (1 : Int32))), (.ref o2), (.int 0), (.ref o2)])) _
    rw [show (((0 : Int32) + (1 : Int32)) : Int32) = (1 : Int32) from by decide]
    refine XS.aloadN X10.here hx rfl (hb hby d7_83) rfl rfl ?_
    refine st12 _ ?_
    refine XS.iloadN X12.here hx rfl (hb hby d7_87) rfl ?_
    refine XS.isub X12.here hx rfl (hb hby d7_88) rfl ?_
    show Steps p.tables e below (T12.setTop (mkF m 89 #[va o0, vi 0, vl q3, ss, vl q4, ss, uu] [(.int ((1 : Int32) - (0 : Int32))), (.int 1), (.ref o2), (.int 0), (.ref o2)])) _
    rw [show (((1 : Int32) - (0 : Int32)) : Int32) = (1 : Int32) from by decide]
    refine st14 _ ?_
    refine XS.aloadN X14.here hx rfl (hb hby d7_92) rfl rfl ?_
    refine st16 _ ?_
    refine XS.iloadN X16.here hx rfl (hb hby d7_96) rfl ?_
    refine XS.lloadN X16.here hx rfl (hb hby d7_97) rfl ?_
    refine st19 _ ?_
    refine XS.aloadN X19.here hx rfl (hb hby d7_99) rfl rfl ?_
    show Steps p.tables e below (T19.setTop (mkF m 100 #[va o0, vi 0, vl q3, ss, vl q4, ss, uu] [(.ref o0)])) _
    refine st21 _ ?_
    refine XS.iloadN X21.here hx rfl (hb hby d7_103) rfl ?_
    refine XS.lload X21.here hx rfl (hb hby d7_104) rfl ?_
    refine st24 _ ?_
    refine XS.aloadN X24.here hx rfl (hb hby d7_107) rfl rfl ?_
    refine XS.dup X24.here hx rfl (hb hby d7_108) rfl rfl ?_
    refine st26 _ ?_
    refine XS.iconst X26.here hx rfl (hb hby d7_112) ?_
    show Steps p.tables e below (T26.setTop (mkF m 113 #[va o0, vi 0, vl q3, ss, vl q4, ss, uu] [(.int 1), (.int 1), (.ref o0)])) _
    refine XS.iadd X26.here hx rfl (hb hby d7_113) rfl ?_
    show Steps p.tables e below (T26.setTop (mkF m 114 #[va o0, vi 0, vl q3, ss, vl q4, ss, uu] [(.int ((1 : Int32) + (1 : Int32))), (.ref o0)])) _
    rw [show (((1 : Int32) + (1 : Int32)) : Int32) = (2 : Int32) from by decide]
    refine st28 _ ?_
    exact X28.returnOut hx hrt (hb hby d7_117) hr
  · show Q7_2 Z w_NONE o0 o1 o2 kk_o1 kk_o2 q3 q4 q0 q1 q2 h0 n0 none T28.heap _
    rw [e28]; exact ⟨rfl, N28, K28, fc29, fc30, fc31, fc32, fc33, Fw28, fc34, fc35⟩
def Q4_5 (Z : State) (w_NONE : Addr) (o0 : Addr) (o1 : Addr) (o2 : Addr) (kk_o1 : ClassId) (kk_o2 : ClassId) (q3 : Int64) (q4 : Int64) (q0 : Int64) (q1 : Int64) (q2 : Int64) (h0 : Heap) (n0 : Nat) (v : Option Value) (h : Heap) (L : List Loc) : Prop := v = (some (.int 1)) ∧ Fr n0 L ∧ Keep h0 h [o0, o2, o1] ∧ Exa Z h o0 sC0 ∧ Fld Z h o0 sC0 "count" "J" (.long (q0 + ((q4 - q3) + (1 : Int64)))) ∧ Fld Z h o0 sC0 "firsts" "[J" (.ref o1) ∧ Fld Z h o0 sC0 "lasts" "[J" (.ref o2) ∧ Fld Z h o0 sC0 "maxRanges" "I" (.int 2147483647) ∧ Fld Z h o0 sC0 "ranges" "I" (.int 2) ∧ Arv Z h o1 kk_o1 .long (4 : Int32) [(.long q3), (.long q1), (.long 0), (.long 0)] (.long 0) ∧ Arv Z h o2 kk_o2 .long (4 : Int32) [(.long q4), (.long q2), (.long 0), (.long 0)] (.long 0)
theorem rm4_5 (l : Launch) (Z : State) (a0 : Array Value) (hw : HW Z a0) (ws : List Jvm.Cond) (w_NONE : Addr) (o0 : Addr) (o1 : Addr) (o2 : Addr) (kk_o1 : ClassId) (kk_o2 : ClassId) (q3 : Int64) (q4 : Int64) (q0 : Int64) (q1 : Int64) (q2 : Int64) (h0 : Heap) (n0 : Nat) (O0 : Old Z n0 h0) (S : SF Z w_NONE) (E_o0 : Exa Z h0 o0 sC0) (F_count_o0 : Fld Z h0 o0 sC0 "count" "J" (.long q0)) (F_firsts_o0 : Fld Z h0 o0 sC0 "firsts" "[J" (.ref o1)) (F_lasts_o0 : Fld Z h0 o0 sC0 "lasts" "[J" (.ref o2)) (F_maxRanges_o0 : Fld Z h0 o0 sC0 "maxRanges" "I" (.int 2147483647)) (F_ranges_o0 : Fld Z h0 o0 sC0 "ranges" "I" (.int 1)) (V_o1 : Arv Z h0 o1 kk_o1 .long (4 : Int32) [(.long q1), (.long 0), (.long 0), (.long 0)] (.long 0)) (V_o2 : Arv Z h0 o2 kk_o2 .long (4 : Int32) [(.long q2), (.long 0), (.long 0), (.long 0)] (.long 0)) (ne_o0_o1 : o0 ≠ o1) (ne_o0_o2 : o0 ≠ o2) (ne_o1_o2 : o1 ≠ o2) (g_o0 : n0 ≤ o0) (g_o1 : n0 ≤ o1) (g_o2 : n0 ≤ o2) (hc0 : ¬ (q3 < (0 : Int64))) (hc1 : ¬ (q4 < q3)) (hc2 : q3 = (0 : Int64)) (hc3 : ¬ (q2 < (0 : Int64))) (hc4 : (q4 + (1 : Int64)) < q1) :
    Pay l Z My4 ws prog_55_method_8_code 13 (some .boolean) #[(.ref o0), (.long q3), (.long q4)] h0 ({ frames := 2, cells := 0, slots := 0, locals := 36 } : Room) (Q4_5 Z w_NONE o0 o1 o2 kk_o1 kk_o2 q3 q4 q0 q1 q2 h0 n0) := by
  refine own_body (plainFor_of_name pn_1) (L0 := #[va o0, vl q3, ss, vl q4, ss, uu, uu, uu, uu, uu, uu, uu, uu]) (fun _ => by first | rfl | (simp [entryFrame, mkF, argsToLocals, Value.category]; done)) ?_
  intro p e s m below meth c s₁ hrt hlk hx hby hml hZ hown0 hnm X0 e0
  have hown : s.vm.findClass sC0 = some m.cls := hown0
  have N0 := Fr.nil n0
  have K0 : Keep h0 h0 [o0, o2, o1] := Keep.refl _ _
  obtain ⟨_, _, ⟨T1, L1, k1, n1⟩, -, X1, ⟨Lc1, hQ1, l1, y1, z1⟩, st1⟩ := Jvm.LawKit.callS X0 hx (y := My5) hown (mvT hZ (ww hw 29 rfl)) (mvT hZ (ww hw 30 rfl)) (mvT hZ (ww hw 5 rfl)) (mvT hZ (ww hw 31 rfl)) (by decide) (backOf (W := 0) (rm5_0 l Z a0 hw [] w_NONE q3 q4 h0 n0 O0 S hc0 hc1) hZ (ww hw 31 rfl) (ww hw 5 rfl) (by decide) (by decide)) (g := (mkF m 2 #[va o0, vl q3, ss, vl q4, ss, uu, uu, uu, uu, uu, uu, uu, uu] [(.long q4), (.long q3)])) rfl (by rw [hml]; rfl) (argsL := [(.long q3), (.long q4)]) (rest := []) (lenOf pd_6 rfl) rfl (by show 2 * 0 + _ ≤ _; exact Nat.le_of_eq rfl) (hb hby d4_2) (fun _ _ => ⟨rfl, e0, (by decide : 0 + 0 ≤ _), (by decide : 0 + 0 ≤ _)⟩)
  dsimp only [Pt.U, Pt.locs, Pt.cells, Pt.slots] at X1 l1 y1 z1 st1 hQ1
  subst l1 y1 z1
  obtain ⟨rfl, Nq1, e1⟩ := hQ1
  have N1 := Fr.app N0 Nq1
  obtain ⟨cq2, qa2, qb2⟩ := E_o0.cell
  obtain ⟨_, _, ⟨T2, L2, k2, n2⟩, -, X2, ⟨Lc2, hQ2, l2, y2, z2⟩, st2⟩ := X1.privateBack hx (y := My6) hown (mvT hZ (ww hw 32 rfl)) (mvT hZ (ww hw 33 rfl)) (own_selp (by decide) (mvT hZ (ww hw 4 rfl)) (mvP hZ (ww hw 34 rfl)) (mvT hZ (ww hw 33 rfl))) (Cond.privateMethod_at (mvP hZ (ww hw 34 rfl) (args := #[]))) (mvT hZ (ww hw 35 rfl)) (by decide) (backOf (W := 0) (rm6_2 l Z a0 hw [] w_NONE o0 o1 o2 kk_o1 kk_o2 q0 q1 q2 h0 n0 O0 S F_lasts_o0 F_ranges_o0 V_o2 hc3) hZ (ww hw 35 rfl) (ww hw 5 rfl) (by decide) (by decide)) (g := (mkF m 19 #[va o0, vl q3, ss, vl q4, ss, uu, uu, uu, uu, uu, uu, uu, uu] [(.long 0), (.ref o0)])) rfl (by rw [hml]; rfl) (Steps.refl _) (a := o0) (by rw [e1]; exact qa2) qb2 (argsL := [(.long 0)]) (rest := []) (lenOf pd_4 rfl) rfl (by show 2 * 0 + _ ≤ _; exact Nat.le_of_eq rfl) (hb hby d4_19) (fun _ _ => ⟨rfl, e1, (by decide : 0 + 0 ≤ _), (by decide : 0 + 0 ≤ _)⟩)
  dsimp only [Pt.U, Pt.locs, Pt.cells, Pt.slots] at X2 l2 y2 z2 st2 hQ2
  subst l2 y2 z2
  obtain ⟨rfl, Nq2, e2⟩ := hQ2
  have N2 := Fr.app N1 Nq2
  obtain ⟨T3, X3, e3, st3⟩ := getF X2 hx hZ hown (host := "") (Or.inl (ww hw 36 rfl)) Via.refl e2 F_ranges_o0 (g := (mkF m 31 #[va o0, vl q3, ss, vl q4, ss, vi 0, vi 0, uu, uu, uu, uu, uu, uu] [(.ref o0), (.int 0)])) rfl rfl (hb hby d4_31)
  obtain ⟨T4, X4, e4, st4⟩ := getF X3 hx hZ hown (host := "") (Or.inl (ww hw 18 rfl)) Via.refl e3 F_firsts_o0 (g := (mkF m 38 #[va o0, vl q3, ss, vl q4, ss, vi 0, vi 0, uu, uu, uu, uu, uu, uu] [(.ref o0)])) rfl rfl (hb hby d4_38)
  obtain ⟨cl5, Ar5, qk5, Sz5, Ng5, Hh5, Gg5⟩ := id V_o1
  have hin5_0 : ¬ ((0 : Int32) < 0 ∨ cl5.slots.size ≤ ((0 : Int32)).toNatClampNeg) := inb_of Sz5 ⟨by decide, by decide⟩
  obtain ⟨T6, X6, e6, st6⟩ := getF X4 hx hZ hown (host := "") (Or.inl (ww hw 36 rfl)) Via.refl e4 F_ranges_o0 (g := (mkF m 68 #[va o0, vl q3, ss, vl q4, ss, vi 0, vi (-1), uu, uu, uu, uu, uu, uu] [(.ref o0)])) rfl rfl (hb hby d4_68)
  obtain ⟨T7, X7, e7, st7⟩ := getF X6 hx hZ hown (host := "") (Or.inl (ww hw 22 rfl)) Via.refl e6 F_maxRanges_o0 (g := (mkF m 72 #[va o0, vl q3, ss, vl q4, ss, vi 0, vi (-1), uu, uu, uu, uu, uu, uu] [(.ref o0), (.int 1)])) rfl rfl (hb hby d4_72)
  obtain ⟨cq8, qa8, qb8⟩ := E_o0.cell
  obtain ⟨_, _, ⟨T8, L8, k8, n8⟩, -, X8, ⟨Lc8, hQ8, l8, y8, z8⟩, st8⟩ := X7.privateBack hx (y := My7) hown (mvT hZ (ww hw 38 rfl)) (mvT hZ (ww hw 39 rfl)) (own_selp (by decide) (mvT hZ (ww hw 4 rfl)) (mvP hZ (ww hw 40 rfl)) (mvT hZ (ww hw 39 rfl))) (Cond.privateMethod_at (mvP hZ (ww hw 40 rfl) (args := #[]))) (mvT hZ (ww hw 41 rfl)) (by decide) (backOf (W := 0) (rm7_2 l Z a0 hw [] w_NONE o0 o1 o2 kk_o1 kk_o2 q3 q4 q0 q1 q2 h0 n0 O0 S E_o0 F_count_o0 F_firsts_o0 F_lasts_o0 F_maxRanges_o0 F_ranges_o0 V_o1 V_o2 ne_o0_o1 ne_o0_o2 ne_o1_o2 g_o0 g_o1 g_o2) hZ (ww hw 41 rfl) (ww hw 5 rfl) (by decide) (by decide)) (g := (mkF m 85 #[va o0, vl q3, ss, vl q4, ss, vi 0, vi (-1), uu, uu, uu, uu, uu, uu] [(.long q4), (.long q3), (.int 0), (.ref o0)])) rfl (by rw [hml]; rfl) (Steps.refl _) (a := o0) (by rw [e7]; exact qa8) qb8 (argsL := [(.int 0), (.long q3), (.long q4)]) (rest := []) (lenOf pd_9 rfl) rfl (by show 2 * 0 + _ ≤ _; exact Nat.le_of_eq rfl) (hb hby d4_85) (fun _ _ => ⟨rfl, e7, (by decide : 0 + 0 ≤ _), (by decide : 0 + 0 ≤ _)⟩)
  dsimp only [Pt.U, Pt.locs, Pt.cells, Pt.slots] at X8 l8 y8 z8 st8 hQ8
  subst l8 y8 z8
  obtain ⟨rfl, Nq8, Kc8, P0_8, P1_8, P2_8, P3_8, P4_8, P5_8, P6_8, P7_8⟩ := hQ8
  have N8 := Fr.app N2 Nq8
  have O8 := O0.keep Kc8 (allS g_o1 (allS g_o2 (allS g_o0 all0)))
  have K8 : Keep h0 T8.heap [o0, o2, o1] := K0.trans Kc8 (allS (Or.inl (List.mem_of_getElem? (i := 2) rfl)) (allS (Or.inl (List.mem_of_getElem? (i := 1) rfl)) (allS (Or.inl (List.mem_of_getElem? (i := 0) rfl)) all0)))
  obtain ⟨T9, X9, e9, st9⟩ := getF X8 hx hZ hown (host := "") (Or.inl (ww hw 59 rfl)) Via.refl rfl P1_8 (g := (mkF m 90 #[va o0, vl q3, ss, vl q4, ss, vi 0, vi (-1), uu, uu, uu, uu, uu, uu] [(.ref o0), (.ref o0)])) rfl rfl (hb hby d4_90)
  obtain ⟨T10, h10, X10, e10, W10, st10⟩ := putF X9 hx hZ hown (host := "") (Or.inl (ww hw 59 rfl)) Via.refl e9 P1_8 P0_8 (Or.inl (ww hw 60 rfl)) (ww hw 4 rfl) (ty := .long) (by decide) rfl rfl (g := (mkF m 99 #[va o0, vl q3, ss, vl q4, ss, vi 0, vi (-1), uu, uu, uu, uu, uu, uu] [(.long (q0 + ((q4 - q3) + (1 : Int64)))), (.ref o0)])) rfl rfl (hb hby d4_99)
  have Fw10 := P1_8.same W10
  have O10 := O8.wr W10 g_o0
  have K10 : Keep h0 h10 [o0, o2, o1] := K8.wr W10 (Or.inl (List.mem_of_getElem? (i := 0) rfl))
  have N10 := Fr.snoc X10 N8 g_o0
  obtain ⟨fs, hr, hrun, hended, hW, hsame⟩ := X10.leave (v := (some (.int 1))) (fun h => by rw [hrt] at h; cases h)
  have fc11 := (P0_8.wr W10)
  have fc12 := (P2_8.other W10 (Or.inr (slot_ne (Or.inl (ww hw 19 rfl)) (Or.inl (ww hw 60 rfl)) (by decide) (t := (.array .long)) (t' := .long) (by decide) (by decide))))
  have fc13 := (P3_8.other W10 (Or.inr (slot_ne (Or.inl (ww hw 21 rfl)) (Or.inl (ww hw 60 rfl)) (by decide) (t := (.array .long)) (t' := .long) (by decide) (by decide))))
  have fc14 := (P4_8.other W10 (Or.inr (slot_ne (Or.inr (ww hw 23 rfl)) (Or.inl (ww hw 60 rfl)) (by decide) (t := .int) (t' := .long) (by decide) (by decide))))
  have fc15 := (P5_8.other W10 (Or.inr (slot_ne (Or.inl (ww hw 37 rfl)) (Or.inl (ww hw 60 rfl)) (by decide) (t := .int) (t' := .long) (by decide) (by decide))))
  have fc16 := (P6_8.other W10 (Ne.symm ne_o0_o1))
  have fc17 := (P7_8.other W10 (Ne.symm ne_o0_o2))
  refine ⟨_, _, ?_, hrun, hended, _, _, rfl, ?_, ⟨_, rfl⟩, hW, hsame.mono (by decide) (by decide)⟩
  · show Steps p.tables e below (s₁.setTop (mkF m 0 #[va o0, vl q3, ss, vl q4, ss, uu, uu, uu, uu, uu, uu, uu, uu] [])) _
    refine XS.lloadN X0.here hx rfl (hb hby d4_0) rfl ?_
    refine XS.lloadN X0.here hx rfl (hb hby d4_1) rfl ?_
    refine st1 _ ?_
    refine XS.aloadN X1.here hx rfl (hb hby d4_5) rfl rfl ?_
    refine XS.lloadN X1.here hx rfl (hb hby d4_6) rfl ?_
    refine XS.lconst X1.here hx rfl (hb hby d4_7) ?_
    refine XS.lcmp X1.here hx rfl (hb hby d4_8) rfl ?_
    refine XS.ifNo X1.here hx rfl (hb hby d4_9) rfl (own_lc_eqT hc2).2 ?_
    show Steps p.tables e below (T1.setTop (mkF m 12 #[va o0, vl q3, ss, vl q4, ss, uu, uu, uu, uu, uu, uu, uu, uu] [(.ref o0)])) _
    refine XS.lconst X1.here hx rfl (hb hby d4_12) ?_
    refine XS.goto X1.here hx rfl (pc0 := 13) (pc' := 19) rfl (hb hby d4_13) (by decide) (by decide) ?_
    refine st2.trans ?_
    refine XS.istore X2.here hx rfl (hb hby d4_22) rfl (l' := #[va o0, vl q3, ss, vl q4, ss, vi 0, uu, uu, uu, uu, uu, uu, uu]) rfl ?_
    refine XS.iload X2.here hx rfl (hb hby d4_24) rfl ?_
    refine XS.istore X2.here hx rfl (hb hby d4_26) rfl (l' := #[va o0, vl q3, ss, vl q4, ss, vi 0, vi 0, uu, uu, uu, uu, uu, uu]) rfl ?_
    refine XS.iload X2.here hx rfl (hb hby d4_28) rfl ?_
    refine XS.aloadN X2.here hx rfl (hb hby d4_30) rfl rfl ?_
    show Steps p.tables e below (T2.setTop (mkF m 31 #[va o0, vl q3, ss, vl q4, ss, vi 0, vi 0, uu, uu, uu, uu, uu, uu] [(.ref o0), (.int 0)])) _
    refine st3 _ ?_
    refine XS.icmpNo X3.here hx rfl (hb hby d4_34) rfl (tlt (by decide : (0 : Int32) < (1 : Int32))).2.1 ?_
    refine XS.aloadN X3.here hx rfl (hb hby d4_37) rfl rfl ?_
    refine st4 _ ?_
    refine XS.iload X4.here hx rfl (hb hby d4_41) rfl ?_
    refine X4.laload hx (j := (0 : Int32)) (v := (.long q1)) (by rw [e4]; exact Ar5.1) (State.isArrayOf_alike hZ.alike Ar5.2.1) Ar5.2.2 hin5_0 (Has.at Hh5 hin5_0 rfl) (g := (mkF m 43 #[va o0, vl q3, ss, vl q4, ss, vi 0, vi 0, uu, uu, uu, uu, uu, uu] [(.int 0), (.ref o1)])) rfl rfl (hb hby d4_43) _ ?_
    refine XS.lloadN X4.here hx rfl (hb hby d4_44) rfl ?_
    refine XS.lconst X4.here hx rfl (hb hby d4_45) ?_
    show Steps p.tables e below (T4.setTop (mkF m 46 #[va o0, vl q3, ss, vl q4, ss, vi 0, vi 0, uu, uu, uu, uu, uu, uu] [(.long 1), (.long q4), (.long q1)])) _
    refine XS.ladd X4.here hx rfl (hb hby d4_46) rfl ?_
    refine XS.lcmp X4.here hx rfl (hb hby d4_47) rfl ?_
    refine XS.ifYes X4.here hx rfl (pc0 := 48) (pc' := 57) rfl (hb hby d4_48) rfl (own_lc_gtT hc4).1 (by decide) (by decide) ?_
    refine XS.iinc X4.here hx rfl (hb hby d4_57) rfl (l' := #[va o0, vl q3, ss, vl q4, ss, vi 0, vi ((0 : Int32) + (-1 : Int32)), uu, uu, uu, uu, uu, uu]) rfl ?_
    show Steps p.tables e below (T4.setTop (mkF m 60 #[va o0, vl q3, ss, vl q4, ss, vi 0, vi ((0 : Int32) + (-1 : Int32)), uu, uu, uu, uu, uu, uu] [])) _
    rw [show (((0 : Int32) + (-1 : Int32)) : Int32) = (-1 : Int32) from by decide]
    refine XS.iload X4.here hx rfl (hb hby d4_60) rfl ?_
    refine XS.iload X4.here hx rfl (hb hby d4_62) rfl ?_
    refine XS.icmpNo X4.here hx rfl (hb hby d4_64) rfl (tlt (by decide : (-1 : Int32) < (0 : Int32))).2.1 ?_
    refine XS.aloadN X4.here hx rfl (hb hby d4_67) rfl rfl ?_
    refine st6 _ ?_
    refine XS.aloadN X6.here hx rfl (hb hby d4_71) rfl rfl ?_
    refine st7 _ ?_
    show Steps p.tables e below (T7.setTop (mkF m 75 #[va o0, vl q3, ss, vl q4, ss, vi 0, vi (-1), uu, uu, uu, uu, uu, uu] [(.int 2147483647), (.int 1)])) _
    refine XS.icmpYes X7.here hx rfl (pc0 := 75) (pc' := 80) rfl (hb hby d4_75) rfl (feq (by decide : ¬ ((1 : Int32) = (2147483647 : Int32)))).2 (by decide) (by decide) ?_
    refine XS.aloadN X7.here hx rfl (hb hby d4_80) rfl rfl ?_
    refine XS.iload X7.here hx rfl (hb hby d4_81) rfl ?_
    refine XS.lloadN X7.here hx rfl (hb hby d4_83) rfl ?_
    refine XS.lloadN X7.here hx rfl (hb hby d4_84) rfl ?_
    refine st8.trans ?_
    refine XS.aloadN X8.here hx rfl (hb hby d4_88) rfl rfl ?_
    refine XS.dup X8.here hx rfl (hb hby d4_89) rfl rfl ?_
    show Steps p.tables e below (T8.setTop (mkF m 90 #[va o0, vl q3, ss, vl q4, ss, vi 0, vi (-1), uu, uu, uu, uu, uu, uu] [(.ref o0), (.ref o0)])) _
    refine st9 _ ?_
    refine XS.lloadN X9.here hx rfl (hb hby d4_93) rfl ?_
    refine XS.lloadN X9.here hx rfl (hb hby d4_94) rfl ?_
    refine XS.lsub X9.here hx rfl (hb hby d4_95) rfl ?_
    refine XS.lconst X9.here hx rfl (hb hby d4_96) ?_
    refine XS.ladd X9.here hx rfl (hb hby d4_97) rfl ?_
    refine XS.ladd X9.here hx rfl (hb hby d4_98) rfl ?_
    refine st10 _ ?_
    show Steps p.tables e below (T10.setTop (mkF m 102 #[va o0, vl q3, ss, vl q4, ss, vi 0, vi (-1), uu, uu, uu, uu, uu, uu] [])) _
    refine XS.goto X10.here hx rfl (pc0 := 102) (pc' := 223) rfl (hb hby d4_102) (by decide) (by decide) ?_
    refine XS.iconst X10.here hx rfl (hb hby d4_223) ?_
    exact retN X10 hx (t := .boolean) hrt (by simp) (hb hby d4_224) hr
  · show Q4_5 Z w_NONE o0 o1 o2 kk_o1 kk_o2 q3 q4 q0 q1 q2 h0 n0 (some (.int 1)) T10.heap _
    rw [e10]; exact ⟨rfl, N10, K10, fc11, Fw10, fc12, fc13, fc14, fc15, fc16, fc17⟩
def Q4_6 (Z : State) (w_NONE : Addr) (o0 : Addr) (o1 : Addr) (o2 : Addr) (kk_o1 : ClassId) (kk_o2 : ClassId) (q3 : Int64) (q4 : Int64) (q0 : Int64) (q1 : Int64) (q2 : Int64) (h0 : Heap) (n0 : Nat) (v : Option Value) (h : Heap) (L : List Loc) : Prop := v = (some (.int 1)) ∧ Fr n0 L ∧ Keep h0 h [o0, o2, o1] ∧ Exa Z h o0 sC0 ∧ Fld Z h o0 sC0 "count" "J" (.long (q0 + ((q4 - q3) + (1 : Int64)))) ∧ Fld Z h o0 sC0 "firsts" "[J" (.ref o1) ∧ Fld Z h o0 sC0 "lasts" "[J" (.ref o2) ∧ Fld Z h o0 sC0 "maxRanges" "I" (.int 2147483647) ∧ Fld Z h o0 sC0 "ranges" "I" (.int 2) ∧ Arv Z h o1 kk_o1 .long (4 : Int32) [(.long q3), (.long q1), (.long 0), (.long 0)] (.long 0) ∧ Arv Z h o2 kk_o2 .long (4 : Int32) [(.long q4), (.long q2), (.long 0), (.long 0)] (.long 0)
theorem rm4_6 (l : Launch) (Z : State) (a0 : Array Value) (hw : HW Z a0) (ws : List Jvm.Cond) (w_NONE : Addr) (o0 : Addr) (o1 : Addr) (o2 : Addr) (kk_o1 : ClassId) (kk_o2 : ClassId) (q3 : Int64) (q4 : Int64) (q0 : Int64) (q1 : Int64) (q2 : Int64) (h0 : Heap) (n0 : Nat) (O0 : Old Z n0 h0) (S : SF Z w_NONE) (E_o0 : Exa Z h0 o0 sC0) (F_count_o0 : Fld Z h0 o0 sC0 "count" "J" (.long q0)) (F_firsts_o0 : Fld Z h0 o0 sC0 "firsts" "[J" (.ref o1)) (F_lasts_o0 : Fld Z h0 o0 sC0 "lasts" "[J" (.ref o2)) (F_maxRanges_o0 : Fld Z h0 o0 sC0 "maxRanges" "I" (.int 2147483647)) (F_ranges_o0 : Fld Z h0 o0 sC0 "ranges" "I" (.int 1)) (V_o1 : Arv Z h0 o1 kk_o1 .long (4 : Int32) [(.long q1), (.long 0), (.long 0), (.long 0)] (.long 0)) (V_o2 : Arv Z h0 o2 kk_o2 .long (4 : Int32) [(.long q2), (.long 0), (.long 0), (.long 0)] (.long 0)) (ne_o0_o1 : o0 ≠ o1) (ne_o0_o2 : o0 ≠ o2) (ne_o1_o2 : o1 ≠ o2) (g_o0 : n0 ≤ o0) (g_o1 : n0 ≤ o1) (g_o2 : n0 ≤ o2) (hc0 : ¬ (q3 < (0 : Int64))) (hc1 : ¬ (q4 < q3)) (hc2 : ¬ (q3 = (0 : Int64))) (hc3 : ¬ (q2 < (q3 - (1 : Int64)))) (hc4 : (q4 + (1 : Int64)) < q1) :
    Pay l Z My4 ws prog_55_method_8_code 13 (some .boolean) #[(.ref o0), (.long q3), (.long q4)] h0 ({ frames := 2, cells := 0, slots := 0, locals := 36 } : Room) (Q4_6 Z w_NONE o0 o1 o2 kk_o1 kk_o2 q3 q4 q0 q1 q2 h0 n0) := by
  refine own_body (plainFor_of_name pn_1) (L0 := #[va o0, vl q3, ss, vl q4, ss, uu, uu, uu, uu, uu, uu, uu, uu]) (fun _ => by first | rfl | (simp [entryFrame, mkF, argsToLocals, Value.category]; done)) ?_
  intro p e s m below meth c s₁ hrt hlk hx hby hml hZ hown0 hnm X0 e0
  have hown : s.vm.findClass sC0 = some m.cls := hown0
  have N0 := Fr.nil n0
  have K0 : Keep h0 h0 [o0, o2, o1] := Keep.refl _ _
  obtain ⟨_, _, ⟨T1, L1, k1, n1⟩, -, X1, ⟨Lc1, hQ1, l1, y1, z1⟩, st1⟩ := Jvm.LawKit.callS X0 hx (y := My5) hown (mvT hZ (ww hw 29 rfl)) (mvT hZ (ww hw 30 rfl)) (mvT hZ (ww hw 5 rfl)) (mvT hZ (ww hw 31 rfl)) (by decide) (backOf (W := 0) (rm5_0 l Z a0 hw [] w_NONE q3 q4 h0 n0 O0 S hc0 hc1) hZ (ww hw 31 rfl) (ww hw 5 rfl) (by decide) (by decide)) (g := (mkF m 2 #[va o0, vl q3, ss, vl q4, ss, uu, uu, uu, uu, uu, uu, uu, uu] [(.long q4), (.long q3)])) rfl (by rw [hml]; rfl) (argsL := [(.long q3), (.long q4)]) (rest := []) (lenOf pd_6 rfl) rfl (by show 2 * 0 + _ ≤ _; exact Nat.le_of_eq rfl) (hb hby d4_2) (fun _ _ => ⟨rfl, e0, (by decide : 0 + 0 ≤ _), (by decide : 0 + 0 ≤ _)⟩)
  dsimp only [Pt.U, Pt.locs, Pt.cells, Pt.slots] at X1 l1 y1 z1 st1 hQ1
  subst l1 y1 z1
  obtain ⟨rfl, Nq1, e1⟩ := hQ1
  have N1 := Fr.app N0 Nq1
  obtain ⟨cq2, qa2, qb2⟩ := E_o0.cell
  obtain ⟨_, _, ⟨T2, L2, k2, n2⟩, -, X2, ⟨Lc2, hQ2, l2, y2, z2⟩, st2⟩ := X1.privateBack hx (y := My6) hown (mvT hZ (ww hw 32 rfl)) (mvT hZ (ww hw 33 rfl)) (own_selp (by decide) (mvT hZ (ww hw 4 rfl)) (mvP hZ (ww hw 34 rfl)) (mvT hZ (ww hw 33 rfl))) (Cond.privateMethod_at (mvP hZ (ww hw 34 rfl) (args := #[]))) (mvT hZ (ww hw 35 rfl)) (by decide) (backOf (W := 0) (rm6_3 l Z a0 hw [] w_NONE o0 o1 o2 kk_o1 kk_o2 (q3 - (1 : Int64)) q0 q1 q2 h0 n0 O0 S F_lasts_o0 F_ranges_o0 V_o2 hc3) hZ (ww hw 35 rfl) (ww hw 5 rfl) (by decide) (by decide)) (g := (mkF m 19 #[va o0, vl q3, ss, vl q4, ss, uu, uu, uu, uu, uu, uu, uu, uu] [(.long (q3 - (1 : Int64))), (.ref o0)])) rfl (by rw [hml]; rfl) (Steps.refl _) (a := o0) (by rw [e1]; exact qa2) qb2 (argsL := [(.long (q3 - (1 : Int64)))]) (rest := []) (lenOf pd_4 rfl) rfl (by show 2 * 0 + _ ≤ _; exact Nat.le_of_eq rfl) (hb hby d4_19) (fun _ _ => ⟨rfl, e1, (by decide : 0 + 0 ≤ _), (by decide : 0 + 0 ≤ _)⟩)
  dsimp only [Pt.U, Pt.locs, Pt.cells, Pt.slots] at X2 l2 y2 z2 st2 hQ2
  subst l2 y2 z2
  obtain ⟨rfl, Nq2, e2⟩ := hQ2
  have N2 := Fr.app N1 Nq2
  obtain ⟨T3, X3, e3, st3⟩ := getF X2 hx hZ hown (host := "") (Or.inl (ww hw 36 rfl)) Via.refl e2 F_ranges_o0 (g := (mkF m 31 #[va o0, vl q3, ss, vl q4, ss, vi 0, vi 0, uu, uu, uu, uu, uu, uu] [(.ref o0), (.int 0)])) rfl rfl (hb hby d4_31)
  obtain ⟨T4, X4, e4, st4⟩ := getF X3 hx hZ hown (host := "") (Or.inl (ww hw 18 rfl)) Via.refl e3 F_firsts_o0 (g := (mkF m 38 #[va o0, vl q3, ss, vl q4, ss, vi 0, vi 0, uu, uu, uu, uu, uu, uu] [(.ref o0)])) rfl rfl (hb hby d4_38)
  obtain ⟨cl5, Ar5, qk5, Sz5, Ng5, Hh5, Gg5⟩ := id V_o1
  have hin5_0 : ¬ ((0 : Int32) < 0 ∨ cl5.slots.size ≤ ((0 : Int32)).toNatClampNeg) := inb_of Sz5 ⟨by decide, by decide⟩
  obtain ⟨T6, X6, e6, st6⟩ := getF X4 hx hZ hown (host := "") (Or.inl (ww hw 36 rfl)) Via.refl e4 F_ranges_o0 (g := (mkF m 68 #[va o0, vl q3, ss, vl q4, ss, vi 0, vi (-1), uu, uu, uu, uu, uu, uu] [(.ref o0)])) rfl rfl (hb hby d4_68)
  obtain ⟨T7, X7, e7, st7⟩ := getF X6 hx hZ hown (host := "") (Or.inl (ww hw 22 rfl)) Via.refl e6 F_maxRanges_o0 (g := (mkF m 72 #[va o0, vl q3, ss, vl q4, ss, vi 0, vi (-1), uu, uu, uu, uu, uu, uu] [(.ref o0), (.int 1)])) rfl rfl (hb hby d4_72)
  obtain ⟨cq8, qa8, qb8⟩ := E_o0.cell
  obtain ⟨_, _, ⟨T8, L8, k8, n8⟩, -, X8, ⟨Lc8, hQ8, l8, y8, z8⟩, st8⟩ := X7.privateBack hx (y := My7) hown (mvT hZ (ww hw 38 rfl)) (mvT hZ (ww hw 39 rfl)) (own_selp (by decide) (mvT hZ (ww hw 4 rfl)) (mvP hZ (ww hw 40 rfl)) (mvT hZ (ww hw 39 rfl))) (Cond.privateMethod_at (mvP hZ (ww hw 40 rfl) (args := #[]))) (mvT hZ (ww hw 41 rfl)) (by decide) (backOf (W := 0) (rm7_2 l Z a0 hw [] w_NONE o0 o1 o2 kk_o1 kk_o2 q3 q4 q0 q1 q2 h0 n0 O0 S E_o0 F_count_o0 F_firsts_o0 F_lasts_o0 F_maxRanges_o0 F_ranges_o0 V_o1 V_o2 ne_o0_o1 ne_o0_o2 ne_o1_o2 g_o0 g_o1 g_o2) hZ (ww hw 41 rfl) (ww hw 5 rfl) (by decide) (by decide)) (g := (mkF m 85 #[va o0, vl q3, ss, vl q4, ss, vi 0, vi (-1), uu, uu, uu, uu, uu, uu] [(.long q4), (.long q3), (.int 0), (.ref o0)])) rfl (by rw [hml]; rfl) (Steps.refl _) (a := o0) (by rw [e7]; exact qa8) qb8 (argsL := [(.int 0), (.long q3), (.long q4)]) (rest := []) (lenOf pd_9 rfl) rfl (by show 2 * 0 + _ ≤ _; exact Nat.le_of_eq rfl) (hb hby d4_85) (fun _ _ => ⟨rfl, e7, (by decide : 0 + 0 ≤ _), (by decide : 0 + 0 ≤ _)⟩)
  dsimp only [Pt.U, Pt.locs, Pt.cells, Pt.slots] at X8 l8 y8 z8 st8 hQ8
  subst l8 y8 z8
  obtain ⟨rfl, Nq8, Kc8, P0_8, P1_8, P2_8, P3_8, P4_8, P5_8, P6_8, P7_8⟩ := hQ8
  have N8 := Fr.app N2 Nq8
  have O8 := O0.keep Kc8 (allS g_o1 (allS g_o2 (allS g_o0 all0)))
  have K8 : Keep h0 T8.heap [o0, o2, o1] := K0.trans Kc8 (allS (Or.inl (List.mem_of_getElem? (i := 2) rfl)) (allS (Or.inl (List.mem_of_getElem? (i := 1) rfl)) (allS (Or.inl (List.mem_of_getElem? (i := 0) rfl)) all0)))
  obtain ⟨T9, X9, e9, st9⟩ := getF X8 hx hZ hown (host := "") (Or.inl (ww hw 59 rfl)) Via.refl rfl P1_8 (g := (mkF m 90 #[va o0, vl q3, ss, vl q4, ss, vi 0, vi (-1), uu, uu, uu, uu, uu, uu] [(.ref o0), (.ref o0)])) rfl rfl (hb hby d4_90)
  obtain ⟨T10, h10, X10, e10, W10, st10⟩ := putF X9 hx hZ hown (host := "") (Or.inl (ww hw 59 rfl)) Via.refl e9 P1_8 P0_8 (Or.inl (ww hw 60 rfl)) (ww hw 4 rfl) (ty := .long) (by decide) rfl rfl (g := (mkF m 99 #[va o0, vl q3, ss, vl q4, ss, vi 0, vi (-1), uu, uu, uu, uu, uu, uu] [(.long (q0 + ((q4 - q3) + (1 : Int64)))), (.ref o0)])) rfl rfl (hb hby d4_99)
  have Fw10 := P1_8.same W10
  have O10 := O8.wr W10 g_o0
  have K10 : Keep h0 h10 [o0, o2, o1] := K8.wr W10 (Or.inl (List.mem_of_getElem? (i := 0) rfl))
  have N10 := Fr.snoc X10 N8 g_o0
  obtain ⟨fs, hr, hrun, hended, hW, hsame⟩ := X10.leave (v := (some (.int 1))) (fun h => by rw [hrt] at h; cases h)
  have fc11 := (P0_8.wr W10)
  have fc12 := (P2_8.other W10 (Or.inr (slot_ne (Or.inl (ww hw 19 rfl)) (Or.inl (ww hw 60 rfl)) (by decide) (t := (.array .long)) (t' := .long) (by decide) (by decide))))
  have fc13 := (P3_8.other W10 (Or.inr (slot_ne (Or.inl (ww hw 21 rfl)) (Or.inl (ww hw 60 rfl)) (by decide) (t := (.array .long)) (t' := .long) (by decide) (by decide))))
  have fc14 := (P4_8.other W10 (Or.inr (slot_ne (Or.inr (ww hw 23 rfl)) (Or.inl (ww hw 60 rfl)) (by decide) (t := .int) (t' := .long) (by decide) (by decide))))
  have fc15 := (P5_8.other W10 (Or.inr (slot_ne (Or.inl (ww hw 37 rfl)) (Or.inl (ww hw 60 rfl)) (by decide) (t := .int) (t' := .long) (by decide) (by decide))))
  have fc16 := (P6_8.other W10 (Ne.symm ne_o0_o1))
  have fc17 := (P7_8.other W10 (Ne.symm ne_o0_o2))
  refine ⟨_, _, ?_, hrun, hended, _, _, rfl, ?_, ⟨_, rfl⟩, hW, hsame.mono (by decide) (by decide)⟩
  · show Steps p.tables e below (s₁.setTop (mkF m 0 #[va o0, vl q3, ss, vl q4, ss, uu, uu, uu, uu, uu, uu, uu, uu] [])) _
    refine XS.lloadN X0.here hx rfl (hb hby d4_0) rfl ?_
    refine XS.lloadN X0.here hx rfl (hb hby d4_1) rfl ?_
    refine st1 _ ?_
    refine XS.aloadN X1.here hx rfl (hb hby d4_5) rfl rfl ?_
    refine XS.lloadN X1.here hx rfl (hb hby d4_6) rfl ?_
    refine XS.lconst X1.here hx rfl (hb hby d4_7) ?_
    refine XS.lcmp X1.here hx rfl (hb hby d4_8) rfl ?_
    refine XS.ifYes X1.here hx rfl (pc0 := 9) (pc' := 16) rfl (hb hby d4_9) rfl (own_lc_eqF hc2).2 (by decide) (by decide) ?_
    show Steps p.tables e below (T1.setTop (mkF m 16 #[va o0, vl q3, ss, vl q4, ss, uu, uu, uu, uu, uu, uu, uu, uu] [(.ref o0)])) _
    refine XS.lloadN X1.here hx rfl (hb hby d4_16) rfl ?_
    refine XS.lconst X1.here hx rfl (hb hby d4_17) ?_
    refine XS.lsub X1.here hx rfl (hb hby d4_18) rfl ?_
    refine st2.trans ?_
    refine XS.istore X2.here hx rfl (hb hby d4_22) rfl (l' := #[va o0, vl q3, ss, vl q4, ss, vi 0, uu, uu, uu, uu, uu, uu, uu]) rfl ?_
    refine XS.iload X2.here hx rfl (hb hby d4_24) rfl ?_
    refine XS.istore X2.here hx rfl (hb hby d4_26) rfl (l' := #[va o0, vl q3, ss, vl q4, ss, vi 0, vi 0, uu, uu, uu, uu, uu, uu]) rfl ?_
    refine XS.iload X2.here hx rfl (hb hby d4_28) rfl ?_
    show Steps p.tables e below (T2.setTop (mkF m 30 #[va o0, vl q3, ss, vl q4, ss, vi 0, vi 0, uu, uu, uu, uu, uu, uu] [(.int 0)])) _
    refine XS.aloadN X2.here hx rfl (hb hby d4_30) rfl rfl ?_
    refine st3 _ ?_
    refine XS.icmpNo X3.here hx rfl (hb hby d4_34) rfl (tlt (by decide : (0 : Int32) < (1 : Int32))).2.1 ?_
    refine XS.aloadN X3.here hx rfl (hb hby d4_37) rfl rfl ?_
    refine st4 _ ?_
    refine XS.iload X4.here hx rfl (hb hby d4_41) rfl ?_
    refine X4.laload hx (j := (0 : Int32)) (v := (.long q1)) (by rw [e4]; exact Ar5.1) (State.isArrayOf_alike hZ.alike Ar5.2.1) Ar5.2.2 hin5_0 (Has.at Hh5 hin5_0 rfl) (g := (mkF m 43 #[va o0, vl q3, ss, vl q4, ss, vi 0, vi 0, uu, uu, uu, uu, uu, uu] [(.int 0), (.ref o1)])) rfl rfl (hb hby d4_43) _ ?_
    refine XS.lloadN X4.here hx rfl (hb hby d4_44) rfl ?_
    show Steps p.tables e below (T4.setTop (mkF m 45 #[va o0, vl q3, ss, vl q4, ss, vi 0, vi 0, uu, uu, uu, uu, uu, uu] [(.long q4), (.long q1)])) _
    refine XS.lconst X4.here hx rfl (hb hby d4_45) ?_
    refine XS.ladd X4.here hx rfl (hb hby d4_46) rfl ?_
    refine XS.lcmp X4.here hx rfl (hb hby d4_47) rfl ?_
    refine XS.ifYes X4.here hx rfl (pc0 := 48) (pc' := 57) rfl (hb hby d4_48) rfl (own_lc_gtT hc4).1 (by decide) (by decide) ?_
    refine XS.iinc X4.here hx rfl (hb hby d4_57) rfl (l' := #[va o0, vl q3, ss, vl q4, ss, vi 0, vi ((0 : Int32) + (-1 : Int32)), uu, uu, uu, uu, uu, uu]) rfl ?_
    show Steps p.tables e below (T4.setTop (mkF m 60 #[va o0, vl q3, ss, vl q4, ss, vi 0, vi ((0 : Int32) + (-1 : Int32)), uu, uu, uu, uu, uu, uu] [])) _
    rw [show (((0 : Int32) + (-1 : Int32)) : Int32) = (-1 : Int32) from by decide]
    refine XS.iload X4.here hx rfl (hb hby d4_60) rfl ?_
    refine XS.iload X4.here hx rfl (hb hby d4_62) rfl ?_
    refine XS.icmpNo X4.here hx rfl (hb hby d4_64) rfl (tlt (by decide : (-1 : Int32) < (0 : Int32))).2.1 ?_
    refine XS.aloadN X4.here hx rfl (hb hby d4_67) rfl rfl ?_
    refine st6 _ ?_
    refine XS.aloadN X6.here hx rfl (hb hby d4_71) rfl rfl ?_
    refine st7 _ ?_
    show Steps p.tables e below (T7.setTop (mkF m 75 #[va o0, vl q3, ss, vl q4, ss, vi 0, vi (-1), uu, uu, uu, uu, uu, uu] [(.int 2147483647), (.int 1)])) _
    refine XS.icmpYes X7.here hx rfl (pc0 := 75) (pc' := 80) rfl (hb hby d4_75) rfl (feq (by decide : ¬ ((1 : Int32) = (2147483647 : Int32)))).2 (by decide) (by decide) ?_
    refine XS.aloadN X7.here hx rfl (hb hby d4_80) rfl rfl ?_
    refine XS.iload X7.here hx rfl (hb hby d4_81) rfl ?_
    refine XS.lloadN X7.here hx rfl (hb hby d4_83) rfl ?_
    refine XS.lloadN X7.here hx rfl (hb hby d4_84) rfl ?_
    refine st8.trans ?_
    refine XS.aloadN X8.here hx rfl (hb hby d4_88) rfl rfl ?_
    refine XS.dup X8.here hx rfl (hb hby d4_89) rfl rfl ?_
    show Steps p.tables e below (T8.setTop (mkF m 90 #[va o0, vl q3, ss, vl q4, ss, vi 0, vi (-1), uu, uu, uu, uu, uu, uu] [(.ref o0), (.ref o0)])) _
    refine st9 _ ?_
    refine XS.lloadN X9.here hx rfl (hb hby d4_93) rfl ?_
    refine XS.lloadN X9.here hx rfl (hb hby d4_94) rfl ?_
    refine XS.lsub X9.here hx rfl (hb hby d4_95) rfl ?_
    refine XS.lconst X9.here hx rfl (hb hby d4_96) ?_
    refine XS.ladd X9.here hx rfl (hb hby d4_97) rfl ?_
    refine XS.ladd X9.here hx rfl (hb hby d4_98) rfl ?_
    refine st10 _ ?_
    show Steps p.tables e below (T10.setTop (mkF m 102 #[va o0, vl q3, ss, vl q4, ss, vi 0, vi (-1), uu, uu, uu, uu, uu, uu] [])) _
    refine XS.goto X10.here hx rfl (pc0 := 102) (pc' := 223) rfl (hb hby d4_102) (by decide) (by decide) ?_
    refine XS.iconst X10.here hx rfl (hb hby d4_223) ?_
    exact retN X10 hx (t := .boolean) hrt (by simp) (hb hby d4_224) hr
  · show Q4_6 Z w_NONE o0 o1 o2 kk_o1 kk_o2 q3 q4 q0 q1 q2 h0 n0 (some (.int 1)) T10.heap _
    rw [e10]; exact ⟨rfl, N10, K10, fc11, Fw10, fc12, fc13, fc14, fc15, fc16, fc17⟩
theorem ow9 (p2 : Int64) (v2 : Int64) (hv2 : v2 = (p2 &&& (4611686018427387903 : Int64))) : ¬ (v2 < (0 : Int64)) := by
  rw [Int64.lt_iff_toInt_lt]
  have u_v2 := congrArg Int64.toInt hv2
  have t1a := Int64.toInt_lt p2
  have t1b := Int64.le_toInt p2
  have t2 : ((4611686018427387903 : Int64) : Int64).toInt = 4611686018427387903 := by decide
  have t3 := Jvm.Kit.i64_mask p2 (4611686018427387903 : Int64) (k := 62) (by decide) (by decide)
  have t4a := Int64.toInt_lt v2
  have t4b := Int64.le_toInt v2
  have t5 : ((0 : Int64) : Int64).toInt = 0 := by decide
  omega
theorem ow10 (p2 : Int64) (p3 : Int64) (v2 : Int64) (v3 : Int64) (hv2 : v2 = (p2 &&& (4611686018427387903 : Int64))) (hv3 : v3 = (v2 + (p3 &&& (65535 : Int64)))) (hc7 : ¬ (v2 < (0 : Int64))) : ¬ (v3 < v2) := by
  rw [Int64.lt_iff_toInt_lt] at hc7
  rw [Int64.lt_iff_toInt_lt]
  have u_v2 := congrArg Int64.toInt hv2
  have u_v3 := congrArg Int64.toInt hv3
  have t1a := Int64.toInt_lt p2
  have t1b := Int64.le_toInt p2
  have t2 : ((4611686018427387903 : Int64) : Int64).toInt = 4611686018427387903 := by decide
  have t3 := Jvm.Kit.i64_mask p2 (4611686018427387903 : Int64) (k := 62) (by decide) (by decide)
  have t4a := Int64.toInt_lt v2
  have t4b := Int64.le_toInt v2
  have t5a := Int64.toInt_lt p3
  have t5b := Int64.le_toInt p3
  have t6 : ((65535 : Int64) : Int64).toInt = 65535 := by decide
  have t7 := Jvm.Kit.i64_mask p3 (65535 : Int64) (k := 16) (by decide) (by decide)
  have t8 := Jvm.Kit.i64_add (x := v2) (y := (p3 &&& (65535 : Int64))) (by omega) (by omega)
  have t9 : ((0 : Int64) : Int64).toInt = 0 := by decide
  have t10a := Int64.toInt_lt v3
  have t10b := Int64.le_toInt v3
  omega
theorem ow11 (p0 : Int64) (v0 : Int64) (hv0 : v0 = (p0 &&& (4611686018427387903 : Int64))) : ¬ (v0 < (0 : Int64)) := by
  rw [Int64.lt_iff_toInt_lt]
  have u_v0 := congrArg Int64.toInt hv0
  have t1a := Int64.toInt_lt p0
  have t1b := Int64.le_toInt p0
  have t2 : ((4611686018427387903 : Int64) : Int64).toInt = 4611686018427387903 := by decide
  have t3 := Jvm.Kit.i64_mask p0 (4611686018427387903 : Int64) (k := 62) (by decide) (by decide)
  have t4a := Int64.toInt_lt v0
  have t4b := Int64.le_toInt v0
  have t5 : ((0 : Int64) : Int64).toInt = 0 := by decide
  omega
theorem ow12 (p0 : Int64) (p1 : Int64) (v0 : Int64) (v1 : Int64) (hv0 : v0 = (p0 &&& (4611686018427387903 : Int64))) (hv1 : v1 = (v0 + (p1 &&& (65535 : Int64)))) (hc5 : ¬ (v0 < (0 : Int64))) : ¬ (v1 < v0) := by
  rw [Int64.lt_iff_toInt_lt] at hc5
  rw [Int64.lt_iff_toInt_lt]
  have u_v0 := congrArg Int64.toInt hv0
  have u_v1 := congrArg Int64.toInt hv1
  have t1a := Int64.toInt_lt p0
  have t1b := Int64.le_toInt p0
  have t2 : ((4611686018427387903 : Int64) : Int64).toInt = 4611686018427387903 := by decide
  have t3 := Jvm.Kit.i64_mask p0 (4611686018427387903 : Int64) (k := 62) (by decide) (by decide)
  have t4a := Int64.toInt_lt v0
  have t4b := Int64.le_toInt v0
  have t5a := Int64.toInt_lt p1
  have t5b := Int64.le_toInt p1
  have t6 : ((65535 : Int64) : Int64).toInt = 65535 := by decide
  have t7 := Jvm.Kit.i64_mask p1 (65535 : Int64) (k := 16) (by decide) (by decide)
  have t8 := Jvm.Kit.i64_add (x := v0) (y := (p1 &&& (65535 : Int64))) (by omega) (by omega)
  have t9 : ((0 : Int64) : Int64).toInt = 0 := by decide
  have t10a := Int64.toInt_lt v1
  have t10b := Int64.le_toInt v1
  omega
theorem ow13 (p2 : Int64) (p3 : Int64) (v2 : Int64) (v3 : Int64) (hv2 : v2 = (p2 &&& (4611686018427387903 : Int64))) (hv3 : v3 = (v2 + (p3 &&& (65535 : Int64)))) (hc12 : ¬ (v2 < (0 : Int64))) : ¬ (v3 < v2) := by
  rw [Int64.lt_iff_toInt_lt] at hc12
  rw [Int64.lt_iff_toInt_lt]
  have u_v2 := congrArg Int64.toInt hv2
  have u_v3 := congrArg Int64.toInt hv3
  have t1a := Int64.toInt_lt p2
  have t1b := Int64.le_toInt p2
  have t2 : ((4611686018427387903 : Int64) : Int64).toInt = 4611686018427387903 := by decide
  have t3 := Jvm.Kit.i64_mask p2 (4611686018427387903 : Int64) (k := 62) (by decide) (by decide)
  have t4a := Int64.toInt_lt v2
  have t4b := Int64.le_toInt v2
  have t5a := Int64.toInt_lt p3
  have t5b := Int64.le_toInt p3
  have t6 : ((65535 : Int64) : Int64).toInt = 65535 := by decide
  have t7 := Jvm.Kit.i64_mask p3 (65535 : Int64) (k := 16) (by decide) (by decide)
  have t8 := Jvm.Kit.i64_add (x := v2) (y := (p3 &&& (65535 : Int64))) (by omega) (by omega)
  have t9 : ((0 : Int64) : Int64).toInt = 0 := by decide
  have t10a := Int64.toInt_lt v3
  have t10b := Int64.le_toInt v3
  omega
theorem ow14 (p0 : Int64) (p1 : Int64) (v0 : Int64) (v1 : Int64) (hv0 : v0 = (p0 &&& (4611686018427387903 : Int64))) (hv1 : v1 = (v0 + (p1 &&& (65535 : Int64)))) (hc5 : ¬ (v0 < (0 : Int64))) (hc6 : ¬ (v1 < v0)) (hc7 : v0 = (0 : Int64)) : ¬ (v1 < (0 : Int64)) := by
  rw [Int64.lt_iff_toInt_lt] at hc5 hc6
  rw [← Int64.toInt_inj] at hc7
  rw [Int64.lt_iff_toInt_lt]
  have u_v0 := congrArg Int64.toInt hv0
  have u_v1 := congrArg Int64.toInt hv1
  have t1a := Int64.toInt_lt p0
  have t1b := Int64.le_toInt p0
  have t2 : ((4611686018427387903 : Int64) : Int64).toInt = 4611686018427387903 := by decide
  have t3 := Jvm.Kit.i64_mask p0 (4611686018427387903 : Int64) (k := 62) (by decide) (by decide)
  have t4a := Int64.toInt_lt v0
  have t4b := Int64.le_toInt v0
  have t5a := Int64.toInt_lt p1
  have t5b := Int64.le_toInt p1
  have t6 : ((65535 : Int64) : Int64).toInt = 65535 := by decide
  have t7 := Jvm.Kit.i64_mask p1 (65535 : Int64) (k := 16) (by decide) (by decide)
  have t8 := Jvm.Kit.i64_add (x := v0) (y := (p1 &&& (65535 : Int64))) (by omega) (by omega)
  have t9 : ((0 : Int64) : Int64).toInt = 0 := by decide
  have t10a := Int64.toInt_lt v1
  have t10b := Int64.le_toInt v1
  omega
theorem ow15 (p0 : Int64) (p1 : Int64) (p2 : Int64) (p3 : Int64) (v0 : Int64) (v1 : Int64) (v2 : Int64) (v3 : Int64) (hv0 : v0 = (p0 &&& (4611686018427387903 : Int64))) (hv1 : v1 = (v0 + (p1 &&& (65535 : Int64)))) (hv2 : v2 = (p2 &&& (4611686018427387903 : Int64))) (hv3 : v3 = (v2 + (p3 &&& (65535 : Int64)))) (hc5 : ¬ (v0 < (0 : Int64))) (hc6 : ¬ (v1 < v0)) (hc7 : v0 = (0 : Int64)) (hc12 : ¬ (v2 < (0 : Int64))) (hc13 : ¬ (v3 < v2)) (hc14 : v2 = (0 : Int64)) (hc16 : ¬ (v1 < (0 : Int64))) : ¬ ((v3 + (1 : Int64)) < v0) := by
  rw [Int64.lt_iff_toInt_lt] at hc5 hc6 hc12 hc13 hc16
  rw [← Int64.toInt_inj] at hc7 hc14
  rw [Int64.lt_iff_toInt_lt]
  have u_v0 := congrArg Int64.toInt hv0
  have u_v1 := congrArg Int64.toInt hv1
  have u_v2 := congrArg Int64.toInt hv2
  have u_v3 := congrArg Int64.toInt hv3
  have t1a := Int64.toInt_lt p0
  have t1b := Int64.le_toInt p0
  have t2 : ((4611686018427387903 : Int64) : Int64).toInt = 4611686018427387903 := by decide
  have t3 := Jvm.Kit.i64_mask p0 (4611686018427387903 : Int64) (k := 62) (by decide) (by decide)
  have t4a := Int64.toInt_lt v0
  have t4b := Int64.le_toInt v0
  have t5a := Int64.toInt_lt p1
  have t5b := Int64.le_toInt p1
  have t6 : ((65535 : Int64) : Int64).toInt = 65535 := by decide
  have t7 := Jvm.Kit.i64_mask p1 (65535 : Int64) (k := 16) (by decide) (by decide)
  have t8 := Jvm.Kit.i64_add (x := v0) (y := (p1 &&& (65535 : Int64))) (by omega) (by omega)
  have t9a := Int64.toInt_lt p2
  have t9b := Int64.le_toInt p2
  have t10 := Jvm.Kit.i64_mask p2 (4611686018427387903 : Int64) (k := 62) (by decide) (by decide)
  have t11a := Int64.toInt_lt v2
  have t11b := Int64.le_toInt v2
  have t12a := Int64.toInt_lt p3
  have t12b := Int64.le_toInt p3
  have t13 := Jvm.Kit.i64_mask p3 (65535 : Int64) (k := 16) (by decide) (by decide)
  have t14 := Jvm.Kit.i64_add (x := v2) (y := (p3 &&& (65535 : Int64))) (by omega) (by omega)
  have t15 : ((0 : Int64) : Int64).toInt = 0 := by decide
  have t16a := Int64.toInt_lt v1
  have t16b := Int64.le_toInt v1
  have t17a := Int64.toInt_lt v3
  have t17b := Int64.le_toInt v3
  have t18 : ((1 : Int64) : Int64).toInt = 1 := by decide
  have t19 := Jvm.Kit.i64_add (x := v3) (y := (1 : Int64)) (by omega) (by omega)
  omega
theorem ow16 (p0 : Int64) (p1 : Int64) (p2 : Int64) (p3 : Int64) (v0 : Int64) (v1 : Int64) (v2 : Int64) (v3 : Int64) (hv0 : v0 = (p0 &&& (4611686018427387903 : Int64))) (hv1 : v1 = (v0 + (p1 &&& (65535 : Int64)))) (hv2 : v2 = (p2 &&& (4611686018427387903 : Int64))) (hv3 : v3 = (v2 + (p3 &&& (65535 : Int64)))) (hc5 : ¬ (v0 < (0 : Int64))) (hc6 : ¬ (v1 < v0)) (hc7 : v0 = (0 : Int64)) (hc12 : ¬ (v2 < (0 : Int64))) (hc13 : ¬ (v3 < v2)) (hc14 : ¬ (v2 = (0 : Int64))) (hc16 : ¬ (v1 < (v2 - (1 : Int64)))) : ¬ ((v3 + (1 : Int64)) < v0) := by
  rw [Int64.lt_iff_toInt_lt] at hc5 hc6 hc12 hc13 hc16
  rw [← Int64.toInt_inj] at hc7 hc14
  rw [Int64.lt_iff_toInt_lt]
  have u_v0 := congrArg Int64.toInt hv0
  have u_v1 := congrArg Int64.toInt hv1
  have u_v2 := congrArg Int64.toInt hv2
  have u_v3 := congrArg Int64.toInt hv3
  have t1a := Int64.toInt_lt p0
  have t1b := Int64.le_toInt p0
  have t2 : ((4611686018427387903 : Int64) : Int64).toInt = 4611686018427387903 := by decide
  have t3 := Jvm.Kit.i64_mask p0 (4611686018427387903 : Int64) (k := 62) (by decide) (by decide)
  have t4a := Int64.toInt_lt v0
  have t4b := Int64.le_toInt v0
  have t5a := Int64.toInt_lt p1
  have t5b := Int64.le_toInt p1
  have t6 : ((65535 : Int64) : Int64).toInt = 65535 := by decide
  have t7 := Jvm.Kit.i64_mask p1 (65535 : Int64) (k := 16) (by decide) (by decide)
  have t8 := Jvm.Kit.i64_add (x := v0) (y := (p1 &&& (65535 : Int64))) (by omega) (by omega)
  have t9a := Int64.toInt_lt p2
  have t9b := Int64.le_toInt p2
  have t10 := Jvm.Kit.i64_mask p2 (4611686018427387903 : Int64) (k := 62) (by decide) (by decide)
  have t11a := Int64.toInt_lt v2
  have t11b := Int64.le_toInt v2
  have t12a := Int64.toInt_lt p3
  have t12b := Int64.le_toInt p3
  have t13 := Jvm.Kit.i64_mask p3 (65535 : Int64) (k := 16) (by decide) (by decide)
  have t14 := Jvm.Kit.i64_add (x := v2) (y := (p3 &&& (65535 : Int64))) (by omega) (by omega)
  have t15 : ((0 : Int64) : Int64).toInt = 0 := by decide
  have t16a := Int64.toInt_lt v1
  have t16b := Int64.le_toInt v1
  have t17a := Int64.toInt_lt v3
  have t17b := Int64.le_toInt v3
  have t18 : ((1 : Int64) : Int64).toInt = 1 := by decide
  have t19 := Jvm.Kit.i64_sub (x := v2) (y := (1 : Int64)) (by omega) (by omega)
  have t20 := Jvm.Kit.i64_add (x := v3) (y := (1 : Int64)) (by omega) (by omega)
  omega
theorem ow17 (p0 : Int64) (p1 : Int64) (v0 : Int64) (v1 : Int64) (hv0 : v0 = (p0 &&& (4611686018427387903 : Int64))) (hv1 : v1 = (v0 + (p1 &&& (65535 : Int64)))) (hc5 : ¬ (v0 < (0 : Int64))) (hc6 : ¬ (v1 < v0)) (hc7 : ¬ (v0 = (0 : Int64))) : ¬ (v1 < (0 : Int64)) := by
  rw [Int64.lt_iff_toInt_lt] at hc5 hc6
  rw [← Int64.toInt_inj] at hc7
  rw [Int64.lt_iff_toInt_lt]
  have u_v0 := congrArg Int64.toInt hv0
  have u_v1 := congrArg Int64.toInt hv1
  have t1a := Int64.toInt_lt p0
  have t1b := Int64.le_toInt p0
  have t2 : ((4611686018427387903 : Int64) : Int64).toInt = 4611686018427387903 := by decide
  have t3 := Jvm.Kit.i64_mask p0 (4611686018427387903 : Int64) (k := 62) (by decide) (by decide)
  have t4a := Int64.toInt_lt v0
  have t4b := Int64.le_toInt v0
  have t5a := Int64.toInt_lt p1
  have t5b := Int64.le_toInt p1
  have t6 : ((65535 : Int64) : Int64).toInt = 65535 := by decide
  have t7 := Jvm.Kit.i64_mask p1 (65535 : Int64) (k := 16) (by decide) (by decide)
  have t8 := Jvm.Kit.i64_add (x := v0) (y := (p1 &&& (65535 : Int64))) (by omega) (by omega)
  have t9 : ((0 : Int64) : Int64).toInt = 0 := by decide
  have t10a := Int64.toInt_lt v1
  have t10b := Int64.le_toInt v1
  omega
theorem rm0 (l : Launch) (Z : State) (a0 : Array Value) (hw : HW Z a0) (ws : List Jvm.Cond) (w_NONE : Addr) (h0 : Heap) (n0 : Nat) (O0 : Old Z n0 h0) (S : SF Z w_NONE) (p0 : Int64) (p1 : Int64) (p2 : Int64) (p3 : Int64) (p4 : Int32) (p5 : Int64) :
    Pay l Z x ws code maxLocals ret #[(.long p0), (.long p1), (.long p2), (.long p3), (.int p4), (.long p5)] h0 room_1 (Q0 n0) := by
  refine own_body (plainFor_of_name pn_0) (L0 := #[vl p0, ss, vl p1, ss, vl p2, ss, vl p3, ss, vi p4, vl p5, ss, uu, uu, uu, uu, uu, uu, uu, uu, uu, uu, uu, uu, uu, uu, uu]) (fun _ => by first | (simp [entryFrame, mkF, argsToLocals, Value.category, maxLocals, vl, vi, va, ss, uu]; done) | rfl) ?_
  intro p e s m below meth c s₁ hrt hlk hx hby hml hZ hown0 hnm X0 e0
  have hown : s.vm.findClass "com/example/tributary/tributary/model/RangeSetClearPinLaw" = some m.cls := hown0
  have N0 := Fr.nil n0
  have K0 : Keep h0 h0 [] := Keep.refl _ _
  obtain ⟨v0, hv0⟩ : ∃ z : Int64, z = (p0 &&& (4611686018427387903 : Int64)) := ⟨_, rfl⟩
  obtain ⟨v1, hv1⟩ : ∃ z : Int64, z = (v0 + (p1 &&& (65535 : Int64))) := ⟨_, rfl⟩
  obtain ⟨v2, hv2⟩ : ∃ z : Int64, z = (p2 &&& (4611686018427387903 : Int64)) := ⟨_, rfl⟩
  obtain ⟨v3, hv3⟩ : ∃ z : Int64, z = (v2 + (p3 &&& (65535 : Int64))) := ⟨_, rfl⟩
  obtain ⟨v4, hv4⟩ : ∃ z : Int64, z = (p5 &&& (4611686018427387903 : Int64)) := ⟨_, rfl⟩
  obtain ⟨v5, hv5⟩ : ∃ z : Int64, z = (v4 + ((((p4.toUInt32 >>> ((8 : Int32) &&& 31).toUInt32).toInt32) &&& (65535 : Int32)).toInt64)) := ⟨_, rfl⟩
  obtain ⟨T1, h1, X1, e1, E1, A1, D1, -, st1⟩ := newO X0 hx hZ hown (ww hw 3 rfl) (ww hw 4 rfl) (ww hw 5 rfl) e0 (g := (mkF m 58 #[vl p0, ss, vl p1, ss, vl p2, ss, vl p3, ss, vi p4, vl p5, ss, vl v0, ss, vl v1, ss, vl v2, ss, vl v3, ss, vl v4, ss, vl v5, ss, uu, uu, uu] [])) rfl (hb hby at_58) (by decide) (by decide)
  obtain ⟨b1, qs1⟩ : ∃ z, z = h0.size := ⟨_, rfl⟩
  rw [← qs1] at A1 D1 st1
  have g_b1 : n0 ≤ b1 := Nat.le_trans (own_old O0) (Nat.le_of_eq qs1.symm)
  have sz_b1 : h0.size ≤ b1 := Nat.le_trans K0.1 (Nat.le_of_eq qs1.symm)
  have O1 := O0.ext E1
  have K1 : Keep h0 h1 [] := K0.ext E1
  have F_firsts_b1 : Fld Z h1 b1 sC0 "firsts" "[J" .null := D1 (Or.inl (ww hw 19 rfl)) (ty := (.array .long)) (by decide)
  have F_lasts_b1 : Fld Z h1 b1 sC0 "lasts" "[J" .null := D1 (Or.inl (ww hw 21 rfl)) (ty := (.array .long)) (by decide)
  have F_maxRanges_b1 : Fld Z h1 b1 sC0 "maxRanges" "I" (.int 0) := D1 (Or.inr (ww hw 23 rfl)) (ty := .int) (by decide)
  have F_ranges_b1 : Fld Z h1 b1 sC0 "ranges" "I" (.int 0) := D1 (Or.inl (ww hw 37 rfl)) (ty := .int) (by decide)
  have F_count_b1 : Fld Z h1 b1 sC0 "count" "J" (.long 0) := D1 (Or.inl (ww hw 60 rfl)) (ty := .long) (by decide)
  obtain ⟨_, _, ⟨T2, L2, k2, n2⟩, -, X2, ⟨Lc2, hQ2, l2, y2, z2⟩, st2⟩ := X1.specialBack hx (y := (⟨sC0, "<init>", "()V"⟩ : MethodName)) rfl hown (mvT hZ (ww hw 6 rfl)) (mvT hZ (ww hw 7 rfl)) (mvT hZ (ww hw 8 rfl)) (by decide) (backOf (W := 1) (rm1_0 l Z a0 hw [] w_NONE b1 h1 n0 O1 S A1 F_count_b1 F_firsts_b1 F_lasts_b1 F_maxRanges_b1 F_ranges_b1 g_b1) hZ (ww hw 8 rfl) (ww hw 5 rfl) (by decide) (by decide)) (g := (mkF m 62 #[vl p0, ss, vl p1, ss, vl p2, ss, vl p3, ss, vi p4, vl p5, ss, vl v0, ss, vl v1, ss, vl v2, ss, vl v3, ss, vl v4, ss, vl v5, ss, uu, uu, uu] [(.ref b1), (.ref b1)])) rfl (by rw [hml]; rfl) (Steps.refl _) (a := b1) (argsL := []) (rest := [(.ref b1)]) (lenOf pd_1 rfl) rfl (by show 2 * 0 + _ ≤ _; exact Nat.le_of_eq rfl) (hb hby at_62) (fun _ _ => ⟨rfl, e1, (by decide : 1 + 0 ≤ _), (by decide : 5 + 0 ≤ _)⟩)
  dsimp only [Pt.U, Pt.locs, Pt.cells, Pt.slots] at X2 l2 y2 z2 st2 hQ2
  subst l2 y2 z2
  obtain ⟨rfl, Nq2, Kc2, P0_2, P1_2, P2_2, P3_2, P4_2, P5_2⟩ := hQ2
  have N2 := Fr.app N0 Nq2
  have O2 := O1.keep Kc2 (allS g_b1 all0)
  have K2 : Keep h0 T2.heap [] := K1.trans Kc2 (allS (Or.inr sz_b1) all0)
  have pre_4 : ∀ t, Steps p.tables e below (T2.setTop (mkF m 71 #[vl p0, ss, vl p1, ss, vl p2, ss, vl p3, ss, vi p4, vl p5, ss, vl v0, ss, vl v1, ss, vl v2, ss, vl v3, ss, vl v4, ss, vl v5, ss, va b1, uu, uu] [(.int (p4 &&& (1 : Int32)))])) t → Steps p.tables e below (s₁.setTop (mkF m 0 #[vl p0, ss, vl p1, ss, vl p2, ss, vl p3, ss, vi p4, vl p5, ss, uu, uu, uu, uu, uu, uu, uu, uu, uu, uu, uu, uu, uu, uu, uu] [])) t := fun t k => (by
    show Steps p.tables e below (s₁.setTop (mkF m 0 #[vl p0, ss, vl p1, ss, vl p2, ss, vl p3, ss, vi p4, vl p5, ss, uu, uu, uu, uu, uu, uu, uu, uu, uu, uu, uu, uu, uu, uu, uu] [])) _
    refine XS.lloadN X0.here hx rfl (hb hby at_0) rfl ?_
    refine X0.ldc2Long hx hown (mvT hZ (ww hw 0 rfl)) (g := (mkF m 1 #[vl p0, ss, vl p1, ss, vl p2, ss, vl p3, ss, vi p4, vl p5, ss, uu, uu, uu, uu, uu, uu, uu, uu, uu, uu, uu, uu, uu, uu, uu] [(.long p0)])) rfl (hb hby at_1) _ ?_
    refine XS.land X0.here hx rfl (hb hby at_4) rfl ?_
    show Steps p.tables e below (s₁.setTop (mkF m 5 #[vl p0, ss, vl p1, ss, vl p2, ss, vl p3, ss, vi p4, vl p5, ss, uu, uu, uu, uu, uu, uu, uu, uu, uu, uu, uu, uu, uu, uu, uu] [(.long (p0 &&& (4611686018427387903 : Int64)))])) _
    rw [← hv0]
    refine XS.lstore X0.here hx rfl (hb hby at_5) rfl (l' := #[vl p0, ss, vl p1, ss, vl p2, ss, vl p3, ss, vi p4, vl p5, ss, vl v0, ss, uu, uu, uu, uu, uu, uu, uu, uu, uu, uu, uu, uu, uu]) rfl ?_
    refine XS.lload X0.here hx rfl (hb hby at_7) rfl ?_
    refine XS.lloadN X0.here hx rfl (hb hby at_9) rfl ?_
    refine X0.ldc2Long hx hown (mvT hZ (ww hw 1 rfl)) (g := (mkF m 10 #[vl p0, ss, vl p1, ss, vl p2, ss, vl p3, ss, vi p4, vl p5, ss, vl v0, ss, uu, uu, uu, uu, uu, uu, uu, uu, uu, uu, uu, uu, uu] [(.long p1), (.long v0)])) rfl (hb hby at_10) _ ?_
    refine XS.land X0.here hx rfl (hb hby at_13) rfl ?_
    refine XS.ladd X0.here hx rfl (hb hby at_14) rfl ?_
    show Steps p.tables e below (s₁.setTop (mkF m 15 #[vl p0, ss, vl p1, ss, vl p2, ss, vl p3, ss, vi p4, vl p5, ss, vl v0, ss, uu, uu, uu, uu, uu, uu, uu, uu, uu, uu, uu, uu, uu] [(.long (v0 + (p1 &&& (65535 : Int64))))])) _
    rw [← hv1]
    refine XS.lstore X0.here hx rfl (hb hby at_15) rfl (l' := #[vl p0, ss, vl p1, ss, vl p2, ss, vl p3, ss, vi p4, vl p5, ss, vl v0, ss, vl v1, ss, uu, uu, uu, uu, uu, uu, uu, uu, uu, uu, uu]) rfl ?_
    refine XS.lload X0.here hx rfl (hb hby at_17) rfl ?_
    refine X0.ldc2Long hx hown (mvT hZ (ww hw 0 rfl)) (g := (mkF m 19 #[vl p0, ss, vl p1, ss, vl p2, ss, vl p3, ss, vi p4, vl p5, ss, vl v0, ss, vl v1, ss, uu, uu, uu, uu, uu, uu, uu, uu, uu, uu, uu] [(.long p2)])) rfl (hb hby at_19) _ ?_
    refine XS.land X0.here hx rfl (hb hby at_22) rfl ?_
    show Steps p.tables e below (s₁.setTop (mkF m 23 #[vl p0, ss, vl p1, ss, vl p2, ss, vl p3, ss, vi p4, vl p5, ss, vl v0, ss, vl v1, ss, uu, uu, uu, uu, uu, uu, uu, uu, uu, uu, uu] [(.long (p2 &&& (4611686018427387903 : Int64)))])) _
    rw [← hv2]
    refine XS.lstore X0.here hx rfl (hb hby at_23) rfl (l' := #[vl p0, ss, vl p1, ss, vl p2, ss, vl p3, ss, vi p4, vl p5, ss, vl v0, ss, vl v1, ss, vl v2, ss, uu, uu, uu, uu, uu, uu, uu, uu, uu]) rfl ?_
    refine XS.lload X0.here hx rfl (hb hby at_25) rfl ?_
    refine XS.lload X0.here hx rfl (hb hby at_27) rfl ?_
    refine X0.ldc2Long hx hown (mvT hZ (ww hw 1 rfl)) (g := (mkF m 29 #[vl p0, ss, vl p1, ss, vl p2, ss, vl p3, ss, vi p4, vl p5, ss, vl v0, ss, vl v1, ss, vl v2, ss, uu, uu, uu, uu, uu, uu, uu, uu, uu] [(.long p3), (.long v2)])) rfl (hb hby at_29) _ ?_
    refine XS.land X0.here hx rfl (hb hby at_32) rfl ?_
    refine XS.ladd X0.here hx rfl (hb hby at_33) rfl ?_
    show Steps p.tables e below (s₁.setTop (mkF m 34 #[vl p0, ss, vl p1, ss, vl p2, ss, vl p3, ss, vi p4, vl p5, ss, vl v0, ss, vl v1, ss, vl v2, ss, uu, uu, uu, uu, uu, uu, uu, uu, uu] [(.long (v2 + (p3 &&& (65535 : Int64))))])) _
    rw [← hv3]
    refine XS.lstore X0.here hx rfl (hb hby at_34) rfl (l' := #[vl p0, ss, vl p1, ss, vl p2, ss, vl p3, ss, vi p4, vl p5, ss, vl v0, ss, vl v1, ss, vl v2, ss, vl v3, ss, uu, uu, uu, uu, uu, uu, uu]) rfl ?_
    refine XS.lload X0.here hx rfl (hb hby at_36) rfl ?_
    refine X0.ldc2Long hx hown (mvT hZ (ww hw 0 rfl)) (g := (mkF m 38 #[vl p0, ss, vl p1, ss, vl p2, ss, vl p3, ss, vi p4, vl p5, ss, vl v0, ss, vl v1, ss, vl v2, ss, vl v3, ss, uu, uu, uu, uu, uu, uu, uu] [(.long p5)])) rfl (hb hby at_38) _ ?_
    refine XS.land X0.here hx rfl (hb hby at_41) rfl ?_
    show Steps p.tables e below (s₁.setTop (mkF m 42 #[vl p0, ss, vl p1, ss, vl p2, ss, vl p3, ss, vi p4, vl p5, ss, vl v0, ss, vl v1, ss, vl v2, ss, vl v3, ss, uu, uu, uu, uu, uu, uu, uu] [(.long (p5 &&& (4611686018427387903 : Int64)))])) _
    rw [← hv4]
    refine XS.lstore X0.here hx rfl (hb hby at_42) rfl (l' := #[vl p0, ss, vl p1, ss, vl p2, ss, vl p3, ss, vi p4, vl p5, ss, vl v0, ss, vl v1, ss, vl v2, ss, vl v3, ss, vl v4, ss, uu, uu, uu, uu, uu]) rfl ?_
    refine XS.lload X0.here hx rfl (hb hby at_44) rfl ?_
    refine XS.iload X0.here hx rfl (hb hby at_46) rfl ?_
    refine XS.bipush X0.here hx rfl (hb hby at_48) ?_
    refine XS.iushr X0.here hx rfl (hb hby at_50) rfl ?_
    refine X0.ldcInt hx hown (mvT hZ (ww hw 2 rfl)) (g := (mkF m 51 #[vl p0, ss, vl p1, ss, vl p2, ss, vl p3, ss, vi p4, vl p5, ss, vl v0, ss, vl v1, ss, vl v2, ss, vl v3, ss, vl v4, ss, uu, uu, uu, uu, uu] [(.int ((p4.toUInt32 >>> ((8 : Int32) &&& 31).toUInt32).toInt32)), (.long v4)])) rfl (hb hby at_51) _ ?_
    refine XS.iand X0.here hx rfl (hb hby at_53) rfl ?_
    refine XS.i2l X0.here hx rfl (hb hby at_54) rfl ?_
    show Steps p.tables e below (s₁.setTop (mkF m 55 #[vl p0, ss, vl p1, ss, vl p2, ss, vl p3, ss, vi p4, vl p5, ss, vl v0, ss, vl v1, ss, vl v2, ss, vl v3, ss, vl v4, ss, uu, uu, uu, uu, uu] [(.long ((((p4.toUInt32 >>> ((8 : Int32) &&& 31).toUInt32).toInt32) &&& (65535 : Int32)).toInt64)), (.long v4)])) _
    refine XS.ladd X0.here hx rfl (hb hby at_55) rfl ?_
    show Steps p.tables e below (s₁.setTop (mkF m 56 #[vl p0, ss, vl p1, ss, vl p2, ss, vl p3, ss, vi p4, vl p5, ss, vl v0, ss, vl v1, ss, vl v2, ss, vl v3, ss, vl v4, ss, uu, uu, uu, uu, uu] [(.long (v4 + ((((p4.toUInt32 >>> ((8 : Int32) &&& 31).toUInt32).toInt32) &&& (65535 : Int32)).toInt64)))])) _
    rw [← hv5]
    refine XS.lstore X0.here hx rfl (hb hby at_56) rfl (l' := #[vl p0, ss, vl p1, ss, vl p2, ss, vl p3, ss, vi p4, vl p5, ss, vl v0, ss, vl v1, ss, vl v2, ss, vl v3, ss, vl v4, ss, vl v5, ss, uu, uu, uu]) rfl ?_
    refine st1 _ ?_
    refine XS.dup X1.here hx rfl (hb hby at_61) rfl rfl ?_
    refine st2.trans ?_
    refine XS.astore X2.here hx rfl (hb hby at_65) rfl rfl (l' := #[vl p0, ss, vl p1, ss, vl p2, ss, vl p3, ss, vi p4, vl p5, ss, vl v0, ss, vl v1, ss, vl v2, ss, vl v3, ss, vl v4, ss, vl v5, ss, va b1, uu, uu]) rfl ?_
    refine XS.iload X2.here hx rfl (hb hby at_67) rfl ?_
    refine XS.iconst X2.here hx rfl (hb hby at_69) ?_
    refine XS.iand X2.here hx rfl (hb hby at_70) rfl ?_
    exact k)
  by_cases hc3 : (p4 &&& (1 : Int32)) = (0 : Int32)
  · have pre_6 : ∀ t, Steps p.tables e below (T2.setTop (mkF m 88 #[vl p0, ss, vl p1, ss, vl p2, ss, vl p3, ss, vi p4, vl p5, ss, vl v0, ss, vl v1, ss, vl v2, ss, vl v3, ss, vl v4, ss, vl v5, ss, va b1, uu, uu] [(.int (p4 &&& (2 : Int32)))])) t → Steps p.tables e below (s₁.setTop (mkF m 0 #[vl p0, ss, vl p1, ss, vl p2, ss, vl p3, ss, vi p4, vl p5, ss, uu, uu, uu, uu, uu, uu, uu, uu, uu, uu, uu, uu, uu, uu, uu] [])) t := fun t k => pre_4 t (by
      show Steps p.tables e below (T2.setTop (mkF m 71 #[vl p0, ss, vl p1, ss, vl p2, ss, vl p3, ss, vi p4, vl p5, ss, vl v0, ss, vl v1, ss, vl v2, ss, vl v3, ss, vl v4, ss, vl v5, ss, va b1, uu, uu] [(.int (p4 &&& (1 : Int32)))])) _
      refine XS.ifYes X2.here hx rfl (pc0 := 71) (pc' := 84) rfl (hb hby at_71) rfl ((if0 _ _).trans (teq hc3).1) (by decide) (by decide) ?_
      refine XS.iload X2.here hx rfl (hb hby at_84) rfl ?_
      refine XS.iconst X2.here hx rfl (hb hby at_86) ?_
      refine XS.iand X2.here hx rfl (hb hby at_87) rfl ?_
      exact k)
    by_cases hc5 : (p4 &&& (2 : Int32)) = (0 : Int32)
    · obtain ⟨cq7, kq7, q7a, q7b, q7c⟩ := isOf hZ rfl P0_2
      obtain ⟨_, _, ⟨T7, L7, k7, n7⟩, -, X7, ⟨Lc7, hQ7, l7, y7, z7⟩, st7⟩ := X2.virtualBack hx (y := My11) (z := My11) hown (mvT hZ (ww hw 61 rfl)) (mvT hZ (ww hw 62 rfl)) (notFace_of_selects (args := #[]) (mvT hZ (ww hw 64 rfl))) (mvT hZ (ww hw 64 rfl)) (mvT hZ (ww hw 63 rfl)) (by decide) (backOf (W := 0) (rm11_0 l Z a0 hw [] w_NONE b1 T2.heap n0 O2 S P0_2 P1_2 P2_2 P3_2 P4_2 P5_2 g_b1) hZ (ww hw 65 rfl) (ww hw 5 rfl) (by decide) (by decide)) q7a q7c (g := (mkF m 103 #[vl p0, ss, vl p1, ss, vl p2, ss, vl p3, ss, vi p4, vl p5, ss, vl v0, ss, vl v1, ss, vl v2, ss, vl v3, ss, vl v4, ss, vl v5, ss, va b1, uu, uu] [(.ref b1)])) rfl (by rw [hml]; rfl) (Steps.refl _) (argsL := []) (rest := []) (lenOf pd_1 rfl) rfl (by show 2 * 0 + _ ≤ _; exact Nat.le_of_eq rfl) (hb hby at_103) (fun _ _ => ⟨rfl, rfl, (by decide : 1 + 0 ≤ _), (by decide : 5 + 0 ≤ _)⟩)
      dsimp only [Pt.U, Pt.locs, Pt.cells, Pt.slots] at X7 l7 y7 z7 st7 hQ7
      subst l7 y7 z7
      obtain ⟨rfl, Nq7, Kc7, P0_7, P1_7, P2_7, P3_7, P4_7, P5_7⟩ := hQ7
      have N7 := Fr.app N2 Nq7
      have O7 := O2.keep Kc7 (allS g_b1 all0)
      have K7 : Keep h0 T7.heap [] := K2.trans Kc7 (allS (Or.inr sz_b1) all0)
      have pre_8 : ∀ t, Steps p.tables e below (T7.setTop (mkF m 106 #[vl p0, ss, vl p1, ss, vl p2, ss, vl p3, ss, vi p4, vl p5, ss, vl v0, ss, vl v1, ss, vl v2, ss, vl v3, ss, vl v4, ss, vl v5, ss, va b1, uu, uu] [])) t → Steps p.tables e below (s₁.setTop (mkF m 0 #[vl p0, ss, vl p1, ss, vl p2, ss, vl p3, ss, vi p4, vl p5, ss, uu, uu, uu, uu, uu, uu, uu, uu, uu, uu, uu, uu, uu, uu, uu] [])) t := fun t k => pre_6 t (by
        show Steps p.tables e below (T2.setTop (mkF m 88 #[vl p0, ss, vl p1, ss, vl p2, ss, vl p3, ss, vi p4, vl p5, ss, vl v0, ss, vl v1, ss, vl v2, ss, vl v3, ss, vl v4, ss, vl v5, ss, va b1, uu, uu] [(.int (p4 &&& (2 : Int32)))])) _
        refine XS.ifYes X2.here hx rfl (pc0 := 88) (pc' := 101) rfl (hb hby at_88) rfl ((if0 _ _).trans (teq hc5).1) (by decide) (by decide) ?_
        refine XS.aload X2.here hx rfl (hb hby at_101) rfl rfl ?_
        refine st7.trans ?_
        exact k)
      obtain ⟨U, o, st, rest⟩ := jn1 (a0 := a0) hx hZ hby hml hown hrt hlk hw w_NONE b1 p0 p1 p2 p3 p4 p5 v4 v5 v0 v1 v2 v3 (X7.more (by decide) (by decide)) rfl N7 O7 S P0_7 P1_7 P2_7 P3_7 P4_7 P5_7 g_b1 hv4 hv5
      exact ⟨U, o, pre_8 _ st, rest⟩
    · have hc7 : ¬ (v2 < (0 : Int64)) := ow9 p2 v2 hv2
      have hc8 : ¬ (v3 < v2) := ow10 p2 p3 v2 v3 hv2 hv3 hc7
      have pre_10 : ∀ t, Steps p.tables e below (T2.setTop (mkF m 97 #[vl p0, ss, vl p1, ss, vl p2, ss, vl p3, ss, vi p4, vl p5, ss, vl v0, ss, vl v1, ss, vl v2, ss, vl v3, ss, vl v4, ss, vl v5, ss, va b1, uu, uu] [(.long v3), (.long v2), (.ref b1)])) t → Steps p.tables e below (s₁.setTop (mkF m 0 #[vl p0, ss, vl p1, ss, vl p2, ss, vl p3, ss, vi p4, vl p5, ss, uu, uu, uu, uu, uu, uu, uu, uu, uu, uu, uu, uu, uu, uu, uu] [])) t := fun t k => pre_6 t (by
        show Steps p.tables e below (T2.setTop (mkF m 88 #[vl p0, ss, vl p1, ss, vl p2, ss, vl p3, ss, vi p4, vl p5, ss, vl v0, ss, vl v1, ss, vl v2, ss, vl v3, ss, vl v4, ss, vl v5, ss, va b1, uu, uu] [(.int (p4 &&& (2 : Int32)))])) _
        refine XS.ifNo X2.here hx rfl (hb hby at_88) rfl ((if0 _ _).trans (feq hc5).1) ?_
        refine XS.aload X2.here hx rfl (hb hby at_91) rfl rfl ?_
        refine XS.lload X2.here hx rfl (hb hby at_93) rfl ?_
        refine XS.lload X2.here hx rfl (hb hby at_95) rfl ?_
        exact k)
      by_cases hc9 : v2 = (0 : Int64)
      · obtain ⟨cq11, kq11, q11a, q11b, q11c⟩ := isOf hZ rfl P0_2
        obtain ⟨_, _, ⟨T11, L11, k11, n11⟩, -, X11, ⟨Lc11, hQ11, l11, y11, z11⟩, st11⟩ := X2.virtualBack hx (y := My4) (z := My4) hown (mvT hZ (ww hw 24 rfl)) (mvT hZ (ww hw 25 rfl)) (notFace_of_selects (args := #[]) (mvT hZ (ww hw 27 rfl))) (mvT hZ (ww hw 27 rfl)) (mvT hZ (ww hw 26 rfl)) (by decide) (backOf (W := 0) (rm4_1 l Z a0 hw [] w_NONE b1 v2 v3 T2.heap n0 O2 S P0_2 P1_2 P2_2 P3_2 P4_2 P5_2 g_b1 hc7 hc8 hc9) hZ (ww hw 28 rfl) (ww hw 5 rfl) (by decide) (by decide)) q11a q11c (g := (mkF m 97 #[vl p0, ss, vl p1, ss, vl p2, ss, vl p3, ss, vi p4, vl p5, ss, vl v0, ss, vl v1, ss, vl v2, ss, vl v3, ss, vl v4, ss, vl v5, ss, va b1, uu, uu] [(.long v3), (.long v2), (.ref b1)])) rfl (by rw [hml]; rfl) (Steps.refl _) (argsL := [(.long v2), (.long v3)]) (rest := []) (lenOf pd_10 rfl) rfl (by show 2 * 0 + _ ≤ _; exact Nat.le_of_eq rfl) (hb hby at_97) (fun _ _ => ⟨rfl, rfl, (by decide : 1 + 2 ≤ _), (by decide : 5 + 8 ≤ _)⟩)
        dsimp only [Pt.U, Pt.locs, Pt.cells, Pt.slots] at X11 l11 y11 z11 st11 hQ11
        subst l11 y11 z11
        obtain ⟨b2_7_6_11, b2_13_6_11, k2_7_6_11, k2_13_6_11, rfl, Nq11, Kc11, P0_11, P1_11, P2_11, P3_11, P4_11, P5_11, P6_11, P7_11, P8_11, P9_11, P10_11⟩ := hQ11
        have N11 := Fr.app N2 Nq11
        have ne_b1_b2_7_6_11 : b1 ≠ b2_7_6_11 := Nat.ne_of_lt (Nat.lt_of_lt_of_le P0_2.lt P8_11)
        have ne_b1_b2_13_6_11 : b1 ≠ b2_13_6_11 := Nat.ne_of_lt (Nat.lt_of_lt_of_le P0_2.lt P9_11)
        have g_b2_7_6_11 : n0 ≤ b2_7_6_11 := Nat.le_trans (own_old O2) P8_11
        have sz_b2_7_6_11 : h0.size ≤ b2_7_6_11 := Nat.le_trans K2.1 P8_11
        have g_b2_13_6_11 : n0 ≤ b2_13_6_11 := Nat.le_trans (own_old O2) P9_11
        have sz_b2_13_6_11 : h0.size ≤ b2_13_6_11 := Nat.le_trans K2.1 P9_11
        have O11 := O2.keep Kc11 (allS g_b1 all0)
        have K11 : Keep h0 T11.heap [] := K2.trans Kc11 (allS (Or.inr sz_b1) all0)
        obtain ⟨cq12, kq12, q12a, q12b, q12c⟩ := isOf hZ rfl P0_11
        obtain ⟨_, _, ⟨T12, L12, k12, n12⟩, -, X12, ⟨Lc12, hQ12, l12, y12, z12⟩, st12⟩ := X11.virtualBack hx (y := My11) (z := My11) hown (mvT hZ (ww hw 61 rfl)) (mvT hZ (ww hw 62 rfl)) (notFace_of_selects (args := #[]) (mvT hZ (ww hw 64 rfl))) (mvT hZ (ww hw 64 rfl)) (mvT hZ (ww hw 63 rfl)) (by decide) (backOf (W := 0) (rm11_1 l Z a0 hw [] w_NONE b1 b2_7_6_11 b2_13_6_11 k2_7_6_11 k2_13_6_11 ((0 : Int64) + ((v3 - v2) + (1 : Int64))) v2 v3 T11.heap n0 O11 S P0_11 P1_11 P2_11 P3_11 P4_11 P5_11 g_b1) hZ (ww hw 65 rfl) (ww hw 5 rfl) (by decide) (by decide)) q12a q12c (g := (mkF m 103 #[vl p0, ss, vl p1, ss, vl p2, ss, vl p3, ss, vi p4, vl p5, ss, vl v0, ss, vl v1, ss, vl v2, ss, vl v3, ss, vl v4, ss, vl v5, ss, va b1, uu, uu] [(.ref b1)])) rfl (by rw [hml]; rfl) (Steps.refl _) (argsL := []) (rest := []) (lenOf pd_1 rfl) rfl (by show 2 * 0 + _ ≤ _; exact Nat.le_of_eq rfl) (hb hby at_103) (fun _ _ => ⟨rfl, rfl, (by decide : 3 + 0 ≤ _), (by decide : 13 + 0 ≤ _)⟩)
        dsimp only [Pt.U, Pt.locs, Pt.cells, Pt.slots] at X12 l12 y12 z12 st12 hQ12
        subst l12 y12 z12
        obtain ⟨rfl, Nq12, Kc12, P0_12, P1_12, P2_12, P3_12, P4_12, P5_12⟩ := hQ12
        have N12 := Fr.app N11 Nq12
        have O12 := O11.keep Kc12 (allS g_b1 all0)
        have K12 : Keep h0 T12.heap [] := K11.trans Kc12 (allS (Or.inr sz_b1) all0)
        have pre_13 : ∀ t, Steps p.tables e below (T12.setTop (mkF m 106 #[vl p0, ss, vl p1, ss, vl p2, ss, vl p3, ss, vi p4, vl p5, ss, vl v0, ss, vl v1, ss, vl v2, ss, vl v3, ss, vl v4, ss, vl v5, ss, va b1, uu, uu] [])) t → Steps p.tables e below (s₁.setTop (mkF m 0 #[vl p0, ss, vl p1, ss, vl p2, ss, vl p3, ss, vi p4, vl p5, ss, uu, uu, uu, uu, uu, uu, uu, uu, uu, uu, uu, uu, uu, uu, uu] [])) t := fun t k => pre_10 t (by
          show Steps p.tables e below (T2.setTop (mkF m 97 #[vl p0, ss, vl p1, ss, vl p2, ss, vl p3, ss, vi p4, vl p5, ss, vl v0, ss, vl v1, ss, vl v2, ss, vl v3, ss, vl v4, ss, vl v5, ss, va b1, uu, uu] [(.long v3), (.long v2), (.ref b1)])) _
          refine st11.trans ?_
          refine XS.pop X11.here hx rfl (hb hby at_100) rfl rfl ?_
          refine XS.aload X11.here hx rfl (hb hby at_101) rfl rfl ?_
          refine st12.trans ?_
          exact k)
        obtain ⟨U, o, st, rest⟩ := jn1 (a0 := a0) hx hZ hby hml hown hrt hlk hw w_NONE b1 p0 p1 p2 p3 p4 p5 v4 v5 v0 v1 v2 v3 (X12.more (by decide) (by decide)) rfl N12 O12 S P0_12 P1_12 P2_12 P3_12 P4_12 P5_12 g_b1 hv4 hv5
        exact ⟨U, o, pre_13 _ st, rest⟩
      · obtain ⟨cq11, kq11, q11a, q11b, q11c⟩ := isOf hZ rfl P0_2
        obtain ⟨_, _, ⟨T11, L11, k11, n11⟩, -, X11, ⟨Lc11, hQ11, l11, y11, z11⟩, st11⟩ := X2.virtualBack hx (y := My4) (z := My4) hown (mvT hZ (ww hw 24 rfl)) (mvT hZ (ww hw 25 rfl)) (notFace_of_selects (args := #[]) (mvT hZ (ww hw 27 rfl))) (mvT hZ (ww hw 27 rfl)) (mvT hZ (ww hw 26 rfl)) (by decide) (backOf (W := 0) (rm4_0 l Z a0 hw [] w_NONE b1 v2 v3 T2.heap n0 O2 S P0_2 P1_2 P2_2 P3_2 P4_2 P5_2 g_b1 hc7 hc8 hc9) hZ (ww hw 28 rfl) (ww hw 5 rfl) (by decide) (by decide)) q11a q11c (g := (mkF m 97 #[vl p0, ss, vl p1, ss, vl p2, ss, vl p3, ss, vi p4, vl p5, ss, vl v0, ss, vl v1, ss, vl v2, ss, vl v3, ss, vl v4, ss, vl v5, ss, va b1, uu, uu] [(.long v3), (.long v2), (.ref b1)])) rfl (by rw [hml]; rfl) (Steps.refl _) (argsL := [(.long v2), (.long v3)]) (rest := []) (lenOf pd_10 rfl) rfl (by show 2 * 0 + _ ≤ _; exact Nat.le_of_eq rfl) (hb hby at_97) (fun _ _ => ⟨rfl, rfl, (by decide : 1 + 2 ≤ _), (by decide : 5 + 8 ≤ _)⟩)
        dsimp only [Pt.U, Pt.locs, Pt.cells, Pt.slots] at X11 l11 y11 z11 st11 hQ11
        subst l11 y11 z11
        obtain ⟨b2_7_6_11, b2_13_6_11, k2_7_6_11, k2_13_6_11, rfl, Nq11, Kc11, P0_11, P1_11, P2_11, P3_11, P4_11, P5_11, P6_11, P7_11, P8_11, P9_11, P10_11⟩ := hQ11
        have N11 := Fr.app N2 Nq11
        have ne_b1_b2_7_6_11 : b1 ≠ b2_7_6_11 := Nat.ne_of_lt (Nat.lt_of_lt_of_le P0_2.lt P8_11)
        have ne_b1_b2_13_6_11 : b1 ≠ b2_13_6_11 := Nat.ne_of_lt (Nat.lt_of_lt_of_le P0_2.lt P9_11)
        have g_b2_7_6_11 : n0 ≤ b2_7_6_11 := Nat.le_trans (own_old O2) P8_11
        have sz_b2_7_6_11 : h0.size ≤ b2_7_6_11 := Nat.le_trans K2.1 P8_11
        have g_b2_13_6_11 : n0 ≤ b2_13_6_11 := Nat.le_trans (own_old O2) P9_11
        have sz_b2_13_6_11 : h0.size ≤ b2_13_6_11 := Nat.le_trans K2.1 P9_11
        have O11 := O2.keep Kc11 (allS g_b1 all0)
        have K11 : Keep h0 T11.heap [] := K2.trans Kc11 (allS (Or.inr sz_b1) all0)
        obtain ⟨cq12, kq12, q12a, q12b, q12c⟩ := isOf hZ rfl P0_11
        obtain ⟨_, _, ⟨T12, L12, k12, n12⟩, -, X12, ⟨Lc12, hQ12, l12, y12, z12⟩, st12⟩ := X11.virtualBack hx (y := My11) (z := My11) hown (mvT hZ (ww hw 61 rfl)) (mvT hZ (ww hw 62 rfl)) (notFace_of_selects (args := #[]) (mvT hZ (ww hw 64 rfl))) (mvT hZ (ww hw 64 rfl)) (mvT hZ (ww hw 63 rfl)) (by decide) (backOf (W := 0) (rm11_1 l Z a0 hw [] w_NONE b1 b2_7_6_11 b2_13_6_11 k2_7_6_11 k2_13_6_11 ((0 : Int64) + ((v3 - v2) + (1 : Int64))) v2 v3 T11.heap n0 O11 S P0_11 P1_11 P2_11 P3_11 P4_11 P5_11 g_b1) hZ (ww hw 65 rfl) (ww hw 5 rfl) (by decide) (by decide)) q12a q12c (g := (mkF m 103 #[vl p0, ss, vl p1, ss, vl p2, ss, vl p3, ss, vi p4, vl p5, ss, vl v0, ss, vl v1, ss, vl v2, ss, vl v3, ss, vl v4, ss, vl v5, ss, va b1, uu, uu] [(.ref b1)])) rfl (by rw [hml]; rfl) (Steps.refl _) (argsL := []) (rest := []) (lenOf pd_1 rfl) rfl (by show 2 * 0 + _ ≤ _; exact Nat.le_of_eq rfl) (hb hby at_103) (fun _ _ => ⟨rfl, rfl, (by decide : 3 + 0 ≤ _), (by decide : 13 + 0 ≤ _)⟩)
        dsimp only [Pt.U, Pt.locs, Pt.cells, Pt.slots] at X12 l12 y12 z12 st12 hQ12
        subst l12 y12 z12
        obtain ⟨rfl, Nq12, Kc12, P0_12, P1_12, P2_12, P3_12, P4_12, P5_12⟩ := hQ12
        have N12 := Fr.app N11 Nq12
        have O12 := O11.keep Kc12 (allS g_b1 all0)
        have K12 : Keep h0 T12.heap [] := K11.trans Kc12 (allS (Or.inr sz_b1) all0)
        have pre_13 : ∀ t, Steps p.tables e below (T12.setTop (mkF m 106 #[vl p0, ss, vl p1, ss, vl p2, ss, vl p3, ss, vi p4, vl p5, ss, vl v0, ss, vl v1, ss, vl v2, ss, vl v3, ss, vl v4, ss, vl v5, ss, va b1, uu, uu] [])) t → Steps p.tables e below (s₁.setTop (mkF m 0 #[vl p0, ss, vl p1, ss, vl p2, ss, vl p3, ss, vi p4, vl p5, ss, uu, uu, uu, uu, uu, uu, uu, uu, uu, uu, uu, uu, uu, uu, uu] [])) t := fun t k => pre_10 t (by
          show Steps p.tables e below (T2.setTop (mkF m 97 #[vl p0, ss, vl p1, ss, vl p2, ss, vl p3, ss, vi p4, vl p5, ss, vl v0, ss, vl v1, ss, vl v2, ss, vl v3, ss, vl v4, ss, vl v5, ss, va b1, uu, uu] [(.long v3), (.long v2), (.ref b1)])) _
          refine st11.trans ?_
          refine XS.pop X11.here hx rfl (hb hby at_100) rfl rfl ?_
          refine XS.aload X11.here hx rfl (hb hby at_101) rfl rfl ?_
          refine st12.trans ?_
          exact k)
        obtain ⟨U, o, st, rest⟩ := jn1 (a0 := a0) hx hZ hby hml hown hrt hlk hw w_NONE b1 p0 p1 p2 p3 p4 p5 v4 v5 v0 v1 v2 v3 (X12.more (by decide) (by decide)) rfl N12 O12 S P0_12 P1_12 P2_12 P3_12 P4_12 P5_12 g_b1 hv4 hv5
        exact ⟨U, o, pre_13 _ st, rest⟩
  · have hc5 : ¬ (v0 < (0 : Int64)) := ow11 p0 v0 hv0
    have hc6 : ¬ (v1 < v0) := ow12 p0 p1 v0 v1 hv0 hv1 hc5
    have pre_8 : ∀ t, Steps p.tables e below (T2.setTop (mkF m 80 #[vl p0, ss, vl p1, ss, vl p2, ss, vl p3, ss, vi p4, vl p5, ss, vl v0, ss, vl v1, ss, vl v2, ss, vl v3, ss, vl v4, ss, vl v5, ss, va b1, uu, uu] [(.long v1), (.long v0), (.ref b1)])) t → Steps p.tables e below (s₁.setTop (mkF m 0 #[vl p0, ss, vl p1, ss, vl p2, ss, vl p3, ss, vi p4, vl p5, ss, uu, uu, uu, uu, uu, uu, uu, uu, uu, uu, uu, uu, uu, uu, uu] [])) t := fun t k => pre_4 t (by
      show Steps p.tables e below (T2.setTop (mkF m 71 #[vl p0, ss, vl p1, ss, vl p2, ss, vl p3, ss, vi p4, vl p5, ss, vl v0, ss, vl v1, ss, vl v2, ss, vl v3, ss, vl v4, ss, vl v5, ss, va b1, uu, uu] [(.int (p4 &&& (1 : Int32)))])) _
      refine XS.ifNo X2.here hx rfl (hb hby at_71) rfl ((if0 _ _).trans (feq hc3).1) ?_
      refine XS.aload X2.here hx rfl (hb hby at_74) rfl rfl ?_
      refine XS.lload X2.here hx rfl (hb hby at_76) rfl ?_
      refine XS.lload X2.here hx rfl (hb hby at_78) rfl ?_
      exact k)
    by_cases hc7 : v0 = (0 : Int64)
    · obtain ⟨cq9, kq9, q9a, q9b, q9c⟩ := isOf hZ rfl P0_2
      obtain ⟨_, _, ⟨T9, L9, k9, n9⟩, -, X9, ⟨Lc9, hQ9, l9, y9, z9⟩, st9⟩ := X2.virtualBack hx (y := My4) (z := My4) hown (mvT hZ (ww hw 24 rfl)) (mvT hZ (ww hw 25 rfl)) (notFace_of_selects (args := #[]) (mvT hZ (ww hw 27 rfl))) (mvT hZ (ww hw 27 rfl)) (mvT hZ (ww hw 26 rfl)) (by decide) (backOf (W := 0) (rm4_1 l Z a0 hw [] w_NONE b1 v0 v1 T2.heap n0 O2 S P0_2 P1_2 P2_2 P3_2 P4_2 P5_2 g_b1 hc5 hc6 hc7) hZ (ww hw 28 rfl) (ww hw 5 rfl) (by decide) (by decide)) q9a q9c (g := (mkF m 80 #[vl p0, ss, vl p1, ss, vl p2, ss, vl p3, ss, vi p4, vl p5, ss, vl v0, ss, vl v1, ss, vl v2, ss, vl v3, ss, vl v4, ss, vl v5, ss, va b1, uu, uu] [(.long v1), (.long v0), (.ref b1)])) rfl (by rw [hml]; rfl) (Steps.refl _) (argsL := [(.long v0), (.long v1)]) (rest := []) (lenOf pd_10 rfl) rfl (by show 2 * 0 + _ ≤ _; exact Nat.le_of_eq rfl) (hb hby at_80) (fun _ _ => ⟨rfl, rfl, (by decide : 1 + 2 ≤ _), (by decide : 5 + 8 ≤ _)⟩)
      dsimp only [Pt.U, Pt.locs, Pt.cells, Pt.slots] at X9 l9 y9 z9 st9 hQ9
      subst l9 y9 z9
      obtain ⟨b2_7_6_9, b2_13_6_9, k2_7_6_9, k2_13_6_9, rfl, Nq9, Kc9, P0_9, P1_9, P2_9, P3_9, P4_9, P5_9, P6_9, P7_9, P8_9, P9_9, P10_9⟩ := hQ9
      have N9 := Fr.app N2 Nq9
      have ne_b1_b2_7_6_9 : b1 ≠ b2_7_6_9 := Nat.ne_of_lt (Nat.lt_of_lt_of_le P0_2.lt P8_9)
      have ne_b1_b2_13_6_9 : b1 ≠ b2_13_6_9 := Nat.ne_of_lt (Nat.lt_of_lt_of_le P0_2.lt P9_9)
      have g_b2_7_6_9 : n0 ≤ b2_7_6_9 := Nat.le_trans (own_old O2) P8_9
      have sz_b2_7_6_9 : h0.size ≤ b2_7_6_9 := Nat.le_trans K2.1 P8_9
      have g_b2_13_6_9 : n0 ≤ b2_13_6_9 := Nat.le_trans (own_old O2) P9_9
      have sz_b2_13_6_9 : h0.size ≤ b2_13_6_9 := Nat.le_trans K2.1 P9_9
      have O9 := O2.keep Kc9 (allS g_b1 all0)
      have K9 : Keep h0 T9.heap [] := K2.trans Kc9 (allS (Or.inr sz_b1) all0)
      have pre_11 : ∀ t, Steps p.tables e below (T9.setTop (mkF m 88 #[vl p0, ss, vl p1, ss, vl p2, ss, vl p3, ss, vi p4, vl p5, ss, vl v0, ss, vl v1, ss, vl v2, ss, vl v3, ss, vl v4, ss, vl v5, ss, va b1, uu, uu] [(.int (p4 &&& (2 : Int32)))])) t → Steps p.tables e below (s₁.setTop (mkF m 0 #[vl p0, ss, vl p1, ss, vl p2, ss, vl p3, ss, vi p4, vl p5, ss, uu, uu, uu, uu, uu, uu, uu, uu, uu, uu, uu, uu, uu, uu, uu] [])) t := fun t k => pre_8 t (by
        show Steps p.tables e below (T2.setTop (mkF m 80 #[vl p0, ss, vl p1, ss, vl p2, ss, vl p3, ss, vi p4, vl p5, ss, vl v0, ss, vl v1, ss, vl v2, ss, vl v3, ss, vl v4, ss, vl v5, ss, va b1, uu, uu] [(.long v1), (.long v0), (.ref b1)])) _
        refine st9.trans ?_
        refine XS.pop X9.here hx rfl (hb hby at_83) rfl rfl ?_
        refine XS.iload X9.here hx rfl (hb hby at_84) rfl ?_
        refine XS.iconst X9.here hx rfl (hb hby at_86) ?_
        refine XS.iand X9.here hx rfl (hb hby at_87) rfl ?_
        exact k)
      by_cases hc10 : (p4 &&& (2 : Int32)) = (0 : Int32)
      · obtain ⟨cq12, kq12, q12a, q12b, q12c⟩ := isOf hZ rfl P0_9
        obtain ⟨_, _, ⟨T12, L12, k12, n12⟩, -, X12, ⟨Lc12, hQ12, l12, y12, z12⟩, st12⟩ := X9.virtualBack hx (y := My11) (z := My11) hown (mvT hZ (ww hw 61 rfl)) (mvT hZ (ww hw 62 rfl)) (notFace_of_selects (args := #[]) (mvT hZ (ww hw 64 rfl))) (mvT hZ (ww hw 64 rfl)) (mvT hZ (ww hw 63 rfl)) (by decide) (backOf (W := 0) (rm11_1 l Z a0 hw [] w_NONE b1 b2_7_6_9 b2_13_6_9 k2_7_6_9 k2_13_6_9 ((0 : Int64) + ((v1 - v0) + (1 : Int64))) v0 v1 T9.heap n0 O9 S P0_9 P1_9 P2_9 P3_9 P4_9 P5_9 g_b1) hZ (ww hw 65 rfl) (ww hw 5 rfl) (by decide) (by decide)) q12a q12c (g := (mkF m 103 #[vl p0, ss, vl p1, ss, vl p2, ss, vl p3, ss, vi p4, vl p5, ss, vl v0, ss, vl v1, ss, vl v2, ss, vl v3, ss, vl v4, ss, vl v5, ss, va b1, uu, uu] [(.ref b1)])) rfl (by rw [hml]; rfl) (Steps.refl _) (argsL := []) (rest := []) (lenOf pd_1 rfl) rfl (by show 2 * 0 + _ ≤ _; exact Nat.le_of_eq rfl) (hb hby at_103) (fun _ _ => ⟨rfl, rfl, (by decide : 3 + 0 ≤ _), (by decide : 13 + 0 ≤ _)⟩)
        dsimp only [Pt.U, Pt.locs, Pt.cells, Pt.slots] at X12 l12 y12 z12 st12 hQ12
        subst l12 y12 z12
        obtain ⟨rfl, Nq12, Kc12, P0_12, P1_12, P2_12, P3_12, P4_12, P5_12⟩ := hQ12
        have N12 := Fr.app N9 Nq12
        have O12 := O9.keep Kc12 (allS g_b1 all0)
        have K12 : Keep h0 T12.heap [] := K9.trans Kc12 (allS (Or.inr sz_b1) all0)
        have pre_13 : ∀ t, Steps p.tables e below (T12.setTop (mkF m 106 #[vl p0, ss, vl p1, ss, vl p2, ss, vl p3, ss, vi p4, vl p5, ss, vl v0, ss, vl v1, ss, vl v2, ss, vl v3, ss, vl v4, ss, vl v5, ss, va b1, uu, uu] [])) t → Steps p.tables e below (s₁.setTop (mkF m 0 #[vl p0, ss, vl p1, ss, vl p2, ss, vl p3, ss, vi p4, vl p5, ss, uu, uu, uu, uu, uu, uu, uu, uu, uu, uu, uu, uu, uu, uu, uu] [])) t := fun t k => pre_11 t (by
          show Steps p.tables e below (T9.setTop (mkF m 88 #[vl p0, ss, vl p1, ss, vl p2, ss, vl p3, ss, vi p4, vl p5, ss, vl v0, ss, vl v1, ss, vl v2, ss, vl v3, ss, vl v4, ss, vl v5, ss, va b1, uu, uu] [(.int (p4 &&& (2 : Int32)))])) _
          refine XS.ifYes X9.here hx rfl (pc0 := 88) (pc' := 101) rfl (hb hby at_88) rfl ((if0 _ _).trans (teq hc10).1) (by decide) (by decide) ?_
          refine XS.aload X9.here hx rfl (hb hby at_101) rfl rfl ?_
          refine st12.trans ?_
          exact k)
        obtain ⟨U, o, st, rest⟩ := jn1 (a0 := a0) hx hZ hby hml hown hrt hlk hw w_NONE b1 p0 p1 p2 p3 p4 p5 v4 v5 v0 v1 v2 v3 (X12.more (by decide) (by decide)) rfl N12 O12 S P0_12 P1_12 P2_12 P3_12 P4_12 P5_12 g_b1 hv4 hv5
        exact ⟨U, o, pre_13 _ st, rest⟩
      · have hc12 : ¬ (v2 < (0 : Int64)) := ow9 p2 v2 hv2
        have hc13 : ¬ (v3 < v2) := ow13 p2 p3 v2 v3 hv2 hv3 hc12
        have pre_15 : ∀ t, Steps p.tables e below (T9.setTop (mkF m 97 #[vl p0, ss, vl p1, ss, vl p2, ss, vl p3, ss, vi p4, vl p5, ss, vl v0, ss, vl v1, ss, vl v2, ss, vl v3, ss, vl v4, ss, vl v5, ss, va b1, uu, uu] [(.long v3), (.long v2), (.ref b1)])) t → Steps p.tables e below (s₁.setTop (mkF m 0 #[vl p0, ss, vl p1, ss, vl p2, ss, vl p3, ss, vi p4, vl p5, ss, uu, uu, uu, uu, uu, uu, uu, uu, uu, uu, uu, uu, uu, uu, uu] [])) t := fun t k => pre_11 t (by
          show Steps p.tables e below (T9.setTop (mkF m 88 #[vl p0, ss, vl p1, ss, vl p2, ss, vl p3, ss, vi p4, vl p5, ss, vl v0, ss, vl v1, ss, vl v2, ss, vl v3, ss, vl v4, ss, vl v5, ss, va b1, uu, uu] [(.int (p4 &&& (2 : Int32)))])) _
          refine XS.ifNo X9.here hx rfl (hb hby at_88) rfl ((if0 _ _).trans (feq hc10).1) ?_
          refine XS.aload X9.here hx rfl (hb hby at_91) rfl rfl ?_
          refine XS.lload X9.here hx rfl (hb hby at_93) rfl ?_
          refine XS.lload X9.here hx rfl (hb hby at_95) rfl ?_
          exact k)
        by_cases hc14 : v2 = (0 : Int64)
        · have hc16 : ¬ (v1 < (0 : Int64)) := ow14 p0 p1 v0 v1 hv0 hv1 hc5 hc6 hc7
          have hc17 : ¬ ((v3 + (1 : Int64)) < v0) := ow15 p0 p1 p2 p3 v0 v1 v2 v3 hv0 hv1 hv2 hv3 hc5 hc6 hc7 hc12 hc13 hc14 hc16
          obtain ⟨cq18, kq18, q18a, q18b, q18c⟩ := isOf hZ rfl P0_9
          obtain ⟨_, _, ⟨T18, L18, k18, n18⟩, -, X18, ⟨Lc18, hQ18, l18, y18, z18⟩, st18⟩ := X9.virtualBack hx (y := My4) (z := My4) hown (mvT hZ (ww hw 24 rfl)) (mvT hZ (ww hw 25 rfl)) (notFace_of_selects (args := #[]) (mvT hZ (ww hw 27 rfl))) (mvT hZ (ww hw 27 rfl)) (mvT hZ (ww hw 26 rfl)) (by decide) (backOf (W := 0) (rm4_3 l Z a0 hw [] w_NONE b1 b2_7_6_9 b2_13_6_9 k2_7_6_9 k2_13_6_9 v2 v3 ((0 : Int64) + ((v1 - v0) + (1 : Int64))) v0 v1 T9.heap n0 O9 S P0_9 P1_9 P2_9 P3_9 P4_9 P5_9 P6_9 P7_9 ne_b1_b2_7_6_9 ne_b1_b2_13_6_9 P10_9 g_b1 g_b2_7_6_9 g_b2_13_6_9 hc12 hc13 hc14 hc16 hc17) hZ (ww hw 28 rfl) (ww hw 5 rfl) (by decide) (by decide)) q18a q18c (g := (mkF m 97 #[vl p0, ss, vl p1, ss, vl p2, ss, vl p3, ss, vi p4, vl p5, ss, vl v0, ss, vl v1, ss, vl v2, ss, vl v3, ss, vl v4, ss, vl v5, ss, va b1, uu, uu] [(.long v3), (.long v2), (.ref b1)])) rfl (by rw [hml]; rfl) (Steps.refl _) (argsL := [(.long v2), (.long v3)]) (rest := []) (lenOf pd_10 rfl) rfl (by show 2 * 0 + _ ≤ _; exact Nat.le_of_eq rfl) (hb hby at_97) (fun _ _ => ⟨rfl, rfl, (by decide : 3 + 0 ≤ _), (by decide : 13 + 0 ≤ _)⟩)
          dsimp only [Pt.U, Pt.locs, Pt.cells, Pt.slots] at X18 l18 y18 z18 st18 hQ18
          subst l18 y18 z18
          obtain ⟨rfl, Nq18, Kc18, P0_18, P1_18, P2_18, P3_18, P4_18, P5_18, P6_18, P7_18⟩ := hQ18
          have N18 := Fr.app N9 Nq18
          have O18 := O9.keep Kc18 (allS g_b2_7_6_9 (allS g_b2_13_6_9 (allS g_b1 all0)))
          have K18 : Keep h0 T18.heap [] := K9.trans Kc18 (allS (Or.inr sz_b2_7_6_9) (allS (Or.inr sz_b2_13_6_9) (allS (Or.inr sz_b1) all0)))
          obtain ⟨cq19, kq19, q19a, q19b, q19c⟩ := isOf hZ rfl P0_18
          obtain ⟨_, _, ⟨T19, L19, k19, n19⟩, -, X19, ⟨Lc19, hQ19, l19, y19, z19⟩, st19⟩ := X18.virtualBack hx (y := My11) (z := My11) hown (mvT hZ (ww hw 61 rfl)) (mvT hZ (ww hw 62 rfl)) (notFace_of_selects (args := #[]) (mvT hZ (ww hw 64 rfl))) (mvT hZ (ww hw 64 rfl)) (mvT hZ (ww hw 63 rfl)) (by decide) (backOf (W := 0) (rm11_1 l Z a0 hw [] w_NONE b1 b2_7_6_9 b2_13_6_9 k2_7_6_9 k2_13_6_9 (((0 : Int64) + ((v1 - v0) + (1 : Int64))) + ((((own_maxL v3 v1) - (own_minL v2 v0)) + (1 : Int64)) - ((0 : Int64) + ((v1 - v0) + (1 : Int64))))) (own_minL v2 v0) (own_maxL v3 v1) T18.heap n0 O18 S P0_18 P1_18 P2_18 P3_18 P4_18 P5_18 g_b1) hZ (ww hw 65 rfl) (ww hw 5 rfl) (by decide) (by decide)) q19a q19c (g := (mkF m 103 #[vl p0, ss, vl p1, ss, vl p2, ss, vl p3, ss, vi p4, vl p5, ss, vl v0, ss, vl v1, ss, vl v2, ss, vl v3, ss, vl v4, ss, vl v5, ss, va b1, uu, uu] [(.ref b1)])) rfl (by rw [hml]; rfl) (Steps.refl _) (argsL := []) (rest := []) (lenOf pd_1 rfl) rfl (by show 2 * 0 + _ ≤ _; exact Nat.le_of_eq rfl) (hb hby at_103) (fun _ _ => ⟨rfl, rfl, (by decide : 3 + 0 ≤ _), (by decide : 13 + 0 ≤ _)⟩)
          dsimp only [Pt.U, Pt.locs, Pt.cells, Pt.slots] at X19 l19 y19 z19 st19 hQ19
          subst l19 y19 z19
          obtain ⟨rfl, Nq19, Kc19, P0_19, P1_19, P2_19, P3_19, P4_19, P5_19⟩ := hQ19
          have N19 := Fr.app N18 Nq19
          have O19 := O18.keep Kc19 (allS g_b1 all0)
          have K19 : Keep h0 T19.heap [] := K18.trans Kc19 (allS (Or.inr sz_b1) all0)
          have pre_20 : ∀ t, Steps p.tables e below (T19.setTop (mkF m 106 #[vl p0, ss, vl p1, ss, vl p2, ss, vl p3, ss, vi p4, vl p5, ss, vl v0, ss, vl v1, ss, vl v2, ss, vl v3, ss, vl v4, ss, vl v5, ss, va b1, uu, uu] [])) t → Steps p.tables e below (s₁.setTop (mkF m 0 #[vl p0, ss, vl p1, ss, vl p2, ss, vl p3, ss, vi p4, vl p5, ss, uu, uu, uu, uu, uu, uu, uu, uu, uu, uu, uu, uu, uu, uu, uu] [])) t := fun t k => pre_15 t (by
            show Steps p.tables e below (T9.setTop (mkF m 97 #[vl p0, ss, vl p1, ss, vl p2, ss, vl p3, ss, vi p4, vl p5, ss, vl v0, ss, vl v1, ss, vl v2, ss, vl v3, ss, vl v4, ss, vl v5, ss, va b1, uu, uu] [(.long v3), (.long v2), (.ref b1)])) _
            refine st18.trans ?_
            refine XS.pop X18.here hx rfl (hb hby at_100) rfl rfl ?_
            refine XS.aload X18.here hx rfl (hb hby at_101) rfl rfl ?_
            refine st19.trans ?_
            exact k)
          obtain ⟨U, o, st, rest⟩ := jn1 (a0 := a0) hx hZ hby hml hown hrt hlk hw w_NONE b1 p0 p1 p2 p3 p4 p5 v4 v5 v0 v1 v2 v3 (X19.more (by decide) (by decide)) rfl N19 O19 S P0_19 P1_19 P2_19 P3_19 P4_19 P5_19 g_b1 hv4 hv5
          exact ⟨U, o, pre_20 _ st, rest⟩
        · by_cases hc16 : v1 < (v2 - (1 : Int64))
          · obtain ⟨cq17, kq17, q17a, q17b, q17c⟩ := isOf hZ rfl P0_9
            obtain ⟨_, _, ⟨T17, L17, k17, n17⟩, -, X17, ⟨Lc17, hQ17, l17, y17, z17⟩, st17⟩ := X9.virtualBack hx (y := My4) (z := My4) hown (mvT hZ (ww hw 24 rfl)) (mvT hZ (ww hw 25 rfl)) (notFace_of_selects (args := #[]) (mvT hZ (ww hw 27 rfl))) (mvT hZ (ww hw 27 rfl)) (mvT hZ (ww hw 26 rfl)) (by decide) (backOf (W := 0) (rm4_4 l Z a0 hw [] w_NONE b1 b2_7_6_9 b2_13_6_9 k2_7_6_9 k2_13_6_9 v2 v3 ((0 : Int64) + ((v1 - v0) + (1 : Int64))) v0 v1 T9.heap n0 O9 S P0_9 P1_9 P2_9 P3_9 P4_9 P5_9 P6_9 P7_9 ne_b1_b2_7_6_9 ne_b1_b2_13_6_9 P10_9 g_b1 g_b2_7_6_9 g_b2_13_6_9 hc12 hc13 hc14 hc16) hZ (ww hw 28 rfl) (ww hw 5 rfl) (by decide) (by decide)) q17a q17c (g := (mkF m 97 #[vl p0, ss, vl p1, ss, vl p2, ss, vl p3, ss, vi p4, vl p5, ss, vl v0, ss, vl v1, ss, vl v2, ss, vl v3, ss, vl v4, ss, vl v5, ss, va b1, uu, uu] [(.long v3), (.long v2), (.ref b1)])) rfl (by rw [hml]; rfl) (Steps.refl _) (argsL := [(.long v2), (.long v3)]) (rest := []) (lenOf pd_10 rfl) rfl (by show 2 * 0 + _ ≤ _; exact Nat.le_of_eq rfl) (hb hby at_97) (fun _ _ => ⟨rfl, rfl, (by decide : 3 + 0 ≤ _), (by decide : 13 + 0 ≤ _)⟩)
            dsimp only [Pt.U, Pt.locs, Pt.cells, Pt.slots] at X17 l17 y17 z17 st17 hQ17
            subst l17 y17 z17
            obtain ⟨rfl, Nq17, Kc17, P0_17, P1_17, P2_17, P3_17, P4_17, P5_17, P6_17, P7_17⟩ := hQ17
            have N17 := Fr.app N9 Nq17
            have O17 := O9.keep Kc17 (allS g_b1 (allS g_b2_13_6_9 (allS g_b2_7_6_9 all0)))
            have K17 : Keep h0 T17.heap [] := K9.trans Kc17 (allS (Or.inr sz_b1) (allS (Or.inr sz_b2_13_6_9) (allS (Or.inr sz_b2_7_6_9) all0)))
            obtain ⟨cq18, kq18, q18a, q18b, q18c⟩ := isOf hZ rfl P0_17
            obtain ⟨_, _, ⟨T18, L18, k18, n18⟩, -, X18, ⟨Lc18, hQ18, l18, y18, z18⟩, st18⟩ := X17.virtualBack hx (y := My11) (z := My11) hown (mvT hZ (ww hw 61 rfl)) (mvT hZ (ww hw 62 rfl)) (notFace_of_selects (args := #[]) (mvT hZ (ww hw 64 rfl))) (mvT hZ (ww hw 64 rfl)) (mvT hZ (ww hw 63 rfl)) (by decide) (backOf (W := 0) (rm11_2 l Z a0 hw [] w_NONE b1 b2_7_6_9 b2_13_6_9 k2_7_6_9 k2_13_6_9 (((0 : Int64) + ((v1 - v0) + (1 : Int64))) + ((v3 - v2) + (1 : Int64))) v0 v2 v1 v3 T17.heap n0 O17 S P0_17 P1_17 P2_17 P3_17 P4_17 P5_17 g_b1) hZ (ww hw 65 rfl) (ww hw 5 rfl) (by decide) (by decide)) q18a q18c (g := (mkF m 103 #[vl p0, ss, vl p1, ss, vl p2, ss, vl p3, ss, vi p4, vl p5, ss, vl v0, ss, vl v1, ss, vl v2, ss, vl v3, ss, vl v4, ss, vl v5, ss, va b1, uu, uu] [(.ref b1)])) rfl (by rw [hml]; rfl) (Steps.refl _) (argsL := []) (rest := []) (lenOf pd_1 rfl) rfl (by show 2 * 0 + _ ≤ _; exact Nat.le_of_eq rfl) (hb hby at_103) (fun _ _ => ⟨rfl, rfl, (by decide : 3 + 0 ≤ _), (by decide : 13 + 0 ≤ _)⟩)
            dsimp only [Pt.U, Pt.locs, Pt.cells, Pt.slots] at X18 l18 y18 z18 st18 hQ18
            subst l18 y18 z18
            obtain ⟨rfl, Nq18, Kc18, P0_18, P1_18, P2_18, P3_18, P4_18, P5_18⟩ := hQ18
            have N18 := Fr.app N17 Nq18
            have O18 := O17.keep Kc18 (allS g_b1 all0)
            have K18 : Keep h0 T18.heap [] := K17.trans Kc18 (allS (Or.inr sz_b1) all0)
            have pre_19 : ∀ t, Steps p.tables e below (T18.setTop (mkF m 106 #[vl p0, ss, vl p1, ss, vl p2, ss, vl p3, ss, vi p4, vl p5, ss, vl v0, ss, vl v1, ss, vl v2, ss, vl v3, ss, vl v4, ss, vl v5, ss, va b1, uu, uu] [])) t → Steps p.tables e below (s₁.setTop (mkF m 0 #[vl p0, ss, vl p1, ss, vl p2, ss, vl p3, ss, vi p4, vl p5, ss, uu, uu, uu, uu, uu, uu, uu, uu, uu, uu, uu, uu, uu, uu, uu] [])) t := fun t k => pre_15 t (by
              show Steps p.tables e below (T9.setTop (mkF m 97 #[vl p0, ss, vl p1, ss, vl p2, ss, vl p3, ss, vi p4, vl p5, ss, vl v0, ss, vl v1, ss, vl v2, ss, vl v3, ss, vl v4, ss, vl v5, ss, va b1, uu, uu] [(.long v3), (.long v2), (.ref b1)])) _
              refine st17.trans ?_
              refine XS.pop X17.here hx rfl (hb hby at_100) rfl rfl ?_
              refine XS.aload X17.here hx rfl (hb hby at_101) rfl rfl ?_
              refine st18.trans ?_
              exact k)
            obtain ⟨U, o, st, rest⟩ := jn1 (a0 := a0) hx hZ hby hml hown hrt hlk hw w_NONE b1 p0 p1 p2 p3 p4 p5 v4 v5 v0 v1 v2 v3 (X18.more (by decide) (by decide)) rfl N18 O18 S P0_18 P1_18 P2_18 P3_18 P4_18 P5_18 g_b1 hv4 hv5
            exact ⟨U, o, pre_19 _ st, rest⟩
          · have hc17 : ¬ ((v3 + (1 : Int64)) < v0) := ow16 p0 p1 p2 p3 v0 v1 v2 v3 hv0 hv1 hv2 hv3 hc5 hc6 hc7 hc12 hc13 hc14 hc16
            obtain ⟨cq18, kq18, q18a, q18b, q18c⟩ := isOf hZ rfl P0_9
            obtain ⟨_, _, ⟨T18, L18, k18, n18⟩, -, X18, ⟨Lc18, hQ18, l18, y18, z18⟩, st18⟩ := X9.virtualBack hx (y := My4) (z := My4) hown (mvT hZ (ww hw 24 rfl)) (mvT hZ (ww hw 25 rfl)) (notFace_of_selects (args := #[]) (mvT hZ (ww hw 27 rfl))) (mvT hZ (ww hw 27 rfl)) (mvT hZ (ww hw 26 rfl)) (by decide) (backOf (W := 0) (rm4_2 l Z a0 hw [] w_NONE b1 b2_7_6_9 b2_13_6_9 k2_7_6_9 k2_13_6_9 v2 v3 ((0 : Int64) + ((v1 - v0) + (1 : Int64))) v0 v1 T9.heap n0 O9 S P0_9 P1_9 P2_9 P3_9 P4_9 P5_9 P6_9 P7_9 ne_b1_b2_7_6_9 ne_b1_b2_13_6_9 P10_9 g_b1 g_b2_7_6_9 g_b2_13_6_9 hc12 hc13 hc14 hc16 hc17) hZ (ww hw 28 rfl) (ww hw 5 rfl) (by decide) (by decide)) q18a q18c (g := (mkF m 97 #[vl p0, ss, vl p1, ss, vl p2, ss, vl p3, ss, vi p4, vl p5, ss, vl v0, ss, vl v1, ss, vl v2, ss, vl v3, ss, vl v4, ss, vl v5, ss, va b1, uu, uu] [(.long v3), (.long v2), (.ref b1)])) rfl (by rw [hml]; rfl) (Steps.refl _) (argsL := [(.long v2), (.long v3)]) (rest := []) (lenOf pd_10 rfl) rfl (by show 2 * 0 + _ ≤ _; exact Nat.le_of_eq rfl) (hb hby at_97) (fun _ _ => ⟨rfl, rfl, (by decide : 3 + 0 ≤ _), (by decide : 13 + 0 ≤ _)⟩)
            dsimp only [Pt.U, Pt.locs, Pt.cells, Pt.slots] at X18 l18 y18 z18 st18 hQ18
            subst l18 y18 z18
            obtain ⟨rfl, Nq18, Kc18, P0_18, P1_18, P2_18, P3_18, P4_18, P5_18, P6_18, P7_18⟩ := hQ18
            have N18 := Fr.app N9 Nq18
            have O18 := O9.keep Kc18 (allS g_b2_7_6_9 (allS g_b2_13_6_9 (allS g_b1 all0)))
            have K18 : Keep h0 T18.heap [] := K9.trans Kc18 (allS (Or.inr sz_b2_7_6_9) (allS (Or.inr sz_b2_13_6_9) (allS (Or.inr sz_b1) all0)))
            obtain ⟨cq19, kq19, q19a, q19b, q19c⟩ := isOf hZ rfl P0_18
            obtain ⟨_, _, ⟨T19, L19, k19, n19⟩, -, X19, ⟨Lc19, hQ19, l19, y19, z19⟩, st19⟩ := X18.virtualBack hx (y := My11) (z := My11) hown (mvT hZ (ww hw 61 rfl)) (mvT hZ (ww hw 62 rfl)) (notFace_of_selects (args := #[]) (mvT hZ (ww hw 64 rfl))) (mvT hZ (ww hw 64 rfl)) (mvT hZ (ww hw 63 rfl)) (by decide) (backOf (W := 0) (rm11_1 l Z a0 hw [] w_NONE b1 b2_7_6_9 b2_13_6_9 k2_7_6_9 k2_13_6_9 (((0 : Int64) + ((v1 - v0) + (1 : Int64))) + ((((own_maxL v3 v1) - (own_minL v2 v0)) + (1 : Int64)) - ((0 : Int64) + ((v1 - v0) + (1 : Int64))))) (own_minL v2 v0) (own_maxL v3 v1) T18.heap n0 O18 S P0_18 P1_18 P2_18 P3_18 P4_18 P5_18 g_b1) hZ (ww hw 65 rfl) (ww hw 5 rfl) (by decide) (by decide)) q19a q19c (g := (mkF m 103 #[vl p0, ss, vl p1, ss, vl p2, ss, vl p3, ss, vi p4, vl p5, ss, vl v0, ss, vl v1, ss, vl v2, ss, vl v3, ss, vl v4, ss, vl v5, ss, va b1, uu, uu] [(.ref b1)])) rfl (by rw [hml]; rfl) (Steps.refl _) (argsL := []) (rest := []) (lenOf pd_1 rfl) rfl (by show 2 * 0 + _ ≤ _; exact Nat.le_of_eq rfl) (hb hby at_103) (fun _ _ => ⟨rfl, rfl, (by decide : 3 + 0 ≤ _), (by decide : 13 + 0 ≤ _)⟩)
            dsimp only [Pt.U, Pt.locs, Pt.cells, Pt.slots] at X19 l19 y19 z19 st19 hQ19
            subst l19 y19 z19
            obtain ⟨rfl, Nq19, Kc19, P0_19, P1_19, P2_19, P3_19, P4_19, P5_19⟩ := hQ19
            have N19 := Fr.app N18 Nq19
            have O19 := O18.keep Kc19 (allS g_b1 all0)
            have K19 : Keep h0 T19.heap [] := K18.trans Kc19 (allS (Or.inr sz_b1) all0)
            have pre_20 : ∀ t, Steps p.tables e below (T19.setTop (mkF m 106 #[vl p0, ss, vl p1, ss, vl p2, ss, vl p3, ss, vi p4, vl p5, ss, vl v0, ss, vl v1, ss, vl v2, ss, vl v3, ss, vl v4, ss, vl v5, ss, va b1, uu, uu] [])) t → Steps p.tables e below (s₁.setTop (mkF m 0 #[vl p0, ss, vl p1, ss, vl p2, ss, vl p3, ss, vi p4, vl p5, ss, uu, uu, uu, uu, uu, uu, uu, uu, uu, uu, uu, uu, uu, uu, uu] [])) t := fun t k => pre_15 t (by
              show Steps p.tables e below (T9.setTop (mkF m 97 #[vl p0, ss, vl p1, ss, vl p2, ss, vl p3, ss, vi p4, vl p5, ss, vl v0, ss, vl v1, ss, vl v2, ss, vl v3, ss, vl v4, ss, vl v5, ss, va b1, uu, uu] [(.long v3), (.long v2), (.ref b1)])) _
              refine st18.trans ?_
              refine XS.pop X18.here hx rfl (hb hby at_100) rfl rfl ?_
              refine XS.aload X18.here hx rfl (hb hby at_101) rfl rfl ?_
              refine st19.trans ?_
              exact k)
            obtain ⟨U, o, st, rest⟩ := jn1 (a0 := a0) hx hZ hby hml hown hrt hlk hw w_NONE b1 p0 p1 p2 p3 p4 p5 v4 v5 v0 v1 v2 v3 (X19.more (by decide) (by decide)) rfl N19 O19 S P0_19 P1_19 P2_19 P3_19 P4_19 P5_19 g_b1 hv4 hv5
            exact ⟨U, o, pre_20 _ st, rest⟩
    · obtain ⟨cq9, kq9, q9a, q9b, q9c⟩ := isOf hZ rfl P0_2
      obtain ⟨_, _, ⟨T9, L9, k9, n9⟩, -, X9, ⟨Lc9, hQ9, l9, y9, z9⟩, st9⟩ := X2.virtualBack hx (y := My4) (z := My4) hown (mvT hZ (ww hw 24 rfl)) (mvT hZ (ww hw 25 rfl)) (notFace_of_selects (args := #[]) (mvT hZ (ww hw 27 rfl))) (mvT hZ (ww hw 27 rfl)) (mvT hZ (ww hw 26 rfl)) (by decide) (backOf (W := 0) (rm4_0 l Z a0 hw [] w_NONE b1 v0 v1 T2.heap n0 O2 S P0_2 P1_2 P2_2 P3_2 P4_2 P5_2 g_b1 hc5 hc6 hc7) hZ (ww hw 28 rfl) (ww hw 5 rfl) (by decide) (by decide)) q9a q9c (g := (mkF m 80 #[vl p0, ss, vl p1, ss, vl p2, ss, vl p3, ss, vi p4, vl p5, ss, vl v0, ss, vl v1, ss, vl v2, ss, vl v3, ss, vl v4, ss, vl v5, ss, va b1, uu, uu] [(.long v1), (.long v0), (.ref b1)])) rfl (by rw [hml]; rfl) (Steps.refl _) (argsL := [(.long v0), (.long v1)]) (rest := []) (lenOf pd_10 rfl) rfl (by show 2 * 0 + _ ≤ _; exact Nat.le_of_eq rfl) (hb hby at_80) (fun _ _ => ⟨rfl, rfl, (by decide : 1 + 2 ≤ _), (by decide : 5 + 8 ≤ _)⟩)
      dsimp only [Pt.U, Pt.locs, Pt.cells, Pt.slots] at X9 l9 y9 z9 st9 hQ9
      subst l9 y9 z9
      obtain ⟨b2_7_6_9, b2_13_6_9, k2_7_6_9, k2_13_6_9, rfl, Nq9, Kc9, P0_9, P1_9, P2_9, P3_9, P4_9, P5_9, P6_9, P7_9, P8_9, P9_9, P10_9⟩ := hQ9
      have N9 := Fr.app N2 Nq9
      have ne_b1_b2_7_6_9 : b1 ≠ b2_7_6_9 := Nat.ne_of_lt (Nat.lt_of_lt_of_le P0_2.lt P8_9)
      have ne_b1_b2_13_6_9 : b1 ≠ b2_13_6_9 := Nat.ne_of_lt (Nat.lt_of_lt_of_le P0_2.lt P9_9)
      have g_b2_7_6_9 : n0 ≤ b2_7_6_9 := Nat.le_trans (own_old O2) P8_9
      have sz_b2_7_6_9 : h0.size ≤ b2_7_6_9 := Nat.le_trans K2.1 P8_9
      have g_b2_13_6_9 : n0 ≤ b2_13_6_9 := Nat.le_trans (own_old O2) P9_9
      have sz_b2_13_6_9 : h0.size ≤ b2_13_6_9 := Nat.le_trans K2.1 P9_9
      have O9 := O2.keep Kc9 (allS g_b1 all0)
      have K9 : Keep h0 T9.heap [] := K2.trans Kc9 (allS (Or.inr sz_b1) all0)
      have pre_11 : ∀ t, Steps p.tables e below (T9.setTop (mkF m 88 #[vl p0, ss, vl p1, ss, vl p2, ss, vl p3, ss, vi p4, vl p5, ss, vl v0, ss, vl v1, ss, vl v2, ss, vl v3, ss, vl v4, ss, vl v5, ss, va b1, uu, uu] [(.int (p4 &&& (2 : Int32)))])) t → Steps p.tables e below (s₁.setTop (mkF m 0 #[vl p0, ss, vl p1, ss, vl p2, ss, vl p3, ss, vi p4, vl p5, ss, uu, uu, uu, uu, uu, uu, uu, uu, uu, uu, uu, uu, uu, uu, uu] [])) t := fun t k => pre_8 t (by
        show Steps p.tables e below (T2.setTop (mkF m 80 #[vl p0, ss, vl p1, ss, vl p2, ss, vl p3, ss, vi p4, vl p5, ss, vl v0, ss, vl v1, ss, vl v2, ss, vl v3, ss, vl v4, ss, vl v5, ss, va b1, uu, uu] [(.long v1), (.long v0), (.ref b1)])) _
        refine st9.trans ?_
        refine XS.pop X9.here hx rfl (hb hby at_83) rfl rfl ?_
        refine XS.iload X9.here hx rfl (hb hby at_84) rfl ?_
        refine XS.iconst X9.here hx rfl (hb hby at_86) ?_
        refine XS.iand X9.here hx rfl (hb hby at_87) rfl ?_
        exact k)
      by_cases hc10 : (p4 &&& (2 : Int32)) = (0 : Int32)
      · obtain ⟨cq12, kq12, q12a, q12b, q12c⟩ := isOf hZ rfl P0_9
        obtain ⟨_, _, ⟨T12, L12, k12, n12⟩, -, X12, ⟨Lc12, hQ12, l12, y12, z12⟩, st12⟩ := X9.virtualBack hx (y := My11) (z := My11) hown (mvT hZ (ww hw 61 rfl)) (mvT hZ (ww hw 62 rfl)) (notFace_of_selects (args := #[]) (mvT hZ (ww hw 64 rfl))) (mvT hZ (ww hw 64 rfl)) (mvT hZ (ww hw 63 rfl)) (by decide) (backOf (W := 0) (rm11_1 l Z a0 hw [] w_NONE b1 b2_7_6_9 b2_13_6_9 k2_7_6_9 k2_13_6_9 ((0 : Int64) + ((v1 - v0) + (1 : Int64))) v0 v1 T9.heap n0 O9 S P0_9 P1_9 P2_9 P3_9 P4_9 P5_9 g_b1) hZ (ww hw 65 rfl) (ww hw 5 rfl) (by decide) (by decide)) q12a q12c (g := (mkF m 103 #[vl p0, ss, vl p1, ss, vl p2, ss, vl p3, ss, vi p4, vl p5, ss, vl v0, ss, vl v1, ss, vl v2, ss, vl v3, ss, vl v4, ss, vl v5, ss, va b1, uu, uu] [(.ref b1)])) rfl (by rw [hml]; rfl) (Steps.refl _) (argsL := []) (rest := []) (lenOf pd_1 rfl) rfl (by show 2 * 0 + _ ≤ _; exact Nat.le_of_eq rfl) (hb hby at_103) (fun _ _ => ⟨rfl, rfl, (by decide : 3 + 0 ≤ _), (by decide : 13 + 0 ≤ _)⟩)
        dsimp only [Pt.U, Pt.locs, Pt.cells, Pt.slots] at X12 l12 y12 z12 st12 hQ12
        subst l12 y12 z12
        obtain ⟨rfl, Nq12, Kc12, P0_12, P1_12, P2_12, P3_12, P4_12, P5_12⟩ := hQ12
        have N12 := Fr.app N9 Nq12
        have O12 := O9.keep Kc12 (allS g_b1 all0)
        have K12 : Keep h0 T12.heap [] := K9.trans Kc12 (allS (Or.inr sz_b1) all0)
        have pre_13 : ∀ t, Steps p.tables e below (T12.setTop (mkF m 106 #[vl p0, ss, vl p1, ss, vl p2, ss, vl p3, ss, vi p4, vl p5, ss, vl v0, ss, vl v1, ss, vl v2, ss, vl v3, ss, vl v4, ss, vl v5, ss, va b1, uu, uu] [])) t → Steps p.tables e below (s₁.setTop (mkF m 0 #[vl p0, ss, vl p1, ss, vl p2, ss, vl p3, ss, vi p4, vl p5, ss, uu, uu, uu, uu, uu, uu, uu, uu, uu, uu, uu, uu, uu, uu, uu] [])) t := fun t k => pre_11 t (by
          show Steps p.tables e below (T9.setTop (mkF m 88 #[vl p0, ss, vl p1, ss, vl p2, ss, vl p3, ss, vi p4, vl p5, ss, vl v0, ss, vl v1, ss, vl v2, ss, vl v3, ss, vl v4, ss, vl v5, ss, va b1, uu, uu] [(.int (p4 &&& (2 : Int32)))])) _
          refine XS.ifYes X9.here hx rfl (pc0 := 88) (pc' := 101) rfl (hb hby at_88) rfl ((if0 _ _).trans (teq hc10).1) (by decide) (by decide) ?_
          refine XS.aload X9.here hx rfl (hb hby at_101) rfl rfl ?_
          refine st12.trans ?_
          exact k)
        obtain ⟨U, o, st, rest⟩ := jn1 (a0 := a0) hx hZ hby hml hown hrt hlk hw w_NONE b1 p0 p1 p2 p3 p4 p5 v4 v5 v0 v1 v2 v3 (X12.more (by decide) (by decide)) rfl N12 O12 S P0_12 P1_12 P2_12 P3_12 P4_12 P5_12 g_b1 hv4 hv5
        exact ⟨U, o, pre_13 _ st, rest⟩
      · have hc12 : ¬ (v2 < (0 : Int64)) := ow9 p2 v2 hv2
        have hc13 : ¬ (v3 < v2) := ow13 p2 p3 v2 v3 hv2 hv3 hc12
        have pre_15 : ∀ t, Steps p.tables e below (T9.setTop (mkF m 97 #[vl p0, ss, vl p1, ss, vl p2, ss, vl p3, ss, vi p4, vl p5, ss, vl v0, ss, vl v1, ss, vl v2, ss, vl v3, ss, vl v4, ss, vl v5, ss, va b1, uu, uu] [(.long v3), (.long v2), (.ref b1)])) t → Steps p.tables e below (s₁.setTop (mkF m 0 #[vl p0, ss, vl p1, ss, vl p2, ss, vl p3, ss, vi p4, vl p5, ss, uu, uu, uu, uu, uu, uu, uu, uu, uu, uu, uu, uu, uu, uu, uu] [])) t := fun t k => pre_11 t (by
          show Steps p.tables e below (T9.setTop (mkF m 88 #[vl p0, ss, vl p1, ss, vl p2, ss, vl p3, ss, vi p4, vl p5, ss, vl v0, ss, vl v1, ss, vl v2, ss, vl v3, ss, vl v4, ss, vl v5, ss, va b1, uu, uu] [(.int (p4 &&& (2 : Int32)))])) _
          refine XS.ifNo X9.here hx rfl (hb hby at_88) rfl ((if0 _ _).trans (feq hc10).1) ?_
          refine XS.aload X9.here hx rfl (hb hby at_91) rfl rfl ?_
          refine XS.lload X9.here hx rfl (hb hby at_93) rfl ?_
          refine XS.lload X9.here hx rfl (hb hby at_95) rfl ?_
          exact k)
        by_cases hc14 : v2 = (0 : Int64)
        · have hc16 : ¬ (v1 < (0 : Int64)) := ow17 p0 p1 v0 v1 hv0 hv1 hc5 hc6 hc7
          by_cases hc17 : (v3 + (1 : Int64)) < v0
          · obtain ⟨cq18, kq18, q18a, q18b, q18c⟩ := isOf hZ rfl P0_9
            obtain ⟨_, _, ⟨T18, L18, k18, n18⟩, -, X18, ⟨Lc18, hQ18, l18, y18, z18⟩, st18⟩ := X9.virtualBack hx (y := My4) (z := My4) hown (mvT hZ (ww hw 24 rfl)) (mvT hZ (ww hw 25 rfl)) (notFace_of_selects (args := #[]) (mvT hZ (ww hw 27 rfl))) (mvT hZ (ww hw 27 rfl)) (mvT hZ (ww hw 26 rfl)) (by decide) (backOf (W := 0) (rm4_5 l Z a0 hw [] w_NONE b1 b2_7_6_9 b2_13_6_9 k2_7_6_9 k2_13_6_9 v2 v3 ((0 : Int64) + ((v1 - v0) + (1 : Int64))) v0 v1 T9.heap n0 O9 S P0_9 P1_9 P2_9 P3_9 P4_9 P5_9 P6_9 P7_9 ne_b1_b2_7_6_9 ne_b1_b2_13_6_9 P10_9 g_b1 g_b2_7_6_9 g_b2_13_6_9 hc12 hc13 hc14 hc16 hc17) hZ (ww hw 28 rfl) (ww hw 5 rfl) (by decide) (by decide)) q18a q18c (g := (mkF m 97 #[vl p0, ss, vl p1, ss, vl p2, ss, vl p3, ss, vi p4, vl p5, ss, vl v0, ss, vl v1, ss, vl v2, ss, vl v3, ss, vl v4, ss, vl v5, ss, va b1, uu, uu] [(.long v3), (.long v2), (.ref b1)])) rfl (by rw [hml]; rfl) (Steps.refl _) (argsL := [(.long v2), (.long v3)]) (rest := []) (lenOf pd_10 rfl) rfl (by show 2 * 0 + _ ≤ _; exact Nat.le_of_eq rfl) (hb hby at_97) (fun _ _ => ⟨rfl, rfl, (by decide : 3 + 0 ≤ _), (by decide : 13 + 0 ≤ _)⟩)
            dsimp only [Pt.U, Pt.locs, Pt.cells, Pt.slots] at X18 l18 y18 z18 st18 hQ18
            subst l18 y18 z18
            obtain ⟨rfl, Nq18, Kc18, P0_18, P1_18, P2_18, P3_18, P4_18, P5_18, P6_18, P7_18⟩ := hQ18
            have N18 := Fr.app N9 Nq18
            have O18 := O9.keep Kc18 (allS g_b1 (allS g_b2_13_6_9 (allS g_b2_7_6_9 all0)))
            have K18 : Keep h0 T18.heap [] := K9.trans Kc18 (allS (Or.inr sz_b1) (allS (Or.inr sz_b2_13_6_9) (allS (Or.inr sz_b2_7_6_9) all0)))
            obtain ⟨cq19, kq19, q19a, q19b, q19c⟩ := isOf hZ rfl P0_18
            obtain ⟨_, _, ⟨T19, L19, k19, n19⟩, -, X19, ⟨Lc19, hQ19, l19, y19, z19⟩, st19⟩ := X18.virtualBack hx (y := My11) (z := My11) hown (mvT hZ (ww hw 61 rfl)) (mvT hZ (ww hw 62 rfl)) (notFace_of_selects (args := #[]) (mvT hZ (ww hw 64 rfl))) (mvT hZ (ww hw 64 rfl)) (mvT hZ (ww hw 63 rfl)) (by decide) (backOf (W := 0) (rm11_2 l Z a0 hw [] w_NONE b1 b2_7_6_9 b2_13_6_9 k2_7_6_9 k2_13_6_9 (((0 : Int64) + ((v1 - v0) + (1 : Int64))) + ((v3 - v2) + (1 : Int64))) v2 v0 v3 v1 T18.heap n0 O18 S P0_18 P1_18 P2_18 P3_18 P4_18 P5_18 g_b1) hZ (ww hw 65 rfl) (ww hw 5 rfl) (by decide) (by decide)) q19a q19c (g := (mkF m 103 #[vl p0, ss, vl p1, ss, vl p2, ss, vl p3, ss, vi p4, vl p5, ss, vl v0, ss, vl v1, ss, vl v2, ss, vl v3, ss, vl v4, ss, vl v5, ss, va b1, uu, uu] [(.ref b1)])) rfl (by rw [hml]; rfl) (Steps.refl _) (argsL := []) (rest := []) (lenOf pd_1 rfl) rfl (by show 2 * 0 + _ ≤ _; exact Nat.le_of_eq rfl) (hb hby at_103) (fun _ _ => ⟨rfl, rfl, (by decide : 3 + 0 ≤ _), (by decide : 13 + 0 ≤ _)⟩)
            dsimp only [Pt.U, Pt.locs, Pt.cells, Pt.slots] at X19 l19 y19 z19 st19 hQ19
            subst l19 y19 z19
            obtain ⟨rfl, Nq19, Kc19, P0_19, P1_19, P2_19, P3_19, P4_19, P5_19⟩ := hQ19
            have N19 := Fr.app N18 Nq19
            have O19 := O18.keep Kc19 (allS g_b1 all0)
            have K19 : Keep h0 T19.heap [] := K18.trans Kc19 (allS (Or.inr sz_b1) all0)
            have pre_20 : ∀ t, Steps p.tables e below (T19.setTop (mkF m 106 #[vl p0, ss, vl p1, ss, vl p2, ss, vl p3, ss, vi p4, vl p5, ss, vl v0, ss, vl v1, ss, vl v2, ss, vl v3, ss, vl v4, ss, vl v5, ss, va b1, uu, uu] [])) t → Steps p.tables e below (s₁.setTop (mkF m 0 #[vl p0, ss, vl p1, ss, vl p2, ss, vl p3, ss, vi p4, vl p5, ss, uu, uu, uu, uu, uu, uu, uu, uu, uu, uu, uu, uu, uu, uu, uu] [])) t := fun t k => pre_15 t (by
              show Steps p.tables e below (T9.setTop (mkF m 97 #[vl p0, ss, vl p1, ss, vl p2, ss, vl p3, ss, vi p4, vl p5, ss, vl v0, ss, vl v1, ss, vl v2, ss, vl v3, ss, vl v4, ss, vl v5, ss, va b1, uu, uu] [(.long v3), (.long v2), (.ref b1)])) _
              refine st18.trans ?_
              refine XS.pop X18.here hx rfl (hb hby at_100) rfl rfl ?_
              refine XS.aload X18.here hx rfl (hb hby at_101) rfl rfl ?_
              refine st19.trans ?_
              exact k)
            obtain ⟨U, o, st, rest⟩ := jn1 (a0 := a0) hx hZ hby hml hown hrt hlk hw w_NONE b1 p0 p1 p2 p3 p4 p5 v4 v5 v0 v1 v2 v3 (X19.more (by decide) (by decide)) rfl N19 O19 S P0_19 P1_19 P2_19 P3_19 P4_19 P5_19 g_b1 hv4 hv5
            exact ⟨U, o, pre_20 _ st, rest⟩
          · obtain ⟨cq18, kq18, q18a, q18b, q18c⟩ := isOf hZ rfl P0_9
            obtain ⟨_, _, ⟨T18, L18, k18, n18⟩, -, X18, ⟨Lc18, hQ18, l18, y18, z18⟩, st18⟩ := X9.virtualBack hx (y := My4) (z := My4) hown (mvT hZ (ww hw 24 rfl)) (mvT hZ (ww hw 25 rfl)) (notFace_of_selects (args := #[]) (mvT hZ (ww hw 27 rfl))) (mvT hZ (ww hw 27 rfl)) (mvT hZ (ww hw 26 rfl)) (by decide) (backOf (W := 0) (rm4_3 l Z a0 hw [] w_NONE b1 b2_7_6_9 b2_13_6_9 k2_7_6_9 k2_13_6_9 v2 v3 ((0 : Int64) + ((v1 - v0) + (1 : Int64))) v0 v1 T9.heap n0 O9 S P0_9 P1_9 P2_9 P3_9 P4_9 P5_9 P6_9 P7_9 ne_b1_b2_7_6_9 ne_b1_b2_13_6_9 P10_9 g_b1 g_b2_7_6_9 g_b2_13_6_9 hc12 hc13 hc14 hc16 hc17) hZ (ww hw 28 rfl) (ww hw 5 rfl) (by decide) (by decide)) q18a q18c (g := (mkF m 97 #[vl p0, ss, vl p1, ss, vl p2, ss, vl p3, ss, vi p4, vl p5, ss, vl v0, ss, vl v1, ss, vl v2, ss, vl v3, ss, vl v4, ss, vl v5, ss, va b1, uu, uu] [(.long v3), (.long v2), (.ref b1)])) rfl (by rw [hml]; rfl) (Steps.refl _) (argsL := [(.long v2), (.long v3)]) (rest := []) (lenOf pd_10 rfl) rfl (by show 2 * 0 + _ ≤ _; exact Nat.le_of_eq rfl) (hb hby at_97) (fun _ _ => ⟨rfl, rfl, (by decide : 3 + 0 ≤ _), (by decide : 13 + 0 ≤ _)⟩)
            dsimp only [Pt.U, Pt.locs, Pt.cells, Pt.slots] at X18 l18 y18 z18 st18 hQ18
            subst l18 y18 z18
            obtain ⟨rfl, Nq18, Kc18, P0_18, P1_18, P2_18, P3_18, P4_18, P5_18, P6_18, P7_18⟩ := hQ18
            have N18 := Fr.app N9 Nq18
            have O18 := O9.keep Kc18 (allS g_b2_7_6_9 (allS g_b2_13_6_9 (allS g_b1 all0)))
            have K18 : Keep h0 T18.heap [] := K9.trans Kc18 (allS (Or.inr sz_b2_7_6_9) (allS (Or.inr sz_b2_13_6_9) (allS (Or.inr sz_b1) all0)))
            obtain ⟨cq19, kq19, q19a, q19b, q19c⟩ := isOf hZ rfl P0_18
            obtain ⟨_, _, ⟨T19, L19, k19, n19⟩, -, X19, ⟨Lc19, hQ19, l19, y19, z19⟩, st19⟩ := X18.virtualBack hx (y := My11) (z := My11) hown (mvT hZ (ww hw 61 rfl)) (mvT hZ (ww hw 62 rfl)) (notFace_of_selects (args := #[]) (mvT hZ (ww hw 64 rfl))) (mvT hZ (ww hw 64 rfl)) (mvT hZ (ww hw 63 rfl)) (by decide) (backOf (W := 0) (rm11_1 l Z a0 hw [] w_NONE b1 b2_7_6_9 b2_13_6_9 k2_7_6_9 k2_13_6_9 (((0 : Int64) + ((v1 - v0) + (1 : Int64))) + ((((own_maxL v3 v1) - (own_minL v2 v0)) + (1 : Int64)) - ((0 : Int64) + ((v1 - v0) + (1 : Int64))))) (own_minL v2 v0) (own_maxL v3 v1) T18.heap n0 O18 S P0_18 P1_18 P2_18 P3_18 P4_18 P5_18 g_b1) hZ (ww hw 65 rfl) (ww hw 5 rfl) (by decide) (by decide)) q19a q19c (g := (mkF m 103 #[vl p0, ss, vl p1, ss, vl p2, ss, vl p3, ss, vi p4, vl p5, ss, vl v0, ss, vl v1, ss, vl v2, ss, vl v3, ss, vl v4, ss, vl v5, ss, va b1, uu, uu] [(.ref b1)])) rfl (by rw [hml]; rfl) (Steps.refl _) (argsL := []) (rest := []) (lenOf pd_1 rfl) rfl (by show 2 * 0 + _ ≤ _; exact Nat.le_of_eq rfl) (hb hby at_103) (fun _ _ => ⟨rfl, rfl, (by decide : 3 + 0 ≤ _), (by decide : 13 + 0 ≤ _)⟩)
            dsimp only [Pt.U, Pt.locs, Pt.cells, Pt.slots] at X19 l19 y19 z19 st19 hQ19
            subst l19 y19 z19
            obtain ⟨rfl, Nq19, Kc19, P0_19, P1_19, P2_19, P3_19, P4_19, P5_19⟩ := hQ19
            have N19 := Fr.app N18 Nq19
            have O19 := O18.keep Kc19 (allS g_b1 all0)
            have K19 : Keep h0 T19.heap [] := K18.trans Kc19 (allS (Or.inr sz_b1) all0)
            have pre_20 : ∀ t, Steps p.tables e below (T19.setTop (mkF m 106 #[vl p0, ss, vl p1, ss, vl p2, ss, vl p3, ss, vi p4, vl p5, ss, vl v0, ss, vl v1, ss, vl v2, ss, vl v3, ss, vl v4, ss, vl v5, ss, va b1, uu, uu] [])) t → Steps p.tables e below (s₁.setTop (mkF m 0 #[vl p0, ss, vl p1, ss, vl p2, ss, vl p3, ss, vi p4, vl p5, ss, uu, uu, uu, uu, uu, uu, uu, uu, uu, uu, uu, uu, uu, uu, uu] [])) t := fun t k => pre_15 t (by
              show Steps p.tables e below (T9.setTop (mkF m 97 #[vl p0, ss, vl p1, ss, vl p2, ss, vl p3, ss, vi p4, vl p5, ss, vl v0, ss, vl v1, ss, vl v2, ss, vl v3, ss, vl v4, ss, vl v5, ss, va b1, uu, uu] [(.long v3), (.long v2), (.ref b1)])) _
              refine st18.trans ?_
              refine XS.pop X18.here hx rfl (hb hby at_100) rfl rfl ?_
              refine XS.aload X18.here hx rfl (hb hby at_101) rfl rfl ?_
              refine st19.trans ?_
              exact k)
            obtain ⟨U, o, st, rest⟩ := jn1 (a0 := a0) hx hZ hby hml hown hrt hlk hw w_NONE b1 p0 p1 p2 p3 p4 p5 v4 v5 v0 v1 v2 v3 (X19.more (by decide) (by decide)) rfl N19 O19 S P0_19 P1_19 P2_19 P3_19 P4_19 P5_19 g_b1 hv4 hv5
            exact ⟨U, o, pre_20 _ st, rest⟩
        · by_cases hc16 : v1 < (v2 - (1 : Int64))
          · obtain ⟨cq17, kq17, q17a, q17b, q17c⟩ := isOf hZ rfl P0_9
            obtain ⟨_, _, ⟨T17, L17, k17, n17⟩, -, X17, ⟨Lc17, hQ17, l17, y17, z17⟩, st17⟩ := X9.virtualBack hx (y := My4) (z := My4) hown (mvT hZ (ww hw 24 rfl)) (mvT hZ (ww hw 25 rfl)) (notFace_of_selects (args := #[]) (mvT hZ (ww hw 27 rfl))) (mvT hZ (ww hw 27 rfl)) (mvT hZ (ww hw 26 rfl)) (by decide) (backOf (W := 0) (rm4_4 l Z a0 hw [] w_NONE b1 b2_7_6_9 b2_13_6_9 k2_7_6_9 k2_13_6_9 v2 v3 ((0 : Int64) + ((v1 - v0) + (1 : Int64))) v0 v1 T9.heap n0 O9 S P0_9 P1_9 P2_9 P3_9 P4_9 P5_9 P6_9 P7_9 ne_b1_b2_7_6_9 ne_b1_b2_13_6_9 P10_9 g_b1 g_b2_7_6_9 g_b2_13_6_9 hc12 hc13 hc14 hc16) hZ (ww hw 28 rfl) (ww hw 5 rfl) (by decide) (by decide)) q17a q17c (g := (mkF m 97 #[vl p0, ss, vl p1, ss, vl p2, ss, vl p3, ss, vi p4, vl p5, ss, vl v0, ss, vl v1, ss, vl v2, ss, vl v3, ss, vl v4, ss, vl v5, ss, va b1, uu, uu] [(.long v3), (.long v2), (.ref b1)])) rfl (by rw [hml]; rfl) (Steps.refl _) (argsL := [(.long v2), (.long v3)]) (rest := []) (lenOf pd_10 rfl) rfl (by show 2 * 0 + _ ≤ _; exact Nat.le_of_eq rfl) (hb hby at_97) (fun _ _ => ⟨rfl, rfl, (by decide : 3 + 0 ≤ _), (by decide : 13 + 0 ≤ _)⟩)
            dsimp only [Pt.U, Pt.locs, Pt.cells, Pt.slots] at X17 l17 y17 z17 st17 hQ17
            subst l17 y17 z17
            obtain ⟨rfl, Nq17, Kc17, P0_17, P1_17, P2_17, P3_17, P4_17, P5_17, P6_17, P7_17⟩ := hQ17
            have N17 := Fr.app N9 Nq17
            have O17 := O9.keep Kc17 (allS g_b1 (allS g_b2_13_6_9 (allS g_b2_7_6_9 all0)))
            have K17 : Keep h0 T17.heap [] := K9.trans Kc17 (allS (Or.inr sz_b1) (allS (Or.inr sz_b2_13_6_9) (allS (Or.inr sz_b2_7_6_9) all0)))
            obtain ⟨cq18, kq18, q18a, q18b, q18c⟩ := isOf hZ rfl P0_17
            obtain ⟨_, _, ⟨T18, L18, k18, n18⟩, -, X18, ⟨Lc18, hQ18, l18, y18, z18⟩, st18⟩ := X17.virtualBack hx (y := My11) (z := My11) hown (mvT hZ (ww hw 61 rfl)) (mvT hZ (ww hw 62 rfl)) (notFace_of_selects (args := #[]) (mvT hZ (ww hw 64 rfl))) (mvT hZ (ww hw 64 rfl)) (mvT hZ (ww hw 63 rfl)) (by decide) (backOf (W := 0) (rm11_2 l Z a0 hw [] w_NONE b1 b2_7_6_9 b2_13_6_9 k2_7_6_9 k2_13_6_9 (((0 : Int64) + ((v1 - v0) + (1 : Int64))) + ((v3 - v2) + (1 : Int64))) v0 v2 v1 v3 T17.heap n0 O17 S P0_17 P1_17 P2_17 P3_17 P4_17 P5_17 g_b1) hZ (ww hw 65 rfl) (ww hw 5 rfl) (by decide) (by decide)) q18a q18c (g := (mkF m 103 #[vl p0, ss, vl p1, ss, vl p2, ss, vl p3, ss, vi p4, vl p5, ss, vl v0, ss, vl v1, ss, vl v2, ss, vl v3, ss, vl v4, ss, vl v5, ss, va b1, uu, uu] [(.ref b1)])) rfl (by rw [hml]; rfl) (Steps.refl _) (argsL := []) (rest := []) (lenOf pd_1 rfl) rfl (by show 2 * 0 + _ ≤ _; exact Nat.le_of_eq rfl) (hb hby at_103) (fun _ _ => ⟨rfl, rfl, (by decide : 3 + 0 ≤ _), (by decide : 13 + 0 ≤ _)⟩)
            dsimp only [Pt.U, Pt.locs, Pt.cells, Pt.slots] at X18 l18 y18 z18 st18 hQ18
            subst l18 y18 z18
            obtain ⟨rfl, Nq18, Kc18, P0_18, P1_18, P2_18, P3_18, P4_18, P5_18⟩ := hQ18
            have N18 := Fr.app N17 Nq18
            have O18 := O17.keep Kc18 (allS g_b1 all0)
            have K18 : Keep h0 T18.heap [] := K17.trans Kc18 (allS (Or.inr sz_b1) all0)
            have pre_19 : ∀ t, Steps p.tables e below (T18.setTop (mkF m 106 #[vl p0, ss, vl p1, ss, vl p2, ss, vl p3, ss, vi p4, vl p5, ss, vl v0, ss, vl v1, ss, vl v2, ss, vl v3, ss, vl v4, ss, vl v5, ss, va b1, uu, uu] [])) t → Steps p.tables e below (s₁.setTop (mkF m 0 #[vl p0, ss, vl p1, ss, vl p2, ss, vl p3, ss, vi p4, vl p5, ss, uu, uu, uu, uu, uu, uu, uu, uu, uu, uu, uu, uu, uu, uu, uu] [])) t := fun t k => pre_15 t (by
              show Steps p.tables e below (T9.setTop (mkF m 97 #[vl p0, ss, vl p1, ss, vl p2, ss, vl p3, ss, vi p4, vl p5, ss, vl v0, ss, vl v1, ss, vl v2, ss, vl v3, ss, vl v4, ss, vl v5, ss, va b1, uu, uu] [(.long v3), (.long v2), (.ref b1)])) _
              refine st17.trans ?_
              refine XS.pop X17.here hx rfl (hb hby at_100) rfl rfl ?_
              refine XS.aload X17.here hx rfl (hb hby at_101) rfl rfl ?_
              refine st18.trans ?_
              exact k)
            obtain ⟨U, o, st, rest⟩ := jn1 (a0 := a0) hx hZ hby hml hown hrt hlk hw w_NONE b1 p0 p1 p2 p3 p4 p5 v4 v5 v0 v1 v2 v3 (X18.more (by decide) (by decide)) rfl N18 O18 S P0_18 P1_18 P2_18 P3_18 P4_18 P5_18 g_b1 hv4 hv5
            exact ⟨U, o, pre_19 _ st, rest⟩
          · by_cases hc17 : (v3 + (1 : Int64)) < v0
            · obtain ⟨cq18, kq18, q18a, q18b, q18c⟩ := isOf hZ rfl P0_9
              obtain ⟨_, _, ⟨T18, L18, k18, n18⟩, -, X18, ⟨Lc18, hQ18, l18, y18, z18⟩, st18⟩ := X9.virtualBack hx (y := My4) (z := My4) hown (mvT hZ (ww hw 24 rfl)) (mvT hZ (ww hw 25 rfl)) (notFace_of_selects (args := #[]) (mvT hZ (ww hw 27 rfl))) (mvT hZ (ww hw 27 rfl)) (mvT hZ (ww hw 26 rfl)) (by decide) (backOf (W := 0) (rm4_6 l Z a0 hw [] w_NONE b1 b2_7_6_9 b2_13_6_9 k2_7_6_9 k2_13_6_9 v2 v3 ((0 : Int64) + ((v1 - v0) + (1 : Int64))) v0 v1 T9.heap n0 O9 S P0_9 P1_9 P2_9 P3_9 P4_9 P5_9 P6_9 P7_9 ne_b1_b2_7_6_9 ne_b1_b2_13_6_9 P10_9 g_b1 g_b2_7_6_9 g_b2_13_6_9 hc12 hc13 hc14 hc16 hc17) hZ (ww hw 28 rfl) (ww hw 5 rfl) (by decide) (by decide)) q18a q18c (g := (mkF m 97 #[vl p0, ss, vl p1, ss, vl p2, ss, vl p3, ss, vi p4, vl p5, ss, vl v0, ss, vl v1, ss, vl v2, ss, vl v3, ss, vl v4, ss, vl v5, ss, va b1, uu, uu] [(.long v3), (.long v2), (.ref b1)])) rfl (by rw [hml]; rfl) (Steps.refl _) (argsL := [(.long v2), (.long v3)]) (rest := []) (lenOf pd_10 rfl) rfl (by show 2 * 0 + _ ≤ _; exact Nat.le_of_eq rfl) (hb hby at_97) (fun _ _ => ⟨rfl, rfl, (by decide : 3 + 0 ≤ _), (by decide : 13 + 0 ≤ _)⟩)
              dsimp only [Pt.U, Pt.locs, Pt.cells, Pt.slots] at X18 l18 y18 z18 st18 hQ18
              subst l18 y18 z18
              obtain ⟨rfl, Nq18, Kc18, P0_18, P1_18, P2_18, P3_18, P4_18, P5_18, P6_18, P7_18⟩ := hQ18
              have N18 := Fr.app N9 Nq18
              have O18 := O9.keep Kc18 (allS g_b1 (allS g_b2_13_6_9 (allS g_b2_7_6_9 all0)))
              have K18 : Keep h0 T18.heap [] := K9.trans Kc18 (allS (Or.inr sz_b1) (allS (Or.inr sz_b2_13_6_9) (allS (Or.inr sz_b2_7_6_9) all0)))
              obtain ⟨cq19, kq19, q19a, q19b, q19c⟩ := isOf hZ rfl P0_18
              obtain ⟨_, _, ⟨T19, L19, k19, n19⟩, -, X19, ⟨Lc19, hQ19, l19, y19, z19⟩, st19⟩ := X18.virtualBack hx (y := My11) (z := My11) hown (mvT hZ (ww hw 61 rfl)) (mvT hZ (ww hw 62 rfl)) (notFace_of_selects (args := #[]) (mvT hZ (ww hw 64 rfl))) (mvT hZ (ww hw 64 rfl)) (mvT hZ (ww hw 63 rfl)) (by decide) (backOf (W := 0) (rm11_2 l Z a0 hw [] w_NONE b1 b2_7_6_9 b2_13_6_9 k2_7_6_9 k2_13_6_9 (((0 : Int64) + ((v1 - v0) + (1 : Int64))) + ((v3 - v2) + (1 : Int64))) v2 v0 v3 v1 T18.heap n0 O18 S P0_18 P1_18 P2_18 P3_18 P4_18 P5_18 g_b1) hZ (ww hw 65 rfl) (ww hw 5 rfl) (by decide) (by decide)) q19a q19c (g := (mkF m 103 #[vl p0, ss, vl p1, ss, vl p2, ss, vl p3, ss, vi p4, vl p5, ss, vl v0, ss, vl v1, ss, vl v2, ss, vl v3, ss, vl v4, ss, vl v5, ss, va b1, uu, uu] [(.ref b1)])) rfl (by rw [hml]; rfl) (Steps.refl _) (argsL := []) (rest := []) (lenOf pd_1 rfl) rfl (by show 2 * 0 + _ ≤ _; exact Nat.le_of_eq rfl) (hb hby at_103) (fun _ _ => ⟨rfl, rfl, (by decide : 3 + 0 ≤ _), (by decide : 13 + 0 ≤ _)⟩)
              dsimp only [Pt.U, Pt.locs, Pt.cells, Pt.slots] at X19 l19 y19 z19 st19 hQ19
              subst l19 y19 z19
              obtain ⟨rfl, Nq19, Kc19, P0_19, P1_19, P2_19, P3_19, P4_19, P5_19⟩ := hQ19
              have N19 := Fr.app N18 Nq19
              have O19 := O18.keep Kc19 (allS g_b1 all0)
              have K19 : Keep h0 T19.heap [] := K18.trans Kc19 (allS (Or.inr sz_b1) all0)
              have pre_20 : ∀ t, Steps p.tables e below (T19.setTop (mkF m 106 #[vl p0, ss, vl p1, ss, vl p2, ss, vl p3, ss, vi p4, vl p5, ss, vl v0, ss, vl v1, ss, vl v2, ss, vl v3, ss, vl v4, ss, vl v5, ss, va b1, uu, uu] [])) t → Steps p.tables e below (s₁.setTop (mkF m 0 #[vl p0, ss, vl p1, ss, vl p2, ss, vl p3, ss, vi p4, vl p5, ss, uu, uu, uu, uu, uu, uu, uu, uu, uu, uu, uu, uu, uu, uu, uu] [])) t := fun t k => pre_15 t (by
                show Steps p.tables e below (T9.setTop (mkF m 97 #[vl p0, ss, vl p1, ss, vl p2, ss, vl p3, ss, vi p4, vl p5, ss, vl v0, ss, vl v1, ss, vl v2, ss, vl v3, ss, vl v4, ss, vl v5, ss, va b1, uu, uu] [(.long v3), (.long v2), (.ref b1)])) _
                refine st18.trans ?_
                refine XS.pop X18.here hx rfl (hb hby at_100) rfl rfl ?_
                refine XS.aload X18.here hx rfl (hb hby at_101) rfl rfl ?_
                refine st19.trans ?_
                exact k)
              obtain ⟨U, o, st, rest⟩ := jn1 (a0 := a0) hx hZ hby hml hown hrt hlk hw w_NONE b1 p0 p1 p2 p3 p4 p5 v4 v5 v0 v1 v2 v3 (X19.more (by decide) (by decide)) rfl N19 O19 S P0_19 P1_19 P2_19 P3_19 P4_19 P5_19 g_b1 hv4 hv5
              exact ⟨U, o, pre_20 _ st, rest⟩
            · obtain ⟨cq18, kq18, q18a, q18b, q18c⟩ := isOf hZ rfl P0_9
              obtain ⟨_, _, ⟨T18, L18, k18, n18⟩, -, X18, ⟨Lc18, hQ18, l18, y18, z18⟩, st18⟩ := X9.virtualBack hx (y := My4) (z := My4) hown (mvT hZ (ww hw 24 rfl)) (mvT hZ (ww hw 25 rfl)) (notFace_of_selects (args := #[]) (mvT hZ (ww hw 27 rfl))) (mvT hZ (ww hw 27 rfl)) (mvT hZ (ww hw 26 rfl)) (by decide) (backOf (W := 0) (rm4_2 l Z a0 hw [] w_NONE b1 b2_7_6_9 b2_13_6_9 k2_7_6_9 k2_13_6_9 v2 v3 ((0 : Int64) + ((v1 - v0) + (1 : Int64))) v0 v1 T9.heap n0 O9 S P0_9 P1_9 P2_9 P3_9 P4_9 P5_9 P6_9 P7_9 ne_b1_b2_7_6_9 ne_b1_b2_13_6_9 P10_9 g_b1 g_b2_7_6_9 g_b2_13_6_9 hc12 hc13 hc14 hc16 hc17) hZ (ww hw 28 rfl) (ww hw 5 rfl) (by decide) (by decide)) q18a q18c (g := (mkF m 97 #[vl p0, ss, vl p1, ss, vl p2, ss, vl p3, ss, vi p4, vl p5, ss, vl v0, ss, vl v1, ss, vl v2, ss, vl v3, ss, vl v4, ss, vl v5, ss, va b1, uu, uu] [(.long v3), (.long v2), (.ref b1)])) rfl (by rw [hml]; rfl) (Steps.refl _) (argsL := [(.long v2), (.long v3)]) (rest := []) (lenOf pd_10 rfl) rfl (by show 2 * 0 + _ ≤ _; exact Nat.le_of_eq rfl) (hb hby at_97) (fun _ _ => ⟨rfl, rfl, (by decide : 3 + 0 ≤ _), (by decide : 13 + 0 ≤ _)⟩)
              dsimp only [Pt.U, Pt.locs, Pt.cells, Pt.slots] at X18 l18 y18 z18 st18 hQ18
              subst l18 y18 z18
              obtain ⟨rfl, Nq18, Kc18, P0_18, P1_18, P2_18, P3_18, P4_18, P5_18, P6_18, P7_18⟩ := hQ18
              have N18 := Fr.app N9 Nq18
              have O18 := O9.keep Kc18 (allS g_b2_7_6_9 (allS g_b2_13_6_9 (allS g_b1 all0)))
              have K18 : Keep h0 T18.heap [] := K9.trans Kc18 (allS (Or.inr sz_b2_7_6_9) (allS (Or.inr sz_b2_13_6_9) (allS (Or.inr sz_b1) all0)))
              obtain ⟨cq19, kq19, q19a, q19b, q19c⟩ := isOf hZ rfl P0_18
              obtain ⟨_, _, ⟨T19, L19, k19, n19⟩, -, X19, ⟨Lc19, hQ19, l19, y19, z19⟩, st19⟩ := X18.virtualBack hx (y := My11) (z := My11) hown (mvT hZ (ww hw 61 rfl)) (mvT hZ (ww hw 62 rfl)) (notFace_of_selects (args := #[]) (mvT hZ (ww hw 64 rfl))) (mvT hZ (ww hw 64 rfl)) (mvT hZ (ww hw 63 rfl)) (by decide) (backOf (W := 0) (rm11_1 l Z a0 hw [] w_NONE b1 b2_7_6_9 b2_13_6_9 k2_7_6_9 k2_13_6_9 (((0 : Int64) + ((v1 - v0) + (1 : Int64))) + ((((own_maxL v3 v1) - (own_minL v2 v0)) + (1 : Int64)) - ((0 : Int64) + ((v1 - v0) + (1 : Int64))))) (own_minL v2 v0) (own_maxL v3 v1) T18.heap n0 O18 S P0_18 P1_18 P2_18 P3_18 P4_18 P5_18 g_b1) hZ (ww hw 65 rfl) (ww hw 5 rfl) (by decide) (by decide)) q19a q19c (g := (mkF m 103 #[vl p0, ss, vl p1, ss, vl p2, ss, vl p3, ss, vi p4, vl p5, ss, vl v0, ss, vl v1, ss, vl v2, ss, vl v3, ss, vl v4, ss, vl v5, ss, va b1, uu, uu] [(.ref b1)])) rfl (by rw [hml]; rfl) (Steps.refl _) (argsL := []) (rest := []) (lenOf pd_1 rfl) rfl (by show 2 * 0 + _ ≤ _; exact Nat.le_of_eq rfl) (hb hby at_103) (fun _ _ => ⟨rfl, rfl, (by decide : 3 + 0 ≤ _), (by decide : 13 + 0 ≤ _)⟩)
              dsimp only [Pt.U, Pt.locs, Pt.cells, Pt.slots] at X19 l19 y19 z19 st19 hQ19
              subst l19 y19 z19
              obtain ⟨rfl, Nq19, Kc19, P0_19, P1_19, P2_19, P3_19, P4_19, P5_19⟩ := hQ19
              have N19 := Fr.app N18 Nq19
              have O19 := O18.keep Kc19 (allS g_b1 all0)
              have K19 : Keep h0 T19.heap [] := K18.trans Kc19 (allS (Or.inr sz_b1) all0)
              have pre_20 : ∀ t, Steps p.tables e below (T19.setTop (mkF m 106 #[vl p0, ss, vl p1, ss, vl p2, ss, vl p3, ss, vi p4, vl p5, ss, vl v0, ss, vl v1, ss, vl v2, ss, vl v3, ss, vl v4, ss, vl v5, ss, va b1, uu, uu] [])) t → Steps p.tables e below (s₁.setTop (mkF m 0 #[vl p0, ss, vl p1, ss, vl p2, ss, vl p3, ss, vi p4, vl p5, ss, uu, uu, uu, uu, uu, uu, uu, uu, uu, uu, uu, uu, uu, uu, uu] [])) t := fun t k => pre_15 t (by
                show Steps p.tables e below (T9.setTop (mkF m 97 #[vl p0, ss, vl p1, ss, vl p2, ss, vl p3, ss, vi p4, vl p5, ss, vl v0, ss, vl v1, ss, vl v2, ss, vl v3, ss, vl v4, ss, vl v5, ss, va b1, uu, uu] [(.long v3), (.long v2), (.ref b1)])) _
                refine st18.trans ?_
                refine XS.pop X18.here hx rfl (hb hby at_100) rfl rfl ?_
                refine XS.aload X18.here hx rfl (hb hby at_101) rfl rfl ?_
                refine st19.trans ?_
                exact k)
              obtain ⟨U, o, st, rest⟩ := jn1 (a0 := a0) hx hZ hby hml hown hrt hlk hw w_NONE b1 p0 p1 p2 p3 p4 p5 v4 v5 v0 v1 v2 v3 (X19.more (by decide) (by decide)) rfl N19 O19 S P0_19 P1_19 P2_19 P3_19 P4_19 P5_19 g_b1 hv4 hv5
              exact ⟨U, o, pre_20 _ st, rest⟩
theorem comes_1 {Post : Tables → Env → Array Value → State → Outcome → State → Prop} (hpost : ∀ tb e args s v u, (limb_1_1.after args s (.returned v) u = true ∧ limb_1_2.after args s (.returned v) u = true ∧ True) → FrameEnd s (.returned v) u (Jvm.fieldLocs frame_1_writes args s ++ Jvm.arrayLocs frame_1_arrays args s ++ Jvm.staticLocs frame_1_statics s) 24 128 → Post tb e args s (.returned v) u) :
    ArmFor flags0 classFile x code maxLocals ret World_1 tables_1 room_1 Calls_1 rest_1 Pre_1 Post := by
  intro l hfl _ _ p e ha hc hk s m args below hf hA hF happ hP
  obtain ⟨hcalls, hrest, hpre⟩ := hP
  obtain ⟨-, -, -, hnamed, -, -, -, hat⟩ := (Spec.applies_iff hf).mp happ
  obtain ⟨hg, hn⟩ := and_e (Cond.before_iff.mp (show (Jvm.Cond.and given_1 narrow_1).before args s = true from hpre))
  obtain ⟨g0, gr0⟩ := and_e hg
  obtain ⟨g1, gr1⟩ := and_e gr0
  obtain ⟨g2, gr2⟩ := and_e gr1
  obtain ⟨g3, gr3⟩ := and_e gr2
  obtain ⟨g4, gr4⟩ := and_e gr3
  obtain ⟨g5, gr5⟩ := and_e gr4
  obtain ⟨v0, v1, v2, v3, v4, v5, rfl⟩ : ∃ v0 v1 v2 v3 v4 v5 : Value, args = #[v0, v1, v2, v3, v4, v5] := by
    have hs : args.size = 6 := by simpa [Cond.value, given_1] using g0
    obtain ⟨L⟩ := args
    match L, hs with
    | [v0, v1, v2, v3, v4, v5], _ => exact ⟨v0, v1, v2, v3, v4, v5, rfl⟩
  have hw := fun d (hd : d ∈ tables_1) => atoms_spec (ws := Jvm.Cond.code x code maxLocals ret :: tables_1) hat d (List.mem_cons_of_mem _ hd)
  have hfit : Fit s := fun {y c} hc i hi => by
    obtain ⟨ha, rfl⟩ := Array.getElem?_eq_some_iff.mp hc
    have q := List.all_eq_true.mp ((Array.all_eq_true_iff_forall_mem.mp hF) _ (Array.getElem_mem ha)) i (List.mem_range.mpr hi)
    simpa [Array.getElem?_eq_getElem hi] using q
  obtain ⟨i0, ei0⟩ := isL_v g1
  obtain rfl : v0 = (.long i0) := Option.some.inj ei0
  obtain ⟨i1, ei1⟩ := isL_v g2
  obtain rfl : v1 = (.long i1) := Option.some.inj ei1
  obtain ⟨i2, ei2⟩ := isL_v g3
  obtain rfl : v2 = (.long i2) := Option.some.inj ei2
  obtain ⟨i3, ei3⟩ := isL_v g4
  obtain rfl : v3 = (.long i3) := Option.some.inj ei3
  obtain ⟨i4, ei4⟩ := is_v g5
  obtain rfl : v4 = (.int i4) := Option.some.inj ei4
  obtain ⟨i5, ei5⟩ := isL_v gr5
  obtain rfl : v5 = (.long i5) := Option.some.inj ei5
  obtain ⟨n0, nr0⟩ := and_e hn
  obtain ⟨n1, nr1⟩ := and_e nr0
  obtain ⟨w_NONE, ev_w_NONE⟩ := arr_v n0
  have S_w_NONE := Sta.start ev_w_NONE (Or.inr ⟨(ww hw 5 rfl), (ww hw 17 rfl)⟩)
  obtain ⟨cl_w_NONE, Ar_w_NONE⟩ := Arr.start ev_w_NONE n0
  have V_w_NONE : (∃ kk : ClassId, Arv s s.heap w_NONE kk .long (0 : Int32) [] (.long (0 : Int64))) := ⟨_, own_arvStart hfit ev_w_NONE Ar_w_NONE (own_eqI nr1) (by decide) rfl trivial⟩
  obtain ⟨n, o, h1, h2, h3, _, L, rfl, ⟨rfl, N⟩, hq⟩ := rm0 l s _ hw tables_1 w_NONE s.heap s.heap.size (Old.start s) ⟨S_w_NONE, V_w_NONE, trivial⟩ i0 i1 i2 i3 i4 i5 p e ha hc hk s m _ below hf ((Spec.applies_iff_loose hf).mp happ).1 ⟨rfl, State.Warmed39.refl s, rfl⟩ trivial
  refine ⟨n, _, h1, h2, h3, hpost _ _ _ _ _ _ ⟨Cond.after_iff.mpr rfl, Cond.after_iff.mpr (eq_i res_at (Term.int_eval (1)) rfl), trivial⟩ ⟨hq.1, hq.2.1, (hq.2.2.sift fun y hy => Or.inr (N y hy)).mono (by decide) (by decide)⟩⟩
theorem main_1_1 : Claimed_1_1 := comes_1 fun _ _ _ _ _ _ h hF => ⟨h.1, hF⟩
theorem main_1_2 : Claimed_1_2 := comes_1 fun _ _ _ _ _ _ h hF => ⟨h.2.1, hF⟩
end Jvm.Pilot.@@N@@
namespace Jvm.Pilot.@@N@@
open Jvm Jvm.ClassFile Sem Op Lib Jvm.Free Jvm.Stand Jvm.Pilot.@@N@@.Jvm.D
/-! MADE BY PROGRAM (witnessworld.py) out of the Statement's table words and the real class files: 14 classes; the members and pool entries that the words name. The judged class is class 1, her method 1. -/
namespace start1
open Jvm.ClassFile
def u (s : String) : CpInfo := .utf8 (stringToUtf16 s)
/-- a pool by its gaps: so many unusable entries, then the entry; so many at the end -/
def gap : Nat → List CpInfo → List CpInfo
  | 0, r => r
  | n + 1, r => .unusable :: gap n r
def poolList (es : List (Nat × CpInfo)) (last : Nat) : List CpInfo := es.foldr (fun e r => gap e.1 (e.2 :: r)) (gap last [])
def pool (es : List (Nat × CpInfo)) (last : Nat) : Array CpInfo := ⟨poolList es last⟩
def fileOf (pool : Array CpInfo) (this : Nat) (attrs : Array Attribute := #[]) (ms : Array MethodInfo := #[]) (fl : Nat := 33) (sup : Nat := 0) (ifs : Array Nat := #[]) (fds : Array FieldInfo := #[]) : ClassFile where
  minorVersion := 0
  majorVersion := 65
  constantPool := pool
  accessFlags := fl
  thisClass := this
  superClass := sup
  interfaces := ifs
  fields := fds
  methods := ms
  attributes := attrs
def plain (name : String) (sup : Option ClassId) : Class where
  name := name
  kind := .ordinary
  loader := none
  accessFlags := 33
  super := sup
  interfaces := #[]
  cf := none
  fields := #[]
  methods := #[]
  instanceTypes := #[]
  staticTypes := #[]
  resolved := #[]
  callSites := []
  init := .initialized
  statics := none
  mirror := none

def pool0 : Array CpInfo := pool [(5, u "<init>"), (0, u "()V"), (1, .class_ 10), (1, u "java/lang/Object")] 113

def k0c0 : Code := { maxStack := 0, maxLocals := 1, code := object_method_1_code, exceptionTable := #[], attributes := #[] }
def k0m0 : Method := { name := "<init>", desc := "()V", sig := { parameters := [], returnType := none }, accessFlags := 1, code := some k0c0 }
/-- java/lang/Object -/
def k0 : Class := { plain "java/lang/Object" none with
  accessFlags := 33
  interfaces := #[]
  cf := some (fileOf pool0 8 #[] #[{ accessFlags := 1, nameIndex := 5, descriptorIndex := 6, attributes := #[] }] 33 0 #[] #[])
  fields := #[]
  methods := #[k0m0]
  instanceTypes := #[]
  staticTypes := #[]
  resolved := Array.replicate 124 none
  statics := none }

def pool1 : Array CpInfo := pool [(2, .class_ 4), (0, .nameAndType 5 6), (0, u "java/lang/Object"), (0, u "<init>"), (0, u "()V"), (0, .class_ 8), (0, u "com/example/tributary/tributary/model/RangeSetClearPinLaw"), (0, .long 4611686018427387903), (1, .long 65535), (1, .integer 65535), (0, .class_ 15), (0, u "com/example/tributary/tributary/model/RangeSet"), (0, .methodref 14 3), (0, .methodref 14 18), (0, .nameAndType 19 20), (0, u "add"), (0, u "(JJ)Z"), (0, .methodref 14 22), (0, .nameAndType 23 6), (0, u "clear"), (0, .methodref 14 25), (0, .nameAndType 26 27), (0, u "isEmpty"), (0, u "()Z"), (0, .methodref 14 29), (0, .nameAndType 30 31), (0, u "count"), (0, u "()J"), (0, .methodref 14 33), (0, .nameAndType 34 31), (0, u "end"), (0, .methodref 14 36), (0, .nameAndType 37 38), (0, u "nextMember"), (0, u "(J)J"), (0, .long 18446744073709551615), (1, u "MASK"), (0, u "J"), (3, u "law"), (0, u "(JJJJIJ)Z")] 3

def k1m0 : Method := { name := "<init>", desc := "()V", sig := { parameters := [], returnType := none }, accessFlags := 1, code := none }
def k1c1 : Code := { maxStack := 6, maxLocals := 26, code := code, exceptionTable := #[], attributes := #[] }
def k1m1 : Method := { name := "law", desc := "(JJJJIJ)Z", sig := { parameters := [.long, .long, .long, .long, .int, .long], returnType := some .boolean }, accessFlags := 9, code := some k1c1 }
/-- com/example/tributary/tributary/model/RangeSetClearPinLaw -/
def k1 : Class := { plain "com/example/tributary/tributary/model/RangeSetClearPinLaw" (some 0) with
  accessFlags := 49
  interfaces := #[]
  cf := some (fileOf pool1 7 #[] #[{ accessFlags := 1, nameIndex := 5, descriptorIndex := 6, attributes := #[] }, { accessFlags := 9, nameIndex := 46, descriptorIndex := 47, attributes := #[] }] 49 2 #[] #[{ accessFlags := 26, nameIndex := 41, descriptorIndex := 42, attributes := #[] }])
  fields := #[{ name := "MASK", type := .long, accessFlags := 26, slot := 0, constantValue := 0 }]
  methods := #[k1m0, k1m1]
  instanceTypes := #[]
  staticTypes := #[.long]
  resolved := Array.replicate 51 none
  statics := none }

def pool2 : Array CpInfo := pool [(3, .integer 2147483647), (0, .methodref 5 6), (0, .class_ 7), (0, .nameAndType 8 9), (0, u "com/example/tributary/tributary/model/RangeSet"), (0, u "<init>"), (0, u "(I)V"), (0, .methodref 11 12), (0, .class_ 13), (0, .nameAndType 8 14), (0, u "java/lang/Object"), (0, u "()V"), (0, .fieldref 5 16), (0, .nameAndType 17 18), (0, u "NONE"), (0, u "[J"), (0, .fieldref 5 20), (0, .nameAndType 21 18), (0, u "firsts"), (0, .fieldref 5 23), (0, .nameAndType 24 18), (0, u "lasts"), (0, .fieldref 5 26), (0, .nameAndType 27 28), (0, u "maxRanges"), (0, u "I"), (3, u "add"), (0, u "(JJ)Z"), (0, .fieldref 5 35), (0, .nameAndType 36 28), (0, u "ranges"), (0, .methodref 38 39), (0, .class_ 40), (0, .nameAndType 41 42), (0, u "java/util/Arrays"), (0, u "copyOf"), (0, u "([JI)[J"), (0, .fieldref 5 44), (0, .nameAndType 45 46), (0, u "count"), (0, u "J"), (0, .methodref 5 48), (0, .nameAndType 49 50), (0, u "rangeFrom"), (0, u "(J)I"), (0, .methodref 5 52), (0, .nameAndType 53 54), (0, u "checkRange"), (0, u "(JJ)V"), (0, .methodref 5 56), (0, .nameAndType 57 58), (0, u "insert"), (0, u "(IJJ)V"), (0, .methodref 60 61), (0, .class_ 62), (0, .nameAndType 63 64), (0, u "java/lang/Math"), (0, u "min"), (0, u "(JJ)J"), (0, .methodref 60 66), (0, .nameAndType 67 64), (0, u "max"), (0, .methodref 5 69), (0, .nameAndType 70 71), (0, u "delete"), (0, u "(II)V"), (3, .long 18446744073709551615), (10, .methodref 60 87), (0, .nameAndType 67 88), (0, u "(II)I"), (0, .methodref 90 91), (0, .class_ 92), (0, .nameAndType 93 94), (0, u "java/lang/System"), (0, u "arraycopy"), (0, u "(Ljava/lang/Object;ILjava/lang/Object;II)V"), (12, u "clear"), (0, u "nextMember"), (0, u "(J)J"), (2, u "()J"), (0, u "isEmpty"), (0, u "()Z"), (0, u "end")] 20

def k2c0 : Code := { maxStack := 2, maxLocals := 1, code := prog_55_method_1_code, exceptionTable := #[], attributes := #[] }
def k2m0 : Method := { name := "<init>", desc := "()V", sig := { parameters := [], returnType := none }, accessFlags := 1, code := some k2c0 }
def k2c1 : Code := { maxStack := 2, maxLocals := 2, code := prog_55_method_2_code, exceptionTable := #[], attributes := #[] }
def k2m1 : Method := { name := "<init>", desc := "(I)V", sig := { parameters := [.int], returnType := none }, accessFlags := 2, code := some k2c1 }
def k2c2 : Code := { maxStack := 7, maxLocals := 13, code := prog_55_method_8_code, exceptionTable := #[], attributes := #[] }
def k2m2 : Method := { name := "add", desc := "(JJ)Z", sig := { parameters := [.long, .long], returnType := some .boolean }, accessFlags := 1, code := some k2c2 }
def k2c3 : Code := { maxStack := 3, maxLocals := 1, code := prog_55_method_11_code, exceptionTable := #[], attributes := #[] }
def k2m3 : Method := { name := "clear", desc := "()V", sig := { parameters := [], returnType := none }, accessFlags := 1, code := some k2c3 }
def k2c4 : Code := { maxStack := 4, maxLocals := 4, code := prog_55_method_12_code, exceptionTable := #[], attributes := #[] }
def k2m4 : Method := { name := "nextMember", desc := "(J)J", sig := { parameters := [.long], returnType := some .long }, accessFlags := 1, code := some k2c4 }
def k2c5 : Code := { maxStack := 2, maxLocals := 1, code := prog_55_method_15_code, exceptionTable := #[], attributes := #[] }
def k2m5 : Method := { name := "count", desc := "()J", sig := { parameters := [], returnType := some .long }, accessFlags := 1, code := some k2c5 }
def k2c6 : Code := { maxStack := 1, maxLocals := 1, code := prog_55_method_16_code, exceptionTable := #[], attributes := #[] }
def k2m6 : Method := { name := "isEmpty", desc := "()Z", sig := { parameters := [], returnType := some .boolean }, accessFlags := 1, code := some k2c6 }
def k2c7 : Code := { maxStack := 4, maxLocals := 1, code := prog_55_method_17_code, exceptionTable := #[], attributes := #[] }
def k2m7 : Method := { name := "end", desc := "()J", sig := { parameters := [], returnType := some .long }, accessFlags := 1, code := some k2c7 }
def k2c8 : Code := { maxStack := 4, maxLocals := 6, code := prog_55_method_19_code, exceptionTable := #[], attributes := #[] }
def k2m8 : Method := { name := "rangeFrom", desc := "(J)I", sig := { parameters := [.long], returnType := some .int }, accessFlags := 2, code := some k2c8 }
def k2c9 : Code := { maxStack := 6, maxLocals := 4, code := prog_55_method_20_code, exceptionTable := #[], attributes := #[] }
def k2m9 : Method := { name := "checkRange", desc := "(JJ)V", sig := { parameters := [.long, .long], returnType := none }, accessFlags := 10, code := some k2c9 }
def k2c10 : Code := { maxStack := 6, maxLocals := 7, code := prog_55_method_21_code, exceptionTable := #[], attributes := #[] }
def k2m10 : Method := { name := "insert", desc := "(IJJ)V", sig := { parameters := [.int, .long, .long], returnType := none }, accessFlags := 2, code := some k2c10 }
def k2c11 : Code := { maxStack := 6, maxLocals := 3, code := prog_55_method_22_code, exceptionTable := #[], attributes := #[] }
def k2m11 : Method := { name := "delete", desc := "(II)V", sig := { parameters := [.int, .int], returnType := none }, accessFlags := 2, code := some k2c11 }
/-- com/example/tributary/tributary/model/RangeSet -/
def k2 : Class := { plain "com/example/tributary/tributary/model/RangeSet" (some 0) with
  accessFlags := 49
  interfaces := #[]
  cf := some (fileOf pool2 5 #[] #[{ accessFlags := 1, nameIndex := 8, descriptorIndex := 14, attributes := #[] }, { accessFlags := 2, nameIndex := 8, descriptorIndex := 9, attributes := #[] }, { accessFlags := 1, nameIndex := 32, descriptorIndex := 33, attributes := #[] }, { accessFlags := 1, nameIndex := 107, descriptorIndex := 14, attributes := #[] }, { accessFlags := 1, nameIndex := 108, descriptorIndex := 109, attributes := #[] }, { accessFlags := 1, nameIndex := 45, descriptorIndex := 112, attributes := #[] }, { accessFlags := 1, nameIndex := 113, descriptorIndex := 114, attributes := #[] }, { accessFlags := 1, nameIndex := 115, descriptorIndex := 112, attributes := #[] }, { accessFlags := 2, nameIndex := 49, descriptorIndex := 50, attributes := #[] }, { accessFlags := 10, nameIndex := 53, descriptorIndex := 54, attributes := #[] }, { accessFlags := 2, nameIndex := 57, descriptorIndex := 58, attributes := #[] }, { accessFlags := 2, nameIndex := 70, descriptorIndex := 71, attributes := #[] }] 49 11 #[] #[{ accessFlags := 26, nameIndex := 17, descriptorIndex := 18, attributes := #[] }, { accessFlags := 2, nameIndex := 21, descriptorIndex := 18, attributes := #[] }, { accessFlags := 2, nameIndex := 24, descriptorIndex := 18, attributes := #[] }, { accessFlags := 18, nameIndex := 27, descriptorIndex := 28, attributes := #[] }, { accessFlags := 2, nameIndex := 36, descriptorIndex := 28, attributes := #[] }, { accessFlags := 2, nameIndex := 45, descriptorIndex := 46, attributes := #[] }])
  fields := #[{ name := "NONE", type := (.array .long), accessFlags := 26, slot := 0, constantValue := 0 }, { name := "firsts", type := (.array .long), accessFlags := 2, slot := 0, constantValue := 0 }, { name := "lasts", type := (.array .long), accessFlags := 2, slot := 1, constantValue := 0 }, { name := "maxRanges", type := .int, accessFlags := 18, slot := 2, constantValue := 0 }, { name := "ranges", type := .int, accessFlags := 2, slot := 3, constantValue := 0 }, { name := "count", type := .long, accessFlags := 2, slot := 4, constantValue := 0 }]
  methods := #[k2m0, k2m1, k2m2, k2m3, k2m4, k2m5, k2m6, k2m7, k2m8, k2m9, k2m10, k2m11]
  instanceTypes := #[(.array .long), (.array .long), .int, .int, .long]
  staticTypes := #[(.array .long)]
  resolved := Array.replicate 136 none
  statics := some 0 }

def pool3 : Array CpInfo := pool [(1, .class_ 2), (0, u "java/lang/Math"), (1, .class_ 6), (1, u "java/lang/Object"), (0, u "<init>"), (0, u "()V"), (89, .class_ 100), (1, u "java/lang/Math$RandomNumberGeneratorHolder"), (20, u "(JJ)J"), (50, u "negativeZeroFloatBits"), (0, u "J"), (2, u "negativeZeroDoubleBits"), (21, u "max"), (2, u "min"), (43, u "$assertionsDisabled"), (0, u "Z"), (88, u "(II)I"), (2, u "twoToTheDoubleScaleDown"), (0, u "D"), (4, u "twoToTheDoubleScaleUp"), (9, u "E"), (3, u "PI"), (2, u "TAU"), (2, u "DEGREES_TO_RADIANS"), (0, u "RADIANS_TO_DEGREES")] 94

def k3m0 : Method := { name := "<init>", desc := "()V", sig := { parameters := [], returnType := none }, accessFlags := 2, code := none }
def k3c1 : Code := { maxStack := 2, maxLocals := 2, code := jdk_29_method_65_code, exceptionTable := #[], attributes := #[] }
def k3m1 : Method := { name := "max", desc := "(II)I", sig := { parameters := [.int, .int], returnType := some .int }, accessFlags := 9, code := some k3c1 }
def k3c2 : Code := { maxStack := 4, maxLocals := 4, code := jdk_29_method_66_code, exceptionTable := #[], attributes := #[] }
def k3m2 : Method := { name := "max", desc := "(JJ)J", sig := { parameters := [.long, .long], returnType := some .long }, accessFlags := 9, code := some k3c2 }
def k3c3 : Code := { maxStack := 2, maxLocals := 2, code := jdk_29_method_69_code, exceptionTable := #[], attributes := #[] }
def k3m3 : Method := { name := "min", desc := "(II)I", sig := { parameters := [.int, .int], returnType := some .int }, accessFlags := 9, code := some k3c3 }
def k3c4 : Code := { maxStack := 4, maxLocals := 4, code := jdk_29_method_70_code, exceptionTable := #[], attributes := #[] }
def k3m4 : Method := { name := "min", desc := "(JJ)J", sig := { parameters := [.long, .long], returnType := some .long }, accessFlags := 9, code := some k3c4 }
/-- java/lang/Math -/
def k3 : Class := { plain "java/lang/Math" (some 0) with
  accessFlags := 49
  interfaces := #[]
  cf := some (fileOf pool3 1 #[.nestMembers #[98]] #[{ accessFlags := 2, nameIndex := 7, descriptorIndex := 8, attributes := #[] }, { accessFlags := 9, nameIndex := 198, descriptorIndex := 335, attributes := #[] }, { accessFlags := 9, nameIndex := 198, descriptorIndex := 121, attributes := #[] }, { accessFlags := 9, nameIndex := 201, descriptorIndex := 335, attributes := #[] }, { accessFlags := 9, nameIndex := 201, descriptorIndex := 121, attributes := #[] }] 49 4 #[] #[{ accessFlags := 25, nameIndex := 354, descriptorIndex := 339, attributes := #[] }, { accessFlags := 25, nameIndex := 358, descriptorIndex := 339, attributes := #[] }, { accessFlags := 25, nameIndex := 361, descriptorIndex := 339, attributes := #[] }, { accessFlags := 26, nameIndex := 364, descriptorIndex := 339, attributes := #[] }, { accessFlags := 26, nameIndex := 365, descriptorIndex := 339, attributes := #[] }, { accessFlags := 26, nameIndex := 172, descriptorIndex := 173, attributes := #[] }, { accessFlags := 26, nameIndex := 176, descriptorIndex := 173, attributes := #[] }, { accessFlags := 8, nameIndex := 344, descriptorIndex := 339, attributes := #[] }, { accessFlags := 8, nameIndex := 338, descriptorIndex := 339, attributes := #[] }, { accessFlags := 4120, nameIndex := 245, descriptorIndex := 246, attributes := #[] }])
  fields := #[{ name := "E", type := .double, accessFlags := 25, slot := 0, constantValue := 0 }, { name := "PI", type := .double, accessFlags := 25, slot := 1, constantValue := 0 }, { name := "TAU", type := .double, accessFlags := 25, slot := 2, constantValue := 0 }, { name := "DEGREES_TO_RADIANS", type := .double, accessFlags := 26, slot := 3, constantValue := 0 }, { name := "RADIANS_TO_DEGREES", type := .double, accessFlags := 26, slot := 4, constantValue := 0 }, { name := "negativeZeroFloatBits", type := .long, accessFlags := 26, slot := 5, constantValue := 0 }, { name := "negativeZeroDoubleBits", type := .long, accessFlags := 26, slot := 6, constantValue := 0 }, { name := "twoToTheDoubleScaleUp", type := .double, accessFlags := 8, slot := 7, constantValue := 0 }, { name := "twoToTheDoubleScaleDown", type := .double, accessFlags := 8, slot := 8, constantValue := 0 }, { name := "$assertionsDisabled", type := .boolean, accessFlags := 4120, slot := 9, constantValue := 0 }]
  methods := #[k3m0, k3m1, k3m2, k3m3, k3m4]
  instanceTypes := #[]
  staticTypes := #[.double, .double, .double, .double, .double, .long, .long, .double, .double, .boolean]
  resolved := Array.replicate 460 none
  statics := none }

def pool4 : Array CpInfo := pool [(2, .class_ 4), (1, u "java/lang/Object"), (0, u "<init>"), (0, u "()V"), (7, .class_ 16), (1, u "java/util/Arrays"), (57, .class_ 76), (1, u "java/util/Arrays$NaturalOrder"), (36, .class_ 115), (1, u "java/util/Arrays$LegacyMergeSort"), (1, u "Z"), (32, .methodref 151 152), (0, .class_ 153), (0, .nameAndType 154 155), (0, u "java/lang/System"), (0, u "arraycopy"), (0, u "(Ljava/lang/Object;ILjava/lang/Object;II)V"), (146, u "copyOf"), (1, .methodref 305 306), (0, .class_ 307), (0, .nameAndType 308 309), (0, u "java/lang/Math"), (0, u "min"), (0, u "(II)I"), (65, .class_ 376), (0, u "java/util/Arrays$ArrayList"), (68, u "$assertionsDisabled"), (269, u "MIN_ARRAY_SORT_GRAN"), (0, u "I"), (2, u "INSERTIONSORT_THRESHOLD"), (152, u "([JI)[J"), (102, .class_ 976), (0, u "java/util/Arrays$ArrayItr")] 52

def k4m0 : Method := { name := "<init>", desc := "()V", sig := { parameters := [], returnType := none }, accessFlags := 2, code := none }
def k4c1 : Code := { maxStack := 6, maxLocals := 3, code := jdk_65_method_124_code, exceptionTable := #[], attributes := #[] }
def k4m1 : Method := { name := "copyOf", desc := "([JI)[J", sig := { parameters := [(.array .long), .int], returnType := some (.array .long) }, accessFlags := 9, code := some k4c1 }
/-- java/util/Arrays -/
def k4 : Class := { plain "java/util/Arrays" (some 0) with
  accessFlags := 49
  interfaces := #[]
  cf := some (fileOf pool4 14 #[.nestMembers #[975, 375, 113, 74]] #[{ accessFlags := 2, nameIndex := 5, descriptorIndex := 6, attributes := #[] }, { accessFlags := 9, nameIndex := 302, descriptorIndex := 872, attributes := #[] }] 49 2 #[] #[{ accessFlags := 26, nameIndex := 715, descriptorIndex := 716, attributes := #[] }, { accessFlags := 26, nameIndex := 719, descriptorIndex := 716, attributes := #[] }, { accessFlags := 4120, nameIndex := 445, descriptorIndex := 117, attributes := #[] }])
  fields := #[{ name := "MIN_ARRAY_SORT_GRAN", type := .int, accessFlags := 26, slot := 0, constantValue := 0 }, { name := "INSERTIONSORT_THRESHOLD", type := .int, accessFlags := 26, slot := 1, constantValue := 0 }, { name := "$assertionsDisabled", type := .boolean, accessFlags := 4120, slot := 2, constantValue := 0 }]
  methods := #[k4m0, k4m1]
  instanceTypes := #[]
  staticTypes := #[.int, .int, .boolean]
  resolved := Array.replicate 1029 none
  statics := none }

def pool5 : Array CpInfo := pool [(2, .class_ 4), (1, u "java/lang/Object"), (0, u "<init>"), (0, u "()V"), (1, .class_ 10), (1, u "java/lang/System"), (0, u "allowSecurityManager"), (0, u "I"), (16, u "cons"), (0, u "Ljava/io/Console;"), (77, .class_ 110), (1, u "java/lang/System$CallersHolder"), (43, u "initialErrStream"), (0, u "Ljava/io/PrintStream;"), (19, u "security"), (0, u "Ljava/lang/SecurityManager;"), (31, .class_ 209), (0, u "java/lang/System$1"), (7, u "props"), (0, u "Ljava/util/Properties;"), (2, u "lineSeparator"), (0, u "Ljava/lang/String;"), (96, .class_ 321), (1, u "java/lang/System$LoggerFinder"), (5, .class_ 328), (0, u "java/lang/System$Logger"), (67, u "err"), (2, u "out"), (91, u "notSupportedJnuEncoding"), (15, u "in"), (17, u "initialIn"), (0, u "Ljava/io/InputStream;"), (35, u "bootLayer"), (0, u "Ljava/lang/ModuleLayer;"), (99, .class_ 664), (0, u "java/lang/System$2"), (9, u "NEVER"), (2, u "MAYBE"), (49, u "arraycopy"), (0, u "(Ljava/lang/Object;ILjava/lang/Object;II)V"), (72, .class_ 802), (0, u "java/lang/System$Logger$Level")] 31

def k5m0 : Method := { name := "<init>", desc := "()V", sig := { parameters := [], returnType := none }, accessFlags := 2, code := none }
def k5m1 : Method := { name := "arraycopy", desc := "(Ljava/lang/Object;ILjava/lang/Object;II)V", sig := { parameters := [(.object "java/lang/Object"), .int, (.object "java/lang/Object"), .int, .int], returnType := none }, accessFlags := 265, code := none }
/-- java/lang/System -/
def k5 : Class := { plain "java/lang/System" (some 0) with
  accessFlags := 49
  interfaces := #[]
  cf := some (fileOf pool5 8 #[.nestMembers #[319, 327, 801, 108, 663, 208]] #[{ accessFlags := 2, nameIndex := 5, descriptorIndex := 6, attributes := #[] }, { accessFlags := 265, nameIndex := 727, descriptorIndex := 728, attributes := #[] }] 49 2 #[] #[{ accessFlags := 25, nameIndex := 507, descriptorIndex := 526, attributes := #[] }, { accessFlags := 25, nameIndex := 399, descriptorIndex := 155, attributes := #[] }, { accessFlags := 25, nameIndex := 396, descriptorIndex := 155, attributes := #[] }, { accessFlags := 10, nameIndex := 525, descriptorIndex := 526, attributes := #[] }, { accessFlags := 26, nameIndex := 674, descriptorIndex := 12, attributes := #[] }, { accessFlags := 26, nameIndex := 677, descriptorIndex := 12, attributes := #[] }, { accessFlags := 10, nameIndex := 11, descriptorIndex := 12, attributes := #[] }, { accessFlags := 74, nameIndex := 175, descriptorIndex := 176, attributes := #[] }, { accessFlags := 10, nameIndex := 491, descriptorIndex := 222, attributes := #[] }, { accessFlags := 74, nameIndex := 29, descriptorIndex := 30, attributes := #[] }, { accessFlags := 74, nameIndex := 154, descriptorIndex := 155, attributes := #[] }, { accessFlags := 10, nameIndex := 217, descriptorIndex := 218, attributes := #[] }, { accessFlags := 10, nameIndex := 221, descriptorIndex := 222, attributes := #[] }, { accessFlags := 8, nameIndex := 562, descriptorIndex := 563, attributes := #[] }])
  fields := #[{ name := "in", type := (.object "java/io/InputStream"), accessFlags := 25, slot := 0, constantValue := 0 }, { name := "out", type := (.object "java/io/PrintStream"), accessFlags := 25, slot := 1, constantValue := 0 }, { name := "err", type := (.object "java/io/PrintStream"), accessFlags := 25, slot := 2, constantValue := 0 }, { name := "initialIn", type := (.object "java/io/InputStream"), accessFlags := 10, slot := 3, constantValue := 0 }, { name := "NEVER", type := .int, accessFlags := 26, slot := 4, constantValue := 0 }, { name := "MAYBE", type := .int, accessFlags := 26, slot := 5, constantValue := 0 }, { name := "allowSecurityManager", type := .int, accessFlags := 10, slot := 6, constantValue := 0 }, { name := "security", type := (.object "java/lang/SecurityManager"), accessFlags := 74, slot := 7, constantValue := 0 }, { name := "notSupportedJnuEncoding", type := (.object "java/lang/String"), accessFlags := 10, slot := 8, constantValue := 0 }, { name := "cons", type := (.object "java/io/Console"), accessFlags := 74, slot := 9, constantValue := 0 }, { name := "initialErrStream", type := (.object "java/io/PrintStream"), accessFlags := 74, slot := 10, constantValue := 0 }, { name := "props", type := (.object "java/util/Properties"), accessFlags := 10, slot := 11, constantValue := 0 }, { name := "lineSeparator", type := (.object "java/lang/String"), accessFlags := 10, slot := 12, constantValue := 0 }, { name := "bootLayer", type := (.object "java/lang/ModuleLayer"), accessFlags := 8, slot := 13, constantValue := 0 }]
  methods := #[k5m0, k5m1]
  instanceTypes := #[]
  staticTypes := #[(.object "java/io/InputStream"), (.object "java/io/PrintStream"), (.object "java/io/PrintStream"), (.object "java/io/InputStream"), .int, .int, .int, (.object "java/lang/SecurityManager"), (.object "java/lang/String"), (.object "java/io/Console"), (.object "java/io/PrintStream"), (.object "java/util/Properties"), (.object "java/lang/String"), (.object "java/lang/ModuleLayer")]
  resolved := Array.replicate 834 none
  statics := none }

def pool6 : Array CpInfo := pool [(1, u "java/lang/Cloneable"), (0, .class_ 1), (0, u "java/lang/Object"), (0, .class_ 3)] 3

/-- java/lang/Cloneable -/
def k6 : Class := { plain "java/lang/Cloneable" (some 0) with
  accessFlags := 1537
  interfaces := #[]
  cf := some (fileOf pool6 2 #[] #[] 1537 4 #[] #[])
  fields := #[]
  methods := #[]
  instanceTypes := #[]
  staticTypes := #[]
  resolved := Array.replicate 8 none
  statics := none }

def pool7 : Array CpInfo := pool [(1, u "java/io/Serializable"), (0, .class_ 1), (0, u "java/lang/Object"), (0, .class_ 3)] 3

/-- java/io/Serializable -/
def k7 : Class := { plain "java/io/Serializable" (some 0) with
  accessFlags := 1537
  interfaces := #[]
  cf := some (fileOf pool7 2 #[] #[] 1537 4 #[] #[])
  fields := #[]
  methods := #[]
  instanceTypes := #[]
  staticTypes := #[]
  resolved := Array.replicate 8 none
  statics := none }

/-- the primitive byte -/
def k8 : Class := { plain "byte" none with kind := .primitive 'B', accessFlags := 0x411 }
/-- [B -/
def k9 : Class := { plain "[B" (some 0) with kind := .array 8 .byte, interfaces := #[6, 7], accessFlags := 1041 }

/-- the primitive int -/
def k10 : Class := { plain "int" none with kind := .primitive 'I', accessFlags := 0x411 }
/-- [I -/
def k11 : Class := { plain "[I" (some 0) with kind := .array 10 .int, interfaces := #[6, 7], accessFlags := 1041 }

/-- the primitive long -/
def k12 : Class := { plain "long" none with kind := .primitive 'J', accessFlags := 0x411 }
/-- [J -/
def k13 : Class := { plain "[J" (some 0) with kind := .array 12 .long, interfaces := #[6, 7], accessFlags := 1041 }

def heap : Heap := #[{ cls := 2, slots := #[.ref 1], vm := .statics 2 },
  { cls := 13, slots := #[], vm := .none }]
def classes : Array Class := #[k0, k1, k2, k3, k4, k5, k6, k7, k8, k9, k10, k11, k12, k13]
def interned : List (Array UInt16 × Addr) := []
def slotsUsed : Nat := 1
def theMethod : MethodId := ⟨1, 1⟩
def args0 : Array Value := #[.long 5, .long 5, .long 5, .long 5, .int 5, .long 5]
def aboutOver (below : List Frame) : State where
  vm := { classes := classes, interned := interned.toArray }
  heap := heap
  slotsUsed := slotsUsed
  threads := #[{ frames := .invoking theMethod args0 :: below }]
def below0 : List Frame := [.native { method := ⟨0, 0⟩, args := #[] }]
def about1 : State := aboutOver below0
def p0 : Program := .bare "" "" ""
def e0 : Env := launch0.env 0 0 0
theorem w_frames : about1.frames = Frame.invoking theMethod args0 :: below0 := rfl
set_option maxRecDepth 65536 in
theorem w_args : argsFit about1.vm theMethod args0 = true := by decide +kernel
set_option maxRecDepth 65536 in
theorem w_heap : heapFits about1 = true := by decide +kernel
set_option maxRecDepth 65536 in
theorem w_runnable : about1.curStatus? = some .runnable := by decide +kernel
set_option maxRecDepth 65536 in
theorem w_alone : about1.alone = true := by decide +kernel
set_option maxRecDepth 65536 in
theorem w_named : about1.methodNamed? x = some theMethod := by decide +kernel
set_option maxRecDepth 65536 in
theorem w_hears : about1.hears theMethod below0 = true := by decide +kernel
set_option maxRecDepth 65536 in
theorem w_ripe : about1.ripe theMethod args0 below0 = true := by decide +kernel
theorem w_running : about1.status = .running := rfl
set_option maxRecDepth 65536 in
theorem w_room : about1.hasRoom e0.platform room_1 = true :=
  launch0.hasRoom_least _ room_1 (by decide +kernel) (by decide +kernel) (by decide +kernel) (by decide +kernel) (by decide +kernel) (by decide +kernel)
theorem allAtoms_all (ts : List Jvm.Cond) (a : Array Jvm.Value) (st : Jvm.State) : (allAtoms ts).before a st = ts.all (fun c => c.before a st) := by
  induction ts with
  | nil => rfl
  | cons c t ih =>
    show (Jvm.Cond.and c (allAtoms t)).before a st = _
    rw [Jvm.Cond.before_and, ih, List.all_cons]
def words1 : List Jvm.Cond := Jvm.Cond.code x code maxLocals ret :: tables_1
/-- a 'code' word, met by the world's own term for the bytes: nothing is compared byte by byte -/
theorem code_word {y : MethodName} {bytes : ByteArray} {mx : Nat} {rt : Option FieldType} {a : Array Value} {s : State} {m : MethodId} {meth : Method} {c : Code} (h1 : s.methodNamed? y = some m) (h2 : s.vm.method? m = some meth) (h3 : meth.code = some c) (h4 : c.code = bytes)
    (h5 : (c.maxLocals == mx && c.exceptionTable.isEmpty && decide (c.maxStack ≤ mostOperands) && decide (meth.sig.returnType = rt) && !meth.locks && decide (parseMethodDescriptor y.desc = some meth.sig)) = true) : (Jvm.Cond.code y bytes mx rt).before a s = true := by
  simp only [Bool.and_eq_true, beq_iff_eq, Bool.not_eq_true', decide_eq_true_eq] at h5
  obtain ⟨⟨⟨⟨⟨g1, g2⟩, g3⟩, g4⟩, g5⟩, g6⟩ := h5
  simp [Cond.before, Cond.holds, Cond.value, h1, h2, h3, h4, g1, g2, g3, g4, g5, g6]
def isCode : Jvm.Cond → Bool
  | .code _ _ _ _ => true
  | _ => false
theorem all_split {L : List Jvm.Cond} {P : Jvm.Cond → Bool} (h1 : L.all (fun c => isCode c || P c) = true) (h2 : ∀ c ∈ L.filter isCode, P c = true) : L.all P = true := by
  refine List.all_eq_true.mpr fun c hc => ?_
  have h := List.all_eq_true.mp h1 c hc
  rcases Bool.eq_false_or_eq_true (isCode c) with hi | hi
  · exact h2 c (List.mem_filter.mpr ⟨hc, hi⟩)
  · simpa [hi] using h
set_option maxRecDepth 65536 in
theorem w_c0 : (Jvm.Cond.code x code maxLocals ret).before args0 about1 = true := code_word (m := ⟨1, 1⟩) (meth := k1m1) (c := k1c1) (by decide +kernel) rfl rfl rfl (by decide +kernel)
set_option maxRecDepth 65536 in
theorem w_c1 : (Jvm.Cond.code ({ cls := "com/example/tributary/tributary/model/RangeSet", name := "<init>", desc := "()V" } : Jvm.MethodName) prog_55_method_1_code (1 : Nat) (Option.none : Option Jvm.ClassFile.FieldType)).before args0 about1 = true := code_word (m := ⟨2, 0⟩) (meth := k2m0) (c := k2c0) (by decide +kernel) rfl rfl rfl (by decide +kernel)
set_option maxRecDepth 65536 in
theorem w_c2 : (Jvm.Cond.code ({ cls := "com/example/tributary/tributary/model/RangeSet", name := "<init>", desc := "(I)V" } : Jvm.MethodName) prog_55_method_2_code (2 : Nat) (Option.none : Option Jvm.ClassFile.FieldType)).before args0 about1 = true := code_word (m := ⟨2, 1⟩) (meth := k2m1) (c := k2c1) (by decide +kernel) rfl rfl rfl (by decide +kernel)
set_option maxRecDepth 65536 in
theorem w_c3 : (Jvm.Cond.code ({ cls := "java/lang/Object", name := "<init>", desc := "()V" } : Jvm.MethodName) object_method_1_code (1 : Nat) (Option.none : Option Jvm.ClassFile.FieldType)).before args0 about1 = true := code_word (m := ⟨0, 0⟩) (meth := k0m0) (c := k0c0) (by decide +kernel) rfl rfl rfl (by decide +kernel)
set_option maxRecDepth 65536 in
theorem w_c4 : (Jvm.Cond.code ({ cls := "com/example/tributary/tributary/model/RangeSet", name := "add", desc := "(JJ)Z" } : Jvm.MethodName) prog_55_method_8_code (13 : Nat) (Option.some Jvm.ClassFile.FieldType.boolean)).before args0 about1 = true := code_word (m := ⟨2, 2⟩) (meth := k2m2) (c := k2c2) (by decide +kernel) rfl rfl rfl (by decide +kernel)
set_option maxRecDepth 65536 in
theorem w_c5 : (Jvm.Cond.code ({ cls := "com/example/tributary/tributary/model/RangeSet", name := "checkRange", desc := "(JJ)V" } : Jvm.MethodName) prog_55_method_20_code (4 : Nat) (Option.none : Option Jvm.ClassFile.FieldType)).before args0 about1 = true := code_word (m := ⟨2, 9⟩) (meth := k2m9) (c := k2c9) (by decide +kernel) rfl rfl rfl (by decide +kernel)
set_option maxRecDepth 65536 in
theorem w_c6 : (Jvm.Cond.code ({ cls := "com/example/tributary/tributary/model/RangeSet", name := "rangeFrom", desc := "(J)I" } : Jvm.MethodName) prog_55_method_19_code (6 : Nat) (Option.some Jvm.ClassFile.FieldType.int)).before args0 about1 = true := code_word (m := ⟨2, 8⟩) (meth := k2m8) (c := k2c8) (by decide +kernel) rfl rfl rfl (by decide +kernel)
set_option maxRecDepth 65536 in
theorem w_c7 : (Jvm.Cond.code ({ cls := "com/example/tributary/tributary/model/RangeSet", name := "insert", desc := "(IJJ)V" } : Jvm.MethodName) prog_55_method_21_code (7 : Nat) (Option.none : Option Jvm.ClassFile.FieldType)).before args0 about1 = true := code_word (m := ⟨2, 10⟩) (meth := k2m10) (c := k2c10) (by decide +kernel) rfl rfl rfl (by decide +kernel)
set_option maxRecDepth 65536 in
theorem w_c8 : (Jvm.Cond.code ({ cls := "java/lang/Math", name := "max", desc := "(II)I" } : Jvm.MethodName) jdk_29_method_65_code (2 : Nat) (Option.some Jvm.ClassFile.FieldType.int)).before args0 about1 = true := code_word (m := ⟨3, 1⟩) (meth := k3m1) (c := k3c1) (by decide +kernel) rfl rfl rfl (by decide +kernel)
set_option maxRecDepth 65536 in
theorem w_c9 : (Jvm.Cond.code ({ cls := "java/util/Arrays", name := "copyOf", desc := "([JI)[J" } : Jvm.MethodName) jdk_65_method_124_code (3 : Nat) (Option.some (Jvm.ClassFile.FieldType.array Jvm.ClassFile.FieldType.long))).before args0 about1 = true := code_word (m := ⟨4, 1⟩) (meth := k4m1) (c := k4c1) (by decide +kernel) rfl rfl rfl (by decide +kernel)
set_option maxRecDepth 65536 in
theorem w_c10 : (Jvm.Cond.code ({ cls := "java/lang/Math", name := "min", desc := "(II)I" } : Jvm.MethodName) jdk_29_method_69_code (2 : Nat) (Option.some Jvm.ClassFile.FieldType.int)).before args0 about1 = true := code_word (m := ⟨3, 3⟩) (meth := k3m3) (c := k3c3) (by decide +kernel) rfl rfl rfl (by decide +kernel)
set_option maxRecDepth 65536 in
theorem w_c11 : (Jvm.Cond.code ({ cls := "com/example/tributary/tributary/model/RangeSet", name := "clear", desc := "()V" } : Jvm.MethodName) prog_55_method_11_code (1 : Nat) (Option.none : Option Jvm.ClassFile.FieldType)).before args0 about1 = true := code_word (m := ⟨2, 3⟩) (meth := k2m3) (c := k2c3) (by decide +kernel) rfl rfl rfl (by decide +kernel)
set_option maxRecDepth 65536 in
theorem w_c12 : (Jvm.Cond.code ({ cls := "com/example/tributary/tributary/model/RangeSet", name := "isEmpty", desc := "()Z" } : Jvm.MethodName) prog_55_method_16_code (1 : Nat) (Option.some Jvm.ClassFile.FieldType.boolean)).before args0 about1 = true := code_word (m := ⟨2, 6⟩) (meth := k2m6) (c := k2c6) (by decide +kernel) rfl rfl rfl (by decide +kernel)
set_option maxRecDepth 65536 in
theorem w_c13 : (Jvm.Cond.code ({ cls := "com/example/tributary/tributary/model/RangeSet", name := "count", desc := "()J" } : Jvm.MethodName) prog_55_method_15_code (1 : Nat) (Option.some Jvm.ClassFile.FieldType.long)).before args0 about1 = true := code_word (m := ⟨2, 5⟩) (meth := k2m5) (c := k2c5) (by decide +kernel) rfl rfl rfl (by decide +kernel)
set_option maxRecDepth 65536 in
theorem w_c14 : (Jvm.Cond.code ({ cls := "com/example/tributary/tributary/model/RangeSet", name := "end", desc := "()J" } : Jvm.MethodName) prog_55_method_17_code (1 : Nat) (Option.some Jvm.ClassFile.FieldType.long)).before args0 about1 = true := code_word (m := ⟨2, 7⟩) (meth := k2m7) (c := k2c7) (by decide +kernel) rfl rfl rfl (by decide +kernel)
set_option maxRecDepth 65536 in
theorem w_c15 : (Jvm.Cond.code ({ cls := "com/example/tributary/tributary/model/RangeSet", name := "nextMember", desc := "(J)J" } : Jvm.MethodName) prog_55_method_12_code (4 : Nat) (Option.some Jvm.ClassFile.FieldType.long)).before args0 about1 = true := code_word (m := ⟨2, 4⟩) (meth := k2m4) (c := k2c4) (by decide +kernel) rfl rfl rfl (by decide +kernel)
set_option maxRecDepth 65536 in
theorem w_c16 : (Jvm.Cond.code ({ cls := "java/lang/Math", name := "max", desc := "(JJ)J" } : Jvm.MethodName) jdk_29_method_66_code (4 : Nat) (Option.some Jvm.ClassFile.FieldType.long)).before args0 about1 = true := code_word (m := ⟨3, 2⟩) (meth := k3m2) (c := k3c2) (by decide +kernel) rfl rfl rfl (by decide +kernel)
set_option maxRecDepth 65536 in
theorem w_c17 : (Jvm.Cond.code ({ cls := "java/lang/Math", name := "min", desc := "(JJ)J" } : Jvm.MethodName) jdk_29_method_70_code (4 : Nat) (Option.some Jvm.ClassFile.FieldType.long)).before args0 about1 = true := code_word (m := ⟨3, 4⟩) (meth := k3m4) (c := k3c4) (by decide +kernel) rfl rfl rfl (by decide +kernel)
set_option maxRecDepth 65536 in
theorem w_c18 : (Jvm.Cond.code ({ cls := "com/example/tributary/tributary/model/RangeSet", name := "delete", desc := "(II)V" } : Jvm.MethodName) prog_55_method_22_code (3 : Nat) (Option.none : Option Jvm.ClassFile.FieldType)).before args0 about1 = true := code_word (m := ⟨2, 11⟩) (meth := k2m11) (c := k2c11) (by decide +kernel) rfl rfl rfl (by decide +kernel)
def codes1 : List Jvm.Cond := [Jvm.Cond.code x code maxLocals ret, Jvm.Cond.code ({ cls := "com/example/tributary/tributary/model/RangeSet", name := "<init>", desc := "()V" } : Jvm.MethodName) prog_55_method_1_code (1 : Nat) (Option.none : Option Jvm.ClassFile.FieldType), Jvm.Cond.code ({ cls := "com/example/tributary/tributary/model/RangeSet", name := "<init>", desc := "(I)V" } : Jvm.MethodName) prog_55_method_2_code (2 : Nat) (Option.none : Option Jvm.ClassFile.FieldType), Jvm.Cond.code ({ cls := "java/lang/Object", name := "<init>", desc := "()V" } : Jvm.MethodName) object_method_1_code (1 : Nat) (Option.none : Option Jvm.ClassFile.FieldType), Jvm.Cond.code ({ cls := "com/example/tributary/tributary/model/RangeSet", name := "add", desc := "(JJ)Z" } : Jvm.MethodName) prog_55_method_8_code (13 : Nat) (Option.some Jvm.ClassFile.FieldType.boolean), Jvm.Cond.code ({ cls := "com/example/tributary/tributary/model/RangeSet", name := "checkRange", desc := "(JJ)V" } : Jvm.MethodName) prog_55_method_20_code (4 : Nat) (Option.none : Option Jvm.ClassFile.FieldType), Jvm.Cond.code ({ cls := "com/example/tributary/tributary/model/RangeSet", name := "rangeFrom", desc := "(J)I" } : Jvm.MethodName) prog_55_method_19_code (6 : Nat) (Option.some Jvm.ClassFile.FieldType.int), Jvm.Cond.code ({ cls := "com/example/tributary/tributary/model/RangeSet", name := "insert", desc := "(IJJ)V" } : Jvm.MethodName) prog_55_method_21_code (7 : Nat) (Option.none : Option Jvm.ClassFile.FieldType), Jvm.Cond.code ({ cls := "java/lang/Math", name := "max", desc := "(II)I" } : Jvm.MethodName) jdk_29_method_65_code (2 : Nat) (Option.some Jvm.ClassFile.FieldType.int), Jvm.Cond.code ({ cls := "java/util/Arrays", name := "copyOf", desc := "([JI)[J" } : Jvm.MethodName) jdk_65_method_124_code (3 : Nat) (Option.some (Jvm.ClassFile.FieldType.array Jvm.ClassFile.FieldType.long)), Jvm.Cond.code ({ cls := "java/lang/Math", name := "min", desc := "(II)I" } : Jvm.MethodName) jdk_29_method_69_code (2 : Nat) (Option.some Jvm.ClassFile.FieldType.int), Jvm.Cond.code ({ cls := "com/example/tributary/tributary/model/RangeSet", name := "clear", desc := "()V" } : Jvm.MethodName) prog_55_method_11_code (1 : Nat) (Option.none : Option Jvm.ClassFile.FieldType), Jvm.Cond.code ({ cls := "com/example/tributary/tributary/model/RangeSet", name := "isEmpty", desc := "()Z" } : Jvm.MethodName) prog_55_method_16_code (1 : Nat) (Option.some Jvm.ClassFile.FieldType.boolean), Jvm.Cond.code ({ cls := "com/example/tributary/tributary/model/RangeSet", name := "count", desc := "()J" } : Jvm.MethodName) prog_55_method_15_code (1 : Nat) (Option.some Jvm.ClassFile.FieldType.long), Jvm.Cond.code ({ cls := "com/example/tributary/tributary/model/RangeSet", name := "end", desc := "()J" } : Jvm.MethodName) prog_55_method_17_code (1 : Nat) (Option.some Jvm.ClassFile.FieldType.long), Jvm.Cond.code ({ cls := "com/example/tributary/tributary/model/RangeSet", name := "nextMember", desc := "(J)J" } : Jvm.MethodName) prog_55_method_12_code (4 : Nat) (Option.some Jvm.ClassFile.FieldType.long), Jvm.Cond.code ({ cls := "java/lang/Math", name := "max", desc := "(JJ)J" } : Jvm.MethodName) jdk_29_method_66_code (4 : Nat) (Option.some Jvm.ClassFile.FieldType.long), Jvm.Cond.code ({ cls := "java/lang/Math", name := "min", desc := "(JJ)J" } : Jvm.MethodName) jdk_29_method_70_code (4 : Nat) (Option.some Jvm.ClassFile.FieldType.long), Jvm.Cond.code ({ cls := "com/example/tributary/tributary/model/RangeSet", name := "delete", desc := "(II)V" } : Jvm.MethodName) prog_55_method_22_code (3 : Nat) (Option.none : Option Jvm.ClassFile.FieldType)]
set_option maxRecDepth 65536 in
theorem codes_eq : words1.filter isCode = codes1 := rfl
theorem w_codes : ∀ c ∈ words1.filter isCode, c.before args0 about1 = true := by
  rw [codes_eq]
  intro c hc
  simp only [codes1, List.mem_cons, List.not_mem_nil, or_false] at hc
  rcases hc with rfl | rfl | rfl | rfl | rfl | rfl | rfl | rfl | rfl | rfl | rfl | rfl | rfl | rfl | rfl | rfl | rfl | rfl | rfl
  · exact w_c0
  · exact w_c1
  · exact w_c2
  · exact w_c3
  · exact w_c4
  · exact w_c5
  · exact w_c6
  · exact w_c7
  · exact w_c8
  · exact w_c9
  · exact w_c10
  · exact w_c11
  · exact w_c12
  · exact w_c13
  · exact w_c14
  · exact w_c15
  · exact w_c16
  · exact w_c17
  · exact w_c18
set_option maxRecDepth 65536 in
theorem w_t1 : (words1.take 24).all (fun c => isCode c || c.before args0 about1) = true := by decide +kernel
set_option maxRecDepth 65536 in
theorem w_t2 : ((words1.drop 24).take 24).all (fun c => isCode c || c.before args0 about1) = true := by decide +kernel
set_option maxRecDepth 65536 in
theorem w_t3 : (((words1.drop 24).drop 24).take 24).all (fun c => isCode c || c.before args0 about1) = true := by decide +kernel
set_option maxRecDepth 65536 in
theorem w_t4 : ((((words1.drop 24).drop 24).drop 24).take 24).all (fun c => isCode c || c.before args0 about1) = true := by decide +kernel
set_option maxRecDepth 65536 in
theorem w_t5 : ((((words1.drop 24).drop 24).drop 24).drop 24).all (fun c => isCode c || c.before args0 about1) = true := by decide +kernel
theorem w_tables : (allAtoms (Jvm.Cond.code x code maxLocals ret :: tables_1)).before args0 about1 = true := by
  rw [allAtoms_all]
  show words1.all (fun c => c.before args0 about1) = true
  refine all_split ?_ w_codes
  rw [← List.take_append_drop 24 words1, List.all_append, w_t1, ← List.take_append_drop 24 (words1.drop 24), List.all_append, w_t2, ← List.take_append_drop 24 ((words1.drop 24).drop 24), List.all_append, w_t3, ← List.take_append_drop 24 (((words1.drop 24).drop 24).drop 24), List.all_append, w_t4, w_t5]
  rfl
set_option maxRecDepth 65536 in
theorem w_case : (Jvm.Cond.and given_1 narrow_1).before args0 about1 = true := by decide +kernel
theorem w_applies : (headSpec (Jvm.Cond.code x code maxLocals ret :: tables_1) room_1).applies x e0.platform about1 = true :=
  (Spec.applies_iff w_frames).mpr ⟨w_running, w_runnable, w_alone, w_named, w_hears, w_ripe, w_room, w_tables⟩
theorem atStart : AtStart classFile x code maxLocals ret World_1 tables_1 room_1 Calls_1 rest_1 Pre_1 launch0 p0 e0 about1 theMethod args0 below0 :=
  ⟨lists_1, trivial, launch0.admits_env _ _ _, launch0.least_env, fairChoices_fair.cas, fairChoices_fair.clock, w_frames, w_args, w_heap, w_applies, trivial, trivial, w_case⟩
end start1
theorem witness_1 : WitnessClaimed_1 := ⟨start1.p0, start1.e0, start1.about1, start1.theMethod, start1.args0, start1.below0, start1.atStart⟩
end Jvm.Pilot.@@N@@
