import JvmDerived
import JvmDerived.Pilot.@@N@@Statement
import JvmDerived.Pilot.@@N@@Code
set_option linter.unusedVariables false
set_option linter.unusedSimpArgs false
set_option maxRecDepth 65536
set_option maxHeartbeats 400000000
@@BLOCK:NumsL.lean.txt@@
namespace Jvm.Pilot.@@N@@
open Jvm Jvm.ClassFile Sem Op Lib Jvm.Free Jvm.Stand Jvm.LawKit Jvm.RoadKit Bundle Jvm.Pilot.@@N@@.Jvm.D
abbrev cc (x : Int32) : Int32 := x.toUInt32.toUInt16.toUInt32.toInt32
abbrev bb (x : Int32) : Int32 := x.toInt8.toInt32
abbrev PayOf (F : State → Outcome → State → List Loc → Nat → Nat → Prop) (l : Launch) (Z : State) (y : MethodName) (ws : List Jvm.Cond) (bytes : ByteArray) (ml : Nat) (rt : Option FieldType) (as' : Array Value) (h0 : Heap) (rm : Room) (Q : Option Value → Heap → List Loc → Prop) : Prop :=
  MetFree l y (head1 (Jvm.Cond.code y bytes ml rt :: ws) rm) (fun a U => a = as' ∧ Z.Warmed39 U.vm ∧ U.heap = h0) (fun _ _ _ _ _ => True) (fun _ U o U' => ∃ v L, o = .returned v ∧ Q v U'.heap L ∧ F U o U' L rm.cells rm.slots)
abbrev Pay := PayOf FrameEnd
abbrev PayW := PayOf ReturnedEndW
theorem own_body {F : State → Outcome → State → List Loc → Nat → Nat → Prop} {l : Launch} {Z : State} {y : MethodName} {ws : List Jvm.Cond} {bytes : ByteArray} {ml : Nat} {rt : Option FieldType} {as' : Array Value} {h0 : Heap} {rm : Room} {Q : Option Value → Heap → List Loc → Prop} (hp : plainFor y = true) {L0 : Array Slot} (hent : ∀ m, entryFrame m as' ml = mkF m 0 L0 [])
    (body : ∀ (p : Program) (e : Env) (s : State) (m : MethodId) (below : List Frame) (meth : Method) (c : Code) (s₁ : State), meth.sig.returnType = rt → meth.locks = false → p.tables.exec = Jvm.exec → c.code = bytes → c.maxLocals = ml → Z.Warmed39 s.vm → s.vm.findClass y.cls = some m.cls → meth.name = y.name → Stand p l e rm s m as' below meth c s₁ [] 0 0 → s₁.heap = h0 →
      ∃ s₂ o, Steps p.tables e below (s₁.setTop (mkF m 0 L0 [])) s₂ ∧ s₂.status = .running ∧ Ended s₂ below o ∧ ∃ v L, o = .returned v ∧ Q v s₂.heap L ∧ F s o s₂ L rm.cells rm.slots) : PayOf F l Z y ws bytes ml rt as' h0 rm Q := by
  refine MetFree.of_bodySF hp hisR ?_
  intro p e s m args below meth c s₁ Bd hml hP hK
  obtain ⟨rfl, hZ, hh⟩ := hP
  obtain ⟨s₂, o, st, r⟩ := body p e s m below meth c s₁ Bd.returns Bd.notSynchronized Bd.exec Bd.bytes hml hZ (findClass_of_methodNamed Bd.named) (name_of_methodNamed Bd.named Bd.method).1 (Stand.of_body Bd) (by rw [← hh, Bd.state]; rfl)
  exact ⟨s₂, o, castTop (hent m) st, r⟩
abbrev HW (Z : State) (a0 : Array Value) : Prop := ∀ d ∈ tables_1, d.before a0 Z = true
abbrev vi (x : Int32) : Slot := .val (.int x)
abbrev vl (x : Int64) : Slot := .val (.long x)
abbrev va (x : Addr) : Slot := .val (.ref x)
abbrev uu : Slot := .unset
abbrev ss : Slot := .second
theorem ww {Z : State} {a0 : Array Value} (hw : ∀ d ∈ tables_1, d.before a0 Z = true) (i : Nat) {d : Jvm.Cond} (h : tables_1[i]? = some d) : d.before a0 Z = true := hw _ (List.mem_of_getElem? h)
theorem own_old {Z : State} {n0 : Nat} {h : Heap} (O : Old Z n0 h) : n0 ≤ h.size := O.1 ▸ O.2.1
theorem own_lc_ltT {x y : Int64} (h : x < y) : ifCond.holds .lt (lcmpW x y) = true ∧ ifCond.holds .ge (lcmpW x y) = false := by
  have q : lcmpW x y < 0 := by rw [lcW]; exact (lc_lt x y).mpr h
  exact ⟨(if0 _ _).trans (tlt q).1, (if0 _ _).trans (tlt q).2.1⟩
theorem own_lc_ltF {x y : Int64} (h : ¬ x < y) : ifCond.holds .lt (lcmpW x y) = false ∧ ifCond.holds .ge (lcmpW x y) = true := by
  have q : ¬ lcmpW x y < 0 := by rw [lcW]; exact fun z => h ((lc_lt x y).mp z)
  exact ⟨(if0 _ _).trans (flt q).1, (if0 _ _).trans (flt q).2.1⟩
theorem own_lc_gtT {x y : Int64} (h : y < x) : ifCond.holds .gt (lcmpW x y) = true ∧ ifCond.holds .le (lcmpW x y) = false := by
  have q : 0 < lcmpW x y := by rw [lcW]; exact (lc_gt x y).mpr h
  exact ⟨(if0 _ _).trans (tlt q).2.2.1, (if0 _ _).trans (tlt q).2.2.2⟩
theorem own_lc_gtF {x y : Int64} (h : ¬ y < x) : ifCond.holds .gt (lcmpW x y) = false ∧ ifCond.holds .le (lcmpW x y) = true := by
  have q : ¬ 0 < lcmpW x y := by rw [lcW]; exact fun z => h ((lc_gt x y).mp z)
  exact ⟨(if0 _ _).trans (flt q).2.2.1, (if0 _ _).trans (flt q).2.2.2⟩
theorem own_lc_eqT {x y : Int64} (h : x = y) : ifCond.holds .eq (lcmpW x y) = true ∧ ifCond.holds .ne (lcmpW x y) = false := by
  have q : lcmpW x y = 0 := by rw [lcW]; exact (lc_eq x y).mpr h
  exact ⟨(if0 _ _).trans (teq q).1, (if0 _ _).trans (teq q).2⟩
theorem own_lc_eqF {x y : Int64} (h : ¬ x = y) : ifCond.holds .eq (lcmpW x y) = false ∧ ifCond.holds .ne (lcmpW x y) = true := by
  have q : ¬ lcmpW x y = 0 := by rw [lcW]; exact fun z => h ((lc_eq x y).mp z)
  exact ⟨(if0 _ _).trans (feq q).1, (if0 _ _).trans (feq q).2⟩
theorem own_selp {y : MethodName} {s : State} {args : Array Value} {n : Nat} (hy : y.cls ≠ "java/lang/invoke/MethodHandle" ∧ y.cls ≠ "java/lang/invoke/VarHandle") (hins : (Jvm.Cond.instantiable y.cls n).before args s = true) (hpriv : (Jvm.Cond.privateMethod y).before args s = true) (hinst : (Jvm.Cond.instanceMethod y).before args s = true) : (Jvm.Cond.selects y.cls y y).before args s = true := by
  obtain ⟨c, k, hc, hk, -, hniab, -, -⟩ := Cond.instantiable_spec hins
  exact selects_self_of_private hc hk (Bool.or_eq_false_iff.mp hniab).1 (Cond.privateMethod_at hpriv) hinst hy
theorem own_rem (x k : Int32) (n : Int) (hk : k.toInt = n) (hx : 0 ≤ x.toInt) : (x % k).toInt = x.toInt % n := by
  rw [Int32.toInt_mod, hk, Int.tmod_eq_emod_of_nonneg hx]
theorem own_eqI {t : Term} {k : Int32} {args : Array Value} {Z : State} (h : (Jvm.Cond.eq t (Jvm.Term.int k)).value args Z none Z [] = some true) : t.eval args Z none [] Z = some (.int k) := by
  simp only [Cond.value, Term.eval] at h
  cases ht : t.eval args Z none [] Z with
  | none => simp [ht] at h
  | some v => cases v <;> simp [ht] at h ⊢; exact h
theorem own_ne0 {t : Term} {x : Int32} {args : Array Value} {Z : State} (e : t.eval args Z none [] Z = some (.int x)) (h : (Jvm.Cond.not (Jvm.Cond.eq t (Jvm.Term.int (0 : Int32)))).value args Z none Z [] = some true) : ¬ (x = (0 : Int32)) := by
  intro q
  subst q
  simp [Cond.value, Term.eval, e] at h
theorem own_arvStart {ty : FieldType} {Z : State} {args : Array Value} {t : Term} {a : Addr} {cl : Cell} {z : Int32} {vs : List Value} {dv : Value} (hf : Fit Z) (ev : t.eval args Z none [] Z = some (.ref a)) (A : Arr Z Z.heap a cl ty) (hl : (Term.length t).eval args Z none [] Z = some (.int z)) (hz : ¬ z < 0) (hn : z.toNatClampNeg = vs.length) (H : HasL cl 0 vs) : Arv Z Z.heap a cl.cls ty z vs dv := by
  have hq : cl.slots.size < 2 ^ 31 ∧ cl.slots.size.toInt32 = z := by
    have e := A.fin (Vm.Alike.refl _)
    simp only [Term.eval, ev, e, Option.bind_eq_bind, Option.bind_some] at hl
    by_cases q : cl.slots.size < 2 ^ 31
    · rw [if_pos q] at hl; exact ⟨q, Value.int.inj (Option.some.inj hl)⟩
    · rw [if_neg q] at hl; cases hl
  exact Arv.start hf A hq.1 hq.2 hz hn H
def own_minL (x y : Int64) : Int64 := if y < x then y else x
def own_maxL (x y : Int64) : Int64 := if x < y then y else x
def own_part0 (a b c : Int64) : Int64 := b + 1
def own_part1 (a b c : Int64) : Int64 := if a < c then own_minL (b + 1) c else 0
theorem own_minL_toInt (x y : Int64) : (own_minL x y).toInt = min x.toInt y.toInt := by
  unfold own_minL
  by_cases h : y < x
  · rw [if_pos h]; rw [Int64.lt_iff_toInt_lt] at h; omega
  · rw [if_neg h]; rw [Int64.lt_iff_toInt_lt] at h; omega
theorem own_maxL_toInt (x y : Int64) : (own_maxL x y).toInt = max x.toInt y.toInt := by
  unfold own_maxL
  by_cases h : x < y
  · rw [if_pos h]; rw [Int64.lt_iff_toInt_lt] at h; omega
  · rw [if_neg h]; rw [Int64.lt_iff_toInt_lt] at h; omega
theorem own_part0_toInt (a b c : Int64) : b.toInt < 9223372036854775807 → (own_part0 a b c).toInt = b.toInt + 1 := by
  intro h
  have e1 : (1 : Int64).toInt = 1 := by decide
  have hb := Int64.le_toInt b
  exact (Jvm.Kit.i64_add (x := b) (y := 1) (by omega) (by omega)).trans (by rw [e1])
theorem own_part1_toInt (a b c : Int64) : b.toInt < 9223372036854775807 → ((a.toInt < c.toInt ∧ (own_part1 a b c).toInt = min (b.toInt + 1) c.toInt) ∨ (c.toInt ≤ a.toInt ∧ (own_part1 a b c).toInt = 0)) := by
  intro h
  unfold own_part1
  by_cases q : a < c
  · rw [if_pos q, own_minL_toInt]; rw [Int64.lt_iff_toInt_lt] at q
    have e := own_part0_toInt a b c h
    exact Or.inl ⟨q, by rw [show (b + 1).toInt = b.toInt + 1 from e]⟩
  · rw [if_neg q]; rw [Int64.lt_iff_toInt_lt] at q; exact Or.inr ⟨by omega, by decide⟩
theorem own_c (p v : Int64) (h : v = (own_minL (p &&& (9223372036854775807 : Int64)) (9223372036854775806 : Int64))) : 0 ≤ v.toInt ∧ v.toInt ≤ 9223372036854775806 := by
  have e1 := Jvm.Kit.i64_mask p (9223372036854775807 : Int64) (k := 63) (by decide) (by decide)
  have e2 : (9223372036854775806 : Int64).toInt = 9223372036854775806 := by decide
  have e3 := own_minL_toInt (p &&& (9223372036854775807 : Int64)) (9223372036854775806 : Int64)
  rw [← h] at e3
  omega
theorem own_ab (p q a b : Int64) (ha : a = (own_minL (own_minL (p &&& (9223372036854775807 : Int64)) (9223372036854775806 : Int64)) (own_minL (q &&& (9223372036854775807 : Int64)) (9223372036854775806 : Int64)))) (hb : b = (own_maxL (own_minL (p &&& (9223372036854775807 : Int64)) (9223372036854775806 : Int64)) (own_minL (q &&& (9223372036854775807 : Int64)) (9223372036854775806 : Int64)))) : 0 ≤ a.toInt ∧ a.toInt ≤ b.toInt ∧ b.toInt ≤ 9223372036854775806 := by
  have h1 := own_c p _ rfl
  have h2 := own_c q _ rfl
  have e1 := own_minL_toInt (own_minL (p &&& (9223372036854775807 : Int64)) (9223372036854775806 : Int64)) (own_minL (q &&& (9223372036854775807 : Int64)) (9223372036854775806 : Int64))
  have e2 := own_maxL_toInt (own_minL (p &&& (9223372036854775807 : Int64)) (9223372036854775806 : Int64)) (own_minL (q &&& (9223372036854775807 : Int64)) (9223372036854775806 : Int64))
  rw [← ha] at e1
  rw [← hb] at e2
  omega
abbrev My1 : MethodName := ⟨"com/example/tributary/tributary/model/RangeSetEndPinLaw", "clamp", "(J)J"⟩
abbrev My2 : MethodName := ⟨"java/lang/Math", "min", "(JJ)J"⟩
abbrev My3 : MethodName := ⟨"java/lang/Math", "max", "(JJ)J"⟩
abbrev My4 : MethodName := ⟨"com/example/tributary/tributary/model/RangeSet", "<init>", "()V"⟩
abbrev My7 : MethodName := ⟨"com/example/tributary/tributary/model/RangeSet", "end", "()J"⟩
abbrev My8 : MethodName := ⟨"com/example/tributary/tributary/model/RangeSet", "add", "(JJ)Z"⟩
abbrev My9 : MethodName := ⟨"com/example/tributary/tributary/model/RangeSet", "checkRange", "(JJ)V"⟩
abbrev My10 : MethodName := ⟨"com/example/tributary/tributary/model/RangeSet", "rangeFrom", "(J)I"⟩
abbrev My11 : MethodName := ⟨"com/example/tributary/tributary/model/RangeSet", "insert", "(IJJ)V"⟩
abbrev My15 : MethodName := ⟨"com/example/tributary/tributary/model/RangeSetEndPinLaw", "part", "(JJZJ)J"⟩
abbrev My16 : MethodName := ⟨"com/example/tributary/tributary/model/RangeSet", "delete", "(II)V"⟩
abbrev My17 : MethodName := ⟨"com/example/tributary/tributary/model/RangeSet", "remove", "(JJ)V"⟩
abbrev sC0 : String := "com/example/tributary/tributary/model/RangeSet"
abbrev sC1 : String := "com/example/tributary/tributary/model/RangeSetEndPinLaw"
abbrev sC2 : String := "java/lang/Math"
/-- what the law's case says of the statics, at the start -/
def SF (Z : State) (w_NONE : Addr) : Prop := (Sta Z Z.heap sC0 "NONE" "[J" (.ref w_NONE)) ∧ ((∃ kk : ClassId, Arv Z Z.heap w_NONE kk .long (0 : Int32) [] (.long (0 : Int64)))) ∧ True
theorem pn_0 : plainName "com/example/tributary/tributary/model/RangeSetEndPinLaw" = true := by first | (simp [plainName, overriddenIn]; done) | decide +kernel
theorem d1_0 : decode method_2_code 0 = .ok (.lload_n 0, 1) := by decide +kernel
theorem d1_1 : decode method_2_code 1 = .ok (.ldc2_w 9, 3) := by decide +kernel
theorem d1_4 : decode method_2_code 4 = .ok (.land, 1) := by decide +kernel
theorem d1_5 : decode method_2_code 5 = .ok (.ldc2_w 11, 3) := by decide +kernel
theorem d1_8 : decode method_2_code 8 = .ok (.invokestatic 13, 3) := by decide +kernel
theorem d2_0 : decode jdk_29_method_70_code 0 = .ok (.lload_n 0, 1) := by decide +kernel
theorem d2_1 : decode jdk_29_method_70_code 1 = .ok (.lload_n 2, 1) := by decide +kernel
theorem d2_2 : decode jdk_29_method_70_code 2 = .ok (.lcmp, 1) := by decide +kernel
theorem d2_3 : decode jdk_29_method_70_code 3 = .ok (.ifCond .gt 7, 3) := by decide +kernel
theorem d2_6 : decode jdk_29_method_70_code 6 = .ok (.lload_n 0, 1) := by decide +kernel
theorem d2_7 : decode jdk_29_method_70_code 7 = .ok (.goto 4, 3) := by decide +kernel
theorem d2_11 : decode jdk_29_method_70_code 11 = .ok (.lreturn, 1) := by decide +kernel
theorem d2_10 : decode jdk_29_method_70_code 10 = .ok (.lload_n 2, 1) := by decide +kernel
def Q2_0 (Z : State) (w_NONE : Addr) (q0 : Int64) (q1 : Int64) (h0 : Heap) (n0 : Nat) (v : Option Value) (h : Heap) (L : List Loc) : Prop := v = (some (.long q0)) ∧ Fr n0 L ∧ h = h0
theorem rm2_0 (l : Launch) (Z : State) (a0 : Array Value) (hw : HW Z a0) (ws : List Jvm.Cond) (w_NONE : Addr) (q0 : Int64) (q1 : Int64) (h0 : Heap) (n0 : Nat) (O0 : Old Z n0 h0) (S : SF Z w_NONE) (hc0 : ¬ (q1 < q0)) :
    Pay l Z My2 ws jdk_29_method_70_code 4 (some .long) #[(.long q0), (.long q1)] h0 ({ frames := 0, cells := 0, slots := 0, locals := 0 } : Room) (Q2_0 Z w_NONE q0 q1 h0 n0) := by
  refine own_body (Jvm.Free.JP.mathPlain rfl (by decide +kernel)) (L0 := #[vl q0, ss, vl q1, ss]) (fun _ => by first | rfl | (simp [entryFrame, mkF, argsToLocals, Value.category]; done)) ?_
  intro p e s m below meth c s₁ hrt hlk hx hby hml hZ hown0 hnm X0 e0
  have hown : s.vm.findClass sC2 = some m.cls := hown0
  have N0 := Fr.nil n0
  have K0 : Keep h0 h0 [] := Keep.refl _ _
  obtain ⟨fs, hr, hrun, hended, hW, hsame⟩ := X0.leave (v := (some (.long q0))) (fun h => by rw [hrt] at h; cases h)
  refine ⟨_, _, ?_, hrun, hended, _, _, rfl, ?_, ⟨_, rfl⟩, hW, hsame.mono (by decide) (by decide)⟩
  · show Steps p.tables e below (s₁.setTop (mkF m 0 #[vl q0, ss, vl q1, ss] [])) _
    refine XS.lloadN X0.here hx rfl (hb hby d2_0) rfl ?_
    refine XS.lloadN X0.here hx rfl (hb hby d2_1) rfl ?_
    refine XS.lcmp X0.here hx rfl (hb hby d2_2) rfl ?_
    refine XS.ifNo X0.here hx rfl (hb hby d2_3) rfl (own_lc_gtF hc0).1 ?_
    refine XS.lloadN X0.here hx rfl (hb hby d2_6) rfl ?_
    refine XS.goto X0.here hx rfl (pc0 := 7) (pc' := 11) rfl (hb hby d2_7) (by decide) (by decide) ?_
    exact retOut X0 hx (t := .long) (i := .lreturn) hrt rfl (Or.inr (Or.inl ⟨rfl, rfl, _, rfl⟩)) (hb hby d2_11) hr
  · show Q2_0 Z w_NONE q0 q1 h0 n0 (some (.long q0)) s₁.heap _
    exact (⟨rfl, N0, e0⟩)
def Q2_1 (Z : State) (w_NONE : Addr) (q0 : Int64) (q1 : Int64) (h0 : Heap) (n0 : Nat) (v : Option Value) (h : Heap) (L : List Loc) : Prop := v = (some (.long q1)) ∧ Fr n0 L ∧ h = h0
theorem rm2_1 (l : Launch) (Z : State) (a0 : Array Value) (hw : HW Z a0) (ws : List Jvm.Cond) (w_NONE : Addr) (q0 : Int64) (q1 : Int64) (h0 : Heap) (n0 : Nat) (O0 : Old Z n0 h0) (S : SF Z w_NONE) (hc0 : q1 < q0) :
    Pay l Z My2 ws jdk_29_method_70_code 4 (some .long) #[(.long q0), (.long q1)] h0 ({ frames := 0, cells := 0, slots := 0, locals := 0 } : Room) (Q2_1 Z w_NONE q0 q1 h0 n0) := by
  refine own_body (Jvm.Free.JP.mathPlain rfl (by decide +kernel)) (L0 := #[vl q0, ss, vl q1, ss]) (fun _ => by first | rfl | (simp [entryFrame, mkF, argsToLocals, Value.category]; done)) ?_
  intro p e s m below meth c s₁ hrt hlk hx hby hml hZ hown0 hnm X0 e0
  have hown : s.vm.findClass sC2 = some m.cls := hown0
  have N0 := Fr.nil n0
  have K0 : Keep h0 h0 [] := Keep.refl _ _
  obtain ⟨fs, hr, hrun, hended, hW, hsame⟩ := X0.leave (v := (some (.long q1))) (fun h => by rw [hrt] at h; cases h)
  refine ⟨_, _, ?_, hrun, hended, _, _, rfl, ?_, ⟨_, rfl⟩, hW, hsame.mono (by decide) (by decide)⟩
  · show Steps p.tables e below (s₁.setTop (mkF m 0 #[vl q0, ss, vl q1, ss] [])) _
    refine XS.lloadN X0.here hx rfl (hb hby d2_0) rfl ?_
    refine XS.lloadN X0.here hx rfl (hb hby d2_1) rfl ?_
    refine XS.lcmp X0.here hx rfl (hb hby d2_2) rfl ?_
    refine XS.ifYes X0.here hx rfl (pc0 := 3) (pc' := 10) rfl (hb hby d2_3) rfl (own_lc_gtT hc0).1 (by decide) (by decide) ?_
    refine XS.lloadN X0.here hx rfl (hb hby d2_10) rfl ?_
    exact retOut X0 hx (t := .long) (i := .lreturn) hrt rfl (Or.inr (Or.inl ⟨rfl, rfl, _, rfl⟩)) (hb hby d2_11) hr
  · show Q2_1 Z w_NONE q0 q1 h0 n0 (some (.long q1)) s₁.heap _
    exact (⟨rfl, N0, e0⟩)
def Qm2_0 (Z : State) (w_NONE : Addr) (q0 : Int64) (q1 : Int64) (h0 : Heap) (n0 : Nat) (v : Option Value) (h : Heap) (L : List Loc) : Prop := v = (some (.long (own_minL q0 q1))) ∧ Fr n0 L ∧ h = h0
theorem mg2_0 (l : Launch) (Z : State) (a0 : Array Value) (hw : HW Z a0) (ws : List Jvm.Cond) (w_NONE : Addr) (q0 : Int64) (q1 : Int64) (h0 : Heap) (n0 : Nat) (O0 : Old Z n0 h0) (S : SF Z w_NONE) :
    Pay l Z My2 ws jdk_29_method_70_code 4 (some .long) #[(.long q0), (.long q1)] h0 ({ frames := 0, cells := 0, slots := 0, locals := 0 } : Room) (Qm2_0 Z w_NONE q0 q1 h0 n0) := by
  by_cases hm0 : q1 < q0
  · have q := rm2_1 l Z a0 hw ws w_NONE q0 q1 h0 n0 O0 S hm0
    have e : (own_minL q0 q1) = q1 := by simp [own_minL, hm0]
    rw [show (Qm2_0 Z w_NONE q0 q1 h0 n0) = (Q2_1 Z w_NONE q0 q1 h0 n0) from by funext v h L; unfold Qm2_0 Q2_1; rw [e]]; exact q
  · have q := rm2_0 l Z a0 hw ws w_NONE q0 q1 h0 n0 O0 S hm0
    have e : (own_minL q0 q1) = q0 := by simp [own_minL, hm0]
    rw [show (Qm2_0 Z w_NONE q0 q1 h0 n0) = (Q2_0 Z w_NONE q0 q1 h0 n0) from by funext v h L; unfold Qm2_0 Q2_0; rw [e]]; exact q
theorem pd_0 : parseMethodDescriptor "(JJ)J" = some ⟨[.long, .long], some .long⟩ := by decide +kernel
theorem d1_11 : decode method_2_code 11 = .ok (.lreturn, 1) := by decide +kernel
def Q1_0 (Z : State) (w_NONE : Addr) (q0 : Int64) (h0 : Heap) (n0 : Nat) (v : Option Value) (h : Heap) (L : List Loc) : Prop := v = (some (.long (own_minL (q0 &&& (9223372036854775807 : Int64)) (9223372036854775806 : Int64)))) ∧ Fr n0 L ∧ h = h0
theorem rm1_0 (l : Launch) (Z : State) (a0 : Array Value) (hw : HW Z a0) (ws : List Jvm.Cond) (w_NONE : Addr) (q0 : Int64) (h0 : Heap) (n0 : Nat) (O0 : Old Z n0 h0) (S : SF Z w_NONE) :
    Pay l Z My1 ws method_2_code 2 (some .long) #[(.long q0)] h0 ({ frames := 1, cells := 0, slots := 0, locals := 15 } : Room) (Q1_0 Z w_NONE q0 h0 n0) := by
  refine own_body (plainFor_of_name pn_0) (L0 := #[vl q0, ss]) (fun _ => by first | rfl | (simp [entryFrame, mkF, argsToLocals, Value.category]; done)) ?_
  intro p e s m below meth c s₁ hrt hlk hx hby hml hZ hown0 hnm X0 e0
  have hown : s.vm.findClass sC1 = some m.cls := hown0
  have N0 := Fr.nil n0
  have K0 : Keep h0 h0 [] := Keep.refl _ _
  obtain ⟨_, _, ⟨T1, L1, k1, n1⟩, -, X1, ⟨Lc1, hQ1, l1, y1, z1⟩, st1⟩ := Jvm.LawKit.callS X0 hx (y := My2) hown (mvT hZ (ww hw 6 rfl)) (mvT hZ (ww hw 7 rfl)) (mvT hZ (ww hw 8 rfl)) (mvT hZ (ww hw 9 rfl)) (by decide) (backOf (W := 0) (mg2_0 l Z a0 hw [] w_NONE (q0 &&& (9223372036854775807 : Int64)) (9223372036854775806 : Int64) h0 n0 O0 S) hZ (ww hw 9 rfl) (ww hw 8 rfl) (by decide) (by decide)) (g := (mkF m 8 #[vl q0, ss] [(.long 9223372036854775806), (.long (q0 &&& (9223372036854775807 : Int64)))])) rfl (by rw [hml]; rfl) (argsL := [(.long (q0 &&& (9223372036854775807 : Int64))), (.long 9223372036854775806)]) (rest := []) (lenOf pd_0 rfl) rfl (by show 2 * 0 + _ ≤ _; exact Nat.le_of_eq rfl) (hb hby d1_8) (fun _ _ => ⟨rfl, e0, (by decide : 0 + 0 ≤ _), (by decide : 0 + 0 ≤ _)⟩)
  dsimp only [Pt.U, Pt.locs, Pt.cells, Pt.slots] at X1 l1 y1 z1 st1 hQ1
  subst l1 y1 z1
  obtain ⟨rfl, Nq1, e1⟩ := hQ1
  have N1 := Fr.app N0 Nq1
  obtain ⟨fs, hr, hrun, hended, hW, hsame⟩ := X1.leave (v := (some (.long (own_minL (q0 &&& (9223372036854775807 : Int64)) (9223372036854775806 : Int64))))) (fun h => by rw [hrt] at h; cases h)
  refine ⟨_, _, ?_, hrun, hended, _, _, rfl, ?_, ⟨_, rfl⟩, hW, hsame.mono (by decide) (by decide)⟩
  · show Steps p.tables e below (s₁.setTop (mkF m 0 #[vl q0, ss] [])) _
    refine XS.lloadN X0.here hx rfl (hb hby d1_0) rfl ?_
    refine X0.ldc2Long hx hown (mvT hZ (ww hw 4 rfl)) (g := (mkF m 1 #[vl q0, ss] [(.long q0)])) rfl (hb hby d1_1) _ ?_
    refine XS.land X0.here hx rfl (hb hby d1_4) rfl ?_
    refine X0.ldc2Long hx hown (mvT hZ (ww hw 5 rfl)) (g := (mkF m 5 #[vl q0, ss] [(.long (q0 &&& (9223372036854775807 : Int64)))])) rfl (hb hby d1_5) _ ?_
    refine st1 _ ?_
    exact retOut X1 hx (t := .long) (i := .lreturn) hrt rfl (Or.inr (Or.inl ⟨rfl, rfl, _, rfl⟩)) (hb hby d1_11) hr
  · show Q1_0 Z w_NONE q0 h0 n0 (some (.long (own_minL (q0 &&& (9223372036854775807 : Int64)) (9223372036854775806 : Int64)))) T1.heap _
    exact (⟨rfl, N1, e1⟩)
theorem pd_1 : parseMethodDescriptor "(J)J" = some ⟨[.long], some .long⟩ := by decide +kernel
theorem d3_0 : decode jdk_29_method_66_code 0 = .ok (.lload_n 0, 1) := by decide +kernel
theorem d3_1 : decode jdk_29_method_66_code 1 = .ok (.lload_n 2, 1) := by decide +kernel
theorem d3_2 : decode jdk_29_method_66_code 2 = .ok (.lcmp, 1) := by decide +kernel
theorem d3_3 : decode jdk_29_method_66_code 3 = .ok (.ifCond .lt 7, 3) := by decide +kernel
theorem d3_10 : decode jdk_29_method_66_code 10 = .ok (.lload_n 2, 1) := by decide +kernel
theorem d3_11 : decode jdk_29_method_66_code 11 = .ok (.lreturn, 1) := by decide +kernel
theorem d3_6 : decode jdk_29_method_66_code 6 = .ok (.lload_n 0, 1) := by decide +kernel
theorem d3_7 : decode jdk_29_method_66_code 7 = .ok (.goto 4, 3) := by decide +kernel
def Q3_0 (Z : State) (w_NONE : Addr) (q0 : Int64) (q1 : Int64) (h0 : Heap) (n0 : Nat) (v : Option Value) (h : Heap) (L : List Loc) : Prop := v = (some (.long q1)) ∧ Fr n0 L ∧ h = h0
theorem rm3_0 (l : Launch) (Z : State) (a0 : Array Value) (hw : HW Z a0) (ws : List Jvm.Cond) (w_NONE : Addr) (q0 : Int64) (q1 : Int64) (h0 : Heap) (n0 : Nat) (O0 : Old Z n0 h0) (S : SF Z w_NONE) (hc0 : q0 < q1) :
    Pay l Z My3 ws jdk_29_method_66_code 4 (some .long) #[(.long q0), (.long q1)] h0 ({ frames := 0, cells := 0, slots := 0, locals := 0 } : Room) (Q3_0 Z w_NONE q0 q1 h0 n0) := by
  refine own_body (Jvm.Free.JP.mathPlain rfl (by decide +kernel)) (L0 := #[vl q0, ss, vl q1, ss]) (fun _ => by first | rfl | (simp [entryFrame, mkF, argsToLocals, Value.category]; done)) ?_
  intro p e s m below meth c s₁ hrt hlk hx hby hml hZ hown0 hnm X0 e0
  have hown : s.vm.findClass sC2 = some m.cls := hown0
  have N0 := Fr.nil n0
  have K0 : Keep h0 h0 [] := Keep.refl _ _
  obtain ⟨fs, hr, hrun, hended, hW, hsame⟩ := X0.leave (v := (some (.long q1))) (fun h => by rw [hrt] at h; cases h)
  refine ⟨_, _, ?_, hrun, hended, _, _, rfl, ?_, ⟨_, rfl⟩, hW, hsame.mono (by decide) (by decide)⟩
  · show Steps p.tables e below (s₁.setTop (mkF m 0 #[vl q0, ss, vl q1, ss] [])) _
    refine XS.lloadN X0.here hx rfl (hb hby d3_0) rfl ?_
    refine XS.lloadN X0.here hx rfl (hb hby d3_1) rfl ?_
    refine XS.lcmp X0.here hx rfl (hb hby d3_2) rfl ?_
    refine XS.ifYes X0.here hx rfl (pc0 := 3) (pc' := 10) rfl (hb hby d3_3) rfl (own_lc_ltT hc0).1 (by decide) (by decide) ?_
    refine XS.lloadN X0.here hx rfl (hb hby d3_10) rfl ?_
    exact retOut X0 hx (t := .long) (i := .lreturn) hrt rfl (Or.inr (Or.inl ⟨rfl, rfl, _, rfl⟩)) (hb hby d3_11) hr
  · show Q3_0 Z w_NONE q0 q1 h0 n0 (some (.long q1)) s₁.heap _
    exact (⟨rfl, N0, e0⟩)
def Q3_1 (Z : State) (w_NONE : Addr) (q0 : Int64) (q1 : Int64) (h0 : Heap) (n0 : Nat) (v : Option Value) (h : Heap) (L : List Loc) : Prop := v = (some (.long q0)) ∧ Fr n0 L ∧ h = h0
theorem rm3_1 (l : Launch) (Z : State) (a0 : Array Value) (hw : HW Z a0) (ws : List Jvm.Cond) (w_NONE : Addr) (q0 : Int64) (q1 : Int64) (h0 : Heap) (n0 : Nat) (O0 : Old Z n0 h0) (S : SF Z w_NONE) (hc0 : ¬ (q0 < q1)) :
    Pay l Z My3 ws jdk_29_method_66_code 4 (some .long) #[(.long q0), (.long q1)] h0 ({ frames := 0, cells := 0, slots := 0, locals := 0 } : Room) (Q3_1 Z w_NONE q0 q1 h0 n0) := by
  refine own_body (Jvm.Free.JP.mathPlain rfl (by decide +kernel)) (L0 := #[vl q0, ss, vl q1, ss]) (fun _ => by first | rfl | (simp [entryFrame, mkF, argsToLocals, Value.category]; done)) ?_
  intro p e s m below meth c s₁ hrt hlk hx hby hml hZ hown0 hnm X0 e0
  have hown : s.vm.findClass sC2 = some m.cls := hown0
  have N0 := Fr.nil n0
  have K0 : Keep h0 h0 [] := Keep.refl _ _
  obtain ⟨fs, hr, hrun, hended, hW, hsame⟩ := X0.leave (v := (some (.long q0))) (fun h => by rw [hrt] at h; cases h)
  refine ⟨_, _, ?_, hrun, hended, _, _, rfl, ?_, ⟨_, rfl⟩, hW, hsame.mono (by decide) (by decide)⟩
  · show Steps p.tables e below (s₁.setTop (mkF m 0 #[vl q0, ss, vl q1, ss] [])) _
    refine XS.lloadN X0.here hx rfl (hb hby d3_0) rfl ?_
    refine XS.lloadN X0.here hx rfl (hb hby d3_1) rfl ?_
    refine XS.lcmp X0.here hx rfl (hb hby d3_2) rfl ?_
    refine XS.ifNo X0.here hx rfl (hb hby d3_3) rfl (own_lc_ltF hc0).1 ?_
    refine XS.lloadN X0.here hx rfl (hb hby d3_6) rfl ?_
    refine XS.goto X0.here hx rfl (pc0 := 7) (pc' := 11) rfl (hb hby d3_7) (by decide) (by decide) ?_
    exact retOut X0 hx (t := .long) (i := .lreturn) hrt rfl (Or.inr (Or.inl ⟨rfl, rfl, _, rfl⟩)) (hb hby d3_11) hr
  · show Q3_1 Z w_NONE q0 q1 h0 n0 (some (.long q0)) s₁.heap _
    exact (⟨rfl, N0, e0⟩)
def Qm3_0 (Z : State) (w_NONE : Addr) (q0 : Int64) (q1 : Int64) (h0 : Heap) (n0 : Nat) (v : Option Value) (h : Heap) (L : List Loc) : Prop := v = (some (.long (own_maxL q0 q1))) ∧ Fr n0 L ∧ h = h0
theorem mg3_0 (l : Launch) (Z : State) (a0 : Array Value) (hw : HW Z a0) (ws : List Jvm.Cond) (w_NONE : Addr) (q0 : Int64) (q1 : Int64) (h0 : Heap) (n0 : Nat) (O0 : Old Z n0 h0) (S : SF Z w_NONE) :
    Pay l Z My3 ws jdk_29_method_66_code 4 (some .long) #[(.long q0), (.long q1)] h0 ({ frames := 0, cells := 0, slots := 0, locals := 0 } : Room) (Qm3_0 Z w_NONE q0 q1 h0 n0) := by
  by_cases hm0 : q0 < q1
  · have q := rm3_0 l Z a0 hw ws w_NONE q0 q1 h0 n0 O0 S hm0
    have e : (own_maxL q0 q1) = q1 := by simp [own_maxL, hm0]
    rw [show (Qm3_0 Z w_NONE q0 q1 h0 n0) = (Q3_0 Z w_NONE q0 q1 h0 n0) from by funext v h L; unfold Qm3_0 Q3_0; rw [e]]; exact q
  · have q := rm3_1 l Z a0 hw ws w_NONE q0 q1 h0 n0 O0 S hm0
    have e : (own_maxL q0 q1) = q0 := by simp [own_maxL, hm0]
    rw [show (Qm3_0 Z w_NONE q0 q1 h0 n0) = (Q3_1 Z w_NONE q0 q1 h0 n0) from by funext v h L; unfold Qm3_0 Q3_1; rw [e]]; exact q
theorem pn_1 : plainName "com/example/tributary/tributary/model/RangeSet" = true := by first | (simp [plainName, overriddenIn]; done) | decide +kernel
theorem d4_0 : decode prog_55_method_1_code 0 = .ok (.aload_n 0, 1) := by decide +kernel
theorem d4_1 : decode prog_55_method_1_code 1 = .ok (.ldc 3, 2) := by decide +kernel
theorem d4_3 : decode prog_55_method_1_code 3 = .ok (.invokespecial 4, 3) := by decide +kernel
theorem d5_0 : decode prog_55_method_2_code 0 = .ok (.aload_n 0, 1) := by decide +kernel
theorem d5_1 : decode prog_55_method_2_code 1 = .ok (.invokespecial 10, 3) := by decide +kernel
theorem d5_4 : decode prog_55_method_2_code 4 = .ok (.aload_n 0, 1) := by decide +kernel
theorem d5_5 : decode prog_55_method_2_code 5 = .ok (.getstatic 15, 3) := by decide +kernel
theorem d5_8 : decode prog_55_method_2_code 8 = .ok (.putfield 19, 3) := by decide +kernel
theorem d5_11 : decode prog_55_method_2_code 11 = .ok (.aload_n 0, 1) := by decide +kernel
theorem d5_12 : decode prog_55_method_2_code 12 = .ok (.getstatic 15, 3) := by decide +kernel
theorem d5_15 : decode prog_55_method_2_code 15 = .ok (.putfield 22, 3) := by decide +kernel
theorem d5_18 : decode prog_55_method_2_code 18 = .ok (.aload_n 0, 1) := by decide +kernel
theorem d5_19 : decode prog_55_method_2_code 19 = .ok (.iload_n 1, 1) := by decide +kernel
theorem d5_20 : decode prog_55_method_2_code 20 = .ok (.putfield 25, 3) := by decide +kernel
theorem d5_23 : decode prog_55_method_2_code 23 = .ok (.return_, 1) := by decide +kernel
def Q5_0 (Z : State) (w_NONE : Addr) (o0 : Addr) (h0 : Heap) (n0 : Nat) (v : Option Value) (h : Heap) (L : List Loc) : Prop := v = none ∧ Fr n0 L ∧ Keep h0 h [o0] ∧ Exa Z h o0 sC0 ∧ Fld Z h o0 sC0 "count" "J" (.long 0) ∧ Fld Z h o0 sC0 "firsts" "[J" (.ref w_NONE) ∧ Fld Z h o0 sC0 "lasts" "[J" (.ref w_NONE) ∧ Fld Z h o0 sC0 "maxRanges" "I" (.int 2147483647) ∧ Fld Z h o0 sC0 "ranges" "I" (.int 0)
theorem rm5_0 (l : Launch) (Z : State) (a0 : Array Value) (hw : HW Z a0) (ws : List Jvm.Cond) (w_NONE : Addr) (o0 : Addr) (h0 : Heap) (n0 : Nat) (O0 : Old Z n0 h0) (S : SF Z w_NONE) (E_o0 : Exa Z h0 o0 sC0) (F_count_o0 : Fld Z h0 o0 sC0 "count" "J" (.long 0)) (F_firsts_o0 : Fld Z h0 o0 sC0 "firsts" "[J" .null) (F_lasts_o0 : Fld Z h0 o0 sC0 "lasts" "[J" .null) (F_maxRanges_o0 : Fld Z h0 o0 sC0 "maxRanges" "I" (.int 0)) (F_ranges_o0 : Fld Z h0 o0 sC0 "ranges" "I" (.int 0)) (g_o0 : n0 ≤ o0) :
    Pay l Z (⟨sC0, "<init>", "(I)V"⟩ : MethodName) ws prog_55_method_2_code 2 none #[(.ref o0), (.int 2147483647)] h0 ({ frames := 1, cells := 0, slots := 0, locals := 12 } : Room) (Q5_0 Z w_NONE o0 h0 n0) := by
  obtain ⟨S_w_NONE, -⟩ := id S
  refine own_body (plainFor_of_name pn_1) (L0 := #[va o0, vi 2147483647]) (fun _ => by first | rfl | (simp [entryFrame, mkF, argsToLocals, Value.category]; done)) ?_
  intro p e s m below meth c s₁ hrt hlk hx hby hml hZ hown0 hnm X0 e0
  have hown : s.vm.findClass sC0 = some m.cls := hown0
  have N0 := Fr.nil n0
  have K0 : Keep h0 h0 [o0] := Keep.refl _ _
  obtain ⟨T1, X1, e1, st1⟩ := initO X0 hx hZ hown (ww hw 23 rfl) (ww hw 24 rfl) (ww hw 25 rfl) e0 (g := (mkF m 1 #[va o0, vi 2147483647] [(.ref o0)])) rfl (by rw [hml]; rfl) rfl (hb hby d5_1) (by decide) (W := 0) (by show 2 * 0 + _ ≤ _; exact Nat.le_of_eq rfl) (by decide)
  obtain ⟨T2, X2, e2, st2⟩ := getS2 X1 hx hZ hown (host := "") (Or.inl (ww hw 26 rfl)) Via.refl e1 (S_w_NONE.ext O0.2) (g := (mkF m 5 #[va o0, vi 2147483647] [(.ref o0)])) rfl (hb hby d5_5)
  obtain ⟨T3, h3, X3, e3, W3, st3⟩ := putF X2 hx hZ hown (host := "") (Or.inl (ww hw 28 rfl)) Via.refl e2 F_firsts_o0 E_o0 (Or.inl (ww hw 29 rfl)) (ww hw 14 rfl) (ty := (.array .long)) (by decide) rfl rfl (g := (mkF m 8 #[va o0, vi 2147483647] [(.ref w_NONE), (.ref o0)])) rfl rfl (hb hby d5_8)
  have Fw3 := F_firsts_o0.same W3
  have O3 := O0.wr W3 g_o0
  have K3 : Keep h0 h3 [o0] := K0.wr W3 (Or.inl (List.mem_of_getElem? (i := 0) rfl))
  have N3 := Fr.snoc X3 N0 g_o0
  obtain ⟨T4, X4, e4, st4⟩ := getS2 X3 hx hZ hown (host := "") (Or.inl (ww hw 26 rfl)) Via.refl e3 (S_w_NONE.ext O3.2) (g := (mkF m 12 #[va o0, vi 2147483647] [(.ref o0)])) rfl (hb hby d5_12)
  have fc5 := (F_lasts_o0.other W3 (Or.inr (slot_ne (Or.inl (ww hw 31 rfl)) (Or.inl (ww hw 29 rfl)) (by decide) (t := (.array .long)) (t' := (.array .long)) (by decide) (by decide))))
  have fc6 := (E_o0.wr W3)
  obtain ⟨T7, h7, X7, e7, W7, st7⟩ := putF X4 hx hZ hown (host := "") (Or.inl (ww hw 30 rfl)) Via.refl e4 fc5 fc6 (Or.inl (ww hw 31 rfl)) (ww hw 14 rfl) (ty := (.array .long)) (by decide) rfl rfl (g := (mkF m 15 #[va o0, vi 2147483647] [(.ref w_NONE), (.ref o0)])) rfl rfl (hb hby d5_15)
  have Fw7 := fc5.same W7
  have O7 := O3.wr W7 g_o0
  have K7 : Keep h0 h7 [o0] := K3.wr W7 (Or.inl (List.mem_of_getElem? (i := 0) rfl))
  have N7 := Fr.snoc X7 N3 g_o0
  have fc8 := ((F_maxRanges_o0.other W3 (Or.inr (slot_ne (Or.inr (ww hw 33 rfl)) (Or.inl (ww hw 29 rfl)) (by decide) (t := .int) (t' := (.array .long)) (by decide) (by decide)))).other W7 (Or.inr (slot_ne (Or.inr (ww hw 33 rfl)) (Or.inl (ww hw 31 rfl)) (by decide) (t := .int) (t' := (.array .long)) (by decide) (by decide))))
  have fc9 := (fc6.wr W7)
  obtain ⟨T10, h10, X10, e10, W10, st10⟩ := putF X7 hx hZ hown (host := "") (Or.inl (ww hw 32 rfl)) Via.refl e7 fc8 fc9 (Or.inr ⟨(ww hw 33 rfl), rfl, hnm⟩) (ww hw 14 rfl) (ty := .int) (by decide) rfl rfl (g := (mkF m 20 #[va o0, vi 2147483647] [(.int 2147483647), (.ref o0)])) rfl rfl (hb hby d5_20)
  have Fw10 := fc8.same W10
  have O10 := O7.wr W10 g_o0
  have K10 : Keep h0 h10 [o0] := K7.wr W10 (Or.inl (List.mem_of_getElem? (i := 0) rfl))
  have N10 := Fr.snoc X10 N7 g_o0
  obtain ⟨fs, hr, hrun, hended, hW, hsame⟩ := X10.leave (v := none) (fun _ => rfl)
  have fc11 := (fc9.wr W10)
  have fc12 := (((F_count_o0.other W3 (Or.inr (slot_ne (Or.inl (ww hw 74 rfl)) (Or.inl (ww hw 29 rfl)) (by decide) (t := .long) (t' := (.array .long)) (by decide) (by decide)))).other W7 (Or.inr (slot_ne (Or.inl (ww hw 74 rfl)) (Or.inl (ww hw 31 rfl)) (by decide) (t := .long) (t' := (.array .long)) (by decide) (by decide)))).other W10 (Or.inr (slot_ne (Or.inl (ww hw 74 rfl)) (Or.inr (ww hw 33 rfl)) (by decide) (t := .long) (t' := .int) (by decide) (by decide))))
  have fc13 := ((Fw3.other W7 (Or.inr (slot_ne (Or.inl (ww hw 29 rfl)) (Or.inl (ww hw 31 rfl)) (by decide) (t := (.array .long)) (t' := (.array .long)) (by decide) (by decide)))).other W10 (Or.inr (slot_ne (Or.inl (ww hw 29 rfl)) (Or.inr (ww hw 33 rfl)) (by decide) (t := (.array .long)) (t' := .int) (by decide) (by decide))))
  have fc14 := (Fw7.other W10 (Or.inr (slot_ne (Or.inl (ww hw 31 rfl)) (Or.inr (ww hw 33 rfl)) (by decide) (t := (.array .long)) (t' := .int) (by decide) (by decide))))
  have fc15 := (((F_ranges_o0.other W3 (Or.inr (slot_ne (Or.inl (ww hw 40 rfl)) (Or.inl (ww hw 29 rfl)) (by decide) (t := .int) (t' := (.array .long)) (by decide) (by decide)))).other W7 (Or.inr (slot_ne (Or.inl (ww hw 40 rfl)) (Or.inl (ww hw 31 rfl)) (by decide) (t := .int) (t' := (.array .long)) (by decide) (by decide)))).other W10 (Or.inr (slot_ne (Or.inl (ww hw 40 rfl)) (Or.inr (ww hw 33 rfl)) (by decide) (t := .int) (t' := .int) (by decide) (by decide))))
  refine ⟨_, _, ?_, hrun, hended, _, _, rfl, ?_, ⟨_, rfl⟩, hW, hsame.mono (by decide) (by decide)⟩
  · show Steps p.tables e below (s₁.setTop (mkF m 0 #[va o0, vi 2147483647] [])) _
    refine XS.aloadN X0.here hx rfl (hb hby d5_0) rfl rfl ?_
    refine st1 _ ?_
    refine XS.aloadN X1.here hx rfl (hb hby d5_4) rfl rfl ?_
    refine st2 _ ?_
    refine st3 _ ?_
    refine XS.aloadN X3.here hx rfl (hb hby d5_11) rfl rfl ?_
    refine st4 _ ?_
    refine st7 _ ?_
    show Steps p.tables e below (T7.setTop (mkF m 18 #[va o0, vi 2147483647] [])) _
    refine XS.aloadN X7.here hx rfl (hb hby d5_18) rfl rfl ?_
    refine XS.iloadN X7.here hx rfl (hb hby d5_19) rfl ?_
    refine st10 _ ?_
    exact X10.returnOut hx hrt (hb hby d5_23) hr
  · show Q5_0 Z w_NONE o0 h0 n0 none T10.heap _
    rw [e10]; exact ⟨rfl, N10, K10, fc11, fc12, fc13, fc14, Fw10, fc15⟩
theorem pd_2 : parseMethodDescriptor "(I)V" = some ⟨[.int], none⟩ := by decide +kernel
theorem d4_6 : decode prog_55_method_1_code 6 = .ok (.return_, 1) := by decide +kernel
def Q4_0 (Z : State) (w_NONE : Addr) (o0 : Addr) (h0 : Heap) (n0 : Nat) (v : Option Value) (h : Heap) (L : List Loc) : Prop := v = none ∧ Fr n0 L ∧ Keep h0 h [o0] ∧ Exa Z h o0 sC0 ∧ Fld Z h o0 sC0 "count" "J" (.long 0) ∧ Fld Z h o0 sC0 "firsts" "[J" (.ref w_NONE) ∧ Fld Z h o0 sC0 "lasts" "[J" (.ref w_NONE) ∧ Fld Z h o0 sC0 "maxRanges" "I" (.int 2147483647) ∧ Fld Z h o0 sC0 "ranges" "I" (.int 0)
theorem rm4_0 (l : Launch) (Z : State) (a0 : Array Value) (hw : HW Z a0) (ws : List Jvm.Cond) (w_NONE : Addr) (o0 : Addr) (h0 : Heap) (n0 : Nat) (O0 : Old Z n0 h0) (S : SF Z w_NONE) (E_o0 : Exa Z h0 o0 sC0) (F_count_o0 : Fld Z h0 o0 sC0 "count" "J" (.long 0)) (F_firsts_o0 : Fld Z h0 o0 sC0 "firsts" "[J" .null) (F_lasts_o0 : Fld Z h0 o0 sC0 "lasts" "[J" .null) (F_maxRanges_o0 : Fld Z h0 o0 sC0 "maxRanges" "I" (.int 0)) (F_ranges_o0 : Fld Z h0 o0 sC0 "ranges" "I" (.int 0)) (g_o0 : n0 ≤ o0) :
    Pay l Z My4 ws prog_55_method_1_code 1 none #[(.ref o0)] h0 ({ frames := 2, cells := 0, slots := 0, locals := 25 } : Room) (Q4_0 Z w_NONE o0 h0 n0) := by
  refine own_body (plainFor_of_name pn_1) (L0 := #[va o0]) (fun _ => by first | rfl | (simp [entryFrame, mkF, argsToLocals, Value.category]; done)) ?_
  intro p e s m below meth c s₁ hrt hlk hx hby hml hZ hown0 hnm X0 e0
  have hown : s.vm.findClass sC0 = some m.cls := hown0
  have N0 := Fr.nil n0
  have K0 : Keep h0 h0 [o0] := Keep.refl _ _
  obtain ⟨_, _, ⟨T1, L1, k1, n1⟩, -, X1, ⟨Lc1, hQ1, l1, y1, z1⟩, st1⟩ := X0.specialBack hx (y := (⟨sC0, "<init>", "(I)V"⟩ : MethodName)) rfl hown (mvT hZ (ww hw 20 rfl)) (mvT hZ (ww hw 21 rfl)) (mvT hZ (ww hw 22 rfl)) (by decide) (backOf (W := 0) (rm5_0 l Z a0 hw [] w_NONE o0 h0 n0 O0 S E_o0 F_count_o0 F_firsts_o0 F_lasts_o0 F_maxRanges_o0 F_ranges_o0 g_o0) hZ (ww hw 22 rfl) (ww hw 15 rfl) (by decide) (by decide)) (g := (mkF m 3 #[va o0] [(.int 2147483647), (.ref o0)])) rfl (by rw [hml]; rfl) (Steps.refl _) (a := o0) (argsL := [(.int 2147483647)]) (rest := []) (lenOf pd_2 rfl) rfl (by show 2 * 0 + _ ≤ _; exact Nat.le_of_eq rfl) (hb hby d4_3) (fun _ _ => ⟨rfl, e0, (by decide : 0 + 0 ≤ _), (by decide : 0 + 0 ≤ _)⟩)
  dsimp only [Pt.U, Pt.locs, Pt.cells, Pt.slots] at X1 l1 y1 z1 st1 hQ1
  subst l1 y1 z1
  obtain ⟨rfl, Nq1, Kc1, P0_1, P1_1, P2_1, P3_1, P4_1, P5_1⟩ := hQ1
  have N1 := Fr.app N0 Nq1
  have O1 := O0.keep Kc1 (allS g_o0 all0)
  have K1 : Keep h0 T1.heap [o0] := K0.trans Kc1 (allS (Or.inl (List.mem_of_getElem? (i := 0) rfl)) all0)
  obtain ⟨fs, hr, hrun, hended, hW, hsame⟩ := X1.leave (v := none) (fun _ => rfl)
  refine ⟨_, _, ?_, hrun, hended, _, _, rfl, ?_, ⟨_, rfl⟩, hW, hsame.mono (by decide) (by decide)⟩
  · show Steps p.tables e below (s₁.setTop (mkF m 0 #[va o0] [])) _
    refine XS.aloadN X0.here hx rfl (hb hby d4_0) rfl rfl ?_
    refine X0.ldcInt hx hown (mvT hZ (ww hw 19 rfl)) (g := (mkF m 1 #[va o0] [(.ref o0)])) rfl (hb hby d4_1) _ ?_
    refine st1.trans ?_
    exact X1.returnOut hx hrt (hb hby d4_6) hr
  · show Q4_0 Z w_NONE o0 h0 n0 none T1.heap _
    exact (⟨rfl, N1, K1, P0_1, P1_1, P2_1, P3_1, P4_1, P5_1⟩)
theorem pd_3 : parseMethodDescriptor "()V" = some ⟨[], none⟩ := by decide +kernel
theorem d8_0 : decode prog_55_method_8_code 0 = .ok (.lload_n 1, 1) := by decide +kernel
theorem d8_1 : decode prog_55_method_8_code 1 = .ok (.lload_n 3, 1) := by decide +kernel
theorem d8_2 : decode prog_55_method_8_code 2 = .ok (.invokestatic 51, 3) := by decide +kernel
theorem d9_0 : decode prog_55_method_20_code 0 = .ok (.lload_n 0, 1) := by decide +kernel
theorem d9_1 : decode prog_55_method_20_code 1 = .ok (.lconst 0, 1) := by decide +kernel
theorem d9_2 : decode prog_55_method_20_code 2 = .ok (.lcmp, 1) := by decide +kernel
theorem d9_3 : decode prog_55_method_20_code 3 = .ok (.ifCond .lt 9, 3) := by decide +kernel
theorem d9_6 : decode prog_55_method_20_code 6 = .ok (.lload_n 0, 1) := by decide +kernel
theorem d9_7 : decode prog_55_method_20_code 7 = .ok (.lload_n 2, 1) := by decide +kernel
theorem d9_8 : decode prog_55_method_20_code 8 = .ok (.lcmp, 1) := by decide +kernel
theorem d9_9 : decode prog_55_method_20_code 9 = .ok (.ifCond .le 18, 3) := by decide +kernel
theorem d9_27 : decode prog_55_method_20_code 27 = .ok (.return_, 1) := by decide +kernel
def Q9_0 (Z : State) (w_NONE : Addr) (q0 : Int64) (q1 : Int64) (h0 : Heap) (n0 : Nat) (v : Option Value) (h : Heap) (L : List Loc) : Prop := v = none ∧ Fr n0 L ∧ h = h0
theorem rm9_0 (l : Launch) (Z : State) (a0 : Array Value) (hw : HW Z a0) (ws : List Jvm.Cond) (w_NONE : Addr) (q0 : Int64) (q1 : Int64) (h0 : Heap) (n0 : Nat) (O0 : Old Z n0 h0) (S : SF Z w_NONE) (hc0 : ¬ (q0 < (0 : Int64))) (hc1 : ¬ (q1 < q0)) :
    Pay l Z My9 ws prog_55_method_20_code 4 none #[(.long q0), (.long q1)] h0 ({ frames := 0, cells := 0, slots := 0, locals := 0 } : Room) (Q9_0 Z w_NONE q0 q1 h0 n0) := by
  refine own_body (plainFor_of_name pn_1) (L0 := #[vl q0, ss, vl q1, ss]) (fun _ => by first | rfl | (simp [entryFrame, mkF, argsToLocals, Value.category]; done)) ?_
  intro p e s m below meth c s₁ hrt hlk hx hby hml hZ hown0 hnm X0 e0
  have hown : s.vm.findClass sC0 = some m.cls := hown0
  have N0 := Fr.nil n0
  have K0 : Keep h0 h0 [] := Keep.refl _ _
  obtain ⟨fs, hr, hrun, hended, hW, hsame⟩ := X0.leave (v := none) (fun _ => rfl)
  refine ⟨_, _, ?_, hrun, hended, _, _, rfl, ?_, ⟨_, rfl⟩, hW, hsame.mono (by decide) (by decide)⟩
  · show Steps p.tables e below (s₁.setTop (mkF m 0 #[vl q0, ss, vl q1, ss] [])) _
    refine XS.lloadN X0.here hx rfl (hb hby d9_0) rfl ?_
    refine XS.lconst X0.here hx rfl (hb hby d9_1) ?_
    refine XS.lcmp X0.here hx rfl (hb hby d9_2) rfl ?_
    refine XS.ifNo X0.here hx rfl (hb hby d9_3) rfl (own_lc_ltF hc0).1 ?_
    refine XS.lloadN X0.here hx rfl (hb hby d9_6) rfl ?_
    refine XS.lloadN X0.here hx rfl (hb hby d9_7) rfl ?_
    refine XS.lcmp X0.here hx rfl (hb hby d9_8) rfl ?_
    refine XS.ifYes X0.here hx rfl (pc0 := 9) (pc' := 27) rfl (hb hby d9_9) rfl (own_lc_gtF hc1).2 (by decide) (by decide) ?_
    show Steps p.tables e below (s₁.setTop (mkF m 27 #[vl q0, ss, vl q1, ss] [])) _
    exact X0.returnOut hx hrt (hb hby d9_27) hr
  · show Q9_0 Z w_NONE q0 q1 h0 n0 none s₁.heap _
    exact (⟨rfl, N0, e0⟩)
theorem pd_4 : parseMethodDescriptor "(JJ)V" = some ⟨[.long, .long], none⟩ := by decide +kernel
theorem d8_5 : decode prog_55_method_8_code 5 = .ok (.aload_n 0, 1) := by decide +kernel
theorem d8_6 : decode prog_55_method_8_code 6 = .ok (.lload_n 1, 1) := by decide +kernel
theorem d8_7 : decode prog_55_method_8_code 7 = .ok (.lconst 0, 1) := by decide +kernel
theorem d8_8 : decode prog_55_method_8_code 8 = .ok (.lcmp, 1) := by decide +kernel
theorem d8_9 : decode prog_55_method_8_code 9 = .ok (.ifCond .ne 7, 3) := by decide +kernel
theorem d8_16 : decode prog_55_method_8_code 16 = .ok (.lload_n 1, 1) := by decide +kernel
theorem d8_17 : decode prog_55_method_8_code 17 = .ok (.lconst 1, 1) := by decide +kernel
theorem d8_18 : decode prog_55_method_8_code 18 = .ok (.lsub, 1) := by decide +kernel
theorem d8_19 : decode prog_55_method_8_code 19 = .ok (.invokevirtual 47, 3) := by decide +kernel
theorem d10_0 : decode prog_55_method_19_code 0 = .ok (.iconst 0, 1) := by decide +kernel
theorem d10_1 : decode prog_55_method_19_code 1 = .ok (.istore_n 3, 1) := by decide +kernel
theorem d10_2 : decode prog_55_method_19_code 2 = .ok (.aload_n 0, 1) := by decide +kernel
theorem d10_3 : decode prog_55_method_19_code 3 = .ok (.getfield 34, 3) := by decide +kernel
theorem d10_6 : decode prog_55_method_19_code 6 = .ok (.istore 4, 2) := by decide +kernel
theorem d10_8 : decode prog_55_method_19_code 8 = .ok (.iload_n 3, 1) := by decide +kernel
theorem d10_9 : decode prog_55_method_19_code 9 = .ok (.iload 4, 2) := by decide +kernel
theorem d10_11 : decode prog_55_method_19_code 11 = .ok (.if_icmp .ge 38, 3) := by decide +kernel
theorem d10_49 : decode prog_55_method_19_code 49 = .ok (.iload_n 3, 1) := by decide +kernel
theorem d10_50 : decode prog_55_method_19_code 50 = .ok (.ireturn, 1) := by decide +kernel
def Q10_0 (Z : State) (w_NONE : Addr) (o0 : Addr) (q0 : Int64) (h0 : Heap) (n0 : Nat) (v : Option Value) (h : Heap) (L : List Loc) : Prop := v = (some (.int 0)) ∧ Fr n0 L ∧ h = h0
theorem rm10_0 (l : Launch) (Z : State) (a0 : Array Value) (hw : HW Z a0) (ws : List Jvm.Cond) (w_NONE : Addr) (o0 : Addr) (q0 : Int64) (h0 : Heap) (n0 : Nat) (O0 : Old Z n0 h0) (S : SF Z w_NONE) (F_ranges_o0 : Fld Z h0 o0 sC0 "ranges" "I" (.int 0)) :
    Pay l Z My10 ws prog_55_method_19_code 6 (some .int) #[(.ref o0), (.long q0)] h0 ({ frames := 0, cells := 0, slots := 0, locals := 0 } : Room) (Q10_0 Z w_NONE o0 q0 h0 n0) := by
  refine own_body (plainFor_of_name pn_1) (L0 := #[va o0, vl q0, ss, uu, uu, uu]) (fun _ => by first | rfl | (simp [entryFrame, mkF, argsToLocals, Value.category]; done)) ?_
  intro p e s m below meth c s₁ hrt hlk hx hby hml hZ hown0 hnm X0 e0
  have hown : s.vm.findClass sC0 = some m.cls := hown0
  have N0 := Fr.nil n0
  have K0 : Keep h0 h0 [] := Keep.refl _ _
  obtain ⟨T1, X1, e1, st1⟩ := getF X0 hx hZ hown (host := "") (Or.inl (ww hw 39 rfl)) Via.refl e0 F_ranges_o0 (g := (mkF m 3 #[va o0, vl q0, ss, vi 0, uu, uu] [(.ref o0)])) rfl rfl (hb hby d10_3)
  obtain ⟨fs, hr, hrun, hended, hW, hsame⟩ := X1.leave (v := (some (.int 0))) (fun h => by rw [hrt] at h; cases h)
  refine ⟨_, _, ?_, hrun, hended, _, _, rfl, ?_, ⟨_, rfl⟩, hW, hsame.mono (by decide) (by decide)⟩
  · show Steps p.tables e below (s₁.setTop (mkF m 0 #[va o0, vl q0, ss, uu, uu, uu] [])) _
    refine XS.iconst X0.here hx rfl (hb hby d10_0) ?_
    refine XS.istoreN X0.here hx rfl (hb hby d10_1) rfl (l' := #[va o0, vl q0, ss, vi 0, uu, uu]) rfl ?_
    refine XS.aloadN X0.here hx rfl (hb hby d10_2) rfl rfl ?_
    refine st1 _ ?_
    refine XS.istore X1.here hx rfl (hb hby d10_6) rfl (l' := #[va o0, vl q0, ss, vi 0, vi 0, uu]) rfl ?_
    refine XS.iloadN X1.here hx rfl (hb hby d10_8) rfl ?_
    refine XS.iload X1.here hx rfl (hb hby d10_9) rfl ?_
    refine XS.icmpYes X1.here hx rfl (pc0 := 11) (pc' := 49) rfl (hb hby d10_11) rfl (flt (by decide : ¬ ((0 : Int32) < (0 : Int32)))).2.1 (by decide) (by decide) ?_
    show Steps p.tables e below (T1.setTop (mkF m 49 #[va o0, vl q0, ss, vi 0, vi 0, uu] [])) _
    refine XS.iloadN X1.here hx rfl (hb hby d10_49) rfl ?_
    exact retOut X1 hx (t := .int) (i := .ireturn) hrt rfl (Or.inl ⟨rfl, Or.inl rfl, _, rfl⟩) (hb hby d10_50) hr
  · show Q10_0 Z w_NONE o0 q0 h0 n0 (some (.int 0)) T1.heap _
    exact (⟨rfl, N0, e1⟩)
theorem pd_5 : parseMethodDescriptor "(J)I" = some ⟨[.long], some .int⟩ := by decide +kernel
theorem d8_22 : decode prog_55_method_8_code 22 = .ok (.istore 5, 2) := by decide +kernel
theorem d8_24 : decode prog_55_method_8_code 24 = .ok (.iload 5, 2) := by decide +kernel
theorem d8_26 : decode prog_55_method_8_code 26 = .ok (.istore 6, 2) := by decide +kernel
theorem d8_28 : decode prog_55_method_8_code 28 = .ok (.iload 6, 2) := by decide +kernel
theorem d8_30 : decode prog_55_method_8_code 30 = .ok (.aload_n 0, 1) := by decide +kernel
theorem d8_31 : decode prog_55_method_8_code 31 = .ok (.getfield 34, 3) := by decide +kernel
theorem d8_34 : decode prog_55_method_8_code 34 = .ok (.if_icmp .ge 23, 3) := by decide +kernel
theorem d8_57 : decode prog_55_method_8_code 57 = .ok (.iinc 6 (-1), 3) := by decide +kernel
theorem d8_60 : decode prog_55_method_8_code 60 = .ok (.iload 6, 2) := by decide +kernel
theorem d8_62 : decode prog_55_method_8_code 62 = .ok (.iload 5, 2) := by decide +kernel
theorem d8_64 : decode prog_55_method_8_code 64 = .ok (.if_icmp .ge 41, 3) := by decide +kernel
theorem d8_67 : decode prog_55_method_8_code 67 = .ok (.aload_n 0, 1) := by decide +kernel
theorem d8_68 : decode prog_55_method_8_code 68 = .ok (.getfield 34, 3) := by decide +kernel
theorem d8_71 : decode prog_55_method_8_code 71 = .ok (.aload_n 0, 1) := by decide +kernel
theorem d8_72 : decode prog_55_method_8_code 72 = .ok (.getfield 25, 3) := by decide +kernel
theorem d8_75 : decode prog_55_method_8_code 75 = .ok (.if_icmp .ne 5, 3) := by decide +kernel
theorem d8_80 : decode prog_55_method_8_code 80 = .ok (.aload_n 0, 1) := by decide +kernel
theorem d8_81 : decode prog_55_method_8_code 81 = .ok (.iload 5, 2) := by decide +kernel
theorem d8_83 : decode prog_55_method_8_code 83 = .ok (.lload_n 1, 1) := by decide +kernel
theorem d8_84 : decode prog_55_method_8_code 84 = .ok (.lload_n 3, 1) := by decide +kernel
theorem d8_85 : decode prog_55_method_8_code 85 = .ok (.invokevirtual 55, 3) := by decide +kernel
theorem d11_0 : decode prog_55_method_21_code 0 = .ok (.aload_n 0, 1) := by decide +kernel
theorem d11_1 : decode prog_55_method_21_code 1 = .ok (.getfield 34, 3) := by decide +kernel
theorem d11_4 : decode prog_55_method_21_code 4 = .ok (.aload_n 0, 1) := by decide +kernel
theorem d11_5 : decode prog_55_method_21_code 5 = .ok (.getfield 19, 3) := by decide +kernel
theorem d11_8 : decode prog_55_method_21_code 8 = .ok (.arraylength, 1) := by decide +kernel
theorem d11_9 : decode prog_55_method_21_code 9 = .ok (.if_icmp .ne 41, 3) := by decide +kernel
theorem d11_12 : decode prog_55_method_21_code 12 = .ok (.iconst 4, 1) := by decide +kernel
theorem d11_13 : decode prog_55_method_21_code 13 = .ok (.iconst 2, 1) := by decide +kernel
theorem d11_14 : decode prog_55_method_21_code 14 = .ok (.aload_n 0, 1) := by decide +kernel
theorem d11_15 : decode prog_55_method_21_code 15 = .ok (.getfield 34, 3) := by decide +kernel
theorem d11_18 : decode prog_55_method_21_code 18 = .ok (.imul, 1) := by decide +kernel
theorem d11_19 : decode prog_55_method_21_code 19 = .ok (.invokestatic 86, 3) := by decide +kernel
theorem d12_0 : decode jdk_29_method_65_code 0 = .ok (.iload_n 0, 1) := by decide +kernel
theorem d12_1 : decode jdk_29_method_65_code 1 = .ok (.iload_n 1, 1) := by decide +kernel
theorem d12_2 : decode jdk_29_method_65_code 2 = .ok (.if_icmp .lt 7, 3) := by decide +kernel
theorem d12_5 : decode jdk_29_method_65_code 5 = .ok (.iload_n 0, 1) := by decide +kernel
theorem d12_6 : decode jdk_29_method_65_code 6 = .ok (.goto 4, 3) := by decide +kernel
theorem d12_10 : decode jdk_29_method_65_code 10 = .ok (.ireturn, 1) := by decide +kernel
def Q12_0 (Z : State) (w_NONE : Addr) (h0 : Heap) (n0 : Nat) (v : Option Value) (h : Heap) (L : List Loc) : Prop := v = (some (.int 4)) ∧ Fr n0 L ∧ h = h0
theorem rm12_0 (l : Launch) (Z : State) (a0 : Array Value) (hw : HW Z a0) (ws : List Jvm.Cond) (w_NONE : Addr) (h0 : Heap) (n0 : Nat) (O0 : Old Z n0 h0) (S : SF Z w_NONE) :
    Pay l Z (⟨sC2, "max", "(II)I"⟩ : MethodName) ws jdk_29_method_65_code 2 (some .int) #[(.int 4), (.int 0)] h0 ({ frames := 0, cells := 0, slots := 0, locals := 0 } : Room) (Q12_0 Z w_NONE  h0 n0) := by
  refine own_body (Jvm.Free.JP.mathPlain rfl (by decide +kernel)) (L0 := #[vi 4, vi 0]) (fun _ => by first | rfl | (simp [entryFrame, mkF, argsToLocals, Value.category]; done)) ?_
  intro p e s m below meth c s₁ hrt hlk hx hby hml hZ hown0 hnm X0 e0
  have hown : s.vm.findClass sC2 = some m.cls := hown0
  have N0 := Fr.nil n0
  have K0 : Keep h0 h0 [] := Keep.refl _ _
  obtain ⟨fs, hr, hrun, hended, hW, hsame⟩ := X0.leave (v := (some (.int 4))) (fun h => by rw [hrt] at h; cases h)
  refine ⟨_, _, ?_, hrun, hended, _, _, rfl, ?_, ⟨_, rfl⟩, hW, hsame.mono (by decide) (by decide)⟩
  · show Steps p.tables e below (s₁.setTop (mkF m 0 #[vi 4, vi 0] [])) _
    refine XS.iloadN X0.here hx rfl (hb hby d12_0) rfl ?_
    refine XS.iloadN X0.here hx rfl (hb hby d12_1) rfl ?_
    refine XS.icmpNo X0.here hx rfl (hb hby d12_2) rfl (flt (by decide : ¬ ((4 : Int32) < (0 : Int32)))).1 ?_
    refine XS.iloadN X0.here hx rfl (hb hby d12_5) rfl ?_
    refine XS.goto X0.here hx rfl (pc0 := 6) (pc' := 10) rfl (hb hby d12_6) (by decide) (by decide) ?_
    exact retOut X0 hx (t := .int) (i := .ireturn) hrt rfl (Or.inl ⟨rfl, Or.inl rfl, _, rfl⟩) (hb hby d12_10) hr
  · show Q12_0 Z w_NONE  h0 n0 (some (.int 4)) s₁.heap _
    exact (⟨rfl, N0, e0⟩)
theorem pd_6 : parseMethodDescriptor "(II)I" = some ⟨[.int, .int], some .int⟩ := by decide +kernel
theorem d11_22 : decode prog_55_method_21_code 22 = .ok (.istore 6, 2) := by decide +kernel
theorem d11_24 : decode prog_55_method_21_code 24 = .ok (.aload_n 0, 1) := by decide +kernel
theorem d11_25 : decode prog_55_method_21_code 25 = .ok (.aload_n 0, 1) := by decide +kernel
theorem d11_26 : decode prog_55_method_21_code 26 = .ok (.getfield 19, 3) := by decide +kernel
theorem d11_29 : decode prog_55_method_21_code 29 = .ok (.iload 6, 2) := by decide +kernel
theorem d11_31 : decode prog_55_method_21_code 31 = .ok (.invokestatic 37, 3) := by decide +kernel
theorem pn_2 : plainName "java/util/Arrays" = true := by first | (simp [plainName, overriddenIn]; done) | decide +kernel
theorem d13_0 : decode jdk_65_method_124_code 0 = .ok (.iload_n 1, 1) := by decide +kernel
theorem d13_1 : decode jdk_65_method_124_code 1 = .ok (.aload_n 0, 1) := by decide +kernel
theorem d13_2 : decode jdk_65_method_124_code 2 = .ok (.arraylength, 1) := by decide +kernel
theorem d13_3 : decode jdk_65_method_124_code 3 = .ok (.if_icmp .ne 11, 3) := by decide +kernel
theorem d13_14 : decode jdk_65_method_124_code 14 = .ok (.iload_n 1, 1) := by decide +kernel
theorem d13_15 : decode jdk_65_method_124_code 15 = .ok (.newarray .long, 2) := by decide +kernel
theorem d13_17 : decode jdk_65_method_124_code 17 = .ok (.astore_n 2, 1) := by decide +kernel
theorem d13_18 : decode jdk_65_method_124_code 18 = .ok (.aload_n 0, 1) := by decide +kernel
theorem d13_19 : decode jdk_65_method_124_code 19 = .ok (.iconst 0, 1) := by decide +kernel
theorem d13_20 : decode jdk_65_method_124_code 20 = .ok (.aload_n 2, 1) := by decide +kernel
theorem d13_21 : decode jdk_65_method_124_code 21 = .ok (.iconst 0, 1) := by decide +kernel
theorem d13_22 : decode jdk_65_method_124_code 22 = .ok (.aload_n 0, 1) := by decide +kernel
theorem d13_23 : decode jdk_65_method_124_code 23 = .ok (.arraylength, 1) := by decide +kernel
theorem d13_24 : decode jdk_65_method_124_code 24 = .ok (.iload_n 1, 1) := by decide +kernel
theorem d13_25 : decode jdk_65_method_124_code 25 = .ok (.invokestatic 304, 3) := by decide +kernel
theorem d14_0 : decode jdk_29_method_69_code 0 = .ok (.iload_n 0, 1) := by decide +kernel
theorem d14_1 : decode jdk_29_method_69_code 1 = .ok (.iload_n 1, 1) := by decide +kernel
theorem d14_2 : decode jdk_29_method_69_code 2 = .ok (.if_icmp .gt 7, 3) := by decide +kernel
theorem d14_5 : decode jdk_29_method_69_code 5 = .ok (.iload_n 0, 1) := by decide +kernel
theorem d14_6 : decode jdk_29_method_69_code 6 = .ok (.goto 4, 3) := by decide +kernel
theorem d14_10 : decode jdk_29_method_69_code 10 = .ok (.ireturn, 1) := by decide +kernel
def Q14_0 (Z : State) (w_NONE : Addr) (h0 : Heap) (n0 : Nat) (v : Option Value) (h : Heap) (L : List Loc) : Prop := v = (some (.int 0)) ∧ Fr n0 L ∧ h = h0
theorem rm14_0 (l : Launch) (Z : State) (a0 : Array Value) (hw : HW Z a0) (ws : List Jvm.Cond) (w_NONE : Addr) (h0 : Heap) (n0 : Nat) (O0 : Old Z n0 h0) (S : SF Z w_NONE) :
    Pay l Z (⟨sC2, "min", "(II)I"⟩ : MethodName) ws jdk_29_method_69_code 2 (some .int) #[(.int 0), (.int 4)] h0 ({ frames := 0, cells := 0, slots := 0, locals := 0 } : Room) (Q14_0 Z w_NONE  h0 n0) := by
  refine own_body (Jvm.Free.JP.mathPlain rfl (by decide +kernel)) (L0 := #[vi 0, vi 4]) (fun _ => by first | rfl | (simp [entryFrame, mkF, argsToLocals, Value.category]; done)) ?_
  intro p e s m below meth c s₁ hrt hlk hx hby hml hZ hown0 hnm X0 e0
  have hown : s.vm.findClass sC2 = some m.cls := hown0
  have N0 := Fr.nil n0
  have K0 : Keep h0 h0 [] := Keep.refl _ _
  obtain ⟨fs, hr, hrun, hended, hW, hsame⟩ := X0.leave (v := (some (.int 0))) (fun h => by rw [hrt] at h; cases h)
  refine ⟨_, _, ?_, hrun, hended, _, _, rfl, ?_, ⟨_, rfl⟩, hW, hsame.mono (by decide) (by decide)⟩
  · show Steps p.tables e below (s₁.setTop (mkF m 0 #[vi 0, vi 4] [])) _
    refine XS.iloadN X0.here hx rfl (hb hby d14_0) rfl ?_
    refine XS.iloadN X0.here hx rfl (hb hby d14_1) rfl ?_
    refine XS.icmpNo X0.here hx rfl (hb hby d14_2) rfl (flt (by decide : ¬ ((4 : Int32) < (0 : Int32)))).2.2.1 ?_
    refine XS.iloadN X0.here hx rfl (hb hby d14_5) rfl ?_
    refine XS.goto X0.here hx rfl (pc0 := 6) (pc' := 10) rfl (hb hby d14_6) (by decide) (by decide) ?_
    exact retOut X0 hx (t := .int) (i := .ireturn) hrt rfl (Or.inl ⟨rfl, Or.inl rfl, _, rfl⟩) (hb hby d14_10) hr
  · show Q14_0 Z w_NONE  h0 n0 (some (.int 0)) s₁.heap _
    exact (⟨rfl, N0, e0⟩)
theorem d13_28 : decode jdk_65_method_124_code 28 = .ok (.invokestatic 150, 3) := by decide +kernel
theorem d13_31 : decode jdk_65_method_124_code 31 = .ok (.aload_n 2, 1) := by decide +kernel
theorem d13_32 : decode jdk_65_method_124_code 32 = .ok (.areturn, 1) := by decide +kernel
def Q13_0 (Z : State) (w_NONE : Addr) (h0 : Heap) (n0 : Nat) (v : Option Value) (h : Heap) (L : List Loc) : Prop := ∃ (b2 : Addr), ∃ (k2 : ClassId), v = (some (.ref b2)) ∧ Fr n0 L ∧ Keep h0 h [] ∧ Arv Z h b2 k2 .long (4 : Int32) [(.long 0), (.long 0), (.long 0), (.long 0)] (.long 0) ∧ h0.size ≤ b2
theorem rm13_0 (l : Launch) (Z : State) (a0 : Array Value) (hw : HW Z a0) (ws : List Jvm.Cond) (w_NONE : Addr) (h0 : Heap) (n0 : Nat) (O0 : Old Z n0 h0) (S : SF Z w_NONE) :
    Pay l Z (⟨"java/util/Arrays", "copyOf", "([JI)[J"⟩ : MethodName) ws jdk_65_method_124_code 3 (some (.array .long)) #[(.ref w_NONE), (.int 4)] h0 ({ frames := 1, cells := 1, slots := 4, locals := 18 } : Room) (Q13_0 Z w_NONE  h0 n0) := by
  obtain ⟨S_w_NONE, V_w_NONE, -⟩ := id S
  obtain ⟨kk_w_NONE, Vk_w_NONE⟩ := V_w_NONE
  refine own_body (plainFor_of_name pn_2) (L0 := #[va w_NONE, vi 4, uu]) (fun _ => by first | rfl | (simp [entryFrame, mkF, argsToLocals, Value.category]; done)) ?_
  intro p e s m below meth c s₁ hrt hlk hx hby hml hZ hown0 hnm X0 e0
  have hown : s.vm.findClass "java/util/Arrays" = some m.cls := hown0
  have N0 := Fr.nil n0
  have K0 : Keep h0 h0 [] := Keep.refl _ _
  obtain ⟨cl1, Ar1, qk1, Sz1, Ng1, Hh1, Gg1⟩ := id (Vk_w_NONE.ext O0.2)
  obtain ⟨T2, h2, k2, X2, e2, E2, A2, st2⟩ := newP X0 hx hZ (ww hw 64 rfl) e0 (g := (mkF m 15 #[va w_NONE, vi 4, uu] [(.int 4)])) rfl (hb hby d13_15) rfl (by decide) (cap := 4) (by decide) (by decide) (by decide) (by decide)
  obtain ⟨b2, qs2⟩ : ∃ z, z = h0.size := ⟨_, rfl⟩
  rw [← qs2] at A2 st2
  have g_b2 : n0 ≤ b2 := Nat.le_trans (own_old O0) (Nat.le_of_eq qs2.symm)
  have sz_b2 : h0.size ≤ b2 := Nat.le_trans K0.1 (Nat.le_of_eq qs2.symm)
  have O2 := O0.ext E2
  have K2 : Keep h0 h2 [] := K0.ext E2
  have V_b2 : Arv Z h2 b2 k2 .long (4 : Int32) [(.long 0), (.long 0), (.long 0), (.long 0)] (.long 0) := (Arv.new A2 (by decide)).pad (pad_rep [] (.long 0) 4)
  obtain ⟨cl3, Ar3, qk3, Sz3, Ng3, Hh3, Gg3⟩ := id (Vk_w_NONE.ext O2.2)
  obtain ⟨_, _, ⟨T4, L4, k4, n4⟩, -, X4, ⟨Lc4, hQ4, l4, y4, z4⟩, st4⟩ := Jvm.LawKit.callS X2 hx (y := (⟨sC2, "min", "(II)I"⟩ : MethodName)) hown (mvT hZ (ww hw 65 rfl)) (mvT hZ (ww hw 66 rfl)) (mvT hZ (ww hw 8 rfl)) (mvT hZ (ww hw 67 rfl)) (by decide) (backOf (W := 4) (rm14_0 l Z a0 hw [] w_NONE h2 n0 O2 S) hZ (ww hw 67 rfl) (ww hw 8 rfl) (by decide) (by decide)) (g := (mkF m 25 #[va w_NONE, vi 4, va b2] [(.int 4), (.int 0), (.int 0), (.ref b2), (.int 0), (.ref w_NONE)])) rfl (by rw [hml]; rfl) (argsL := [(.int 0), (.int 4)]) (rest := [(.int 0), (.ref b2), (.int 0), (.ref w_NONE)]) (lenOf pd_6 rfl) rfl (by show 2 * 0 + _ ≤ _; exact Nat.le_of_eq rfl) (hb hby d13_25) (fun _ _ => ⟨rfl, e2, (by decide : 1 + 0 ≤ _), (by decide : 4 + 0 ≤ _)⟩)
  dsimp only [Pt.U, Pt.locs, Pt.cells, Pt.slots] at X4 l4 y4 z4 st4 hQ4
  subst l4 y4 z4
  obtain ⟨rfl, Nq4, e4⟩ := hQ4
  have N4 := Fr.app N0 Nq4
  obtain ⟨T5, h5, L5, X5, e5, N5, Kc5, Vc5, st5⟩ := cpA X4 hx hZ hown (ww hw 68 rfl) (ww hw 71 rfl) (ww hw 69 rfl) (ww hw 70 rfl) e4 (Vk_w_NONE.ext O2.2) V_b2 (us := []) (Or.inl ⟨rfl, rfl⟩) (sp := (0 : Int32)) (dp := (0 : Int32)) (nn := (0 : Int32)) (by decide) (by decide) (by decide) (by decide) (by decide) rfl (Nat.le_of_ble_eq_true rfl) N4 g_b2 (g := (mkF m 28 #[va w_NONE, vi 4, va b2] [(.int 0), (.int 0), (.ref b2), (.int 0), (.ref w_NONE)])) rfl (by rw [hml]; rfl) (rest := []) rfl (hb hby d13_28) (by decide) (W := 0) (by show 2 * 0 + _ ≤ _; exact Nat.le_of_eq rfl) (by decide)
  have V5 : Arv Z h5 b2 k2 .long (4 : Int32) [(.long 0), (.long 0), (.long 0), (.long 0)] (.long 0) := Vc5
  have O5 := O2.keep Kc5 (allS g_b2 all0)
  have K5 : Keep h0 h5 [] := K2.trans Kc5 (allS (Or.inr sz_b2) all0)
  obtain ⟨fs, hr, hrun, hended, hW, hsame⟩ := X5.leave (v := (some (.ref b2))) (fun h => by rw [hrt] at h; cases h)
  refine ⟨_, _, ?_, hrun, hended, _, _, rfl, ?_, ⟨_, rfl⟩, hW, hsame.mono (by decide) (by decide)⟩
  · show Steps p.tables e below (s₁.setTop (mkF m 0 #[va w_NONE, vi 4, uu] [])) _
    refine XS.iloadN X0.here hx rfl (hb hby d13_0) rfl ?_
    refine XS.aloadN X0.here hx rfl (hb hby d13_1) rfl rfl ?_
    refine X0.arraylength hx (by rw [e0]; exact Ar1.1) (State.isArrayOf_alike hZ.alike Ar1.2.1) (g := (mkF m 2 #[va w_NONE, vi 4, uu] [(.ref w_NONE), (.int 4)])) rfl rfl (hb hby d13_2) _ ?_
    rw [len_of Sz1 Ng1]
    refine XS.icmpYes X0.here hx rfl (pc0 := 3) (pc' := 14) rfl (hb hby d13_3) rfl (feq (by decide : ¬ ((4 : Int32) = (0 : Int32)))).2 (by decide) (by decide) ?_
    refine XS.iloadN X0.here hx rfl (hb hby d13_14) rfl ?_
    refine st2 _ ?_
    refine XS.astoreN X2.here hx rfl (hb hby d13_17) rfl rfl (l' := #[va w_NONE, vi 4, va b2]) rfl ?_
    refine XS.aloadN X2.here hx rfl (hb hby d13_18) rfl rfl ?_
    show Steps p.tables e below (T2.setTop (mkF m 19 #[va w_NONE, vi 4, va b2] [(.ref w_NONE)])) _
    refine XS.iconst X2.here hx rfl (hb hby d13_19) ?_
    refine XS.aloadN X2.here hx rfl (hb hby d13_20) rfl rfl ?_
    refine XS.iconst X2.here hx rfl (hb hby d13_21) ?_
    refine XS.aloadN X2.here hx rfl (hb hby d13_22) rfl rfl ?_
    refine X2.arraylength hx (by rw [e2]; exact Ar3.1) (State.isArrayOf_alike hZ.alike Ar3.2.1) (g := (mkF m 23 #[va w_NONE, vi 4, va b2] [(.ref w_NONE), (.int 0), (.ref b2), (.int 0), (.ref w_NONE)])) rfl rfl (hb hby d13_23) _ ?_
    rw [len_of Sz3 Ng3]
    refine XS.iloadN X2.here hx rfl (hb hby d13_24) rfl ?_
    refine st4 _ ?_
    refine st5 _ ?_
    show Steps p.tables e below (T5.setTop (mkF m 31 #[va w_NONE, vi 4, va b2] [])) _
    refine XS.aloadN X5.here hx rfl (hb hby d13_31) rfl rfl ?_
    exact retOut X5 hx (t := (.array .long)) (i := .areturn) hrt rfl (Or.inr (Or.inr (Or.inr (Or.inr ⟨rfl, rfl, rfl⟩)))) (hb hby d13_32) hr
  · show Q13_0 Z w_NONE  h0 n0 (some (.ref b2)) T5.heap _
    rw [e5]; exact ⟨b2, k2, rfl, N5, K5, V5, sz_b2⟩
theorem pd_7 : parseMethodDescriptor "([JI)[J" = some ⟨[(.array .long), .int], some (.array .long)⟩ := by decide +kernel
theorem d11_34 : decode prog_55_method_21_code 34 = .ok (.putfield 19, 3) := by decide +kernel
theorem d11_37 : decode prog_55_method_21_code 37 = .ok (.aload_n 0, 1) := by decide +kernel
theorem d11_38 : decode prog_55_method_21_code 38 = .ok (.aload_n 0, 1) := by decide +kernel
theorem d11_39 : decode prog_55_method_21_code 39 = .ok (.getfield 22, 3) := by decide +kernel
theorem d11_42 : decode prog_55_method_21_code 42 = .ok (.iload 6, 2) := by decide +kernel
theorem d11_44 : decode prog_55_method_21_code 44 = .ok (.invokestatic 37, 3) := by decide +kernel
theorem d11_47 : decode prog_55_method_21_code 47 = .ok (.putfield 22, 3) := by decide +kernel
theorem d11_50 : decode prog_55_method_21_code 50 = .ok (.aload_n 0, 1) := by decide +kernel
theorem d11_51 : decode prog_55_method_21_code 51 = .ok (.getfield 19, 3) := by decide +kernel
theorem d11_54 : decode prog_55_method_21_code 54 = .ok (.iload_n 1, 1) := by decide +kernel
theorem d11_55 : decode prog_55_method_21_code 55 = .ok (.aload_n 0, 1) := by decide +kernel
theorem d11_56 : decode prog_55_method_21_code 56 = .ok (.getfield 19, 3) := by decide +kernel
theorem d11_59 : decode prog_55_method_21_code 59 = .ok (.iload_n 1, 1) := by decide +kernel
theorem d11_60 : decode prog_55_method_21_code 60 = .ok (.iconst 1, 1) := by decide +kernel
theorem d11_61 : decode prog_55_method_21_code 61 = .ok (.iadd, 1) := by decide +kernel
theorem d11_62 : decode prog_55_method_21_code 62 = .ok (.aload_n 0, 1) := by decide +kernel
theorem d11_63 : decode prog_55_method_21_code 63 = .ok (.getfield 34, 3) := by decide +kernel
theorem d11_66 : decode prog_55_method_21_code 66 = .ok (.iload_n 1, 1) := by decide +kernel
theorem d11_67 : decode prog_55_method_21_code 67 = .ok (.isub, 1) := by decide +kernel
theorem d11_68 : decode prog_55_method_21_code 68 = .ok (.invokestatic 89, 3) := by decide +kernel
theorem d11_71 : decode prog_55_method_21_code 71 = .ok (.aload_n 0, 1) := by decide +kernel
theorem d11_72 : decode prog_55_method_21_code 72 = .ok (.getfield 22, 3) := by decide +kernel
theorem d11_75 : decode prog_55_method_21_code 75 = .ok (.iload_n 1, 1) := by decide +kernel
theorem d11_76 : decode prog_55_method_21_code 76 = .ok (.aload_n 0, 1) := by decide +kernel
theorem d11_77 : decode prog_55_method_21_code 77 = .ok (.getfield 22, 3) := by decide +kernel
theorem d11_80 : decode prog_55_method_21_code 80 = .ok (.iload_n 1, 1) := by decide +kernel
theorem d11_81 : decode prog_55_method_21_code 81 = .ok (.iconst 1, 1) := by decide +kernel
theorem d11_82 : decode prog_55_method_21_code 82 = .ok (.iadd, 1) := by decide +kernel
theorem d11_83 : decode prog_55_method_21_code 83 = .ok (.aload_n 0, 1) := by decide +kernel
theorem d11_84 : decode prog_55_method_21_code 84 = .ok (.getfield 34, 3) := by decide +kernel
theorem d11_87 : decode prog_55_method_21_code 87 = .ok (.iload_n 1, 1) := by decide +kernel
theorem d11_88 : decode prog_55_method_21_code 88 = .ok (.isub, 1) := by decide +kernel
theorem d11_89 : decode prog_55_method_21_code 89 = .ok (.invokestatic 89, 3) := by decide +kernel
theorem d11_92 : decode prog_55_method_21_code 92 = .ok (.aload_n 0, 1) := by decide +kernel
theorem d11_93 : decode prog_55_method_21_code 93 = .ok (.getfield 19, 3) := by decide +kernel
theorem d11_96 : decode prog_55_method_21_code 96 = .ok (.iload_n 1, 1) := by decide +kernel
theorem d11_97 : decode prog_55_method_21_code 97 = .ok (.lload_n 2, 1) := by decide +kernel
theorem d11_98 : decode prog_55_method_21_code 98 = .ok (.lastore, 1) := by decide +kernel
theorem d11_99 : decode prog_55_method_21_code 99 = .ok (.aload_n 0, 1) := by decide +kernel
theorem d11_100 : decode prog_55_method_21_code 100 = .ok (.getfield 22, 3) := by decide +kernel
theorem d11_103 : decode prog_55_method_21_code 103 = .ok (.iload_n 1, 1) := by decide +kernel
theorem d11_104 : decode prog_55_method_21_code 104 = .ok (.lload 4, 2) := by decide +kernel
theorem d11_106 : decode prog_55_method_21_code 106 = .ok (.lastore, 1) := by decide +kernel
theorem d11_107 : decode prog_55_method_21_code 107 = .ok (.aload_n 0, 1) := by decide +kernel
theorem d11_108 : decode prog_55_method_21_code 108 = .ok (.dup, 1) := by decide +kernel
theorem d11_109 : decode prog_55_method_21_code 109 = .ok (.getfield 34, 3) := by decide +kernel
theorem d11_112 : decode prog_55_method_21_code 112 = .ok (.iconst 1, 1) := by decide +kernel
theorem d11_113 : decode prog_55_method_21_code 113 = .ok (.iadd, 1) := by decide +kernel
theorem d11_114 : decode prog_55_method_21_code 114 = .ok (.putfield 34, 3) := by decide +kernel
theorem d11_117 : decode prog_55_method_21_code 117 = .ok (.return_, 1) := by decide +kernel
def Q11_0 (Z : State) (w_NONE : Addr) (o0 : Addr) (q0 : Int64) (q1 : Int64) (h0 : Heap) (n0 : Nat) (v : Option Value) (h : Heap) (L : List Loc) : Prop := ∃ (b2_7 : Addr), ∃ (b2_13 : Addr), ∃ (k2_7 : ClassId), ∃ (k2_13 : ClassId), v = none ∧ Fr n0 L ∧ Keep h0 h [o0] ∧ Exa Z h o0 sC0 ∧ Fld Z h o0 sC0 "count" "J" (.long 0) ∧ Fld Z h o0 sC0 "firsts" "[J" (.ref b2_7) ∧ Fld Z h o0 sC0 "lasts" "[J" (.ref b2_13) ∧ Fld Z h o0 sC0 "maxRanges" "I" (.int 2147483647) ∧ Fld Z h o0 sC0 "ranges" "I" (.int 1) ∧ Arv Z h b2_7 k2_7 .long (4 : Int32) [(.long q0), (.long 0), (.long 0), (.long 0)] (.long 0) ∧ Arv Z h b2_13 k2_13 .long (4 : Int32) [(.long q1), (.long 0), (.long 0), (.long 0)] (.long 0) ∧ h0.size ≤ b2_7 ∧ h0.size ≤ b2_13 ∧ b2_7 ≠ b2_13
theorem rm11_0 (l : Launch) (Z : State) (a0 : Array Value) (hw : HW Z a0) (ws : List Jvm.Cond) (w_NONE : Addr) (o0 : Addr) (q0 : Int64) (q1 : Int64) (h0 : Heap) (n0 : Nat) (O0 : Old Z n0 h0) (S : SF Z w_NONE) (E_o0 : Exa Z h0 o0 sC0) (F_count_o0 : Fld Z h0 o0 sC0 "count" "J" (.long 0)) (F_firsts_o0 : Fld Z h0 o0 sC0 "firsts" "[J" (.ref w_NONE)) (F_lasts_o0 : Fld Z h0 o0 sC0 "lasts" "[J" (.ref w_NONE)) (F_maxRanges_o0 : Fld Z h0 o0 sC0 "maxRanges" "I" (.int 2147483647)) (F_ranges_o0 : Fld Z h0 o0 sC0 "ranges" "I" (.int 0)) (g_o0 : n0 ≤ o0) :
    Pay l Z My11 ws prog_55_method_21_code 7 none #[(.ref o0), (.int 0), (.long q0), (.long q1)] h0 ({ frames := 2, cells := 2, slots := 8, locals := 33 } : Room) (Q11_0 Z w_NONE o0 q0 q1 h0 n0) := by
  obtain ⟨S_w_NONE, V_w_NONE, -⟩ := id S
  obtain ⟨kk_w_NONE, Vk_w_NONE⟩ := V_w_NONE
  refine own_body (plainFor_of_name pn_1) (L0 := #[va o0, vi 0, vl q0, ss, vl q1, ss, uu]) (fun _ => by first | rfl | (simp [entryFrame, mkF, argsToLocals, Value.category]; done)) ?_
  intro p e s m below meth c s₁ hrt hlk hx hby hml hZ hown0 hnm X0 e0
  have hown : s.vm.findClass sC0 = some m.cls := hown0
  have N0 := Fr.nil n0
  have K0 : Keep h0 h0 [o0] := Keep.refl _ _
  obtain ⟨T1, X1, e1, st1⟩ := getF X0 hx hZ hown (host := "") (Or.inl (ww hw 39 rfl)) Via.refl e0 F_ranges_o0 (g := (mkF m 1 #[va o0, vi 0, vl q0, ss, vl q1, ss, uu] [(.ref o0)])) rfl rfl (hb hby d11_1)
  obtain ⟨T2, X2, e2, st2⟩ := getF X1 hx hZ hown (host := "") (Or.inl (ww hw 28 rfl)) Via.refl e1 F_firsts_o0 (g := (mkF m 5 #[va o0, vi 0, vl q0, ss, vl q1, ss, uu] [(.ref o0), (.int 0)])) rfl rfl (hb hby d11_5)
  obtain ⟨cl3, Ar3, qk3, Sz3, Ng3, Hh3, Gg3⟩ := id (Vk_w_NONE.ext O0.2)
  obtain ⟨T4, X4, e4, st4⟩ := getF X2 hx hZ hown (host := "") (Or.inl (ww hw 39 rfl)) Via.refl e2 F_ranges_o0 (g := (mkF m 15 #[va o0, vi 0, vl q0, ss, vl q1, ss, uu] [(.ref o0), (.int 2), (.int 4)])) rfl rfl (hb hby d11_15)
  obtain ⟨_, _, ⟨T5, L5, k5, n5⟩, -, X5, ⟨Lc5, hQ5, l5, y5, z5⟩, st5⟩ := Jvm.LawKit.callS X4 hx (y := (⟨sC2, "max", "(II)I"⟩ : MethodName)) hown (mvT hZ (ww hw 57 rfl)) (mvT hZ (ww hw 58 rfl)) (mvT hZ (ww hw 8 rfl)) (mvT hZ (ww hw 59 rfl)) (by decide) (backOf (W := 0) (rm12_0 l Z a0 hw [] w_NONE h0 n0 O0 S) hZ (ww hw 59 rfl) (ww hw 8 rfl) (by decide) (by decide)) (g := (mkF m 19 #[va o0, vi 0, vl q0, ss, vl q1, ss, uu] [(.int 0), (.int 4)])) rfl (by rw [hml]; rfl) (argsL := [(.int 4), (.int 0)]) (rest := []) (lenOf pd_6 rfl) rfl (by show 2 * 0 + _ ≤ _; exact Nat.le_of_eq rfl) (hb hby d11_19) (fun _ _ => ⟨rfl, e4, (by decide : 0 + 0 ≤ _), (by decide : 0 + 0 ≤ _)⟩)
  dsimp only [Pt.U, Pt.locs, Pt.cells, Pt.slots] at X5 l5 y5 z5 st5 hQ5
  subst l5 y5 z5
  obtain ⟨rfl, Nq5, e5⟩ := hQ5
  have N5 := Fr.app N0 Nq5
  obtain ⟨T6, X6, e6, st6⟩ := getF X5 hx hZ hown (host := "") (Or.inl (ww hw 28 rfl)) Via.refl e5 F_firsts_o0 (g := (mkF m 26 #[va o0, vi 0, vl q0, ss, vl q1, ss, vi 4] [(.ref o0), (.ref o0)])) rfl rfl (hb hby d11_26)
  obtain ⟨_, _, ⟨T7, L7, k7, n7⟩, -, X7, ⟨Lc7, hQ7, l7, y7, z7⟩, st7⟩ := Jvm.LawKit.callS X6 hx (y := (⟨"java/util/Arrays", "copyOf", "([JI)[J"⟩ : MethodName)) hown (mvT hZ (ww hw 60 rfl)) (mvT hZ (ww hw 61 rfl)) (mvT hZ (ww hw 62 rfl)) (mvT hZ (ww hw 63 rfl)) (by decide) (backOf (W := 1) (rm13_0 l Z a0 hw [] w_NONE h0 n0 O0 S) hZ (ww hw 63 rfl) (ww hw 62 rfl) (by decide) (by decide)) (g := (mkF m 31 #[va o0, vi 0, vl q0, ss, vl q1, ss, vi 4] [(.int 4), (.ref w_NONE), (.ref o0)])) rfl (by rw [hml]; rfl) (argsL := [(.ref w_NONE), (.int 4)]) (rest := [(.ref o0)]) (lenOf pd_7 rfl) rfl (by show 2 * 0 + _ ≤ _; exact Nat.le_of_eq rfl) (hb hby d11_31) (fun _ _ => ⟨rfl, e6, (by decide : 0 + 1 ≤ _), (by decide : 0 + 4 ≤ _)⟩)
  dsimp only [Pt.U, Pt.locs, Pt.cells, Pt.slots] at X7 l7 y7 z7 st7 hQ7
  subst l7 y7 z7
  obtain ⟨b2_7, k2_7, rfl, Nq7, Kc7, P0_7, P1_7⟩ := hQ7
  have N7 := Fr.app N5 Nq7
  have ne_o0_b2_7 : o0 ≠ b2_7 := Nat.ne_of_lt (Nat.lt_of_lt_of_le E_o0.lt P1_7)
  have g_b2_7 : n0 ≤ b2_7 := Nat.le_trans (own_old O0) P1_7
  have sz_b2_7 : h0.size ≤ b2_7 := Nat.le_trans K0.1 P1_7
  have O7 := O0.keep Kc7 all0
  have K7 : Keep h0 T7.heap [o0] := K0.trans Kc7 all0
  have fc8 := (F_firsts_o0.keep Kc7 nin0)
  have fc9 := (E_o0.keep Kc7)
  obtain ⟨T10, h10, X10, e10, W10, st10⟩ := putF X7 hx hZ hown (host := "") (Or.inl (ww hw 28 rfl)) Via.refl rfl fc8 fc9 (Or.inl (ww hw 29 rfl)) (ww hw 14 rfl) (ty := (.array .long)) (by decide) rfl rfl (g := (mkF m 34 #[va o0, vi 0, vl q0, ss, vl q1, ss, vi 4] [(.ref b2_7), (.ref o0)])) rfl rfl (hb hby d11_34)
  have Fw10 := fc8.same W10
  have O10 := O7.wr W10 g_o0
  have K10 : Keep h0 h10 [o0] := K7.wr W10 (Or.inl (List.mem_of_getElem? (i := 0) rfl))
  have N10 := Fr.snoc X10 N7 g_o0
  have fc11 := ((F_lasts_o0.keep Kc7 nin0).other W10 (Or.inr (slot_ne (Or.inl (ww hw 31 rfl)) (Or.inl (ww hw 29 rfl)) (by decide) (t := (.array .long)) (t' := (.array .long)) (by decide) (by decide))))
  obtain ⟨T12, X12, e12, st12⟩ := getF X10 hx hZ hown (host := "") (Or.inl (ww hw 30 rfl)) Via.refl e10 fc11 (g := (mkF m 39 #[va o0, vi 0, vl q0, ss, vl q1, ss, vi 4] [(.ref o0), (.ref o0)])) rfl rfl (hb hby d11_39)
  obtain ⟨_, _, ⟨T13, L13, k13, n13⟩, -, X13, ⟨Lc13, hQ13, l13, y13, z13⟩, st13⟩ := Jvm.LawKit.callS X12 hx (y := (⟨"java/util/Arrays", "copyOf", "([JI)[J"⟩ : MethodName)) hown (mvT hZ (ww hw 60 rfl)) (mvT hZ (ww hw 61 rfl)) (mvT hZ (ww hw 62 rfl)) (mvT hZ (ww hw 63 rfl)) (by decide) (backOf (W := 1) (rm13_0 l Z a0 hw [] w_NONE h10 n0 O10 S) hZ (ww hw 63 rfl) (ww hw 62 rfl) (by decide) (by decide)) (g := (mkF m 44 #[va o0, vi 0, vl q0, ss, vl q1, ss, vi 4] [(.int 4), (.ref w_NONE), (.ref o0)])) rfl (by rw [hml]; rfl) (argsL := [(.ref w_NONE), (.int 4)]) (rest := [(.ref o0)]) (lenOf pd_7 rfl) rfl (by show 2 * 0 + _ ≤ _; exact Nat.le_of_eq rfl) (hb hby d11_44) (fun _ _ => ⟨rfl, e12, (by decide : 1 + 1 ≤ _), (by decide : 4 + 4 ≤ _)⟩)
  dsimp only [Pt.U, Pt.locs, Pt.cells, Pt.slots] at X13 l13 y13 z13 st13 hQ13
  subst l13 y13 z13
  have fc14 := (fc9.wr W10)
  have fc15 := (P0_7.other W10 (Ne.symm ne_o0_b2_7))
  obtain ⟨b2_13, k2_13, rfl, Nq13, Kc13, P0_13, P1_13⟩ := hQ13
  have N13 := Fr.app N10 Nq13
  have ne_o0_b2_13 : o0 ≠ b2_13 := Nat.ne_of_lt (Nat.lt_of_lt_of_le fc14.lt P1_13)
  have ne_b2_7_b2_13 : b2_7 ≠ b2_13 := Nat.ne_of_lt (Nat.lt_of_lt_of_le fc15.lt P1_13)
  have g_b2_13 : n0 ≤ b2_13 := Nat.le_trans (own_old O10) P1_13
  have sz_b2_13 : h0.size ≤ b2_13 := Nat.le_trans K10.1 P1_13
  have O13 := O10.keep Kc13 all0
  have K13 : Keep h0 T13.heap [o0] := K10.trans Kc13 all0
  have fc16 := (fc11.keep Kc13 nin0)
  have fc17 := (fc14.keep Kc13)
  obtain ⟨T18, h18, X18, e18, W18, st18⟩ := putF X13 hx hZ hown (host := "") (Or.inl (ww hw 30 rfl)) Via.refl rfl fc16 fc17 (Or.inl (ww hw 31 rfl)) (ww hw 14 rfl) (ty := (.array .long)) (by decide) rfl rfl (g := (mkF m 47 #[va o0, vi 0, vl q0, ss, vl q1, ss, vi 4] [(.ref b2_13), (.ref o0)])) rfl rfl (hb hby d11_47)
  have Fw18 := fc16.same W18
  have O18 := O13.wr W18 g_o0
  have K18 : Keep h0 h18 [o0] := K13.wr W18 (Or.inl (List.mem_of_getElem? (i := 0) rfl))
  have N18 := Fr.snoc X18 N13 g_o0
  have fc19 := ((Fw10.keep Kc13 nin0).other W18 (Or.inr (slot_ne (Or.inl (ww hw 29 rfl)) (Or.inl (ww hw 31 rfl)) (by decide) (t := (.array .long)) (t' := (.array .long)) (by decide) (by decide))))
  obtain ⟨T20, X20, e20, st20⟩ := getF X18 hx hZ hown (host := "") (Or.inl (ww hw 28 rfl)) Via.refl e18 fc19 (g := (mkF m 51 #[va o0, vi 0, vl q0, ss, vl q1, ss, vi 4] [(.ref o0)])) rfl rfl (hb hby d11_51)
  obtain ⟨T21, X21, e21, st21⟩ := getF X20 hx hZ hown (host := "") (Or.inl (ww hw 28 rfl)) Via.refl e20 fc19 (g := (mkF m 56 #[va o0, vi 0, vl q0, ss, vl q1, ss, vi 4] [(.ref o0), (.int 0), (.ref b2_7)])) rfl rfl (hb hby d11_56)
  have fc22 := ((((F_ranges_o0.keep Kc7 nin0).other W10 (Or.inr (slot_ne (Or.inl (ww hw 40 rfl)) (Or.inl (ww hw 29 rfl)) (by decide) (t := .int) (t' := (.array .long)) (by decide) (by decide)))).keep Kc13 nin0).other W18 (Or.inr (slot_ne (Or.inl (ww hw 40 rfl)) (Or.inl (ww hw 31 rfl)) (by decide) (t := .int) (t' := (.array .long)) (by decide) (by decide))))
  obtain ⟨T23, X23, e23, st23⟩ := getF X21 hx hZ hown (host := "") (Or.inl (ww hw 39 rfl)) Via.refl e21 fc22 (g := (mkF m 63 #[va o0, vi 0, vl q0, ss, vl q1, ss, vi 4] [(.ref o0), (.int 1), (.ref b2_7), (.int 0), (.ref b2_7)])) rfl rfl (hb hby d11_63)
  have fc24 := ((fc15.keep Kc13 nin0).other W18 (Ne.symm ne_o0_b2_7))
  obtain ⟨T25, h25, L25, X25, e25, N25, Kc25, Vc25, st25⟩ := cpA X23 hx hZ hown (ww hw 72 rfl) (ww hw 71 rfl) (ww hw 69 rfl) (ww hw 70 rfl) e23 fc24 fc24 (us := []) (Or.inl ⟨rfl, rfl⟩) (sp := (0 : Int32)) (dp := (1 : Int32)) (nn := (0 : Int32)) (by decide) (by decide) (by decide) (by decide) (by decide) rfl (Nat.le_of_ble_eq_true rfl) N18 g_b2_7 (g := (mkF m 68 #[va o0, vi 0, vl q0, ss, vl q1, ss, vi 4] [(.int 0), (.int 1), (.ref b2_7), (.int 0), (.ref b2_7)])) rfl (by rw [hml]; rfl) (rest := []) rfl (hb hby d11_68) (by decide) (W := 0) (by show 2 * 0 + _ ≤ _; exact Nat.le_of_eq rfl) (by decide)
  have V25 : Arv Z h25 b2_7 k2_7 .long (4 : Int32) [(.long 0), (.long 0), (.long 0), (.long 0)] (.long 0) := Vc25
  have O25 := O18.keep Kc25 (allS g_b2_7 all0)
  have K25 : Keep h0 h25 [o0] := K18.trans Kc25 (allS (Or.inr sz_b2_7) all0)
  have fc26 := (Fw18.keep Kc25 (ninS ne_o0_b2_7 nin0))
  obtain ⟨T27, X27, e27, st27⟩ := getF X25 hx hZ hown (host := "") (Or.inl (ww hw 30 rfl)) Via.refl e25 fc26 (g := (mkF m 72 #[va o0, vi 0, vl q0, ss, vl q1, ss, vi 4] [(.ref o0)])) rfl rfl (hb hby d11_72)
  obtain ⟨T28, X28, e28, st28⟩ := getF X27 hx hZ hown (host := "") (Or.inl (ww hw 30 rfl)) Via.refl e27 fc26 (g := (mkF m 77 #[va o0, vi 0, vl q0, ss, vl q1, ss, vi 4] [(.ref o0), (.int 0), (.ref b2_13)])) rfl rfl (hb hby d11_77)
  have fc29 := (fc22.keep Kc25 (ninS ne_o0_b2_7 nin0))
  obtain ⟨T30, X30, e30, st30⟩ := getF X28 hx hZ hown (host := "") (Or.inl (ww hw 39 rfl)) Via.refl e28 fc29 (g := (mkF m 84 #[va o0, vi 0, vl q0, ss, vl q1, ss, vi 4] [(.ref o0), (.int 1), (.ref b2_13), (.int 0), (.ref b2_13)])) rfl rfl (hb hby d11_84)
  have fc31 := ((P0_13.other W18 (Ne.symm ne_o0_b2_13)).keep Kc25 (ninS (Ne.symm ne_b2_7_b2_13) nin0))
  obtain ⟨T32, h32, L32, X32, e32, N32, Kc32, Vc32, st32⟩ := cpA X30 hx hZ hown (ww hw 72 rfl) (ww hw 71 rfl) (ww hw 69 rfl) (ww hw 70 rfl) e30 fc31 fc31 (us := []) (Or.inl ⟨rfl, rfl⟩) (sp := (0 : Int32)) (dp := (1 : Int32)) (nn := (0 : Int32)) (by decide) (by decide) (by decide) (by decide) (by decide) rfl (Nat.le_of_ble_eq_true rfl) N25 g_b2_13 (g := (mkF m 89 #[va o0, vi 0, vl q0, ss, vl q1, ss, vi 4] [(.int 0), (.int 1), (.ref b2_13), (.int 0), (.ref b2_13)])) rfl (by rw [hml]; rfl) (rest := []) rfl (hb hby d11_89) (by decide) (W := 0) (by show 2 * 0 + _ ≤ _; exact Nat.le_of_eq rfl) (by decide)
  have V32 : Arv Z h32 b2_13 k2_13 .long (4 : Int32) [(.long 0), (.long 0), (.long 0), (.long 0)] (.long 0) := Vc32
  have O32 := O25.keep Kc32 (allS g_b2_13 all0)
  have K32 : Keep h0 h32 [o0] := K25.trans Kc32 (allS (Or.inr sz_b2_13) all0)
  have fc33 := ((fc19.keep Kc25 (ninS ne_o0_b2_7 nin0)).keep Kc32 (ninS ne_o0_b2_13 nin0))
  obtain ⟨T34, X34, e34, st34⟩ := getF X32 hx hZ hown (host := "") (Or.inl (ww hw 28 rfl)) Via.refl e32 fc33 (g := (mkF m 93 #[va o0, vi 0, vl q0, ss, vl q1, ss, vi 4] [(.ref o0)])) rfl rfl (hb hby d11_93)
  have fc35 := (V25.keep Kc32 (ninS ne_b2_7_b2_13 nin0))
  obtain ⟨cl36, Ar36, qk36, Sz36, Ng36, Hh36, Gg36⟩ := id fc35
  have hin36_0 : ¬ ((0 : Int32) < 0 ∨ cl36.slots.size ≤ ((0 : Int32)).toNatClampNeg) := inb_of Sz36 ⟨by decide, by decide⟩
  obtain ⟨T37, h37, X37, e37, W37, st37⟩ := stJ X34 hx hZ e34 Ar36 (j := (0 : Int32)) hin36_0 (g := (mkF m 98 #[va o0, vi 0, vl q0, ss, vl q1, ss, vi 4] [(.long q0), (.int 0), (.ref b2_7)])) rfl rfl (hb hby d11_98)
  have V37 : Arv Z h37 b2_7 k2_7 .long (4 : Int32) [(.long q0), (.long 0), (.long 0), (.long 0)] (.long 0) := Arv.set Ar36 qk36 Sz36 Ng36 Hh36 Gg36 rfl W37 0 rfl (Nat.le_of_ble_eq_true rfl)
  have O37 := O32.wr W37 g_b2_7
  have K37 : Keep h0 h37 [o0] := K32.wr W37 (Or.inr sz_b2_7)
  have N37 := Fr.snoc X37 N32 g_b2_7
  have fc38 := ((fc26.keep Kc32 (ninS ne_o0_b2_13 nin0)).other W37 (Or.inl ne_o0_b2_7))
  obtain ⟨T39, X39, e39, st39⟩ := getF X37 hx hZ hown (host := "") (Or.inl (ww hw 30 rfl)) Via.refl e37 fc38 (g := (mkF m 100 #[va o0, vi 0, vl q0, ss, vl q1, ss, vi 4] [(.ref o0)])) rfl rfl (hb hby d11_100)
  have fc40 := (V32.other W37 (Ne.symm ne_b2_7_b2_13))
  obtain ⟨cl41, Ar41, qk41, Sz41, Ng41, Hh41, Gg41⟩ := id fc40
  have hin41_0 : ¬ ((0 : Int32) < 0 ∨ cl41.slots.size ≤ ((0 : Int32)).toNatClampNeg) := inb_of Sz41 ⟨by decide, by decide⟩
  obtain ⟨T42, h42, X42, e42, W42, st42⟩ := stJ X39 hx hZ e39 Ar41 (j := (0 : Int32)) hin41_0 (g := (mkF m 106 #[va o0, vi 0, vl q0, ss, vl q1, ss, vi 4] [(.long q1), (.int 0), (.ref b2_13)])) rfl rfl (hb hby d11_106)
  have V42 : Arv Z h42 b2_13 k2_13 .long (4 : Int32) [(.long q1), (.long 0), (.long 0), (.long 0)] (.long 0) := Arv.set Ar41 qk41 Sz41 Ng41 Hh41 Gg41 rfl W42 0 rfl (Nat.le_of_ble_eq_true rfl)
  have O42 := O37.wr W42 g_b2_13
  have K42 : Keep h0 h42 [o0] := K37.wr W42 (Or.inr sz_b2_13)
  have N42 := Fr.snoc X42 N37 g_b2_13
  have fc43 := (((fc29.keep Kc32 (ninS ne_o0_b2_13 nin0)).other W37 (Or.inl ne_o0_b2_7)).other W42 (Or.inl ne_o0_b2_13))
  obtain ⟨T44, X44, e44, st44⟩ := getF X42 hx hZ hown (host := "") (Or.inl (ww hw 39 rfl)) Via.refl e42 fc43 (g := (mkF m 109 #[va o0, vi 0, vl q0, ss, vl q1, ss, vi 4] [(.ref o0), (.ref o0)])) rfl rfl (hb hby d11_109)
  have fc45 := (((((fc17.wr W18).keep Kc25).keep Kc32).wr W37).wr W42)
  obtain ⟨T46, h46, X46, e46, W46, st46⟩ := putF X44 hx hZ hown (host := "") (Or.inl (ww hw 39 rfl)) Via.refl e44 fc43 fc45 (Or.inl (ww hw 40 rfl)) (ww hw 14 rfl) (ty := .int) (by decide) rfl rfl (g := (mkF m 114 #[va o0, vi 0, vl q0, ss, vl q1, ss, vi 4] [(.int 1), (.ref o0)])) rfl rfl (hb hby d11_114)
  have Fw46 := fc43.same W46
  have O46 := O42.wr W46 g_o0
  have K46 : Keep h0 h46 [o0] := K42.wr W46 (Or.inl (List.mem_of_getElem? (i := 0) rfl))
  have N46 := Fr.snoc X46 N42 g_o0
  obtain ⟨fs, hr, hrun, hended, hW, hsame⟩ := X46.leave (v := none) (fun _ => rfl)
  have fc47 := (fc45.wr W46)
  have fc48 := (((((((((F_count_o0.keep Kc7 nin0).other W10 (Or.inr (slot_ne (Or.inl (ww hw 74 rfl)) (Or.inl (ww hw 29 rfl)) (by decide) (t := .long) (t' := (.array .long)) (by decide) (by decide)))).keep Kc13 nin0).other W18 (Or.inr (slot_ne (Or.inl (ww hw 74 rfl)) (Or.inl (ww hw 31 rfl)) (by decide) (t := .long) (t' := (.array .long)) (by decide) (by decide)))).keep Kc25 (ninS ne_o0_b2_7 nin0)).keep Kc32 (ninS ne_o0_b2_13 nin0)).other W37 (Or.inl ne_o0_b2_7)).other W42 (Or.inl ne_o0_b2_13)).other W46 (Or.inr (slot_ne (Or.inl (ww hw 74 rfl)) (Or.inl (ww hw 40 rfl)) (by decide) (t := .long) (t' := .int) (by decide) (by decide))))
  have fc49 := (((fc33.other W37 (Or.inl ne_o0_b2_7)).other W42 (Or.inl ne_o0_b2_13)).other W46 (Or.inr (slot_ne (Or.inl (ww hw 29 rfl)) (Or.inl (ww hw 40 rfl)) (by decide) (t := (.array .long)) (t' := .int) (by decide) (by decide))))
  have fc50 := ((fc38.other W42 (Or.inl ne_o0_b2_13)).other W46 (Or.inr (slot_ne (Or.inl (ww hw 31 rfl)) (Or.inl (ww hw 40 rfl)) (by decide) (t := (.array .long)) (t' := .int) (by decide) (by decide))))
  have fc51 := (((((((((F_maxRanges_o0.keep Kc7 nin0).other W10 (Or.inr (slot_ne (Or.inr (ww hw 33 rfl)) (Or.inl (ww hw 29 rfl)) (by decide) (t := .int) (t' := (.array .long)) (by decide) (by decide)))).keep Kc13 nin0).other W18 (Or.inr (slot_ne (Or.inr (ww hw 33 rfl)) (Or.inl (ww hw 31 rfl)) (by decide) (t := .int) (t' := (.array .long)) (by decide) (by decide)))).keep Kc25 (ninS ne_o0_b2_7 nin0)).keep Kc32 (ninS ne_o0_b2_13 nin0)).other W37 (Or.inl ne_o0_b2_7)).other W42 (Or.inl ne_o0_b2_13)).other W46 (Or.inr (slot_ne (Or.inr (ww hw 33 rfl)) (Or.inl (ww hw 40 rfl)) (by decide) (t := .int) (t' := .int) (by decide) (by decide))))
  have fc52 := ((V37.other W42 ne_b2_7_b2_13).other W46 (Ne.symm ne_o0_b2_7))
  have fc53 := (V42.other W46 (Ne.symm ne_o0_b2_13))
  refine ⟨_, _, ?_, hrun, hended, _, _, rfl, ?_, ⟨_, rfl⟩, hW, hsame.mono (by decide) (by decide)⟩
  · show Steps p.tables e below (s₁.setTop (mkF m 0 #[va o0, vi 0, vl q0, ss, vl q1, ss, uu] [])) _
    refine XS.aloadN X0.here hx rfl (hb hby d11_0) rfl rfl ?_
    refine st1 _ ?_
    refine XS.aloadN X1.here hx rfl (hb hby d11_4) rfl rfl ?_
    refine st2 _ ?_
    refine X2.arraylength hx (by rw [e2]; exact Ar3.1) (State.isArrayOf_alike hZ.alike Ar3.2.1) (g := (mkF m 8 #[va o0, vi 0, vl q0, ss, vl q1, ss, uu] [(.ref w_NONE), (.int 0)])) rfl rfl (hb hby d11_8) _ ?_
    rw [len_of Sz3 Ng3]
    refine XS.icmpNo X2.here hx rfl (hb hby d11_9) rfl (teq (by decide : (0 : Int32) = (0 : Int32))).2 ?_
    refine XS.iconst X2.here hx rfl (hb hby d11_12) ?_
    refine XS.iconst X2.here hx rfl (hb hby d11_13) ?_
    show Steps p.tables e below (T2.setTop (mkF m 14 #[va o0, vi 0, vl q0, ss, vl q1, ss, uu] [(.int 2), (.int 4)])) _
    refine XS.aloadN X2.here hx rfl (hb hby d11_14) rfl rfl ?_
    refine st4 _ ?_
    refine XS.imul X4.here hx rfl (hb hby d11_18) rfl ?_
    show Steps p.tables e below (T4.setTop (mkF m 19 #[va o0, vi 0, vl q0, ss, vl q1, ss, uu] [(.int ((2 : Int32) * (0 : Int32))), (.int 4)])) _
    rw [show (((2 : Int32) * (0 : Int32)) : Int32) = (0 : Int32) from by decide]
    refine st5 _ ?_
    refine XS.istore X5.here hx rfl (hb hby d11_22) rfl (l' := #[va o0, vi 0, vl q0, ss, vl q1, ss, vi 4]) rfl ?_
    refine XS.aloadN X5.here hx rfl (hb hby d11_24) rfl rfl ?_
    refine XS.aloadN X5.here hx rfl (hb hby d11_25) rfl rfl ?_
    refine st6 _ ?_
    refine XS.iload X6.here hx rfl (hb hby d11_29) rfl ?_
    refine st7 _ ?_
    show Steps p.tables e below (T7.setTop (mkF m 34 #[va o0, vi 0, vl q0, ss, vl q1, ss, vi 4] [(.ref b2_7), (.ref o0)])) _
    refine st10 _ ?_
    refine XS.aloadN X10.here hx rfl (hb hby d11_37) rfl rfl ?_
    refine XS.aloadN X10.here hx rfl (hb hby d11_38) rfl rfl ?_
    refine st12 _ ?_
    refine XS.iload X12.here hx rfl (hb hby d11_42) rfl ?_
    refine st13 _ ?_
    refine st18 _ ?_
    refine XS.aloadN X18.here hx rfl (hb hby d11_50) rfl rfl ?_
    show Steps p.tables e below (T18.setTop (mkF m 51 #[va o0, vi 0, vl q0, ss, vl q1, ss, vi 4] [(.ref o0)])) _
    refine st20 _ ?_
    refine XS.iloadN X20.here hx rfl (hb hby d11_54) rfl ?_
    refine XS.aloadN X20.here hx rfl (hb hby d11_55) rfl rfl ?_
    refine st21 _ ?_
    refine XS.iloadN X21.here hx rfl (hb hby d11_59) rfl ?_
    refine XS.iconst X21.here hx rfl (hb hby d11_60) ?_
    refine XS.iadd X21.here hx rfl (hb hby d11_61) rfl ?_
    show Steps p.tables e below (T21.setTop (mkF m 62 #[va o0, vi 0, vl q0, ss, vl q1, ss, vi 4] [(.int ((0 : Int32) + (1 : Int32))), (.ref b2_7), (.int 0), (.ref b2_7)])) _
    rw [show (((0 : Int32) + (1 : Int32)) : Int32) = (1 : Int32) from by decide]
    refine XS.aloadN X21.here hx rfl (hb hby d11_62) rfl rfl ?_
    refine st23 _ ?_
    refine XS.iloadN X23.here hx rfl (hb hby d11_66) rfl ?_
    refine XS.isub X23.here hx rfl (hb hby d11_67) rfl ?_
    show Steps p.tables e below (T23.setTop (mkF m 68 #[va o0, vi 0, vl q0, ss, vl q1, ss, vi 4] [(.int ((0 : Int32) - (0 : Int32))), (.int 1), (.ref b2_7), (.int 0), (.ref b2_7)])) _
    rw [show (((0 : Int32) - (0 : Int32)) : Int32) = (0 : Int32) from by decide]
    refine st25 _ ?_
    refine XS.aloadN X25.here hx rfl (hb hby d11_71) rfl rfl ?_
    refine st27 _ ?_
    refine XS.iloadN X27.here hx rfl (hb hby d11_75) rfl ?_
    refine XS.aloadN X27.here hx rfl (hb hby d11_76) rfl rfl ?_
    refine st28 _ ?_
    refine XS.iloadN X28.here hx rfl (hb hby d11_80) rfl ?_
    show Steps p.tables e below (T28.setTop (mkF m 81 #[va o0, vi 0, vl q0, ss, vl q1, ss, vi 4] [(.int 0), (.ref b2_13), (.int 0), (.ref b2_13)])) _
    refine XS.iconst X28.here hx rfl (hb hby d11_81) ?_
    refine XS.iadd X28.here hx rfl (hb hby d11_82) rfl ?_
    show Steps p.tables e below (T28.setTop (mkF m 83 #[va o0, vi 0, vl q0, ss, vl q1, ss, vi 4] [(.int ((0 : Int32) + (1 : Int32))), (.ref b2_13), (.int 0), (.ref b2_13)])) _
    rw [show (((0 : Int32) + (1 : Int32)) : Int32) = (1 : Int32) from by decide]
    refine XS.aloadN X28.here hx rfl (hb hby d11_83) rfl rfl ?_
    refine st30 _ ?_
    refine XS.iloadN X30.here hx rfl (hb hby d11_87) rfl ?_
    refine XS.isub X30.here hx rfl (hb hby d11_88) rfl ?_
    show Steps p.tables e below (T30.setTop (mkF m 89 #[va o0, vi 0, vl q0, ss, vl q1, ss, vi 4] [(.int ((0 : Int32) - (0 : Int32))), (.int 1), (.ref b2_13), (.int 0), (.ref b2_13)])) _
    rw [show (((0 : Int32) - (0 : Int32)) : Int32) = (0 : Int32) from by decide]
    refine st32 _ ?_
    refine XS.aloadN X32.here hx rfl (hb hby d11_92) rfl rfl ?_
    refine st34 _ ?_
    refine XS.iloadN X34.here hx rfl (hb hby d11_96) rfl ?_
    refine XS.lloadN X34.here hx rfl (hb hby d11_97) rfl ?_
    refine st37 _ ?_
    refine XS.aloadN X37.here hx rfl (hb hby d11_99) rfl rfl ?_
    show Steps p.tables e below (T37.setTop (mkF m 100 #[va o0, vi 0, vl q0, ss, vl q1, ss, vi 4] [(.ref o0)])) _
    refine st39 _ ?_
    refine XS.iloadN X39.here hx rfl (hb hby d11_103) rfl ?_
    refine XS.lload X39.here hx rfl (hb hby d11_104) rfl ?_
    refine st42 _ ?_
    refine XS.aloadN X42.here hx rfl (hb hby d11_107) rfl rfl ?_
    refine XS.dup X42.here hx rfl (hb hby d11_108) rfl rfl ?_
    refine st44 _ ?_
    refine XS.iconst X44.here hx rfl (hb hby d11_112) ?_
    show Steps p.tables e below (T44.setTop (mkF m 113 #[va o0, vi 0, vl q0, ss, vl q1, ss, vi 4] [(.int 1), (.int 0), (.ref o0)])) _
    refine XS.iadd X44.here hx rfl (hb hby d11_113) rfl ?_
    show Steps p.tables e below (T44.setTop (mkF m 114 #[va o0, vi 0, vl q0, ss, vl q1, ss, vi 4] [(.int ((0 : Int32) + (1 : Int32))), (.ref o0)])) _
    rw [show (((0 : Int32) + (1 : Int32)) : Int32) = (1 : Int32) from by decide]
    refine st46 _ ?_
    exact X46.returnOut hx hrt (hb hby d11_117) hr
  · show Q11_0 Z w_NONE o0 q0 q1 h0 n0 none T46.heap _
    rw [e46]; exact ⟨b2_7, b2_13, k2_7, k2_13, rfl, N46, K46, fc47, fc48, fc49, fc50, fc51, Fw46, fc52, fc53, sz_b2_7, sz_b2_13, ne_b2_7_b2_13⟩
theorem pd_8 : parseMethodDescriptor "(IJJ)V" = some ⟨[.int, .long, .long], none⟩ := by decide +kernel
theorem d8_88 : decode prog_55_method_8_code 88 = .ok (.aload_n 0, 1) := by decide +kernel
theorem d8_89 : decode prog_55_method_8_code 89 = .ok (.dup, 1) := by decide +kernel
theorem d8_90 : decode prog_55_method_8_code 90 = .ok (.getfield 43, 3) := by decide +kernel
theorem d8_93 : decode prog_55_method_8_code 93 = .ok (.lload_n 3, 1) := by decide +kernel
theorem d8_94 : decode prog_55_method_8_code 94 = .ok (.lload_n 1, 1) := by decide +kernel
theorem d8_95 : decode prog_55_method_8_code 95 = .ok (.lsub, 1) := by decide +kernel
theorem d8_96 : decode prog_55_method_8_code 96 = .ok (.lconst 1, 1) := by decide +kernel
theorem d8_97 : decode prog_55_method_8_code 97 = .ok (.ladd, 1) := by decide +kernel
theorem d8_98 : decode prog_55_method_8_code 98 = .ok (.ladd, 1) := by decide +kernel
theorem d8_99 : decode prog_55_method_8_code 99 = .ok (.putfield 43, 3) := by decide +kernel
theorem d8_102 : decode prog_55_method_8_code 102 = .ok (.goto 121, 3) := by decide +kernel
theorem d8_223 : decode prog_55_method_8_code 223 = .ok (.iconst 1, 1) := by decide +kernel
theorem d8_224 : decode prog_55_method_8_code 224 = .ok (.ireturn, 1) := by decide +kernel
def Q8_0 (Z : State) (w_NONE : Addr) (o0 : Addr) (q0 : Int64) (q1 : Int64) (h0 : Heap) (n0 : Nat) (v : Option Value) (h : Heap) (L : List Loc) : Prop := ∃ (b2_7_6 : Addr), ∃ (b2_13_6 : Addr), ∃ (k2_7_6 : ClassId), ∃ (k2_13_6 : ClassId), v = (some (.int 1)) ∧ Fr n0 L ∧ Keep h0 h [o0] ∧ Exa Z h o0 sC0 ∧ Fld Z h o0 sC0 "count" "J" (.long ((0 : Int64) + ((q1 - q0) + (1 : Int64)))) ∧ Fld Z h o0 sC0 "firsts" "[J" (.ref b2_7_6) ∧ Fld Z h o0 sC0 "lasts" "[J" (.ref b2_13_6) ∧ Fld Z h o0 sC0 "maxRanges" "I" (.int 2147483647) ∧ Fld Z h o0 sC0 "ranges" "I" (.int 1) ∧ Arv Z h b2_7_6 k2_7_6 .long (4 : Int32) [(.long q0), (.long 0), (.long 0), (.long 0)] (.long 0) ∧ Arv Z h b2_13_6 k2_13_6 .long (4 : Int32) [(.long q1), (.long 0), (.long 0), (.long 0)] (.long 0) ∧ h0.size ≤ b2_7_6 ∧ h0.size ≤ b2_13_6 ∧ b2_7_6 ≠ b2_13_6
theorem rm8_0 (l : Launch) (Z : State) (a0 : Array Value) (hw : HW Z a0) (ws : List Jvm.Cond) (w_NONE : Addr) (o0 : Addr) (q0 : Int64) (q1 : Int64) (h0 : Heap) (n0 : Nat) (O0 : Old Z n0 h0) (S : SF Z w_NONE) (E_o0 : Exa Z h0 o0 sC0) (F_count_o0 : Fld Z h0 o0 sC0 "count" "J" (.long 0)) (F_firsts_o0 : Fld Z h0 o0 sC0 "firsts" "[J" (.ref w_NONE)) (F_lasts_o0 : Fld Z h0 o0 sC0 "lasts" "[J" (.ref w_NONE)) (F_maxRanges_o0 : Fld Z h0 o0 sC0 "maxRanges" "I" (.int 2147483647)) (F_ranges_o0 : Fld Z h0 o0 sC0 "ranges" "I" (.int 0)) (g_o0 : n0 ≤ o0) (hc0 : ¬ (q0 < (0 : Int64))) (hc1 : ¬ (q1 < q0)) (hc2 : ¬ (q0 = (0 : Int64))) :
    Pay l Z My8 ws prog_55_method_8_code 13 (some .boolean) #[(.ref o0), (.long q0), (.long q1)] h0 ({ frames := 3, cells := 2, slots := 8, locals := 51 } : Room) (Q8_0 Z w_NONE o0 q0 q1 h0 n0) := by
  refine own_body (plainFor_of_name pn_1) (L0 := #[va o0, vl q0, ss, vl q1, ss, uu, uu, uu, uu, uu, uu, uu, uu]) (fun _ => by first | rfl | (simp [entryFrame, mkF, argsToLocals, Value.category]; done)) ?_
  intro p e s m below meth c s₁ hrt hlk hx hby hml hZ hown0 hnm X0 e0
  have hown : s.vm.findClass sC0 = some m.cls := hown0
  have N0 := Fr.nil n0
  have K0 : Keep h0 h0 [o0] := Keep.refl _ _
  obtain ⟨_, _, ⟨T1, L1, k1, n1⟩, -, X1, ⟨Lc1, hQ1, l1, y1, z1⟩, st1⟩ := Jvm.LawKit.callS X0 hx (y := My9) hown (mvT hZ (ww hw 46 rfl)) (mvT hZ (ww hw 47 rfl)) (mvT hZ (ww hw 15 rfl)) (mvT hZ (ww hw 48 rfl)) (by decide) (backOf (W := 0) (rm9_0 l Z a0 hw [] w_NONE q0 q1 h0 n0 O0 S hc0 hc1) hZ (ww hw 48 rfl) (ww hw 15 rfl) (by decide) (by decide)) (g := (mkF m 2 #[va o0, vl q0, ss, vl q1, ss, uu, uu, uu, uu, uu, uu, uu, uu] [(.long q1), (.long q0)])) rfl (by rw [hml]; rfl) (argsL := [(.long q0), (.long q1)]) (rest := []) (lenOf pd_4 rfl) rfl (by show 2 * 0 + _ ≤ _; exact Nat.le_of_eq rfl) (hb hby d8_2) (fun _ _ => ⟨rfl, e0, (by decide : 0 + 0 ≤ _), (by decide : 0 + 0 ≤ _)⟩)
  dsimp only [Pt.U, Pt.locs, Pt.cells, Pt.slots] at X1 l1 y1 z1 st1 hQ1
  subst l1 y1 z1
  obtain ⟨rfl, Nq1, e1⟩ := hQ1
  have N1 := Fr.app N0 Nq1
  obtain ⟨cq2, qa2, qb2⟩ := E_o0.cell
  obtain ⟨_, _, ⟨T2, L2, k2, n2⟩, -, X2, ⟨Lc2, hQ2, l2, y2, z2⟩, st2⟩ := X1.privateBack hx (y := My10) hown (mvT hZ (ww hw 49 rfl)) (mvT hZ (ww hw 50 rfl)) (own_selp (by decide) (mvT hZ (ww hw 14 rfl)) (mvP hZ (ww hw 51 rfl)) (mvT hZ (ww hw 50 rfl))) (Cond.privateMethod_at (mvP hZ (ww hw 51 rfl) (args := #[]))) (mvT hZ (ww hw 52 rfl)) (by decide) (backOf (W := 0) (rm10_0 l Z a0 hw [] w_NONE o0 (q0 - (1 : Int64)) h0 n0 O0 S F_ranges_o0) hZ (ww hw 52 rfl) (ww hw 15 rfl) (by decide) (by decide)) (g := (mkF m 19 #[va o0, vl q0, ss, vl q1, ss, uu, uu, uu, uu, uu, uu, uu, uu] [(.long (q0 - (1 : Int64))), (.ref o0)])) rfl (by rw [hml]; rfl) (Steps.refl _) (a := o0) (by rw [e1]; exact qa2) qb2 (argsL := [(.long (q0 - (1 : Int64)))]) (rest := []) (lenOf pd_5 rfl) rfl (by show 2 * 0 + _ ≤ _; exact Nat.le_of_eq rfl) (hb hby d8_19) (fun _ _ => ⟨rfl, e1, (by decide : 0 + 0 ≤ _), (by decide : 0 + 0 ≤ _)⟩)
  dsimp only [Pt.U, Pt.locs, Pt.cells, Pt.slots] at X2 l2 y2 z2 st2 hQ2
  subst l2 y2 z2
  obtain ⟨rfl, Nq2, e2⟩ := hQ2
  have N2 := Fr.app N1 Nq2
  obtain ⟨T3, X3, e3, st3⟩ := getF X2 hx hZ hown (host := "") (Or.inl (ww hw 39 rfl)) Via.refl e2 F_ranges_o0 (g := (mkF m 31 #[va o0, vl q0, ss, vl q1, ss, vi 0, vi 0, uu, uu, uu, uu, uu, uu] [(.ref o0), (.int 0)])) rfl rfl (hb hby d8_31)
  obtain ⟨T4, X4, e4, st4⟩ := getF X3 hx hZ hown (host := "") (Or.inl (ww hw 39 rfl)) Via.refl e3 F_ranges_o0 (g := (mkF m 68 #[va o0, vl q0, ss, vl q1, ss, vi 0, vi (-1), uu, uu, uu, uu, uu, uu] [(.ref o0)])) rfl rfl (hb hby d8_68)
  obtain ⟨T5, X5, e5, st5⟩ := getF X4 hx hZ hown (host := "") (Or.inl (ww hw 32 rfl)) Via.refl e4 F_maxRanges_o0 (g := (mkF m 72 #[va o0, vl q0, ss, vl q1, ss, vi 0, vi (-1), uu, uu, uu, uu, uu, uu] [(.ref o0), (.int 0)])) rfl rfl (hb hby d8_72)
  obtain ⟨cq6, qa6, qb6⟩ := E_o0.cell
  obtain ⟨_, _, ⟨T6, L6, k6, n6⟩, -, X6, ⟨Lc6, hQ6, l6, y6, z6⟩, st6⟩ := X5.privateBack hx (y := My11) hown (mvT hZ (ww hw 53 rfl)) (mvT hZ (ww hw 54 rfl)) (own_selp (by decide) (mvT hZ (ww hw 14 rfl)) (mvP hZ (ww hw 55 rfl)) (mvT hZ (ww hw 54 rfl))) (Cond.privateMethod_at (mvP hZ (ww hw 55 rfl) (args := #[]))) (mvT hZ (ww hw 56 rfl)) (by decide) (backOf (W := 0) (rm11_0 l Z a0 hw [] w_NONE o0 q0 q1 h0 n0 O0 S E_o0 F_count_o0 F_firsts_o0 F_lasts_o0 F_maxRanges_o0 F_ranges_o0 g_o0) hZ (ww hw 56 rfl) (ww hw 15 rfl) (by decide) (by decide)) (g := (mkF m 85 #[va o0, vl q0, ss, vl q1, ss, vi 0, vi (-1), uu, uu, uu, uu, uu, uu] [(.long q1), (.long q0), (.int 0), (.ref o0)])) rfl (by rw [hml]; rfl) (Steps.refl _) (a := o0) (by rw [e5]; exact qa6) qb6 (argsL := [(.int 0), (.long q0), (.long q1)]) (rest := []) (lenOf pd_8 rfl) rfl (by show 2 * 0 + _ ≤ _; exact Nat.le_of_eq rfl) (hb hby d8_85) (fun _ _ => ⟨rfl, e5, (by decide : 0 + 2 ≤ _), (by decide : 0 + 8 ≤ _)⟩)
  dsimp only [Pt.U, Pt.locs, Pt.cells, Pt.slots] at X6 l6 y6 z6 st6 hQ6
  subst l6 y6 z6
  obtain ⟨b2_7_6, b2_13_6, k2_7_6, k2_13_6, rfl, Nq6, Kc6, P0_6, P1_6, P2_6, P3_6, P4_6, P5_6, P6_6, P7_6, P8_6, P9_6, P10_6⟩ := hQ6
  have N6 := Fr.app N2 Nq6
  have ne_o0_b2_7_6 : o0 ≠ b2_7_6 := Nat.ne_of_lt (Nat.lt_of_lt_of_le E_o0.lt P8_6)
  have ne_o0_b2_13_6 : o0 ≠ b2_13_6 := Nat.ne_of_lt (Nat.lt_of_lt_of_le E_o0.lt P9_6)
  have g_b2_7_6 : n0 ≤ b2_7_6 := Nat.le_trans (own_old O0) P8_6
  have sz_b2_7_6 : h0.size ≤ b2_7_6 := Nat.le_trans K0.1 P8_6
  have g_b2_13_6 : n0 ≤ b2_13_6 := Nat.le_trans (own_old O0) P9_6
  have sz_b2_13_6 : h0.size ≤ b2_13_6 := Nat.le_trans K0.1 P9_6
  have O6 := O0.keep Kc6 (allS g_o0 all0)
  have K6 : Keep h0 T6.heap [o0] := K0.trans Kc6 (allS (Or.inl (List.mem_of_getElem? (i := 0) rfl)) all0)
  obtain ⟨T7, X7, e7, st7⟩ := getF X6 hx hZ hown (host := "") (Or.inl (ww hw 73 rfl)) Via.refl rfl P1_6 (g := (mkF m 90 #[va o0, vl q0, ss, vl q1, ss, vi 0, vi (-1), uu, uu, uu, uu, uu, uu] [(.ref o0), (.ref o0)])) rfl rfl (hb hby d8_90)
  obtain ⟨T8, h8, X8, e8, W8, st8⟩ := putF X7 hx hZ hown (host := "") (Or.inl (ww hw 73 rfl)) Via.refl e7 P1_6 P0_6 (Or.inl (ww hw 74 rfl)) (ww hw 14 rfl) (ty := .long) (by decide) rfl rfl (g := (mkF m 99 #[va o0, vl q0, ss, vl q1, ss, vi 0, vi (-1), uu, uu, uu, uu, uu, uu] [(.long ((0 : Int64) + ((q1 - q0) + (1 : Int64)))), (.ref o0)])) rfl rfl (hb hby d8_99)
  have Fw8 := P1_6.same W8
  have O8 := O6.wr W8 g_o0
  have K8 : Keep h0 h8 [o0] := K6.wr W8 (Or.inl (List.mem_of_getElem? (i := 0) rfl))
  have N8 := Fr.snoc X8 N6 g_o0
  obtain ⟨fs, hr, hrun, hended, hW, hsame⟩ := X8.leave (v := (some (.int 1))) (fun h => by rw [hrt] at h; cases h)
  have fc9 := (P0_6.wr W8)
  have fc10 := (P2_6.other W8 (Or.inr (slot_ne (Or.inl (ww hw 29 rfl)) (Or.inl (ww hw 74 rfl)) (by decide) (t := (.array .long)) (t' := .long) (by decide) (by decide))))
  have fc11 := (P3_6.other W8 (Or.inr (slot_ne (Or.inl (ww hw 31 rfl)) (Or.inl (ww hw 74 rfl)) (by decide) (t := (.array .long)) (t' := .long) (by decide) (by decide))))
  have fc12 := (P4_6.other W8 (Or.inr (slot_ne (Or.inr (ww hw 33 rfl)) (Or.inl (ww hw 74 rfl)) (by decide) (t := .int) (t' := .long) (by decide) (by decide))))
  have fc13 := (P5_6.other W8 (Or.inr (slot_ne (Or.inl (ww hw 40 rfl)) (Or.inl (ww hw 74 rfl)) (by decide) (t := .int) (t' := .long) (by decide) (by decide))))
  have fc14 := (P6_6.other W8 (Ne.symm ne_o0_b2_7_6))
  have fc15 := (P7_6.other W8 (Ne.symm ne_o0_b2_13_6))
  refine ⟨_, _, ?_, hrun, hended, _, _, rfl, ?_, ⟨_, rfl⟩, hW, hsame.mono (by decide) (by decide)⟩
  · show Steps p.tables e below (s₁.setTop (mkF m 0 #[va o0, vl q0, ss, vl q1, ss, uu, uu, uu, uu, uu, uu, uu, uu] [])) _
    refine XS.lloadN X0.here hx rfl (hb hby d8_0) rfl ?_
    refine XS.lloadN X0.here hx rfl (hb hby d8_1) rfl ?_
    refine st1 _ ?_
    refine XS.aloadN X1.here hx rfl (hb hby d8_5) rfl rfl ?_
    refine XS.lloadN X1.here hx rfl (hb hby d8_6) rfl ?_
    refine XS.lconst X1.here hx rfl (hb hby d8_7) ?_
    refine XS.lcmp X1.here hx rfl (hb hby d8_8) rfl ?_
    refine XS.ifYes X1.here hx rfl (pc0 := 9) (pc' := 16) rfl (hb hby d8_9) rfl (own_lc_eqF hc2).2 (by decide) (by decide) ?_
    show Steps p.tables e below (T1.setTop (mkF m 16 #[va o0, vl q0, ss, vl q1, ss, uu, uu, uu, uu, uu, uu, uu, uu] [(.ref o0)])) _
    refine XS.lloadN X1.here hx rfl (hb hby d8_16) rfl ?_
    refine XS.lconst X1.here hx rfl (hb hby d8_17) ?_
    refine XS.lsub X1.here hx rfl (hb hby d8_18) rfl ?_
    refine st2.trans ?_
    refine XS.istore X2.here hx rfl (hb hby d8_22) rfl (l' := #[va o0, vl q0, ss, vl q1, ss, vi 0, uu, uu, uu, uu, uu, uu, uu]) rfl ?_
    refine XS.iload X2.here hx rfl (hb hby d8_24) rfl ?_
    refine XS.istore X2.here hx rfl (hb hby d8_26) rfl (l' := #[va o0, vl q0, ss, vl q1, ss, vi 0, vi 0, uu, uu, uu, uu, uu, uu]) rfl ?_
    refine XS.iload X2.here hx rfl (hb hby d8_28) rfl ?_
    show Steps p.tables e below (T2.setTop (mkF m 30 #[va o0, vl q0, ss, vl q1, ss, vi 0, vi 0, uu, uu, uu, uu, uu, uu] [(.int 0)])) _
    refine XS.aloadN X2.here hx rfl (hb hby d8_30) rfl rfl ?_
    refine st3 _ ?_
    refine XS.icmpYes X3.here hx rfl (pc0 := 34) (pc' := 57) rfl (hb hby d8_34) rfl (flt (by decide : ¬ ((0 : Int32) < (0 : Int32)))).2.1 (by decide) (by decide) ?_
    refine XS.iinc X3.here hx rfl (hb hby d8_57) rfl (l' := #[va o0, vl q0, ss, vl q1, ss, vi 0, vi ((0 : Int32) + (-1 : Int32)), uu, uu, uu, uu, uu, uu]) rfl ?_
    show Steps p.tables e below (T3.setTop (mkF m 60 #[va o0, vl q0, ss, vl q1, ss, vi 0, vi ((0 : Int32) + (-1 : Int32)), uu, uu, uu, uu, uu, uu] [])) _
    rw [show (((0 : Int32) + (-1 : Int32)) : Int32) = (-1 : Int32) from by decide]
    refine XS.iload X3.here hx rfl (hb hby d8_60) rfl ?_
    refine XS.iload X3.here hx rfl (hb hby d8_62) rfl ?_
    refine XS.icmpNo X3.here hx rfl (hb hby d8_64) rfl (tlt (by decide : (-1 : Int32) < (0 : Int32))).2.1 ?_
    refine XS.aloadN X3.here hx rfl (hb hby d8_67) rfl rfl ?_
    refine st4 _ ?_
    refine XS.aloadN X4.here hx rfl (hb hby d8_71) rfl rfl ?_
    refine st5 _ ?_
    show Steps p.tables e below (T5.setTop (mkF m 75 #[va o0, vl q0, ss, vl q1, ss, vi 0, vi (-1), uu, uu, uu, uu, uu, uu] [(.int 2147483647), (.int 0)])) _
    refine XS.icmpYes X5.here hx rfl (pc0 := 75) (pc' := 80) rfl (hb hby d8_75) rfl (feq (by decide : ¬ ((0 : Int32) = (2147483647 : Int32)))).2 (by decide) (by decide) ?_
    refine XS.aloadN X5.here hx rfl (hb hby d8_80) rfl rfl ?_
    refine XS.iload X5.here hx rfl (hb hby d8_81) rfl ?_
    refine XS.lloadN X5.here hx rfl (hb hby d8_83) rfl ?_
    refine XS.lloadN X5.here hx rfl (hb hby d8_84) rfl ?_
    refine st6.trans ?_
    refine XS.aloadN X6.here hx rfl (hb hby d8_88) rfl rfl ?_
    refine XS.dup X6.here hx rfl (hb hby d8_89) rfl rfl ?_
    show Steps p.tables e below (T6.setTop (mkF m 90 #[va o0, vl q0, ss, vl q1, ss, vi 0, vi (-1), uu, uu, uu, uu, uu, uu] [(.ref o0), (.ref o0)])) _
    refine st7 _ ?_
    refine XS.lloadN X7.here hx rfl (hb hby d8_93) rfl ?_
    refine XS.lloadN X7.here hx rfl (hb hby d8_94) rfl ?_
    refine XS.lsub X7.here hx rfl (hb hby d8_95) rfl ?_
    refine XS.lconst X7.here hx rfl (hb hby d8_96) ?_
    refine XS.ladd X7.here hx rfl (hb hby d8_97) rfl ?_
    refine XS.ladd X7.here hx rfl (hb hby d8_98) rfl ?_
    refine st8 _ ?_
    show Steps p.tables e below (T8.setTop (mkF m 102 #[va o0, vl q0, ss, vl q1, ss, vi 0, vi (-1), uu, uu, uu, uu, uu, uu] [])) _
    refine XS.goto X8.here hx rfl (pc0 := 102) (pc' := 223) rfl (hb hby d8_102) (by decide) (by decide) ?_
    refine XS.iconst X8.here hx rfl (hb hby d8_223) ?_
    exact retN X8 hx (t := .boolean) hrt (by simp) (hb hby d8_224) hr
  · show Q8_0 Z w_NONE o0 q0 q1 h0 n0 (some (.int 1)) T8.heap _
    rw [e8]; exact ⟨b2_7_6, b2_13_6, k2_7_6, k2_13_6, rfl, N8, K8, fc9, Fw8, fc10, fc11, fc12, fc13, fc14, fc15, sz_b2_7_6, sz_b2_13_6, P10_6⟩
theorem d8_12 : decode prog_55_method_8_code 12 = .ok (.lconst 0, 1) := by decide +kernel
theorem d8_13 : decode prog_55_method_8_code 13 = .ok (.goto 6, 3) := by decide +kernel
def Q10_1 (Z : State) (w_NONE : Addr) (o0 : Addr) (h0 : Heap) (n0 : Nat) (v : Option Value) (h : Heap) (L : List Loc) : Prop := v = (some (.int 0)) ∧ Fr n0 L ∧ h = h0
theorem rm10_1 (l : Launch) (Z : State) (a0 : Array Value) (hw : HW Z a0) (ws : List Jvm.Cond) (w_NONE : Addr) (o0 : Addr) (h0 : Heap) (n0 : Nat) (O0 : Old Z n0 h0) (S : SF Z w_NONE) (F_ranges_o0 : Fld Z h0 o0 sC0 "ranges" "I" (.int 0)) :
    Pay l Z My10 ws prog_55_method_19_code 6 (some .int) #[(.ref o0), (.long 0)] h0 ({ frames := 0, cells := 0, slots := 0, locals := 0 } : Room) (Q10_1 Z w_NONE o0 h0 n0) := by
  refine own_body (plainFor_of_name pn_1) (L0 := #[va o0, vl 0, ss, uu, uu, uu]) (fun _ => by first | rfl | (simp [entryFrame, mkF, argsToLocals, Value.category]; done)) ?_
  intro p e s m below meth c s₁ hrt hlk hx hby hml hZ hown0 hnm X0 e0
  have hown : s.vm.findClass sC0 = some m.cls := hown0
  have N0 := Fr.nil n0
  have K0 : Keep h0 h0 [] := Keep.refl _ _
  obtain ⟨T1, X1, e1, st1⟩ := getF X0 hx hZ hown (host := "") (Or.inl (ww hw 39 rfl)) Via.refl e0 F_ranges_o0 (g := (mkF m 3 #[va o0, vl 0, ss, vi 0, uu, uu] [(.ref o0)])) rfl rfl (hb hby d10_3)
  obtain ⟨fs, hr, hrun, hended, hW, hsame⟩ := X1.leave (v := (some (.int 0))) (fun h => by rw [hrt] at h; cases h)
  refine ⟨_, _, ?_, hrun, hended, _, _, rfl, ?_, ⟨_, rfl⟩, hW, hsame.mono (by decide) (by decide)⟩
  · show Steps p.tables e below (s₁.setTop (mkF m 0 #[va o0, vl 0, ss, uu, uu, uu] [])) _
    refine XS.iconst X0.here hx rfl (hb hby d10_0) ?_
    refine XS.istoreN X0.here hx rfl (hb hby d10_1) rfl (l' := #[va o0, vl 0, ss, vi 0, uu, uu]) rfl ?_
    refine XS.aloadN X0.here hx rfl (hb hby d10_2) rfl rfl ?_
    refine st1 _ ?_
    refine XS.istore X1.here hx rfl (hb hby d10_6) rfl (l' := #[va o0, vl 0, ss, vi 0, vi 0, uu]) rfl ?_
    refine XS.iloadN X1.here hx rfl (hb hby d10_8) rfl ?_
    refine XS.iload X1.here hx rfl (hb hby d10_9) rfl ?_
    refine XS.icmpYes X1.here hx rfl (pc0 := 11) (pc' := 49) rfl (hb hby d10_11) rfl (flt (by decide : ¬ ((0 : Int32) < (0 : Int32)))).2.1 (by decide) (by decide) ?_
    show Steps p.tables e below (T1.setTop (mkF m 49 #[va o0, vl 0, ss, vi 0, vi 0, uu] [])) _
    refine XS.iloadN X1.here hx rfl (hb hby d10_49) rfl ?_
    exact retOut X1 hx (t := .int) (i := .ireturn) hrt rfl (Or.inl ⟨rfl, Or.inl rfl, _, rfl⟩) (hb hby d10_50) hr
  · show Q10_1 Z w_NONE o0 h0 n0 (some (.int 0)) T1.heap _
    exact (⟨rfl, N0, e1⟩)
def Q8_1 (Z : State) (w_NONE : Addr) (o0 : Addr) (q0 : Int64) (q1 : Int64) (h0 : Heap) (n0 : Nat) (v : Option Value) (h : Heap) (L : List Loc) : Prop := ∃ (b2_7_6 : Addr), ∃ (b2_13_6 : Addr), ∃ (k2_7_6 : ClassId), ∃ (k2_13_6 : ClassId), v = (some (.int 1)) ∧ Fr n0 L ∧ Keep h0 h [o0] ∧ Exa Z h o0 sC0 ∧ Fld Z h o0 sC0 "count" "J" (.long ((0 : Int64) + ((q1 - q0) + (1 : Int64)))) ∧ Fld Z h o0 sC0 "firsts" "[J" (.ref b2_7_6) ∧ Fld Z h o0 sC0 "lasts" "[J" (.ref b2_13_6) ∧ Fld Z h o0 sC0 "maxRanges" "I" (.int 2147483647) ∧ Fld Z h o0 sC0 "ranges" "I" (.int 1) ∧ Arv Z h b2_7_6 k2_7_6 .long (4 : Int32) [(.long q0), (.long 0), (.long 0), (.long 0)] (.long 0) ∧ Arv Z h b2_13_6 k2_13_6 .long (4 : Int32) [(.long q1), (.long 0), (.long 0), (.long 0)] (.long 0) ∧ h0.size ≤ b2_7_6 ∧ h0.size ≤ b2_13_6 ∧ b2_7_6 ≠ b2_13_6
theorem rm8_1 (l : Launch) (Z : State) (a0 : Array Value) (hw : HW Z a0) (ws : List Jvm.Cond) (w_NONE : Addr) (o0 : Addr) (q0 : Int64) (q1 : Int64) (h0 : Heap) (n0 : Nat) (O0 : Old Z n0 h0) (S : SF Z w_NONE) (E_o0 : Exa Z h0 o0 sC0) (F_count_o0 : Fld Z h0 o0 sC0 "count" "J" (.long 0)) (F_firsts_o0 : Fld Z h0 o0 sC0 "firsts" "[J" (.ref w_NONE)) (F_lasts_o0 : Fld Z h0 o0 sC0 "lasts" "[J" (.ref w_NONE)) (F_maxRanges_o0 : Fld Z h0 o0 sC0 "maxRanges" "I" (.int 2147483647)) (F_ranges_o0 : Fld Z h0 o0 sC0 "ranges" "I" (.int 0)) (g_o0 : n0 ≤ o0) (hc0 : ¬ (q0 < (0 : Int64))) (hc1 : ¬ (q1 < q0)) (hc2 : q0 = (0 : Int64)) :
    Pay l Z My8 ws prog_55_method_8_code 13 (some .boolean) #[(.ref o0), (.long q0), (.long q1)] h0 ({ frames := 3, cells := 2, slots := 8, locals := 51 } : Room) (Q8_1 Z w_NONE o0 q0 q1 h0 n0) := by
  refine own_body (plainFor_of_name pn_1) (L0 := #[va o0, vl q0, ss, vl q1, ss, uu, uu, uu, uu, uu, uu, uu, uu]) (fun _ => by first | rfl | (simp [entryFrame, mkF, argsToLocals, Value.category]; done)) ?_
  intro p e s m below meth c s₁ hrt hlk hx hby hml hZ hown0 hnm X0 e0
  have hown : s.vm.findClass sC0 = some m.cls := hown0
  have N0 := Fr.nil n0
  have K0 : Keep h0 h0 [o0] := Keep.refl _ _
  obtain ⟨_, _, ⟨T1, L1, k1, n1⟩, -, X1, ⟨Lc1, hQ1, l1, y1, z1⟩, st1⟩ := Jvm.LawKit.callS X0 hx (y := My9) hown (mvT hZ (ww hw 46 rfl)) (mvT hZ (ww hw 47 rfl)) (mvT hZ (ww hw 15 rfl)) (mvT hZ (ww hw 48 rfl)) (by decide) (backOf (W := 0) (rm9_0 l Z a0 hw [] w_NONE q0 q1 h0 n0 O0 S hc0 hc1) hZ (ww hw 48 rfl) (ww hw 15 rfl) (by decide) (by decide)) (g := (mkF m 2 #[va o0, vl q0, ss, vl q1, ss, uu, uu, uu, uu, uu, uu, uu, uu] [(.long q1), (.long q0)])) rfl (by rw [hml]; rfl) (argsL := [(.long q0), (.long q1)]) (rest := []) (lenOf pd_4 rfl) rfl (by show 2 * 0 + _ ≤ _; exact Nat.le_of_eq rfl) (hb hby d8_2) (fun _ _ => ⟨rfl, e0, (by decide : 0 + 0 ≤ _), (by decide : 0 + 0 ≤ _)⟩)
  dsimp only [Pt.U, Pt.locs, Pt.cells, Pt.slots] at X1 l1 y1 z1 st1 hQ1
  subst l1 y1 z1
  obtain ⟨rfl, Nq1, e1⟩ := hQ1
  have N1 := Fr.app N0 Nq1
  obtain ⟨cq2, qa2, qb2⟩ := E_o0.cell
  obtain ⟨_, _, ⟨T2, L2, k2, n2⟩, -, X2, ⟨Lc2, hQ2, l2, y2, z2⟩, st2⟩ := X1.privateBack hx (y := My10) hown (mvT hZ (ww hw 49 rfl)) (mvT hZ (ww hw 50 rfl)) (own_selp (by decide) (mvT hZ (ww hw 14 rfl)) (mvP hZ (ww hw 51 rfl)) (mvT hZ (ww hw 50 rfl))) (Cond.privateMethod_at (mvP hZ (ww hw 51 rfl) (args := #[]))) (mvT hZ (ww hw 52 rfl)) (by decide) (backOf (W := 0) (rm10_1 l Z a0 hw [] w_NONE o0 h0 n0 O0 S F_ranges_o0) hZ (ww hw 52 rfl) (ww hw 15 rfl) (by decide) (by decide)) (g := (mkF m 19 #[va o0, vl q0, ss, vl q1, ss, uu, uu, uu, uu, uu, uu, uu, uu] [(.long 0), (.ref o0)])) rfl (by rw [hml]; rfl) (Steps.refl _) (a := o0) (by rw [e1]; exact qa2) qb2 (argsL := [(.long 0)]) (rest := []) (lenOf pd_5 rfl) rfl (by show 2 * 0 + _ ≤ _; exact Nat.le_of_eq rfl) (hb hby d8_19) (fun _ _ => ⟨rfl, e1, (by decide : 0 + 0 ≤ _), (by decide : 0 + 0 ≤ _)⟩)
  dsimp only [Pt.U, Pt.locs, Pt.cells, Pt.slots] at X2 l2 y2 z2 st2 hQ2
  subst l2 y2 z2
  obtain ⟨rfl, Nq2, e2⟩ := hQ2
  have N2 := Fr.app N1 Nq2
  obtain ⟨T3, X3, e3, st3⟩ := getF X2 hx hZ hown (host := "") (Or.inl (ww hw 39 rfl)) Via.refl e2 F_ranges_o0 (g := (mkF m 31 #[va o0, vl q0, ss, vl q1, ss, vi 0, vi 0, uu, uu, uu, uu, uu, uu] [(.ref o0), (.int 0)])) rfl rfl (hb hby d8_31)
  obtain ⟨T4, X4, e4, st4⟩ := getF X3 hx hZ hown (host := "") (Or.inl (ww hw 39 rfl)) Via.refl e3 F_ranges_o0 (g := (mkF m 68 #[va o0, vl q0, ss, vl q1, ss, vi 0, vi (-1), uu, uu, uu, uu, uu, uu] [(.ref o0)])) rfl rfl (hb hby d8_68)
  obtain ⟨T5, X5, e5, st5⟩ := getF X4 hx hZ hown (host := "") (Or.inl (ww hw 32 rfl)) Via.refl e4 F_maxRanges_o0 (g := (mkF m 72 #[va o0, vl q0, ss, vl q1, ss, vi 0, vi (-1), uu, uu, uu, uu, uu, uu] [(.ref o0), (.int 0)])) rfl rfl (hb hby d8_72)
  obtain ⟨cq6, qa6, qb6⟩ := E_o0.cell
  obtain ⟨_, _, ⟨T6, L6, k6, n6⟩, -, X6, ⟨Lc6, hQ6, l6, y6, z6⟩, st6⟩ := X5.privateBack hx (y := My11) hown (mvT hZ (ww hw 53 rfl)) (mvT hZ (ww hw 54 rfl)) (own_selp (by decide) (mvT hZ (ww hw 14 rfl)) (mvP hZ (ww hw 55 rfl)) (mvT hZ (ww hw 54 rfl))) (Cond.privateMethod_at (mvP hZ (ww hw 55 rfl) (args := #[]))) (mvT hZ (ww hw 56 rfl)) (by decide) (backOf (W := 0) (rm11_0 l Z a0 hw [] w_NONE o0 q0 q1 h0 n0 O0 S E_o0 F_count_o0 F_firsts_o0 F_lasts_o0 F_maxRanges_o0 F_ranges_o0 g_o0) hZ (ww hw 56 rfl) (ww hw 15 rfl) (by decide) (by decide)) (g := (mkF m 85 #[va o0, vl q0, ss, vl q1, ss, vi 0, vi (-1), uu, uu, uu, uu, uu, uu] [(.long q1), (.long q0), (.int 0), (.ref o0)])) rfl (by rw [hml]; rfl) (Steps.refl _) (a := o0) (by rw [e5]; exact qa6) qb6 (argsL := [(.int 0), (.long q0), (.long q1)]) (rest := []) (lenOf pd_8 rfl) rfl (by show 2 * 0 + _ ≤ _; exact Nat.le_of_eq rfl) (hb hby d8_85) (fun _ _ => ⟨rfl, e5, (by decide : 0 + 2 ≤ _), (by decide : 0 + 8 ≤ _)⟩)
  dsimp only [Pt.U, Pt.locs, Pt.cells, Pt.slots] at X6 l6 y6 z6 st6 hQ6
  subst l6 y6 z6
  obtain ⟨b2_7_6, b2_13_6, k2_7_6, k2_13_6, rfl, Nq6, Kc6, P0_6, P1_6, P2_6, P3_6, P4_6, P5_6, P6_6, P7_6, P8_6, P9_6, P10_6⟩ := hQ6
  have N6 := Fr.app N2 Nq6
  have ne_o0_b2_7_6 : o0 ≠ b2_7_6 := Nat.ne_of_lt (Nat.lt_of_lt_of_le E_o0.lt P8_6)
  have ne_o0_b2_13_6 : o0 ≠ b2_13_6 := Nat.ne_of_lt (Nat.lt_of_lt_of_le E_o0.lt P9_6)
  have g_b2_7_6 : n0 ≤ b2_7_6 := Nat.le_trans (own_old O0) P8_6
  have sz_b2_7_6 : h0.size ≤ b2_7_6 := Nat.le_trans K0.1 P8_6
  have g_b2_13_6 : n0 ≤ b2_13_6 := Nat.le_trans (own_old O0) P9_6
  have sz_b2_13_6 : h0.size ≤ b2_13_6 := Nat.le_trans K0.1 P9_6
  have O6 := O0.keep Kc6 (allS g_o0 all0)
  have K6 : Keep h0 T6.heap [o0] := K0.trans Kc6 (allS (Or.inl (List.mem_of_getElem? (i := 0) rfl)) all0)
  obtain ⟨T7, X7, e7, st7⟩ := getF X6 hx hZ hown (host := "") (Or.inl (ww hw 73 rfl)) Via.refl rfl P1_6 (g := (mkF m 90 #[va o0, vl q0, ss, vl q1, ss, vi 0, vi (-1), uu, uu, uu, uu, uu, uu] [(.ref o0), (.ref o0)])) rfl rfl (hb hby d8_90)
  obtain ⟨T8, h8, X8, e8, W8, st8⟩ := putF X7 hx hZ hown (host := "") (Or.inl (ww hw 73 rfl)) Via.refl e7 P1_6 P0_6 (Or.inl (ww hw 74 rfl)) (ww hw 14 rfl) (ty := .long) (by decide) rfl rfl (g := (mkF m 99 #[va o0, vl q0, ss, vl q1, ss, vi 0, vi (-1), uu, uu, uu, uu, uu, uu] [(.long ((0 : Int64) + ((q1 - q0) + (1 : Int64)))), (.ref o0)])) rfl rfl (hb hby d8_99)
  have Fw8 := P1_6.same W8
  have O8 := O6.wr W8 g_o0
  have K8 : Keep h0 h8 [o0] := K6.wr W8 (Or.inl (List.mem_of_getElem? (i := 0) rfl))
  have N8 := Fr.snoc X8 N6 g_o0
  obtain ⟨fs, hr, hrun, hended, hW, hsame⟩ := X8.leave (v := (some (.int 1))) (fun h => by rw [hrt] at h; cases h)
  have fc9 := (P0_6.wr W8)
  have fc10 := (P2_6.other W8 (Or.inr (slot_ne (Or.inl (ww hw 29 rfl)) (Or.inl (ww hw 74 rfl)) (by decide) (t := (.array .long)) (t' := .long) (by decide) (by decide))))
  have fc11 := (P3_6.other W8 (Or.inr (slot_ne (Or.inl (ww hw 31 rfl)) (Or.inl (ww hw 74 rfl)) (by decide) (t := (.array .long)) (t' := .long) (by decide) (by decide))))
  have fc12 := (P4_6.other W8 (Or.inr (slot_ne (Or.inr (ww hw 33 rfl)) (Or.inl (ww hw 74 rfl)) (by decide) (t := .int) (t' := .long) (by decide) (by decide))))
  have fc13 := (P5_6.other W8 (Or.inr (slot_ne (Or.inl (ww hw 40 rfl)) (Or.inl (ww hw 74 rfl)) (by decide) (t := .int) (t' := .long) (by decide) (by decide))))
  have fc14 := (P6_6.other W8 (Ne.symm ne_o0_b2_7_6))
  have fc15 := (P7_6.other W8 (Ne.symm ne_o0_b2_13_6))
  refine ⟨_, _, ?_, hrun, hended, _, _, rfl, ?_, ⟨_, rfl⟩, hW, hsame.mono (by decide) (by decide)⟩
  · show Steps p.tables e below (s₁.setTop (mkF m 0 #[va o0, vl q0, ss, vl q1, ss, uu, uu, uu, uu, uu, uu, uu, uu] [])) _
    refine XS.lloadN X0.here hx rfl (hb hby d8_0) rfl ?_
    refine XS.lloadN X0.here hx rfl (hb hby d8_1) rfl ?_
    refine st1 _ ?_
    refine XS.aloadN X1.here hx rfl (hb hby d8_5) rfl rfl ?_
    refine XS.lloadN X1.here hx rfl (hb hby d8_6) rfl ?_
    refine XS.lconst X1.here hx rfl (hb hby d8_7) ?_
    refine XS.lcmp X1.here hx rfl (hb hby d8_8) rfl ?_
    refine XS.ifNo X1.here hx rfl (hb hby d8_9) rfl (own_lc_eqT hc2).2 ?_
    show Steps p.tables e below (T1.setTop (mkF m 12 #[va o0, vl q0, ss, vl q1, ss, uu, uu, uu, uu, uu, uu, uu, uu] [(.ref o0)])) _
    refine XS.lconst X1.here hx rfl (hb hby d8_12) ?_
    refine XS.goto X1.here hx rfl (pc0 := 13) (pc' := 19) rfl (hb hby d8_13) (by decide) (by decide) ?_
    refine st2.trans ?_
    refine XS.istore X2.here hx rfl (hb hby d8_22) rfl (l' := #[va o0, vl q0, ss, vl q1, ss, vi 0, uu, uu, uu, uu, uu, uu, uu]) rfl ?_
    refine XS.iload X2.here hx rfl (hb hby d8_24) rfl ?_
    refine XS.istore X2.here hx rfl (hb hby d8_26) rfl (l' := #[va o0, vl q0, ss, vl q1, ss, vi 0, vi 0, uu, uu, uu, uu, uu, uu]) rfl ?_
    refine XS.iload X2.here hx rfl (hb hby d8_28) rfl ?_
    refine XS.aloadN X2.here hx rfl (hb hby d8_30) rfl rfl ?_
    show Steps p.tables e below (T2.setTop (mkF m 31 #[va o0, vl q0, ss, vl q1, ss, vi 0, vi 0, uu, uu, uu, uu, uu, uu] [(.ref o0), (.int 0)])) _
    refine st3 _ ?_
    refine XS.icmpYes X3.here hx rfl (pc0 := 34) (pc' := 57) rfl (hb hby d8_34) rfl (flt (by decide : ¬ ((0 : Int32) < (0 : Int32)))).2.1 (by decide) (by decide) ?_
    refine XS.iinc X3.here hx rfl (hb hby d8_57) rfl (l' := #[va o0, vl q0, ss, vl q1, ss, vi 0, vi ((0 : Int32) + (-1 : Int32)), uu, uu, uu, uu, uu, uu]) rfl ?_
    show Steps p.tables e below (T3.setTop (mkF m 60 #[va o0, vl q0, ss, vl q1, ss, vi 0, vi ((0 : Int32) + (-1 : Int32)), uu, uu, uu, uu, uu, uu] [])) _
    rw [show (((0 : Int32) + (-1 : Int32)) : Int32) = (-1 : Int32) from by decide]
    refine XS.iload X3.here hx rfl (hb hby d8_60) rfl ?_
    refine XS.iload X3.here hx rfl (hb hby d8_62) rfl ?_
    refine XS.icmpNo X3.here hx rfl (hb hby d8_64) rfl (tlt (by decide : (-1 : Int32) < (0 : Int32))).2.1 ?_
    refine XS.aloadN X3.here hx rfl (hb hby d8_67) rfl rfl ?_
    refine st4 _ ?_
    refine XS.aloadN X4.here hx rfl (hb hby d8_71) rfl rfl ?_
    refine st5 _ ?_
    show Steps p.tables e below (T5.setTop (mkF m 75 #[va o0, vl q0, ss, vl q1, ss, vi 0, vi (-1), uu, uu, uu, uu, uu, uu] [(.int 2147483647), (.int 0)])) _
    refine XS.icmpYes X5.here hx rfl (pc0 := 75) (pc' := 80) rfl (hb hby d8_75) rfl (feq (by decide : ¬ ((0 : Int32) = (2147483647 : Int32)))).2 (by decide) (by decide) ?_
    refine XS.aloadN X5.here hx rfl (hb hby d8_80) rfl rfl ?_
    refine XS.iload X5.here hx rfl (hb hby d8_81) rfl ?_
    refine XS.lloadN X5.here hx rfl (hb hby d8_83) rfl ?_
    refine XS.lloadN X5.here hx rfl (hb hby d8_84) rfl ?_
    refine st6.trans ?_
    refine XS.aloadN X6.here hx rfl (hb hby d8_88) rfl rfl ?_
    refine XS.dup X6.here hx rfl (hb hby d8_89) rfl rfl ?_
    show Steps p.tables e below (T6.setTop (mkF m 90 #[va o0, vl q0, ss, vl q1, ss, vi 0, vi (-1), uu, uu, uu, uu, uu, uu] [(.ref o0), (.ref o0)])) _
    refine st7 _ ?_
    refine XS.lloadN X7.here hx rfl (hb hby d8_93) rfl ?_
    refine XS.lloadN X7.here hx rfl (hb hby d8_94) rfl ?_
    refine XS.lsub X7.here hx rfl (hb hby d8_95) rfl ?_
    refine XS.lconst X7.here hx rfl (hb hby d8_96) ?_
    refine XS.ladd X7.here hx rfl (hb hby d8_97) rfl ?_
    refine XS.ladd X7.here hx rfl (hb hby d8_98) rfl ?_
    refine st8 _ ?_
    show Steps p.tables e below (T8.setTop (mkF m 102 #[va o0, vl q0, ss, vl q1, ss, vi 0, vi (-1), uu, uu, uu, uu, uu, uu] [])) _
    refine XS.goto X8.here hx rfl (pc0 := 102) (pc' := 223) rfl (hb hby d8_102) (by decide) (by decide) ?_
    refine XS.iconst X8.here hx rfl (hb hby d8_223) ?_
    exact retN X8 hx (t := .boolean) hrt (by simp) (hb hby d8_224) hr
  · show Q8_1 Z w_NONE o0 q0 q1 h0 n0 (some (.int 1)) T8.heap _
    rw [e8]; exact ⟨b2_7_6, b2_13_6, k2_7_6, k2_13_6, rfl, N8, K8, fc9, Fw8, fc10, fc11, fc12, fc13, fc14, fc15, sz_b2_7_6, sz_b2_13_6, P10_6⟩
theorem pd_9 : parseMethodDescriptor "(JJ)Z" = some ⟨[.long, .long], some .boolean⟩ := by decide +kernel
theorem d15_0 : decode method_3_code 0 = .ok (.iload 4, 2) := by decide +kernel
theorem d15_2 : decode method_3_code 2 = .ok (.ifCond .ne 7, 3) := by decide +kernel
theorem d15_5 : decode method_3_code 5 = .ok (.lload_n 2, 1) := by decide +kernel
theorem d15_6 : decode method_3_code 6 = .ok (.lconst 1, 1) := by decide +kernel
theorem d15_7 : decode method_3_code 7 = .ok (.ladd, 1) := by decide +kernel
theorem d15_8 : decode method_3_code 8 = .ok (.lreturn, 1) := by decide +kernel
def Q15_0 (Z : State) (w_NONE : Addr) (q0 : Int64) (q1 : Int64) (q3 : Int64) (h0 : Heap) (n0 : Nat) (v : Option Value) (h : Heap) (L : List Loc) : Prop := v = (some (.long (q1 + (1 : Int64)))) ∧ Fr n0 L ∧ h = h0
theorem rm15_0 (l : Launch) (Z : State) (a0 : Array Value) (hw : HW Z a0) (ws : List Jvm.Cond) (w_NONE : Addr) (q0 : Int64) (q1 : Int64) (q3 : Int64) (h0 : Heap) (n0 : Nat) (O0 : Old Z n0 h0) (S : SF Z w_NONE) :
    Pay l Z My15 ws method_3_code 7 (some .long) #[(.long q0), (.long q1), (.int 0), (.long q3)] h0 ({ frames := 0, cells := 0, slots := 0, locals := 0 } : Room) (Q15_0 Z w_NONE q0 q1 q3 h0 n0) := by
  refine own_body (plainFor_of_name pn_0) (L0 := #[vl q0, ss, vl q1, ss, vi 0, vl q3, ss]) (fun _ => by first | rfl | (simp [entryFrame, mkF, argsToLocals, Value.category]; done)) ?_
  intro p e s m below meth c s₁ hrt hlk hx hby hml hZ hown0 hnm X0 e0
  have hown : s.vm.findClass sC1 = some m.cls := hown0
  have N0 := Fr.nil n0
  have K0 : Keep h0 h0 [] := Keep.refl _ _
  obtain ⟨fs, hr, hrun, hended, hW, hsame⟩ := X0.leave (v := (some (.long (q1 + (1 : Int64))))) (fun h => by rw [hrt] at h; cases h)
  refine ⟨_, _, ?_, hrun, hended, _, _, rfl, ?_, ⟨_, rfl⟩, hW, hsame.mono (by decide) (by decide)⟩
  · show Steps p.tables e below (s₁.setTop (mkF m 0 #[vl q0, ss, vl q1, ss, vi 0, vl q3, ss] [])) _
    refine XS.iload X0.here hx rfl (hb hby d15_0) rfl ?_
    refine XS.ifNo X0.here hx rfl (hb hby d15_2) rfl ((if0 _ _).trans (teq (by decide : (0 : Int32) = (0 : Int32))).2) ?_
    refine XS.lloadN X0.here hx rfl (hb hby d15_5) rfl ?_
    refine XS.lconst X0.here hx rfl (hb hby d15_6) ?_
    refine XS.ladd X0.here hx rfl (hb hby d15_7) rfl ?_
    exact retOut X0 hx (t := .long) (i := .lreturn) hrt rfl (Or.inr (Or.inl ⟨rfl, rfl, _, rfl⟩)) (hb hby d15_8) hr
  · show Q15_0 Z w_NONE q0 q1 q3 h0 n0 (some (.long (q1 + (1 : Int64)))) s₁.heap _
    exact (⟨rfl, N0, e0⟩)
def Qm15_0 (Z : State) (w_NONE : Addr) (q0 : Int64) (q1 : Int64) (q3 : Int64) (h0 : Heap) (n0 : Nat) (v : Option Value) (h : Heap) (L : List Loc) : Prop := v = (some (.long (own_part0 q0 q1 q3))) ∧ Fr n0 L ∧ h = h0
theorem mg15_0 (l : Launch) (Z : State) (a0 : Array Value) (hw : HW Z a0) (ws : List Jvm.Cond) (w_NONE : Addr) (q0 : Int64) (q1 : Int64) (q3 : Int64) (h0 : Heap) (n0 : Nat) (O0 : Old Z n0 h0) (S : SF Z w_NONE) :
    Pay l Z My15 ws method_3_code 7 (some .long) #[(.long q0), (.long q1), (.int 0), (.long q3)] h0 ({ frames := 0, cells := 0, slots := 0, locals := 0 } : Room) (Qm15_0 Z w_NONE q0 q1 q3 h0 n0) := by
  have q := rm15_0 l Z a0 hw ws w_NONE q0 q1 q3 h0 n0 O0 S 
  have e : (own_part0 q0 q1 q3) = (q1 + (1 : Int64)) := by simp [own_part0]
  rw [show (Qm15_0 Z w_NONE q0 q1 q3 h0 n0) = (Q15_0 Z w_NONE q0 q1 q3 h0 n0) from by funext v h L; unfold Qm15_0 Q15_0; rw [e]]; exact q
theorem pd_10 : parseMethodDescriptor "(JJZJ)J" = some ⟨[.long, .long, .boolean, .long], some .long⟩ := by decide +kernel
theorem d10_14 : decode prog_55_method_19_code 14 = .ok (.iload_n 3, 1) := by decide +kernel
theorem d10_15 : decode prog_55_method_19_code 15 = .ok (.iload 4, 2) := by decide +kernel
theorem d10_17 : decode prog_55_method_19_code 17 = .ok (.iadd, 1) := by decide +kernel
theorem d10_18 : decode prog_55_method_19_code 18 = .ok (.iconst 1, 1) := by decide +kernel
theorem d10_19 : decode prog_55_method_19_code 19 = .ok (.iushr, 1) := by decide +kernel
theorem d10_20 : decode prog_55_method_19_code 20 = .ok (.istore 5, 2) := by decide +kernel
theorem d10_22 : decode prog_55_method_19_code 22 = .ok (.aload_n 0, 1) := by decide +kernel
theorem d10_23 : decode prog_55_method_19_code 23 = .ok (.getfield 22, 3) := by decide +kernel
theorem d10_26 : decode prog_55_method_19_code 26 = .ok (.iload 5, 2) := by decide +kernel
theorem d10_28 : decode prog_55_method_19_code 28 = .ok (.laload, 1) := by decide +kernel
theorem d10_29 : decode prog_55_method_19_code 29 = .ok (.lload_n 1, 1) := by decide +kernel
theorem d10_30 : decode prog_55_method_19_code 30 = .ok (.lcmp, 1) := by decide +kernel
theorem d10_31 : decode prog_55_method_19_code 31 = .ok (.ifCond .ge 11, 3) := by decide +kernel
theorem d10_42 : decode prog_55_method_19_code 42 = .ok (.iload 5, 2) := by decide +kernel
theorem d10_44 : decode prog_55_method_19_code 44 = .ok (.istore 4, 2) := by decide +kernel
theorem d10_46 : decode prog_55_method_19_code 46 = .ok (.goto (-38), 3) := by decide +kernel
def Q10_2 (Z : State) (w_NONE : Addr) (o0 : Addr) (o1 : Addr) (o2 : Addr) (kk_o1 : ClassId) (kk_o2 : ClassId) (q3 : Int64) (q0 : Int64) (q1 : Int64) (q2 : Int64) (h0 : Heap) (n0 : Nat) (v : Option Value) (h : Heap) (L : List Loc) : Prop := v = (some (.int 0)) ∧ Fr n0 L ∧ h = h0
theorem rm10_2 (l : Launch) (Z : State) (a0 : Array Value) (hw : HW Z a0) (ws : List Jvm.Cond) (w_NONE : Addr) (o0 : Addr) (o1 : Addr) (o2 : Addr) (kk_o1 : ClassId) (kk_o2 : ClassId) (q3 : Int64) (q0 : Int64) (q1 : Int64) (q2 : Int64) (h0 : Heap) (n0 : Nat) (O0 : Old Z n0 h0) (S : SF Z w_NONE) (F_lasts_o0 : Fld Z h0 o0 sC0 "lasts" "[J" (.ref o2)) (F_ranges_o0 : Fld Z h0 o0 sC0 "ranges" "I" (.int 1)) (V_o2 : Arv Z h0 o2 kk_o2 .long (4 : Int32) [(.long q2), (.long 0), (.long 0), (.long 0)] (.long 0)) (hc0 : ¬ (q2 < q3)) :
    Pay l Z My10 ws prog_55_method_19_code 6 (some .int) #[(.ref o0), (.long q3)] h0 ({ frames := 0, cells := 0, slots := 0, locals := 0 } : Room) (Q10_2 Z w_NONE o0 o1 o2 kk_o1 kk_o2 q3 q0 q1 q2 h0 n0) := by
  refine own_body (plainFor_of_name pn_1) (L0 := #[va o0, vl q3, ss, uu, uu, uu]) (fun _ => by first | rfl | (simp [entryFrame, mkF, argsToLocals, Value.category]; done)) ?_
  intro p e s m below meth c s₁ hrt hlk hx hby hml hZ hown0 hnm X0 e0
  have hown : s.vm.findClass sC0 = some m.cls := hown0
  have N0 := Fr.nil n0
  have K0 : Keep h0 h0 [] := Keep.refl _ _
  obtain ⟨T1, X1, e1, st1⟩ := getF X0 hx hZ hown (host := "") (Or.inl (ww hw 39 rfl)) Via.refl e0 F_ranges_o0 (g := (mkF m 3 #[va o0, vl q3, ss, vi 0, uu, uu] [(.ref o0)])) rfl rfl (hb hby d10_3)
  obtain ⟨T2, X2, e2, st2⟩ := getF X1 hx hZ hown (host := "") (Or.inl (ww hw 30 rfl)) Via.refl e1 F_lasts_o0 (g := (mkF m 23 #[va o0, vl q3, ss, vi 0, vi 1, vi 0] [(.ref o0)])) rfl rfl (hb hby d10_23)
  obtain ⟨cl3, Ar3, qk3, Sz3, Ng3, Hh3, Gg3⟩ := id V_o2
  have hin3_0 : ¬ ((0 : Int32) < 0 ∨ cl3.slots.size ≤ ((0 : Int32)).toNatClampNeg) := inb_of Sz3 ⟨by decide, by decide⟩
  obtain ⟨fs, hr, hrun, hended, hW, hsame⟩ := X2.leave (v := (some (.int 0))) (fun h => by rw [hrt] at h; cases h)
  refine ⟨_, _, ?_, hrun, hended, _, _, rfl, ?_, ⟨_, rfl⟩, hW, hsame.mono (by decide) (by decide)⟩
  · show Steps p.tables e below (s₁.setTop (mkF m 0 #[va o0, vl q3, ss, uu, uu, uu] [])) _
    refine XS.iconst X0.here hx rfl (hb hby d10_0) ?_
    refine XS.istoreN X0.here hx rfl (hb hby d10_1) rfl (l' := #[va o0, vl q3, ss, vi 0, uu, uu]) rfl ?_
    refine XS.aloadN X0.here hx rfl (hb hby d10_2) rfl rfl ?_
    refine st1 _ ?_
    refine XS.istore X1.here hx rfl (hb hby d10_6) rfl (l' := #[va o0, vl q3, ss, vi 0, vi 1, uu]) rfl ?_
    refine XS.iloadN X1.here hx rfl (hb hby d10_8) rfl ?_
    refine XS.iload X1.here hx rfl (hb hby d10_9) rfl ?_
    refine XS.icmpNo X1.here hx rfl (hb hby d10_11) rfl (tlt (by decide : (0 : Int32) < (1 : Int32))).2.1 ?_
    show Steps p.tables e below (T1.setTop (mkF m 14 #[va o0, vl q3, ss, vi 0, vi 1, uu] [])) _
    refine XS.iloadN X1.here hx rfl (hb hby d10_14) rfl ?_
    refine XS.iload X1.here hx rfl (hb hby d10_15) rfl ?_
    refine XS.iadd X1.here hx rfl (hb hby d10_17) rfl ?_
    show Steps p.tables e below (T1.setTop (mkF m 18 #[va o0, vl q3, ss, vi 0, vi 1, uu] [(.int ((0 : Int32) + (1 : Int32)))])) _
    rw [show (((0 : Int32) + (1 : Int32)) : Int32) = (1 : Int32) from by decide]
    refine XS.iconst X1.here hx rfl (hb hby d10_18) ?_
    refine XS.iushr X1.here hx rfl (hb hby d10_19) rfl ?_
    show Steps p.tables e below (T1.setTop (mkF m 20 #[va o0, vl q3, ss, vi 0, vi 1, uu] [(.int (((1 : Int32).toUInt32 >>> ((1 : Int32) &&& 31).toUInt32).toInt32))])) _
    rw [show ((((1 : Int32).toUInt32 >>> ((1 : Int32) &&& 31).toUInt32).toInt32) : Int32) = (0 : Int32) from by decide]
    refine XS.istore X1.here hx rfl (hb hby d10_20) rfl (l' := #[va o0, vl q3, ss, vi 0, vi 1, vi 0]) rfl ?_
    refine XS.aloadN X1.here hx rfl (hb hby d10_22) rfl rfl ?_
    refine st2 _ ?_
    refine XS.iload X2.here hx rfl (hb hby d10_26) rfl ?_
    refine X2.laload hx (j := (0 : Int32)) (v := (.long q2)) (by rw [e2]; exact Ar3.1) (State.isArrayOf_alike hZ.alike Ar3.2.1) Ar3.2.2 hin3_0 (Has.at Hh3 hin3_0 rfl) (g := (mkF m 28 #[va o0, vl q3, ss, vi 0, vi 1, vi 0] [(.int 0), (.ref o2)])) rfl rfl (hb hby d10_28) _ ?_
    refine XS.lloadN X2.here hx rfl (hb hby d10_29) rfl ?_
    refine XS.lcmp X2.here hx rfl (hb hby d10_30) rfl ?_
    show Steps p.tables e below (T2.setTop (mkF m 31 #[va o0, vl q3, ss, vi 0, vi 1, vi 0] [(.int (lcmpW q2 q3))])) _
    refine XS.ifYes X2.here hx rfl (pc0 := 31) (pc' := 42) rfl (hb hby d10_31) rfl (own_lc_ltF hc0).2 (by decide) (by decide) ?_
    refine XS.iload X2.here hx rfl (hb hby d10_42) rfl ?_
    refine XS.istore X2.here hx rfl (hb hby d10_44) rfl (l' := #[va o0, vl q3, ss, vi 0, vi 0, vi 0]) rfl ?_
    refine XS.goto X2.here hx rfl (pc0 := 46) (pc' := 8) rfl (hb hby d10_46) (by decide) (by decide) ?_
    refine XS.iloadN X2.here hx rfl (hb hby d10_8) rfl ?_
    refine XS.iload X2.here hx rfl (hb hby d10_9) rfl ?_
    refine XS.icmpYes X2.here hx rfl (pc0 := 11) (pc' := 49) rfl (hb hby d10_11) rfl (flt (by decide : ¬ ((0 : Int32) < (0 : Int32)))).2.1 (by decide) (by decide) ?_
    refine XS.iloadN X2.here hx rfl (hb hby d10_49) rfl ?_
    show Steps p.tables e below (T2.setTop (mkF m 50 #[va o0, vl q3, ss, vi 0, vi 0, vi 0] [(.int 0)])) _
    exact retOut X2 hx (t := .int) (i := .ireturn) hrt rfl (Or.inl ⟨rfl, Or.inl rfl, _, rfl⟩) (hb hby d10_50) hr
  · show Q10_2 Z w_NONE o0 o1 o2 kk_o1 kk_o2 q3 q0 q1 q2 h0 n0 (some (.int 0)) T2.heap _
    exact (⟨rfl, N0, e2⟩)
theorem d8_37 : decode prog_55_method_8_code 37 = .ok (.aload_n 0, 1) := by decide +kernel
theorem d8_38 : decode prog_55_method_8_code 38 = .ok (.getfield 19, 3) := by decide +kernel
theorem d8_41 : decode prog_55_method_8_code 41 = .ok (.iload 6, 2) := by decide +kernel
theorem d8_43 : decode prog_55_method_8_code 43 = .ok (.laload, 1) := by decide +kernel
theorem d8_44 : decode prog_55_method_8_code 44 = .ok (.lload_n 3, 1) := by decide +kernel
theorem d8_45 : decode prog_55_method_8_code 45 = .ok (.lconst 1, 1) := by decide +kernel
theorem d8_46 : decode prog_55_method_8_code 46 = .ok (.ladd, 1) := by decide +kernel
theorem d8_47 : decode prog_55_method_8_code 47 = .ok (.lcmp, 1) := by decide +kernel
theorem d8_48 : decode prog_55_method_8_code 48 = .ok (.ifCond .gt 9, 3) := by decide +kernel
theorem d8_51 : decode prog_55_method_8_code 51 = .ok (.iinc 6 1, 3) := by decide +kernel
theorem d8_54 : decode prog_55_method_8_code 54 = .ok (.goto (-26), 3) := by decide +kernel
theorem d8_105 : decode prog_55_method_8_code 105 = .ok (.lconst 0, 1) := by decide +kernel
theorem d8_106 : decode prog_55_method_8_code 106 = .ok (.lstore 7, 2) := by decide +kernel
theorem d8_108 : decode prog_55_method_8_code 108 = .ok (.iload 5, 2) := by decide +kernel
theorem d8_110 : decode prog_55_method_8_code 110 = .ok (.istore 9, 2) := by decide +kernel
theorem d8_112 : decode prog_55_method_8_code 112 = .ok (.iload 9, 2) := by decide +kernel
theorem d8_114 : decode prog_55_method_8_code 114 = .ok (.iload 6, 2) := by decide +kernel
theorem d8_116 : decode prog_55_method_8_code 116 = .ok (.if_icmp .gt 31, 3) := by decide +kernel
theorem d8_119 : decode prog_55_method_8_code 119 = .ok (.lload 7, 2) := by decide +kernel
theorem d8_121 : decode prog_55_method_8_code 121 = .ok (.aload_n 0, 1) := by decide +kernel
theorem d8_122 : decode prog_55_method_8_code 122 = .ok (.getfield 22, 3) := by decide +kernel
theorem d8_125 : decode prog_55_method_8_code 125 = .ok (.iload 9, 2) := by decide +kernel
theorem d8_127 : decode prog_55_method_8_code 127 = .ok (.laload, 1) := by decide +kernel
theorem d8_128 : decode prog_55_method_8_code 128 = .ok (.aload_n 0, 1) := by decide +kernel
theorem d8_129 : decode prog_55_method_8_code 129 = .ok (.getfield 19, 3) := by decide +kernel
theorem d8_132 : decode prog_55_method_8_code 132 = .ok (.iload 9, 2) := by decide +kernel
theorem d8_134 : decode prog_55_method_8_code 134 = .ok (.laload, 1) := by decide +kernel
theorem d8_135 : decode prog_55_method_8_code 135 = .ok (.lsub, 1) := by decide +kernel
theorem d8_136 : decode prog_55_method_8_code 136 = .ok (.lconst 1, 1) := by decide +kernel
theorem d8_137 : decode prog_55_method_8_code 137 = .ok (.ladd, 1) := by decide +kernel
theorem d8_138 : decode prog_55_method_8_code 138 = .ok (.ladd, 1) := by decide +kernel
theorem d8_139 : decode prog_55_method_8_code 139 = .ok (.lstore 7, 2) := by decide +kernel
theorem d8_141 : decode prog_55_method_8_code 141 = .ok (.iinc 9 1, 3) := by decide +kernel
theorem d8_144 : decode prog_55_method_8_code 144 = .ok (.goto (-32), 3) := by decide +kernel
theorem d8_147 : decode prog_55_method_8_code 147 = .ok (.lload_n 1, 1) := by decide +kernel
theorem d8_148 : decode prog_55_method_8_code 148 = .ok (.aload_n 0, 1) := by decide +kernel
theorem d8_149 : decode prog_55_method_8_code 149 = .ok (.getfield 19, 3) := by decide +kernel
theorem d8_152 : decode prog_55_method_8_code 152 = .ok (.iload 5, 2) := by decide +kernel
theorem d8_154 : decode prog_55_method_8_code 154 = .ok (.laload, 1) := by decide +kernel
theorem d8_155 : decode prog_55_method_8_code 155 = .ok (.invokestatic 59, 3) := by decide +kernel
theorem d8_158 : decode prog_55_method_8_code 158 = .ok (.lstore 9, 2) := by decide +kernel
theorem d8_160 : decode prog_55_method_8_code 160 = .ok (.lload_n 3, 1) := by decide +kernel
theorem d8_161 : decode prog_55_method_8_code 161 = .ok (.aload_n 0, 1) := by decide +kernel
theorem d8_162 : decode prog_55_method_8_code 162 = .ok (.getfield 22, 3) := by decide +kernel
theorem d8_165 : decode prog_55_method_8_code 165 = .ok (.iload 6, 2) := by decide +kernel
theorem d8_167 : decode prog_55_method_8_code 167 = .ok (.laload, 1) := by decide +kernel
theorem d8_168 : decode prog_55_method_8_code 168 = .ok (.invokestatic 65, 3) := by decide +kernel
theorem d8_171 : decode prog_55_method_8_code 171 = .ok (.lstore 11, 2) := by decide +kernel
theorem d8_173 : decode prog_55_method_8_code 173 = .ok (.aload_n 0, 1) := by decide +kernel
theorem d8_174 : decode prog_55_method_8_code 174 = .ok (.getfield 19, 3) := by decide +kernel
theorem d8_177 : decode prog_55_method_8_code 177 = .ok (.iload 5, 2) := by decide +kernel
theorem d8_179 : decode prog_55_method_8_code 179 = .ok (.lload 9, 2) := by decide +kernel
theorem d8_181 : decode prog_55_method_8_code 181 = .ok (.lastore, 1) := by decide +kernel
theorem d8_182 : decode prog_55_method_8_code 182 = .ok (.aload_n 0, 1) := by decide +kernel
theorem d8_183 : decode prog_55_method_8_code 183 = .ok (.getfield 22, 3) := by decide +kernel
theorem d8_186 : decode prog_55_method_8_code 186 = .ok (.iload 5, 2) := by decide +kernel
theorem d8_188 : decode prog_55_method_8_code 188 = .ok (.lload 11, 2) := by decide +kernel
theorem d8_190 : decode prog_55_method_8_code 190 = .ok (.lastore, 1) := by decide +kernel
theorem d8_191 : decode prog_55_method_8_code 191 = .ok (.aload_n 0, 1) := by decide +kernel
theorem d8_192 : decode prog_55_method_8_code 192 = .ok (.iload 5, 2) := by decide +kernel
theorem d8_194 : decode prog_55_method_8_code 194 = .ok (.iconst 1, 1) := by decide +kernel
theorem d8_195 : decode prog_55_method_8_code 195 = .ok (.iadd, 1) := by decide +kernel
theorem d8_196 : decode prog_55_method_8_code 196 = .ok (.iload 6, 2) := by decide +kernel
theorem d8_198 : decode prog_55_method_8_code 198 = .ok (.iload 5, 2) := by decide +kernel
theorem d8_200 : decode prog_55_method_8_code 200 = .ok (.isub, 1) := by decide +kernel
theorem d8_201 : decode prog_55_method_8_code 201 = .ok (.invokevirtual 68, 3) := by decide +kernel
theorem d16_0 : decode prog_55_method_22_code 0 = .ok (.aload_n 0, 1) := by decide +kernel
theorem d16_1 : decode prog_55_method_22_code 1 = .ok (.getfield 19, 3) := by decide +kernel
theorem d16_4 : decode prog_55_method_22_code 4 = .ok (.iload_n 1, 1) := by decide +kernel
theorem d16_5 : decode prog_55_method_22_code 5 = .ok (.iload_n 2, 1) := by decide +kernel
theorem d16_6 : decode prog_55_method_22_code 6 = .ok (.iadd, 1) := by decide +kernel
theorem d16_7 : decode prog_55_method_22_code 7 = .ok (.aload_n 0, 1) := by decide +kernel
theorem d16_8 : decode prog_55_method_22_code 8 = .ok (.getfield 19, 3) := by decide +kernel
theorem d16_11 : decode prog_55_method_22_code 11 = .ok (.iload_n 1, 1) := by decide +kernel
theorem d16_12 : decode prog_55_method_22_code 12 = .ok (.aload_n 0, 1) := by decide +kernel
theorem d16_13 : decode prog_55_method_22_code 13 = .ok (.getfield 34, 3) := by decide +kernel
theorem d16_16 : decode prog_55_method_22_code 16 = .ok (.iload_n 1, 1) := by decide +kernel
theorem d16_17 : decode prog_55_method_22_code 17 = .ok (.isub, 1) := by decide +kernel
theorem d16_18 : decode prog_55_method_22_code 18 = .ok (.iload_n 2, 1) := by decide +kernel
theorem d16_19 : decode prog_55_method_22_code 19 = .ok (.isub, 1) := by decide +kernel
theorem d16_20 : decode prog_55_method_22_code 20 = .ok (.invokestatic 89, 3) := by decide +kernel
theorem d16_23 : decode prog_55_method_22_code 23 = .ok (.aload_n 0, 1) := by decide +kernel
theorem d16_24 : decode prog_55_method_22_code 24 = .ok (.getfield 22, 3) := by decide +kernel
theorem d16_27 : decode prog_55_method_22_code 27 = .ok (.iload_n 1, 1) := by decide +kernel
theorem d16_28 : decode prog_55_method_22_code 28 = .ok (.iload_n 2, 1) := by decide +kernel
theorem d16_29 : decode prog_55_method_22_code 29 = .ok (.iadd, 1) := by decide +kernel
theorem d16_30 : decode prog_55_method_22_code 30 = .ok (.aload_n 0, 1) := by decide +kernel
theorem d16_31 : decode prog_55_method_22_code 31 = .ok (.getfield 22, 3) := by decide +kernel
theorem d16_34 : decode prog_55_method_22_code 34 = .ok (.iload_n 1, 1) := by decide +kernel
theorem d16_35 : decode prog_55_method_22_code 35 = .ok (.aload_n 0, 1) := by decide +kernel
theorem d16_36 : decode prog_55_method_22_code 36 = .ok (.getfield 34, 3) := by decide +kernel
theorem d16_39 : decode prog_55_method_22_code 39 = .ok (.iload_n 1, 1) := by decide +kernel
theorem d16_40 : decode prog_55_method_22_code 40 = .ok (.isub, 1) := by decide +kernel
theorem d16_41 : decode prog_55_method_22_code 41 = .ok (.iload_n 2, 1) := by decide +kernel
theorem d16_42 : decode prog_55_method_22_code 42 = .ok (.isub, 1) := by decide +kernel
theorem d16_43 : decode prog_55_method_22_code 43 = .ok (.invokestatic 89, 3) := by decide +kernel
theorem d16_46 : decode prog_55_method_22_code 46 = .ok (.aload_n 0, 1) := by decide +kernel
theorem d16_47 : decode prog_55_method_22_code 47 = .ok (.dup, 1) := by decide +kernel
theorem d16_48 : decode prog_55_method_22_code 48 = .ok (.getfield 34, 3) := by decide +kernel
theorem d16_51 : decode prog_55_method_22_code 51 = .ok (.iload_n 2, 1) := by decide +kernel
theorem d16_52 : decode prog_55_method_22_code 52 = .ok (.isub, 1) := by decide +kernel
theorem d16_53 : decode prog_55_method_22_code 53 = .ok (.putfield 34, 3) := by decide +kernel
theorem d16_56 : decode prog_55_method_22_code 56 = .ok (.return_, 1) := by decide +kernel
def Q16_0 (Z : State) (w_NONE : Addr) (o0 : Addr) (o1 : Addr) (o2 : Addr) (kk_o1 : ClassId) (kk_o2 : ClassId) (q0 : Int64) (q1 : Int64) (q2 : Int64) (h0 : Heap) (n0 : Nat) (v : Option Value) (h : Heap) (L : List Loc) : Prop := v = none ∧ Fr n0 L ∧ Keep h0 h [o1, o2, o0] ∧ Exa Z h o0 sC0 ∧ Fld Z h o0 sC0 "count" "J" (.long q0) ∧ Fld Z h o0 sC0 "firsts" "[J" (.ref o1) ∧ Fld Z h o0 sC0 "lasts" "[J" (.ref o2) ∧ Fld Z h o0 sC0 "maxRanges" "I" (.int 2147483647) ∧ Fld Z h o0 sC0 "ranges" "I" (.int 1) ∧ Arv Z h o1 kk_o1 .long (4 : Int32) [(.long q1), (.long 0), (.long 0), (.long 0)] (.long 0) ∧ Arv Z h o2 kk_o2 .long (4 : Int32) [(.long q2), (.long 0), (.long 0), (.long 0)] (.long 0)
theorem rm16_0 (l : Launch) (Z : State) (a0 : Array Value) (hw : HW Z a0) (ws : List Jvm.Cond) (w_NONE : Addr) (o0 : Addr) (o1 : Addr) (o2 : Addr) (kk_o1 : ClassId) (kk_o2 : ClassId) (q0 : Int64) (q1 : Int64) (q2 : Int64) (h0 : Heap) (n0 : Nat) (O0 : Old Z n0 h0) (S : SF Z w_NONE) (E_o0 : Exa Z h0 o0 sC0) (F_count_o0 : Fld Z h0 o0 sC0 "count" "J" (.long q0)) (F_firsts_o0 : Fld Z h0 o0 sC0 "firsts" "[J" (.ref o1)) (F_lasts_o0 : Fld Z h0 o0 sC0 "lasts" "[J" (.ref o2)) (F_maxRanges_o0 : Fld Z h0 o0 sC0 "maxRanges" "I" (.int 2147483647)) (F_ranges_o0 : Fld Z h0 o0 sC0 "ranges" "I" (.int 1)) (V_o1 : Arv Z h0 o1 kk_o1 .long (4 : Int32) [(.long q1), (.long 0), (.long 0), (.long 0)] (.long 0)) (V_o2 : Arv Z h0 o2 kk_o2 .long (4 : Int32) [(.long q2), (.long 0), (.long 0), (.long 0)] (.long 0)) (ne_o0_o1 : o0 ≠ o1) (ne_o0_o2 : o0 ≠ o2) (ne_o1_o2 : o1 ≠ o2) (g_o0 : n0 ≤ o0) (g_o1 : n0 ≤ o1) (g_o2 : n0 ≤ o2) :
    Pay l Z My16 ws prog_55_method_22_code 3 none #[(.ref o0), (.int 1), (.int 0)] h0 ({ frames := 1, cells := 0, slots := 0, locals := 18 } : Room) (Q16_0 Z w_NONE o0 o1 o2 kk_o1 kk_o2 q0 q1 q2 h0 n0) := by
  refine own_body (plainFor_of_name pn_1) (L0 := #[va o0, vi 1, vi 0]) (fun _ => by first | rfl | (simp [entryFrame, mkF, argsToLocals, Value.category]; done)) ?_
  intro p e s m below meth c s₁ hrt hlk hx hby hml hZ hown0 hnm X0 e0
  have hown : s.vm.findClass sC0 = some m.cls := hown0
  have N0 := Fr.nil n0
  have K0 : Keep h0 h0 [o1, o2, o0] := Keep.refl _ _
  obtain ⟨T1, X1, e1, st1⟩ := getF X0 hx hZ hown (host := "") (Or.inl (ww hw 28 rfl)) Via.refl e0 F_firsts_o0 (g := (mkF m 1 #[va o0, vi 1, vi 0] [(.ref o0)])) rfl rfl (hb hby d16_1)
  obtain ⟨T2, X2, e2, st2⟩ := getF X1 hx hZ hown (host := "") (Or.inl (ww hw 28 rfl)) Via.refl e1 F_firsts_o0 (g := (mkF m 8 #[va o0, vi 1, vi 0] [(.ref o0), (.int 1), (.ref o1)])) rfl rfl (hb hby d16_8)
  obtain ⟨T3, X3, e3, st3⟩ := getF X2 hx hZ hown (host := "") (Or.inl (ww hw 39 rfl)) Via.refl e2 F_ranges_o0 (g := (mkF m 13 #[va o0, vi 1, vi 0] [(.ref o0), (.int 1), (.ref o1), (.int 1), (.ref o1)])) rfl rfl (hb hby d16_13)
  obtain ⟨T4, h4, L4, X4, e4, N4, Kc4, Vc4, st4⟩ := cpA X3 hx hZ hown (ww hw 72 rfl) (ww hw 71 rfl) (ww hw 69 rfl) (ww hw 70 rfl) e3 V_o1 V_o1 (us := []) (Or.inl ⟨rfl, rfl⟩) (sp := (1 : Int32)) (dp := (1 : Int32)) (nn := (0 : Int32)) (by decide) (by decide) (by decide) (by decide) (by decide) rfl (Nat.le_of_ble_eq_true rfl) N0 g_o1 (g := (mkF m 20 #[va o0, vi 1, vi 0] [(.int 0), (.int 1), (.ref o1), (.int 1), (.ref o1)])) rfl (by rw [hml]; rfl) (rest := []) rfl (hb hby d16_20) (by decide) (W := 0) (by show 2 * 0 + _ ≤ _; exact Nat.le_of_eq rfl) (by decide)
  have V4 : Arv Z h4 o1 kk_o1 .long (4 : Int32) [(.long q1), (.long 0), (.long 0), (.long 0)] (.long 0) := Vc4
  have O4 := O0.keep Kc4 (allS g_o1 all0)
  have K4 : Keep h0 h4 [o1, o2, o0] := K0.trans Kc4 (allS (Or.inl (List.mem_of_getElem? (i := 0) rfl)) all0)
  have fc5 := (F_lasts_o0.keep Kc4 (ninS ne_o0_o1 nin0))
  obtain ⟨T6, X6, e6, st6⟩ := getF X4 hx hZ hown (host := "") (Or.inl (ww hw 30 rfl)) Via.refl e4 fc5 (g := (mkF m 24 #[va o0, vi 1, vi 0] [(.ref o0)])) rfl rfl (hb hby d16_24)
  obtain ⟨T7, X7, e7, st7⟩ := getF X6 hx hZ hown (host := "") (Or.inl (ww hw 30 rfl)) Via.refl e6 fc5 (g := (mkF m 31 #[va o0, vi 1, vi 0] [(.ref o0), (.int 1), (.ref o2)])) rfl rfl (hb hby d16_31)
  have fc8 := (F_ranges_o0.keep Kc4 (ninS ne_o0_o1 nin0))
  obtain ⟨T9, X9, e9, st9⟩ := getF X7 hx hZ hown (host := "") (Or.inl (ww hw 39 rfl)) Via.refl e7 fc8 (g := (mkF m 36 #[va o0, vi 1, vi 0] [(.ref o0), (.int 1), (.ref o2), (.int 1), (.ref o2)])) rfl rfl (hb hby d16_36)
  have fc10 := (V_o2.keep Kc4 (ninS (Ne.symm ne_o1_o2) nin0))
  obtain ⟨T11, h11, L11, X11, e11, N11, Kc11, Vc11, st11⟩ := cpA X9 hx hZ hown (ww hw 72 rfl) (ww hw 71 rfl) (ww hw 69 rfl) (ww hw 70 rfl) e9 fc10 fc10 (us := []) (Or.inl ⟨rfl, rfl⟩) (sp := (1 : Int32)) (dp := (1 : Int32)) (nn := (0 : Int32)) (by decide) (by decide) (by decide) (by decide) (by decide) rfl (Nat.le_of_ble_eq_true rfl) N4 g_o2 (g := (mkF m 43 #[va o0, vi 1, vi 0] [(.int 0), (.int 1), (.ref o2), (.int 1), (.ref o2)])) rfl (by rw [hml]; rfl) (rest := []) rfl (hb hby d16_43) (by decide) (W := 0) (by show 2 * 0 + _ ≤ _; exact Nat.le_of_eq rfl) (by decide)
  have V11 : Arv Z h11 o2 kk_o2 .long (4 : Int32) [(.long q2), (.long 0), (.long 0), (.long 0)] (.long 0) := Vc11
  have O11 := O4.keep Kc11 (allS g_o2 all0)
  have K11 : Keep h0 h11 [o1, o2, o0] := K4.trans Kc11 (allS (Or.inl (List.mem_of_getElem? (i := 1) rfl)) all0)
  have fc12 := (fc8.keep Kc11 (ninS ne_o0_o2 nin0))
  obtain ⟨T13, X13, e13, st13⟩ := getF X11 hx hZ hown (host := "") (Or.inl (ww hw 39 rfl)) Via.refl e11 fc12 (g := (mkF m 48 #[va o0, vi 1, vi 0] [(.ref o0), (.ref o0)])) rfl rfl (hb hby d16_48)
  have fc14 := ((E_o0.keep Kc4).keep Kc11)
  obtain ⟨T15, h15, X15, e15, W15, st15⟩ := putF X13 hx hZ hown (host := "") (Or.inl (ww hw 39 rfl)) Via.refl e13 fc12 fc14 (Or.inl (ww hw 40 rfl)) (ww hw 14 rfl) (ty := .int) (by decide) rfl rfl (g := (mkF m 53 #[va o0, vi 1, vi 0] [(.int 1), (.ref o0)])) rfl rfl (hb hby d16_53)
  have Fw15 := fc12.same W15
  have O15 := O11.wr W15 g_o0
  have K15 : Keep h0 h15 [o1, o2, o0] := K11.wr W15 (Or.inl (List.mem_of_getElem? (i := 2) rfl))
  have N15 := Fr.snoc X15 N11 g_o0
  obtain ⟨fs, hr, hrun, hended, hW, hsame⟩ := X15.leave (v := none) (fun _ => rfl)
  have fc16 := (fc14.wr W15)
  have fc17 := (((F_count_o0.keep Kc4 (ninS ne_o0_o1 nin0)).keep Kc11 (ninS ne_o0_o2 nin0)).other W15 (Or.inr (slot_ne (Or.inl (ww hw 74 rfl)) (Or.inl (ww hw 40 rfl)) (by decide) (t := .long) (t' := .int) (by decide) (by decide))))
  have fc18 := (((F_firsts_o0.keep Kc4 (ninS ne_o0_o1 nin0)).keep Kc11 (ninS ne_o0_o2 nin0)).other W15 (Or.inr (slot_ne (Or.inl (ww hw 29 rfl)) (Or.inl (ww hw 40 rfl)) (by decide) (t := (.array .long)) (t' := .int) (by decide) (by decide))))
  have fc19 := ((fc5.keep Kc11 (ninS ne_o0_o2 nin0)).other W15 (Or.inr (slot_ne (Or.inl (ww hw 31 rfl)) (Or.inl (ww hw 40 rfl)) (by decide) (t := (.array .long)) (t' := .int) (by decide) (by decide))))
  have fc20 := (((F_maxRanges_o0.keep Kc4 (ninS ne_o0_o1 nin0)).keep Kc11 (ninS ne_o0_o2 nin0)).other W15 (Or.inr (slot_ne (Or.inr (ww hw 33 rfl)) (Or.inl (ww hw 40 rfl)) (by decide) (t := .int) (t' := .int) (by decide) (by decide))))
  have fc21 := ((V4.keep Kc11 (ninS ne_o1_o2 nin0)).other W15 (Ne.symm ne_o0_o1))
  have fc22 := (V11.other W15 (Ne.symm ne_o0_o2))
  refine ⟨_, _, ?_, hrun, hended, _, _, rfl, ?_, ⟨_, rfl⟩, hW, hsame.mono (by decide) (by decide)⟩
  · show Steps p.tables e below (s₁.setTop (mkF m 0 #[va o0, vi 1, vi 0] [])) _
    refine XS.aloadN X0.here hx rfl (hb hby d16_0) rfl rfl ?_
    refine st1 _ ?_
    refine XS.iloadN X1.here hx rfl (hb hby d16_4) rfl ?_
    refine XS.iloadN X1.here hx rfl (hb hby d16_5) rfl ?_
    refine XS.iadd X1.here hx rfl (hb hby d16_6) rfl ?_
    show Steps p.tables e below (T1.setTop (mkF m 7 #[va o0, vi 1, vi 0] [(.int ((1 : Int32) + (0 : Int32))), (.ref o1)])) _
    rw [show (((1 : Int32) + (0 : Int32)) : Int32) = (1 : Int32) from by decide]
    refine XS.aloadN X1.here hx rfl (hb hby d16_7) rfl rfl ?_
    refine st2 _ ?_
    refine XS.iloadN X2.here hx rfl (hb hby d16_11) rfl ?_
    refine XS.aloadN X2.here hx rfl (hb hby d16_12) rfl rfl ?_
    refine st3 _ ?_
    refine XS.iloadN X3.here hx rfl (hb hby d16_16) rfl ?_
    refine XS.isub X3.here hx rfl (hb hby d16_17) rfl ?_
    show Steps p.tables e below (T3.setTop (mkF m 18 #[va o0, vi 1, vi 0] [(.int ((1 : Int32) - (1 : Int32))), (.int 1), (.ref o1), (.int 1), (.ref o1)])) _
    rw [show (((1 : Int32) - (1 : Int32)) : Int32) = (0 : Int32) from by decide]
    refine XS.iloadN X3.here hx rfl (hb hby d16_18) rfl ?_
    refine XS.isub X3.here hx rfl (hb hby d16_19) rfl ?_
    show Steps p.tables e below (T3.setTop (mkF m 20 #[va o0, vi 1, vi 0] [(.int ((0 : Int32) - (0 : Int32))), (.int 1), (.ref o1), (.int 1), (.ref o1)])) _
    rw [show (((0 : Int32) - (0 : Int32)) : Int32) = (0 : Int32) from by decide]
    refine st4 _ ?_
    refine XS.aloadN X4.here hx rfl (hb hby d16_23) rfl rfl ?_
    refine st6 _ ?_
    refine XS.iloadN X6.here hx rfl (hb hby d16_27) rfl ?_
    refine XS.iloadN X6.here hx rfl (hb hby d16_28) rfl ?_
    refine XS.iadd X6.here hx rfl (hb hby d16_29) rfl ?_
    show Steps p.tables e below (T6.setTop (mkF m 30 #[va o0, vi 1, vi 0] [(.int ((1 : Int32) + (0 : Int32))), (.ref o2)])) _
    rw [show (((1 : Int32) + (0 : Int32)) : Int32) = (1 : Int32) from by decide]
    refine XS.aloadN X6.here hx rfl (hb hby d16_30) rfl rfl ?_
    refine st7 _ ?_
    refine XS.iloadN X7.here hx rfl (hb hby d16_34) rfl ?_
    refine XS.aloadN X7.here hx rfl (hb hby d16_35) rfl rfl ?_
    refine st9 _ ?_
    refine XS.iloadN X9.here hx rfl (hb hby d16_39) rfl ?_
    refine XS.isub X9.here hx rfl (hb hby d16_40) rfl ?_
    show Steps p.tables e below (T9.setTop (mkF m 41 #[va o0, vi 1, vi 0] [(.int ((1 : Int32) - (1 : Int32))), (.int 1), (.ref o2), (.int 1), (.ref o2)])) _
    rw [show (((1 : Int32) - (1 : Int32)) : Int32) = (0 : Int32) from by decide]
    refine XS.iloadN X9.here hx rfl (hb hby d16_41) rfl ?_
    refine XS.isub X9.here hx rfl (hb hby d16_42) rfl ?_
    show Steps p.tables e below (T9.setTop (mkF m 43 #[va o0, vi 1, vi 0] [(.int ((0 : Int32) - (0 : Int32))), (.int 1), (.ref o2), (.int 1), (.ref o2)])) _
    rw [show (((0 : Int32) - (0 : Int32)) : Int32) = (0 : Int32) from by decide]
    refine st11 _ ?_
    refine XS.aloadN X11.here hx rfl (hb hby d16_46) rfl rfl ?_
    refine XS.dup X11.here hx rfl (hb hby d16_47) rfl rfl ?_
    refine st13 _ ?_
    refine XS.iloadN X13.here hx rfl (hb hby d16_51) rfl ?_
    refine XS.isub X13.here hx rfl (hb hby d16_52) rfl ?_
    show Steps p.tables e below (T13.setTop (mkF m 53 #[va o0, vi 1, vi 0] [(.int ((1 : Int32) - (0 : Int32))), (.ref o0)])) _
    rw [show (((1 : Int32) - (0 : Int32)) : Int32) = (1 : Int32) from by decide]
    refine st15 _ ?_
    exact X15.returnOut hx hrt (hb hby d16_56) hr
  · show Q16_0 Z w_NONE o0 o1 o2 kk_o1 kk_o2 q0 q1 q2 h0 n0 none T15.heap _
    rw [e15]; exact ⟨rfl, N15, K15, fc16, fc17, fc18, fc19, fc20, Fw15, fc21, fc22⟩
theorem pd_11 : parseMethodDescriptor "(II)V" = some ⟨[.int, .int], none⟩ := by decide +kernel
theorem d8_204 : decode prog_55_method_8_code 204 = .ok (.aload_n 0, 1) := by decide +kernel
theorem d8_205 : decode prog_55_method_8_code 205 = .ok (.dup, 1) := by decide +kernel
theorem d8_206 : decode prog_55_method_8_code 206 = .ok (.getfield 43, 3) := by decide +kernel
theorem d8_209 : decode prog_55_method_8_code 209 = .ok (.lload 11, 2) := by decide +kernel
theorem d8_211 : decode prog_55_method_8_code 211 = .ok (.lload 9, 2) := by decide +kernel
theorem d8_213 : decode prog_55_method_8_code 213 = .ok (.lsub, 1) := by decide +kernel
theorem d8_214 : decode prog_55_method_8_code 214 = .ok (.lconst 1, 1) := by decide +kernel
theorem d8_215 : decode prog_55_method_8_code 215 = .ok (.ladd, 1) := by decide +kernel
theorem d8_216 : decode prog_55_method_8_code 216 = .ok (.lload 7, 2) := by decide +kernel
theorem d8_218 : decode prog_55_method_8_code 218 = .ok (.lsub, 1) := by decide +kernel
theorem d8_219 : decode prog_55_method_8_code 219 = .ok (.ladd, 1) := by decide +kernel
theorem d8_220 : decode prog_55_method_8_code 220 = .ok (.putfield 43, 3) := by decide +kernel
def Q8_2 (Z : State) (w_NONE : Addr) (o0 : Addr) (o1 : Addr) (o2 : Addr) (kk_o1 : ClassId) (kk_o2 : ClassId) (q3 : Int64) (q4 : Int64) (q0 : Int64) (q1 : Int64) (q2 : Int64) (h0 : Heap) (n0 : Nat) (v : Option Value) (h : Heap) (L : List Loc) : Prop := v = (some (.int 1)) ∧ Fr n0 L ∧ Keep h0 h [o1, o2, o0] ∧ Exa Z h o0 sC0 ∧ Fld Z h o0 sC0 "count" "J" (.long (q0 + ((((own_maxL q4 q2) - (own_minL q3 q1)) + (1 : Int64)) - ((0 : Int64) + ((q2 - q1) + (1 : Int64)))))) ∧ Fld Z h o0 sC0 "firsts" "[J" (.ref o1) ∧ Fld Z h o0 sC0 "lasts" "[J" (.ref o2) ∧ Fld Z h o0 sC0 "maxRanges" "I" (.int 2147483647) ∧ Fld Z h o0 sC0 "ranges" "I" (.int 1) ∧ Arv Z h o1 kk_o1 .long (4 : Int32) [(.long (own_minL q3 q1)), (.long 0), (.long 0), (.long 0)] (.long 0) ∧ Arv Z h o2 kk_o2 .long (4 : Int32) [(.long (own_maxL q4 q2)), (.long 0), (.long 0), (.long 0)] (.long 0)
theorem rm8_2 (l : Launch) (Z : State) (a0 : Array Value) (hw : HW Z a0) (ws : List Jvm.Cond) (w_NONE : Addr) (o0 : Addr) (o1 : Addr) (o2 : Addr) (kk_o1 : ClassId) (kk_o2 : ClassId) (q3 : Int64) (q4 : Int64) (q0 : Int64) (q1 : Int64) (q2 : Int64) (h0 : Heap) (n0 : Nat) (O0 : Old Z n0 h0) (S : SF Z w_NONE) (E_o0 : Exa Z h0 o0 sC0) (F_count_o0 : Fld Z h0 o0 sC0 "count" "J" (.long q0)) (F_firsts_o0 : Fld Z h0 o0 sC0 "firsts" "[J" (.ref o1)) (F_lasts_o0 : Fld Z h0 o0 sC0 "lasts" "[J" (.ref o2)) (F_maxRanges_o0 : Fld Z h0 o0 sC0 "maxRanges" "I" (.int 2147483647)) (F_ranges_o0 : Fld Z h0 o0 sC0 "ranges" "I" (.int 1)) (V_o1 : Arv Z h0 o1 kk_o1 .long (4 : Int32) [(.long q1), (.long 0), (.long 0), (.long 0)] (.long 0)) (V_o2 : Arv Z h0 o2 kk_o2 .long (4 : Int32) [(.long q2), (.long 0), (.long 0), (.long 0)] (.long 0)) (ne_o0_o1 : o0 ≠ o1) (ne_o0_o2 : o0 ≠ o2) (ne_o1_o2 : o1 ≠ o2) (g_o0 : n0 ≤ o0) (g_o1 : n0 ≤ o1) (g_o2 : n0 ≤ o2) (hc0 : ¬ (q3 < (0 : Int64))) (hc1 : ¬ (q4 < q3)) (hc2 : ¬ (q3 = (0 : Int64))) (hc3 : ¬ (q2 < (q3 - (1 : Int64)))) (hc4 : ¬ ((q4 + (1 : Int64)) < q1)) :
    Pay l Z My8 ws prog_55_method_8_code 13 (some .boolean) #[(.ref o0), (.long q3), (.long q4)] h0 ({ frames := 2, cells := 0, slots := 0, locals := 32 } : Room) (Q8_2 Z w_NONE o0 o1 o2 kk_o1 kk_o2 q3 q4 q0 q1 q2 h0 n0) := by
  refine own_body (plainFor_of_name pn_1) (L0 := #[va o0, vl q3, ss, vl q4, ss, uu, uu, uu, uu, uu, uu, uu, uu]) (fun _ => by first | rfl | (simp [entryFrame, mkF, argsToLocals, Value.category]; done)) ?_
  intro p e s m below meth c s₁ hrt hlk hx hby hml hZ hown0 hnm X0 e0
  have hown : s.vm.findClass sC0 = some m.cls := hown0
  have N0 := Fr.nil n0
  have K0 : Keep h0 h0 [o1, o2, o0] := Keep.refl _ _
  obtain ⟨_, _, ⟨T1, L1, k1, n1⟩, -, X1, ⟨Lc1, hQ1, l1, y1, z1⟩, st1⟩ := Jvm.LawKit.callS X0 hx (y := My9) hown (mvT hZ (ww hw 46 rfl)) (mvT hZ (ww hw 47 rfl)) (mvT hZ (ww hw 15 rfl)) (mvT hZ (ww hw 48 rfl)) (by decide) (backOf (W := 0) (rm9_0 l Z a0 hw [] w_NONE q3 q4 h0 n0 O0 S hc0 hc1) hZ (ww hw 48 rfl) (ww hw 15 rfl) (by decide) (by decide)) (g := (mkF m 2 #[va o0, vl q3, ss, vl q4, ss, uu, uu, uu, uu, uu, uu, uu, uu] [(.long q4), (.long q3)])) rfl (by rw [hml]; rfl) (argsL := [(.long q3), (.long q4)]) (rest := []) (lenOf pd_4 rfl) rfl (by show 2 * 0 + _ ≤ _; exact Nat.le_of_eq rfl) (hb hby d8_2) (fun _ _ => ⟨rfl, e0, (by decide : 0 + 0 ≤ _), (by decide : 0 + 0 ≤ _)⟩)
  dsimp only [Pt.U, Pt.locs, Pt.cells, Pt.slots] at X1 l1 y1 z1 st1 hQ1
  subst l1 y1 z1
  obtain ⟨rfl, Nq1, e1⟩ := hQ1
  have N1 := Fr.app N0 Nq1
  obtain ⟨cq2, qa2, qb2⟩ := E_o0.cell
  obtain ⟨_, _, ⟨T2, L2, k2, n2⟩, -, X2, ⟨Lc2, hQ2, l2, y2, z2⟩, st2⟩ := X1.privateBack hx (y := My10) hown (mvT hZ (ww hw 49 rfl)) (mvT hZ (ww hw 50 rfl)) (own_selp (by decide) (mvT hZ (ww hw 14 rfl)) (mvP hZ (ww hw 51 rfl)) (mvT hZ (ww hw 50 rfl))) (Cond.privateMethod_at (mvP hZ (ww hw 51 rfl) (args := #[]))) (mvT hZ (ww hw 52 rfl)) (by decide) (backOf (W := 0) (rm10_2 l Z a0 hw [] w_NONE o0 o1 o2 kk_o1 kk_o2 (q3 - (1 : Int64)) q0 q1 q2 h0 n0 O0 S F_lasts_o0 F_ranges_o0 V_o2 hc3) hZ (ww hw 52 rfl) (ww hw 15 rfl) (by decide) (by decide)) (g := (mkF m 19 #[va o0, vl q3, ss, vl q4, ss, uu, uu, uu, uu, uu, uu, uu, uu] [(.long (q3 - (1 : Int64))), (.ref o0)])) rfl (by rw [hml]; rfl) (Steps.refl _) (a := o0) (by rw [e1]; exact qa2) qb2 (argsL := [(.long (q3 - (1 : Int64)))]) (rest := []) (lenOf pd_5 rfl) rfl (by show 2 * 0 + _ ≤ _; exact Nat.le_of_eq rfl) (hb hby d8_19) (fun _ _ => ⟨rfl, e1, (by decide : 0 + 0 ≤ _), (by decide : 0 + 0 ≤ _)⟩)
  dsimp only [Pt.U, Pt.locs, Pt.cells, Pt.slots] at X2 l2 y2 z2 st2 hQ2
  subst l2 y2 z2
  obtain ⟨rfl, Nq2, e2⟩ := hQ2
  have N2 := Fr.app N1 Nq2
  obtain ⟨T3, X3, e3, st3⟩ := getF X2 hx hZ hown (host := "") (Or.inl (ww hw 39 rfl)) Via.refl e2 F_ranges_o0 (g := (mkF m 31 #[va o0, vl q3, ss, vl q4, ss, vi 0, vi 0, uu, uu, uu, uu, uu, uu] [(.ref o0), (.int 0)])) rfl rfl (hb hby d8_31)
  obtain ⟨T4, X4, e4, st4⟩ := getF X3 hx hZ hown (host := "") (Or.inl (ww hw 28 rfl)) Via.refl e3 F_firsts_o0 (g := (mkF m 38 #[va o0, vl q3, ss, vl q4, ss, vi 0, vi 0, uu, uu, uu, uu, uu, uu] [(.ref o0)])) rfl rfl (hb hby d8_38)
  obtain ⟨cl5, Ar5, qk5, Sz5, Ng5, Hh5, Gg5⟩ := id V_o1
  have hin5_0 : ¬ ((0 : Int32) < 0 ∨ cl5.slots.size ≤ ((0 : Int32)).toNatClampNeg) := inb_of Sz5 ⟨by decide, by decide⟩
  obtain ⟨T6, X6, e6, st6⟩ := getF X4 hx hZ hown (host := "") (Or.inl (ww hw 39 rfl)) Via.refl e4 F_ranges_o0 (g := (mkF m 31 #[va o0, vl q3, ss, vl q4, ss, vi 0, vi 1, uu, uu, uu, uu, uu, uu] [(.ref o0), (.int 1)])) rfl rfl (hb hby d8_31)
  obtain ⟨T7, X7, e7, st7⟩ := getF X6 hx hZ hown (host := "") (Or.inl (ww hw 30 rfl)) Via.refl e6 F_lasts_o0 (g := (mkF m 122 #[va o0, vl q3, ss, vl q4, ss, vi 0, vi 0, vl 0, ss, vi 0, uu, uu, uu] [(.ref o0), (.long 0)])) rfl rfl (hb hby d8_122)
  obtain ⟨cl8, Ar8, qk8, Sz8, Ng8, Hh8, Gg8⟩ := id V_o2
  have hin8_0 : ¬ ((0 : Int32) < 0 ∨ cl8.slots.size ≤ ((0 : Int32)).toNatClampNeg) := inb_of Sz8 ⟨by decide, by decide⟩
  obtain ⟨T9, X9, e9, st9⟩ := getF X7 hx hZ hown (host := "") (Or.inl (ww hw 28 rfl)) Via.refl e7 F_firsts_o0 (g := (mkF m 129 #[va o0, vl q3, ss, vl q4, ss, vi 0, vi 0, vl 0, ss, vi 0, uu, uu, uu] [(.ref o0), (.long q2), (.long 0)])) rfl rfl (hb hby d8_129)
  obtain ⟨T10, X10, e10, st10⟩ := getF X9 hx hZ hown (host := "") (Or.inl (ww hw 28 rfl)) Via.refl e9 F_firsts_o0 (g := (mkF m 149 #[va o0, vl q3, ss, vl q4, ss, vi 0, vi 0, vl ((0 : Int64) + ((q2 - q1) + (1 : Int64))), ss, vi 1, uu, uu, uu] [(.ref o0), (.long q3)])) rfl rfl (hb hby d8_149)
  obtain ⟨_, _, ⟨T11, L11, k11, n11⟩, -, X11, ⟨Lc11, hQ11, l11, y11, z11⟩, st11⟩ := Jvm.LawKit.callS X10 hx (y := My2) hown (mvT hZ (ww hw 78 rfl)) (mvT hZ (ww hw 7 rfl)) (mvT hZ (ww hw 8 rfl)) (mvT hZ (ww hw 9 rfl)) (by decide) (backOf (W := 0) (mg2_0 l Z a0 hw [] w_NONE q3 q1 h0 n0 O0 S) hZ (ww hw 9 rfl) (ww hw 8 rfl) (by decide) (by decide)) (g := (mkF m 155 #[va o0, vl q3, ss, vl q4, ss, vi 0, vi 0, vl ((0 : Int64) + ((q2 - q1) + (1 : Int64))), ss, vi 1, uu, uu, uu] [(.long q1), (.long q3)])) rfl (by rw [hml]; rfl) (argsL := [(.long q3), (.long q1)]) (rest := []) (lenOf pd_0 rfl) rfl (by show 2 * 0 + _ ≤ _; exact Nat.le_of_eq rfl) (hb hby d8_155) (fun _ _ => ⟨rfl, e10, (by decide : 0 + 0 ≤ _), (by decide : 0 + 0 ≤ _)⟩)
  dsimp only [Pt.U, Pt.locs, Pt.cells, Pt.slots] at X11 l11 y11 z11 st11 hQ11
  subst l11 y11 z11
  obtain ⟨rfl, Nq11, e11⟩ := hQ11
  have N11 := Fr.app N2 Nq11
  obtain ⟨T12, X12, e12, st12⟩ := getF X11 hx hZ hown (host := "") (Or.inl (ww hw 30 rfl)) Via.refl e11 F_lasts_o0 (g := (mkF m 162 #[va o0, vl q3, ss, vl q4, ss, vi 0, vi 0, vl ((0 : Int64) + ((q2 - q1) + (1 : Int64))), ss, vl (own_minL q3 q1), ss, uu, uu] [(.ref o0), (.long q4)])) rfl rfl (hb hby d8_162)
  obtain ⟨_, _, ⟨T13, L13, k13, n13⟩, -, X13, ⟨Lc13, hQ13, l13, y13, z13⟩, st13⟩ := Jvm.LawKit.callS X12 hx (y := My3) hown (mvT hZ (ww hw 79 rfl)) (mvT hZ (ww hw 11 rfl)) (mvT hZ (ww hw 8 rfl)) (mvT hZ (ww hw 12 rfl)) (by decide) (backOf (W := 0) (mg3_0 l Z a0 hw [] w_NONE q4 q2 h0 n0 O0 S) hZ (ww hw 12 rfl) (ww hw 8 rfl) (by decide) (by decide)) (g := (mkF m 168 #[va o0, vl q3, ss, vl q4, ss, vi 0, vi 0, vl ((0 : Int64) + ((q2 - q1) + (1 : Int64))), ss, vl (own_minL q3 q1), ss, uu, uu] [(.long q2), (.long q4)])) rfl (by rw [hml]; rfl) (argsL := [(.long q4), (.long q2)]) (rest := []) (lenOf pd_0 rfl) rfl (by show 2 * 0 + _ ≤ _; exact Nat.le_of_eq rfl) (hb hby d8_168) (fun _ _ => ⟨rfl, e12, (by decide : 0 + 0 ≤ _), (by decide : 0 + 0 ≤ _)⟩)
  dsimp only [Pt.U, Pt.locs, Pt.cells, Pt.slots] at X13 l13 y13 z13 st13 hQ13
  subst l13 y13 z13
  obtain ⟨rfl, Nq13, e13⟩ := hQ13
  have N13 := Fr.app N11 Nq13
  obtain ⟨T14, X14, e14, st14⟩ := getF X13 hx hZ hown (host := "") (Or.inl (ww hw 28 rfl)) Via.refl e13 F_firsts_o0 (g := (mkF m 174 #[va o0, vl q3, ss, vl q4, ss, vi 0, vi 0, vl ((0 : Int64) + ((q2 - q1) + (1 : Int64))), ss, vl (own_minL q3 q1), ss, vl (own_maxL q4 q2), ss] [(.ref o0)])) rfl rfl (hb hby d8_174)
  obtain ⟨T15, h15, X15, e15, W15, st15⟩ := stJ X14 hx hZ e14 Ar5 (j := (0 : Int32)) hin5_0 (g := (mkF m 181 #[va o0, vl q3, ss, vl q4, ss, vi 0, vi 0, vl ((0 : Int64) + ((q2 - q1) + (1 : Int64))), ss, vl (own_minL q3 q1), ss, vl (own_maxL q4 q2), ss] [(.long (own_minL q3 q1)), (.int 0), (.ref o1)])) rfl rfl (hb hby d8_181)
  have V15 : Arv Z h15 o1 kk_o1 .long (4 : Int32) [(.long (own_minL q3 q1)), (.long 0), (.long 0), (.long 0)] (.long 0) := Arv.set Ar5 qk5 Sz5 Ng5 Hh5 Gg5 rfl W15 0 rfl (Nat.le_of_ble_eq_true rfl)
  have O15 := O0.wr W15 g_o1
  have K15 : Keep h0 h15 [o1, o2, o0] := K0.wr W15 (Or.inl (List.mem_of_getElem? (i := 0) rfl))
  have N15 := Fr.snoc X15 N13 g_o1
  have fc16 := (F_lasts_o0.other W15 (Or.inl ne_o0_o1))
  obtain ⟨T17, X17, e17, st17⟩ := getF X15 hx hZ hown (host := "") (Or.inl (ww hw 30 rfl)) Via.refl e15 fc16 (g := (mkF m 183 #[va o0, vl q3, ss, vl q4, ss, vi 0, vi 0, vl ((0 : Int64) + ((q2 - q1) + (1 : Int64))), ss, vl (own_minL q3 q1), ss, vl (own_maxL q4 q2), ss] [(.ref o0)])) rfl rfl (hb hby d8_183)
  have fc18 := (V_o2.other W15 (Ne.symm ne_o1_o2))
  obtain ⟨cl19, Ar19, qk19, Sz19, Ng19, Hh19, Gg19⟩ := id fc18
  have hin19_0 : ¬ ((0 : Int32) < 0 ∨ cl19.slots.size ≤ ((0 : Int32)).toNatClampNeg) := inb_of Sz19 ⟨by decide, by decide⟩
  obtain ⟨T20, h20, X20, e20, W20, st20⟩ := stJ X17 hx hZ e17 Ar19 (j := (0 : Int32)) hin19_0 (g := (mkF m 190 #[va o0, vl q3, ss, vl q4, ss, vi 0, vi 0, vl ((0 : Int64) + ((q2 - q1) + (1 : Int64))), ss, vl (own_minL q3 q1), ss, vl (own_maxL q4 q2), ss] [(.long (own_maxL q4 q2)), (.int 0), (.ref o2)])) rfl rfl (hb hby d8_190)
  have V20 : Arv Z h20 o2 kk_o2 .long (4 : Int32) [(.long (own_maxL q4 q2)), (.long 0), (.long 0), (.long 0)] (.long 0) := Arv.set Ar19 qk19 Sz19 Ng19 Hh19 Gg19 rfl W20 0 rfl (Nat.le_of_ble_eq_true rfl)
  have O20 := O15.wr W20 g_o2
  have K20 : Keep h0 h20 [o1, o2, o0] := K15.wr W20 (Or.inl (List.mem_of_getElem? (i := 1) rfl))
  have N20 := Fr.snoc X20 N15 g_o2
  have fc21 := ((E_o0.wr W15).wr W20)
  have fc22 := ((F_count_o0.other W15 (Or.inl ne_o0_o1)).other W20 (Or.inl ne_o0_o2))
  have fc23 := ((F_firsts_o0.other W15 (Or.inl ne_o0_o1)).other W20 (Or.inl ne_o0_o2))
  have fc24 := (fc16.other W20 (Or.inl ne_o0_o2))
  have fc25 := ((F_maxRanges_o0.other W15 (Or.inl ne_o0_o1)).other W20 (Or.inl ne_o0_o2))
  have fc26 := ((F_ranges_o0.other W15 (Or.inl ne_o0_o1)).other W20 (Or.inl ne_o0_o2))
  have fc27 := (V15.other W20 ne_o1_o2)
  obtain ⟨cq28, qa28, qb28⟩ := fc21.cell
  obtain ⟨_, _, ⟨T28, L28, k28, n28⟩, -, X28, ⟨Lc28, hQ28, l28, y28, z28⟩, st28⟩ := X20.privateBack hx (y := My16) hown (mvT hZ (ww hw 80 rfl)) (mvT hZ (ww hw 81 rfl)) (own_selp (by decide) (mvT hZ (ww hw 14 rfl)) (mvP hZ (ww hw 82 rfl)) (mvT hZ (ww hw 81 rfl))) (Cond.privateMethod_at (mvP hZ (ww hw 82 rfl) (args := #[]))) (mvT hZ (ww hw 83 rfl)) (by decide) (backOf (W := 0) (rm16_0 l Z a0 hw [] w_NONE o0 o1 o2 kk_o1 kk_o2 q0 (own_minL q3 q1) (own_maxL q4 q2) h20 n0 O20 S fc21 fc22 fc23 fc24 fc25 fc26 fc27 V20 ne_o0_o1 ne_o0_o2 ne_o1_o2 g_o0 g_o1 g_o2) hZ (ww hw 83 rfl) (ww hw 15 rfl) (by decide) (by decide)) (g := (mkF m 201 #[va o0, vl q3, ss, vl q4, ss, vi 0, vi 0, vl ((0 : Int64) + ((q2 - q1) + (1 : Int64))), ss, vl (own_minL q3 q1), ss, vl (own_maxL q4 q2), ss] [(.int 0), (.int 1), (.ref o0)])) rfl (by rw [hml]; rfl) (Steps.refl _) (a := o0) (by rw [e20]; exact qa28) qb28 (argsL := [(.int 1), (.int 0)]) (rest := []) (lenOf pd_11 rfl) rfl (by show 2 * 0 + _ ≤ _; exact Nat.le_of_eq rfl) (hb hby d8_201) (fun _ _ => ⟨rfl, e20, (by decide : 0 + 0 ≤ _), (by decide : 0 + 0 ≤ _)⟩)
  dsimp only [Pt.U, Pt.locs, Pt.cells, Pt.slots] at X28 l28 y28 z28 st28 hQ28
  subst l28 y28 z28
  obtain ⟨rfl, Nq28, Kc28, P0_28, P1_28, P2_28, P3_28, P4_28, P5_28, P6_28, P7_28⟩ := hQ28
  have N28 := Fr.app N20 Nq28
  have O28 := O20.keep Kc28 (allS g_o1 (allS g_o2 (allS g_o0 all0)))
  have K28 : Keep h0 T28.heap [o1, o2, o0] := K20.trans Kc28 (allS (Or.inl (List.mem_of_getElem? (i := 0) rfl)) (allS (Or.inl (List.mem_of_getElem? (i := 1) rfl)) (allS (Or.inl (List.mem_of_getElem? (i := 2) rfl)) all0)))
  obtain ⟨T29, X29, e29, st29⟩ := getF X28 hx hZ hown (host := "") (Or.inl (ww hw 73 rfl)) Via.refl rfl P1_28 (g := (mkF m 206 #[va o0, vl q3, ss, vl q4, ss, vi 0, vi 0, vl ((0 : Int64) + ((q2 - q1) + (1 : Int64))), ss, vl (own_minL q3 q1), ss, vl (own_maxL q4 q2), ss] [(.ref o0), (.ref o0)])) rfl rfl (hb hby d8_206)
  obtain ⟨T30, h30, X30, e30, W30, st30⟩ := putF X29 hx hZ hown (host := "") (Or.inl (ww hw 73 rfl)) Via.refl e29 P1_28 P0_28 (Or.inl (ww hw 74 rfl)) (ww hw 14 rfl) (ty := .long) (by decide) rfl rfl (g := (mkF m 220 #[va o0, vl q3, ss, vl q4, ss, vi 0, vi 0, vl ((0 : Int64) + ((q2 - q1) + (1 : Int64))), ss, vl (own_minL q3 q1), ss, vl (own_maxL q4 q2), ss] [(.long (q0 + ((((own_maxL q4 q2) - (own_minL q3 q1)) + (1 : Int64)) - ((0 : Int64) + ((q2 - q1) + (1 : Int64)))))), (.ref o0)])) rfl rfl (hb hby d8_220)
  have Fw30 := P1_28.same W30
  have O30 := O28.wr W30 g_o0
  have K30 : Keep h0 h30 [o1, o2, o0] := K28.wr W30 (Or.inl (List.mem_of_getElem? (i := 2) rfl))
  have N30 := Fr.snoc X30 N28 g_o0
  obtain ⟨fs, hr, hrun, hended, hW, hsame⟩ := X30.leave (v := (some (.int 1))) (fun h => by rw [hrt] at h; cases h)
  have fc31 := (P0_28.wr W30)
  have fc32 := (P2_28.other W30 (Or.inr (slot_ne (Or.inl (ww hw 29 rfl)) (Or.inl (ww hw 74 rfl)) (by decide) (t := (.array .long)) (t' := .long) (by decide) (by decide))))
  have fc33 := (P3_28.other W30 (Or.inr (slot_ne (Or.inl (ww hw 31 rfl)) (Or.inl (ww hw 74 rfl)) (by decide) (t := (.array .long)) (t' := .long) (by decide) (by decide))))
  have fc34 := (P4_28.other W30 (Or.inr (slot_ne (Or.inr (ww hw 33 rfl)) (Or.inl (ww hw 74 rfl)) (by decide) (t := .int) (t' := .long) (by decide) (by decide))))
  have fc35 := (P5_28.other W30 (Or.inr (slot_ne (Or.inl (ww hw 40 rfl)) (Or.inl (ww hw 74 rfl)) (by decide) (t := .int) (t' := .long) (by decide) (by decide))))
  have fc36 := (P6_28.other W30 (Ne.symm ne_o0_o1))
  have fc37 := (P7_28.other W30 (Ne.symm ne_o0_o2))
  refine ⟨_, _, ?_, hrun, hended, _, _, rfl, ?_, ⟨_, rfl⟩, hW, hsame.mono (by decide) (by decide)⟩
  · show Steps p.tables e below (s₁.setTop (mkF m 0 #[va o0, vl q3, ss, vl q4, ss, uu, uu, uu, uu, uu, uu, uu, uu] [])) _
    refine XS.lloadN X0.here hx rfl (hb hby d8_0) rfl ?_
    refine XS.lloadN X0.here hx rfl (hb hby d8_1) rfl ?_
    refine st1 _ ?_
    refine XS.aloadN X1.here hx rfl (hb hby d8_5) rfl rfl ?_
    refine XS.lloadN X1.here hx rfl (hb hby d8_6) rfl ?_
    refine XS.lconst X1.here hx rfl (hb hby d8_7) ?_
    refine XS.lcmp X1.here hx rfl (hb hby d8_8) rfl ?_
    refine XS.ifYes X1.here hx rfl (pc0 := 9) (pc' := 16) rfl (hb hby d8_9) rfl (own_lc_eqF hc2).2 (by decide) (by decide) ?_
    show Steps p.tables e below (T1.setTop (mkF m 16 #[va o0, vl q3, ss, vl q4, ss, uu, uu, uu, uu, uu, uu, uu, uu] [(.ref o0)])) _
    refine XS.lloadN X1.here hx rfl (hb hby d8_16) rfl ?_
    refine XS.lconst X1.here hx rfl (hb hby d8_17) ?_
    refine XS.lsub X1.here hx rfl (hb hby d8_18) rfl ?_
    refine st2.trans ?_
    refine XS.istore X2.here hx rfl (hb hby d8_22) rfl (l' := #[va o0, vl q3, ss, vl q4, ss, vi 0, uu, uu, uu, uu, uu, uu, uu]) rfl ?_
    refine XS.iload X2.here hx rfl (hb hby d8_24) rfl ?_
    refine XS.istore X2.here hx rfl (hb hby d8_26) rfl (l' := #[va o0, vl q3, ss, vl q4, ss, vi 0, vi 0, uu, uu, uu, uu, uu, uu]) rfl ?_
    refine XS.iload X2.here hx rfl (hb hby d8_28) rfl ?_
    show Steps p.tables e below (T2.setTop (mkF m 30 #[va o0, vl q3, ss, vl q4, ss, vi 0, vi 0, uu, uu, uu, uu, uu, uu] [(.int 0)])) _
    refine XS.aloadN X2.here hx rfl (hb hby d8_30) rfl rfl ?_
    refine st3 _ ?_
    refine XS.icmpNo X3.here hx rfl (hb hby d8_34) rfl (tlt (by decide : (0 : Int32) < (1 : Int32))).2.1 ?_
    refine XS.aloadN X3.here hx rfl (hb hby d8_37) rfl rfl ?_
    refine st4 _ ?_
    refine XS.iload X4.here hx rfl (hb hby d8_41) rfl ?_
    refine X4.laload hx (j := (0 : Int32)) (v := (.long q1)) (by rw [e4]; exact Ar5.1) (State.isArrayOf_alike hZ.alike Ar5.2.1) Ar5.2.2 hin5_0 (Has.at Hh5 hin5_0 rfl) (g := (mkF m 43 #[va o0, vl q3, ss, vl q4, ss, vi 0, vi 0, uu, uu, uu, uu, uu, uu] [(.int 0), (.ref o1)])) rfl rfl (hb hby d8_43) _ ?_
    refine XS.lloadN X4.here hx rfl (hb hby d8_44) rfl ?_
    show Steps p.tables e below (T4.setTop (mkF m 45 #[va o0, vl q3, ss, vl q4, ss, vi 0, vi 0, uu, uu, uu, uu, uu, uu] [(.long q4), (.long q1)])) _
    refine XS.lconst X4.here hx rfl (hb hby d8_45) ?_
    refine XS.ladd X4.here hx rfl (hb hby d8_46) rfl ?_
    refine XS.lcmp X4.here hx rfl (hb hby d8_47) rfl ?_
    refine XS.ifNo X4.here hx rfl (hb hby d8_48) rfl (own_lc_gtF hc4).1 ?_
    refine XS.iinc X4.here hx rfl (hb hby d8_51) rfl (l' := #[va o0, vl q3, ss, vl q4, ss, vi 0, vi ((0 : Int32) + (1 : Int32)), uu, uu, uu, uu, uu, uu]) rfl ?_
    show Steps p.tables e below (T4.setTop (mkF m 54 #[va o0, vl q3, ss, vl q4, ss, vi 0, vi ((0 : Int32) + (1 : Int32)), uu, uu, uu, uu, uu, uu] [])) _
    rw [show (((0 : Int32) + (1 : Int32)) : Int32) = (1 : Int32) from by decide]
    refine XS.goto X4.here hx rfl (pc0 := 54) (pc' := 28) rfl (hb hby d8_54) (by decide) (by decide) ?_
    refine XS.iload X4.here hx rfl (hb hby d8_28) rfl ?_
    refine XS.aloadN X4.here hx rfl (hb hby d8_30) rfl rfl ?_
    refine st6 _ ?_
    refine XS.icmpYes X6.here hx rfl (pc0 := 34) (pc' := 57) rfl (hb hby d8_34) rfl (flt (by decide : ¬ ((1 : Int32) < (1 : Int32)))).2.1 (by decide) (by decide) ?_
    refine XS.iinc X6.here hx rfl (hb hby d8_57) rfl (l' := #[va o0, vl q3, ss, vl q4, ss, vi 0, vi ((1 : Int32) + (-1 : Int32)), uu, uu, uu, uu, uu, uu]) rfl ?_
    show Steps p.tables e below (T6.setTop (mkF m 60 #[va o0, vl q3, ss, vl q4, ss, vi 0, vi ((1 : Int32) + (-1 : Int32)), uu, uu, uu, uu, uu, uu] [])) _
    rw [show (((1 : Int32) + (-1 : Int32)) : Int32) = (0 : Int32) from by decide]
    refine XS.iload X6.here hx rfl (hb hby d8_60) rfl ?_
    refine XS.iload X6.here hx rfl (hb hby d8_62) rfl ?_
    refine XS.icmpYes X6.here hx rfl (pc0 := 64) (pc' := 105) rfl (hb hby d8_64) rfl (flt (by decide : ¬ ((0 : Int32) < (0 : Int32)))).2.1 (by decide) (by decide) ?_
    refine XS.lconst X6.here hx rfl (hb hby d8_105) ?_
    refine XS.lstore X6.here hx rfl (hb hby d8_106) rfl (l' := #[va o0, vl q3, ss, vl q4, ss, vi 0, vi 0, vl 0, ss, uu, uu, uu, uu]) rfl ?_
    refine XS.iload X6.here hx rfl (hb hby d8_108) rfl ?_
    refine XS.istore X6.here hx rfl (hb hby d8_110) rfl (l' := #[va o0, vl q3, ss, vl q4, ss, vi 0, vi 0, vl 0, ss, vi 0, uu, uu, uu]) rfl ?_
    show Steps p.tables e below (T6.setTop (mkF m 112 #[va o0, vl q3, ss, vl q4, ss, vi 0, vi 0, vl 0, ss, vi 0, uu, uu, uu] [])) _
    refine XS.iload X6.here hx rfl (hb hby d8_112) rfl ?_
    refine XS.iload X6.here hx rfl (hb hby d8_114) rfl ?_
    refine XS.icmpNo X6.here hx rfl (hb hby d8_116) rfl (flt (by decide : ¬ ((0 : Int32) < (0 : Int32)))).2.2.1 ?_
    refine XS.lload X6.here hx rfl (hb hby d8_119) rfl ?_
    refine XS.aloadN X6.here hx rfl (hb hby d8_121) rfl rfl ?_
    refine st7 _ ?_
    refine XS.iload X7.here hx rfl (hb hby d8_125) rfl ?_
    refine X7.laload hx (j := (0 : Int32)) (v := (.long q2)) (by rw [e7]; exact Ar8.1) (State.isArrayOf_alike hZ.alike Ar8.2.1) Ar8.2.2 hin8_0 (Has.at Hh8 hin8_0 rfl) (g := (mkF m 127 #[va o0, vl q3, ss, vl q4, ss, vi 0, vi 0, vl 0, ss, vi 0, uu, uu, uu] [(.int 0), (.ref o2), (.long 0)])) rfl rfl (hb hby d8_127) _ ?_
    show Steps p.tables e below (T7.setTop (mkF m 128 #[va o0, vl q3, ss, vl q4, ss, vi 0, vi 0, vl 0, ss, vi 0, uu, uu, uu] [(.long q2), (.long 0)])) _
    refine XS.aloadN X7.here hx rfl (hb hby d8_128) rfl rfl ?_
    refine st9 _ ?_
    refine XS.iload X9.here hx rfl (hb hby d8_132) rfl ?_
    refine X9.laload hx (j := (0 : Int32)) (v := (.long q1)) (by rw [e9]; exact Ar5.1) (State.isArrayOf_alike hZ.alike Ar5.2.1) Ar5.2.2 hin5_0 (Has.at Hh5 hin5_0 rfl) (g := (mkF m 134 #[va o0, vl q3, ss, vl q4, ss, vi 0, vi 0, vl 0, ss, vi 0, uu, uu, uu] [(.int 0), (.ref o1), (.long q2), (.long 0)])) rfl rfl (hb hby d8_134) _ ?_
    refine XS.lsub X9.here hx rfl (hb hby d8_135) rfl ?_
    refine XS.lconst X9.here hx rfl (hb hby d8_136) ?_
    refine XS.ladd X9.here hx rfl (hb hby d8_137) rfl ?_
    refine XS.ladd X9.here hx rfl (hb hby d8_138) rfl ?_
    show Steps p.tables e below (T9.setTop (mkF m 139 #[va o0, vl q3, ss, vl q4, ss, vi 0, vi 0, vl 0, ss, vi 0, uu, uu, uu] [(.long ((0 : Int64) + ((q2 - q1) + (1 : Int64))))])) _
    refine XS.lstore X9.here hx rfl (hb hby d8_139) rfl (l' := #[va o0, vl q3, ss, vl q4, ss, vi 0, vi 0, vl ((0 : Int64) + ((q2 - q1) + (1 : Int64))), ss, vi 0, uu, uu, uu]) rfl ?_
    refine XS.iinc X9.here hx rfl (hb hby d8_141) rfl (l' := #[va o0, vl q3, ss, vl q4, ss, vi 0, vi 0, vl ((0 : Int64) + ((q2 - q1) + (1 : Int64))), ss, vi ((0 : Int32) + (1 : Int32)), uu, uu, uu]) rfl ?_
    show Steps p.tables e below (T9.setTop (mkF m 144 #[va o0, vl q3, ss, vl q4, ss, vi 0, vi 0, vl ((0 : Int64) + ((q2 - q1) + (1 : Int64))), ss, vi ((0 : Int32) + (1 : Int32)), uu, uu, uu] [])) _
    rw [show (((0 : Int32) + (1 : Int32)) : Int32) = (1 : Int32) from by decide]
    refine XS.goto X9.here hx rfl (pc0 := 144) (pc' := 112) rfl (hb hby d8_144) (by decide) (by decide) ?_
    refine XS.iload X9.here hx rfl (hb hby d8_112) rfl ?_
    refine XS.iload X9.here hx rfl (hb hby d8_114) rfl ?_
    refine XS.icmpYes X9.here hx rfl (pc0 := 116) (pc' := 147) rfl (hb hby d8_116) rfl (tlt (by decide : (0 : Int32) < (1 : Int32))).2.2.1 (by decide) (by decide) ?_
    refine XS.lloadN X9.here hx rfl (hb hby d8_147) rfl ?_
    refine XS.aloadN X9.here hx rfl (hb hby d8_148) rfl rfl ?_
    refine st10 _ ?_
    show Steps p.tables e below (T10.setTop (mkF m 152 #[va o0, vl q3, ss, vl q4, ss, vi 0, vi 0, vl ((0 : Int64) + ((q2 - q1) + (1 : Int64))), ss, vi 1, uu, uu, uu] [(.ref o1), (.long q3)])) _
    refine XS.iload X10.here hx rfl (hb hby d8_152) rfl ?_
    refine X10.laload hx (j := (0 : Int32)) (v := (.long q1)) (by rw [e10]; exact Ar5.1) (State.isArrayOf_alike hZ.alike Ar5.2.1) Ar5.2.2 hin5_0 (Has.at Hh5 hin5_0 rfl) (g := (mkF m 154 #[va o0, vl q3, ss, vl q4, ss, vi 0, vi 0, vl ((0 : Int64) + ((q2 - q1) + (1 : Int64))), ss, vi 1, uu, uu, uu] [(.int 0), (.ref o1), (.long q3)])) rfl rfl (hb hby d8_154) _ ?_
    refine st11 _ ?_
    refine XS.lstore X11.here hx rfl (hb hby d8_158) rfl (l' := #[va o0, vl q3, ss, vl q4, ss, vi 0, vi 0, vl ((0 : Int64) + ((q2 - q1) + (1 : Int64))), ss, vl (own_minL q3 q1), ss, uu, uu]) rfl ?_
    refine XS.lloadN X11.here hx rfl (hb hby d8_160) rfl ?_
    refine XS.aloadN X11.here hx rfl (hb hby d8_161) rfl rfl ?_
    refine st12 _ ?_
    refine XS.iload X12.here hx rfl (hb hby d8_165) rfl ?_
    show Steps p.tables e below (T12.setTop (mkF m 167 #[va o0, vl q3, ss, vl q4, ss, vi 0, vi 0, vl ((0 : Int64) + ((q2 - q1) + (1 : Int64))), ss, vl (own_minL q3 q1), ss, uu, uu] [(.int 0), (.ref o2), (.long q4)])) _
    refine X12.laload hx (j := (0 : Int32)) (v := (.long q2)) (by rw [e12]; exact Ar8.1) (State.isArrayOf_alike hZ.alike Ar8.2.1) Ar8.2.2 hin8_0 (Has.at Hh8 hin8_0 rfl) (g := (mkF m 167 #[va o0, vl q3, ss, vl q4, ss, vi 0, vi 0, vl ((0 : Int64) + ((q2 - q1) + (1 : Int64))), ss, vl (own_minL q3 q1), ss, uu, uu] [(.int 0), (.ref o2), (.long q4)])) rfl rfl (hb hby d8_167) _ ?_
    refine st13 _ ?_
    refine XS.lstore X13.here hx rfl (hb hby d8_171) rfl (l' := #[va o0, vl q3, ss, vl q4, ss, vi 0, vi 0, vl ((0 : Int64) + ((q2 - q1) + (1 : Int64))), ss, vl (own_minL q3 q1), ss, vl (own_maxL q4 q2), ss]) rfl ?_
    refine XS.aloadN X13.here hx rfl (hb hby d8_173) rfl rfl ?_
    refine st14 _ ?_
    refine XS.iload X14.here hx rfl (hb hby d8_177) rfl ?_
    refine XS.lload X14.here hx rfl (hb hby d8_179) rfl ?_
    refine st15 _ ?_
    show Steps p.tables e below (T15.setTop (mkF m 182 #[va o0, vl q3, ss, vl q4, ss, vi 0, vi 0, vl ((0 : Int64) + ((q2 - q1) + (1 : Int64))), ss, vl (own_minL q3 q1), ss, vl (own_maxL q4 q2), ss] [])) _
    refine XS.aloadN X15.here hx rfl (hb hby d8_182) rfl rfl ?_
    refine st17 _ ?_
    refine XS.iload X17.here hx rfl (hb hby d8_186) rfl ?_
    refine XS.lload X17.here hx rfl (hb hby d8_188) rfl ?_
    refine st20 _ ?_
    refine XS.aloadN X20.here hx rfl (hb hby d8_191) rfl rfl ?_
    refine XS.iload X20.here hx rfl (hb hby d8_192) rfl ?_
    refine XS.iconst X20.here hx rfl (hb hby d8_194) ?_
    show Steps p.tables e below (T20.setTop (mkF m 195 #[va o0, vl q3, ss, vl q4, ss, vi 0, vi 0, vl ((0 : Int64) + ((q2 - q1) + (1 : Int64))), ss, vl (own_minL q3 q1), ss, vl (own_maxL q4 q2), ss] [(.int 1), (.int 0), (.ref o0)])) _
    refine XS.iadd X20.here hx rfl (hb hby d8_195) rfl ?_
    show Steps p.tables e below (T20.setTop (mkF m 196 #[va o0, vl q3, ss, vl q4, ss, vi 0, vi 0, vl ((0 : Int64) + ((q2 - q1) + (1 : Int64))), ss, vl (own_minL q3 q1), ss, vl (own_maxL q4 q2), ss] [(.int ((0 : Int32) + (1 : Int32))), (.ref o0)])) _
    rw [show (((0 : Int32) + (1 : Int32)) : Int32) = (1 : Int32) from by decide]
    refine XS.iload X20.here hx rfl (hb hby d8_196) rfl ?_
    refine XS.iload X20.here hx rfl (hb hby d8_198) rfl ?_
    refine XS.isub X20.here hx rfl (hb hby d8_200) rfl ?_
    show Steps p.tables e below (T20.setTop (mkF m 201 #[va o0, vl q3, ss, vl q4, ss, vi 0, vi 0, vl ((0 : Int64) + ((q2 - q1) + (1 : Int64))), ss, vl (own_minL q3 q1), ss, vl (own_maxL q4 q2), ss] [(.int ((0 : Int32) - (0 : Int32))), (.int 1), (.ref o0)])) _
    rw [show (((0 : Int32) - (0 : Int32)) : Int32) = (0 : Int32) from by decide]
    refine st28.trans ?_
    refine XS.aloadN X28.here hx rfl (hb hby d8_204) rfl rfl ?_
    refine XS.dup X28.here hx rfl (hb hby d8_205) rfl rfl ?_
    refine st29 _ ?_
    refine XS.lload X29.here hx rfl (hb hby d8_209) rfl ?_
    refine XS.lload X29.here hx rfl (hb hby d8_211) rfl ?_
    refine XS.lsub X29.here hx rfl (hb hby d8_213) rfl ?_
    show Steps p.tables e below (T29.setTop (mkF m 214 #[va o0, vl q3, ss, vl q4, ss, vi 0, vi 0, vl ((0 : Int64) + ((q2 - q1) + (1 : Int64))), ss, vl (own_minL q3 q1), ss, vl (own_maxL q4 q2), ss] [(.long ((own_maxL q4 q2) - (own_minL q3 q1))), (.long q0), (.ref o0)])) _
    refine XS.lconst X29.here hx rfl (hb hby d8_214) ?_
    refine XS.ladd X29.here hx rfl (hb hby d8_215) rfl ?_
    refine XS.lload X29.here hx rfl (hb hby d8_216) rfl ?_
    refine XS.lsub X29.here hx rfl (hb hby d8_218) rfl ?_
    refine XS.ladd X29.here hx rfl (hb hby d8_219) rfl ?_
    refine st30 _ ?_
    refine XS.iconst X30.here hx rfl (hb hby d8_223) ?_
    exact retN X30 hx (t := .boolean) hrt (by simp) (hb hby d8_224) hr
  · show Q8_2 Z w_NONE o0 o1 o2 kk_o1 kk_o2 q3 q4 q0 q1 q2 h0 n0 (some (.int 1)) T30.heap _
    rw [e30]; exact ⟨rfl, N30, K30, fc31, Fw30, fc32, fc33, fc34, fc35, fc36, fc37⟩
def Q10_3 (Z : State) (w_NONE : Addr) (o0 : Addr) (o1 : Addr) (o2 : Addr) (kk_o1 : ClassId) (kk_o2 : ClassId) (q0 : Int64) (q1 : Int64) (q2 : Int64) (h0 : Heap) (n0 : Nat) (v : Option Value) (h : Heap) (L : List Loc) : Prop := v = (some (.int 0)) ∧ Fr n0 L ∧ h = h0
theorem rm10_3 (l : Launch) (Z : State) (a0 : Array Value) (hw : HW Z a0) (ws : List Jvm.Cond) (w_NONE : Addr) (o0 : Addr) (o1 : Addr) (o2 : Addr) (kk_o1 : ClassId) (kk_o2 : ClassId) (q0 : Int64) (q1 : Int64) (q2 : Int64) (h0 : Heap) (n0 : Nat) (O0 : Old Z n0 h0) (S : SF Z w_NONE) (F_lasts_o0 : Fld Z h0 o0 sC0 "lasts" "[J" (.ref o2)) (F_ranges_o0 : Fld Z h0 o0 sC0 "ranges" "I" (.int 1)) (V_o2 : Arv Z h0 o2 kk_o2 .long (4 : Int32) [(.long q2), (.long 0), (.long 0), (.long 0)] (.long 0)) (hc0 : ¬ (q2 < (0 : Int64))) :
    Pay l Z My10 ws prog_55_method_19_code 6 (some .int) #[(.ref o0), (.long 0)] h0 ({ frames := 0, cells := 0, slots := 0, locals := 0 } : Room) (Q10_3 Z w_NONE o0 o1 o2 kk_o1 kk_o2 q0 q1 q2 h0 n0) := by
  refine own_body (plainFor_of_name pn_1) (L0 := #[va o0, vl 0, ss, uu, uu, uu]) (fun _ => by first | rfl | (simp [entryFrame, mkF, argsToLocals, Value.category]; done)) ?_
  intro p e s m below meth c s₁ hrt hlk hx hby hml hZ hown0 hnm X0 e0
  have hown : s.vm.findClass sC0 = some m.cls := hown0
  have N0 := Fr.nil n0
  have K0 : Keep h0 h0 [] := Keep.refl _ _
  obtain ⟨T1, X1, e1, st1⟩ := getF X0 hx hZ hown (host := "") (Or.inl (ww hw 39 rfl)) Via.refl e0 F_ranges_o0 (g := (mkF m 3 #[va o0, vl 0, ss, vi 0, uu, uu] [(.ref o0)])) rfl rfl (hb hby d10_3)
  obtain ⟨T2, X2, e2, st2⟩ := getF X1 hx hZ hown (host := "") (Or.inl (ww hw 30 rfl)) Via.refl e1 F_lasts_o0 (g := (mkF m 23 #[va o0, vl 0, ss, vi 0, vi 1, vi 0] [(.ref o0)])) rfl rfl (hb hby d10_23)
  obtain ⟨cl3, Ar3, qk3, Sz3, Ng3, Hh3, Gg3⟩ := id V_o2
  have hin3_0 : ¬ ((0 : Int32) < 0 ∨ cl3.slots.size ≤ ((0 : Int32)).toNatClampNeg) := inb_of Sz3 ⟨by decide, by decide⟩
  obtain ⟨fs, hr, hrun, hended, hW, hsame⟩ := X2.leave (v := (some (.int 0))) (fun h => by rw [hrt] at h; cases h)
  refine ⟨_, _, ?_, hrun, hended, _, _, rfl, ?_, ⟨_, rfl⟩, hW, hsame.mono (by decide) (by decide)⟩
  · show Steps p.tables e below (s₁.setTop (mkF m 0 #[va o0, vl 0, ss, uu, uu, uu] [])) _
    refine XS.iconst X0.here hx rfl (hb hby d10_0) ?_
    refine XS.istoreN X0.here hx rfl (hb hby d10_1) rfl (l' := #[va o0, vl 0, ss, vi 0, uu, uu]) rfl ?_
    refine XS.aloadN X0.here hx rfl (hb hby d10_2) rfl rfl ?_
    refine st1 _ ?_
    refine XS.istore X1.here hx rfl (hb hby d10_6) rfl (l' := #[va o0, vl 0, ss, vi 0, vi 1, uu]) rfl ?_
    refine XS.iloadN X1.here hx rfl (hb hby d10_8) rfl ?_
    refine XS.iload X1.here hx rfl (hb hby d10_9) rfl ?_
    refine XS.icmpNo X1.here hx rfl (hb hby d10_11) rfl (tlt (by decide : (0 : Int32) < (1 : Int32))).2.1 ?_
    show Steps p.tables e below (T1.setTop (mkF m 14 #[va o0, vl 0, ss, vi 0, vi 1, uu] [])) _
    refine XS.iloadN X1.here hx rfl (hb hby d10_14) rfl ?_
    refine XS.iload X1.here hx rfl (hb hby d10_15) rfl ?_
    refine XS.iadd X1.here hx rfl (hb hby d10_17) rfl ?_
    show Steps p.tables e below (T1.setTop (mkF m 18 #[va o0, vl 0, ss, vi 0, vi 1, uu] [(.int ((0 : Int32) + (1 : Int32)))])) _
    rw [show (((0 : Int32) + (1 : Int32)) : Int32) = (1 : Int32) from by decide]
    refine XS.iconst X1.here hx rfl (hb hby d10_18) ?_
    refine XS.iushr X1.here hx rfl (hb hby d10_19) rfl ?_
    show Steps p.tables e below (T1.setTop (mkF m 20 #[va o0, vl 0, ss, vi 0, vi 1, uu] [(.int (((1 : Int32).toUInt32 >>> ((1 : Int32) &&& 31).toUInt32).toInt32))])) _
    rw [show ((((1 : Int32).toUInt32 >>> ((1 : Int32) &&& 31).toUInt32).toInt32) : Int32) = (0 : Int32) from by decide]
    refine XS.istore X1.here hx rfl (hb hby d10_20) rfl (l' := #[va o0, vl 0, ss, vi 0, vi 1, vi 0]) rfl ?_
    refine XS.aloadN X1.here hx rfl (hb hby d10_22) rfl rfl ?_
    refine st2 _ ?_
    refine XS.iload X2.here hx rfl (hb hby d10_26) rfl ?_
    refine X2.laload hx (j := (0 : Int32)) (v := (.long q2)) (by rw [e2]; exact Ar3.1) (State.isArrayOf_alike hZ.alike Ar3.2.1) Ar3.2.2 hin3_0 (Has.at Hh3 hin3_0 rfl) (g := (mkF m 28 #[va o0, vl 0, ss, vi 0, vi 1, vi 0] [(.int 0), (.ref o2)])) rfl rfl (hb hby d10_28) _ ?_
    refine XS.lloadN X2.here hx rfl (hb hby d10_29) rfl ?_
    refine XS.lcmp X2.here hx rfl (hb hby d10_30) rfl ?_
    show Steps p.tables e below (T2.setTop (mkF m 31 #[va o0, vl 0, ss, vi 0, vi 1, vi 0] [(.int (lcmpW q2 (0 : Int64)))])) _
    refine XS.ifYes X2.here hx rfl (pc0 := 31) (pc' := 42) rfl (hb hby d10_31) rfl (own_lc_ltF hc0).2 (by decide) (by decide) ?_
    refine XS.iload X2.here hx rfl (hb hby d10_42) rfl ?_
    refine XS.istore X2.here hx rfl (hb hby d10_44) rfl (l' := #[va o0, vl 0, ss, vi 0, vi 0, vi 0]) rfl ?_
    refine XS.goto X2.here hx rfl (pc0 := 46) (pc' := 8) rfl (hb hby d10_46) (by decide) (by decide) ?_
    refine XS.iloadN X2.here hx rfl (hb hby d10_8) rfl ?_
    refine XS.iload X2.here hx rfl (hb hby d10_9) rfl ?_
    refine XS.icmpYes X2.here hx rfl (pc0 := 11) (pc' := 49) rfl (hb hby d10_11) rfl (flt (by decide : ¬ ((0 : Int32) < (0 : Int32)))).2.1 (by decide) (by decide) ?_
    refine XS.iloadN X2.here hx rfl (hb hby d10_49) rfl ?_
    show Steps p.tables e below (T2.setTop (mkF m 50 #[va o0, vl 0, ss, vi 0, vi 0, vi 0] [(.int 0)])) _
    exact retOut X2 hx (t := .int) (i := .ireturn) hrt rfl (Or.inl ⟨rfl, Or.inl rfl, _, rfl⟩) (hb hby d10_50) hr
  · show Q10_3 Z w_NONE o0 o1 o2 kk_o1 kk_o2 q0 q1 q2 h0 n0 (some (.int 0)) T2.heap _
    exact (⟨rfl, N0, e2⟩)
def Q8_3 (Z : State) (w_NONE : Addr) (o0 : Addr) (o1 : Addr) (o2 : Addr) (kk_o1 : ClassId) (kk_o2 : ClassId) (q3 : Int64) (q4 : Int64) (q0 : Int64) (q1 : Int64) (q2 : Int64) (h0 : Heap) (n0 : Nat) (v : Option Value) (h : Heap) (L : List Loc) : Prop := v = (some (.int 1)) ∧ Fr n0 L ∧ Keep h0 h [o1, o2, o0] ∧ Exa Z h o0 sC0 ∧ Fld Z h o0 sC0 "count" "J" (.long (q0 + ((((own_maxL q4 q2) - (own_minL q3 q1)) + (1 : Int64)) - ((0 : Int64) + ((q2 - q1) + (1 : Int64)))))) ∧ Fld Z h o0 sC0 "firsts" "[J" (.ref o1) ∧ Fld Z h o0 sC0 "lasts" "[J" (.ref o2) ∧ Fld Z h o0 sC0 "maxRanges" "I" (.int 2147483647) ∧ Fld Z h o0 sC0 "ranges" "I" (.int 1) ∧ Arv Z h o1 kk_o1 .long (4 : Int32) [(.long (own_minL q3 q1)), (.long 0), (.long 0), (.long 0)] (.long 0) ∧ Arv Z h o2 kk_o2 .long (4 : Int32) [(.long (own_maxL q4 q2)), (.long 0), (.long 0), (.long 0)] (.long 0)
theorem rm8_3 (l : Launch) (Z : State) (a0 : Array Value) (hw : HW Z a0) (ws : List Jvm.Cond) (w_NONE : Addr) (o0 : Addr) (o1 : Addr) (o2 : Addr) (kk_o1 : ClassId) (kk_o2 : ClassId) (q3 : Int64) (q4 : Int64) (q0 : Int64) (q1 : Int64) (q2 : Int64) (h0 : Heap) (n0 : Nat) (O0 : Old Z n0 h0) (S : SF Z w_NONE) (E_o0 : Exa Z h0 o0 sC0) (F_count_o0 : Fld Z h0 o0 sC0 "count" "J" (.long q0)) (F_firsts_o0 : Fld Z h0 o0 sC0 "firsts" "[J" (.ref o1)) (F_lasts_o0 : Fld Z h0 o0 sC0 "lasts" "[J" (.ref o2)) (F_maxRanges_o0 : Fld Z h0 o0 sC0 "maxRanges" "I" (.int 2147483647)) (F_ranges_o0 : Fld Z h0 o0 sC0 "ranges" "I" (.int 1)) (V_o1 : Arv Z h0 o1 kk_o1 .long (4 : Int32) [(.long q1), (.long 0), (.long 0), (.long 0)] (.long 0)) (V_o2 : Arv Z h0 o2 kk_o2 .long (4 : Int32) [(.long q2), (.long 0), (.long 0), (.long 0)] (.long 0)) (ne_o0_o1 : o0 ≠ o1) (ne_o0_o2 : o0 ≠ o2) (ne_o1_o2 : o1 ≠ o2) (g_o0 : n0 ≤ o0) (g_o1 : n0 ≤ o1) (g_o2 : n0 ≤ o2) (hc0 : ¬ (q3 < (0 : Int64))) (hc1 : ¬ (q4 < q3)) (hc2 : q3 = (0 : Int64)) (hc3 : ¬ (q2 < (0 : Int64))) (hc4 : ¬ ((q4 + (1 : Int64)) < q1)) :
    Pay l Z My8 ws prog_55_method_8_code 13 (some .boolean) #[(.ref o0), (.long q3), (.long q4)] h0 ({ frames := 2, cells := 0, slots := 0, locals := 32 } : Room) (Q8_3 Z w_NONE o0 o1 o2 kk_o1 kk_o2 q3 q4 q0 q1 q2 h0 n0) := by
  refine own_body (plainFor_of_name pn_1) (L0 := #[va o0, vl q3, ss, vl q4, ss, uu, uu, uu, uu, uu, uu, uu, uu]) (fun _ => by first | rfl | (simp [entryFrame, mkF, argsToLocals, Value.category]; done)) ?_
  intro p e s m below meth c s₁ hrt hlk hx hby hml hZ hown0 hnm X0 e0
  have hown : s.vm.findClass sC0 = some m.cls := hown0
  have N0 := Fr.nil n0
  have K0 : Keep h0 h0 [o1, o2, o0] := Keep.refl _ _
  obtain ⟨_, _, ⟨T1, L1, k1, n1⟩, -, X1, ⟨Lc1, hQ1, l1, y1, z1⟩, st1⟩ := Jvm.LawKit.callS X0 hx (y := My9) hown (mvT hZ (ww hw 46 rfl)) (mvT hZ (ww hw 47 rfl)) (mvT hZ (ww hw 15 rfl)) (mvT hZ (ww hw 48 rfl)) (by decide) (backOf (W := 0) (rm9_0 l Z a0 hw [] w_NONE q3 q4 h0 n0 O0 S hc0 hc1) hZ (ww hw 48 rfl) (ww hw 15 rfl) (by decide) (by decide)) (g := (mkF m 2 #[va o0, vl q3, ss, vl q4, ss, uu, uu, uu, uu, uu, uu, uu, uu] [(.long q4), (.long q3)])) rfl (by rw [hml]; rfl) (argsL := [(.long q3), (.long q4)]) (rest := []) (lenOf pd_4 rfl) rfl (by show 2 * 0 + _ ≤ _; exact Nat.le_of_eq rfl) (hb hby d8_2) (fun _ _ => ⟨rfl, e0, (by decide : 0 + 0 ≤ _), (by decide : 0 + 0 ≤ _)⟩)
  dsimp only [Pt.U, Pt.locs, Pt.cells, Pt.slots] at X1 l1 y1 z1 st1 hQ1
  subst l1 y1 z1
  obtain ⟨rfl, Nq1, e1⟩ := hQ1
  have N1 := Fr.app N0 Nq1
  obtain ⟨cq2, qa2, qb2⟩ := E_o0.cell
  obtain ⟨_, _, ⟨T2, L2, k2, n2⟩, -, X2, ⟨Lc2, hQ2, l2, y2, z2⟩, st2⟩ := X1.privateBack hx (y := My10) hown (mvT hZ (ww hw 49 rfl)) (mvT hZ (ww hw 50 rfl)) (own_selp (by decide) (mvT hZ (ww hw 14 rfl)) (mvP hZ (ww hw 51 rfl)) (mvT hZ (ww hw 50 rfl))) (Cond.privateMethod_at (mvP hZ (ww hw 51 rfl) (args := #[]))) (mvT hZ (ww hw 52 rfl)) (by decide) (backOf (W := 0) (rm10_3 l Z a0 hw [] w_NONE o0 o1 o2 kk_o1 kk_o2 q0 q1 q2 h0 n0 O0 S F_lasts_o0 F_ranges_o0 V_o2 hc3) hZ (ww hw 52 rfl) (ww hw 15 rfl) (by decide) (by decide)) (g := (mkF m 19 #[va o0, vl q3, ss, vl q4, ss, uu, uu, uu, uu, uu, uu, uu, uu] [(.long 0), (.ref o0)])) rfl (by rw [hml]; rfl) (Steps.refl _) (a := o0) (by rw [e1]; exact qa2) qb2 (argsL := [(.long 0)]) (rest := []) (lenOf pd_5 rfl) rfl (by show 2 * 0 + _ ≤ _; exact Nat.le_of_eq rfl) (hb hby d8_19) (fun _ _ => ⟨rfl, e1, (by decide : 0 + 0 ≤ _), (by decide : 0 + 0 ≤ _)⟩)
  dsimp only [Pt.U, Pt.locs, Pt.cells, Pt.slots] at X2 l2 y2 z2 st2 hQ2
  subst l2 y2 z2
  obtain ⟨rfl, Nq2, e2⟩ := hQ2
  have N2 := Fr.app N1 Nq2
  obtain ⟨T3, X3, e3, st3⟩ := getF X2 hx hZ hown (host := "") (Or.inl (ww hw 39 rfl)) Via.refl e2 F_ranges_o0 (g := (mkF m 31 #[va o0, vl q3, ss, vl q4, ss, vi 0, vi 0, uu, uu, uu, uu, uu, uu] [(.ref o0), (.int 0)])) rfl rfl (hb hby d8_31)
  obtain ⟨T4, X4, e4, st4⟩ := getF X3 hx hZ hown (host := "") (Or.inl (ww hw 28 rfl)) Via.refl e3 F_firsts_o0 (g := (mkF m 38 #[va o0, vl q3, ss, vl q4, ss, vi 0, vi 0, uu, uu, uu, uu, uu, uu] [(.ref o0)])) rfl rfl (hb hby d8_38)
  obtain ⟨cl5, Ar5, qk5, Sz5, Ng5, Hh5, Gg5⟩ := id V_o1
  have hin5_0 : ¬ ((0 : Int32) < 0 ∨ cl5.slots.size ≤ ((0 : Int32)).toNatClampNeg) := inb_of Sz5 ⟨by decide, by decide⟩
  obtain ⟨T6, X6, e6, st6⟩ := getF X4 hx hZ hown (host := "") (Or.inl (ww hw 39 rfl)) Via.refl e4 F_ranges_o0 (g := (mkF m 31 #[va o0, vl q3, ss, vl q4, ss, vi 0, vi 1, uu, uu, uu, uu, uu, uu] [(.ref o0), (.int 1)])) rfl rfl (hb hby d8_31)
  obtain ⟨T7, X7, e7, st7⟩ := getF X6 hx hZ hown (host := "") (Or.inl (ww hw 30 rfl)) Via.refl e6 F_lasts_o0 (g := (mkF m 122 #[va o0, vl q3, ss, vl q4, ss, vi 0, vi 0, vl 0, ss, vi 0, uu, uu, uu] [(.ref o0), (.long 0)])) rfl rfl (hb hby d8_122)
  obtain ⟨cl8, Ar8, qk8, Sz8, Ng8, Hh8, Gg8⟩ := id V_o2
  have hin8_0 : ¬ ((0 : Int32) < 0 ∨ cl8.slots.size ≤ ((0 : Int32)).toNatClampNeg) := inb_of Sz8 ⟨by decide, by decide⟩
  obtain ⟨T9, X9, e9, st9⟩ := getF X7 hx hZ hown (host := "") (Or.inl (ww hw 28 rfl)) Via.refl e7 F_firsts_o0 (g := (mkF m 129 #[va o0, vl q3, ss, vl q4, ss, vi 0, vi 0, vl 0, ss, vi 0, uu, uu, uu] [(.ref o0), (.long q2), (.long 0)])) rfl rfl (hb hby d8_129)
  obtain ⟨T10, X10, e10, st10⟩ := getF X9 hx hZ hown (host := "") (Or.inl (ww hw 28 rfl)) Via.refl e9 F_firsts_o0 (g := (mkF m 149 #[va o0, vl q3, ss, vl q4, ss, vi 0, vi 0, vl ((0 : Int64) + ((q2 - q1) + (1 : Int64))), ss, vi 1, uu, uu, uu] [(.ref o0), (.long q3)])) rfl rfl (hb hby d8_149)
  obtain ⟨_, _, ⟨T11, L11, k11, n11⟩, -, X11, ⟨Lc11, hQ11, l11, y11, z11⟩, st11⟩ := Jvm.LawKit.callS X10 hx (y := My2) hown (mvT hZ (ww hw 78 rfl)) (mvT hZ (ww hw 7 rfl)) (mvT hZ (ww hw 8 rfl)) (mvT hZ (ww hw 9 rfl)) (by decide) (backOf (W := 0) (mg2_0 l Z a0 hw [] w_NONE q3 q1 h0 n0 O0 S) hZ (ww hw 9 rfl) (ww hw 8 rfl) (by decide) (by decide)) (g := (mkF m 155 #[va o0, vl q3, ss, vl q4, ss, vi 0, vi 0, vl ((0 : Int64) + ((q2 - q1) + (1 : Int64))), ss, vi 1, uu, uu, uu] [(.long q1), (.long q3)])) rfl (by rw [hml]; rfl) (argsL := [(.long q3), (.long q1)]) (rest := []) (lenOf pd_0 rfl) rfl (by show 2 * 0 + _ ≤ _; exact Nat.le_of_eq rfl) (hb hby d8_155) (fun _ _ => ⟨rfl, e10, (by decide : 0 + 0 ≤ _), (by decide : 0 + 0 ≤ _)⟩)
  dsimp only [Pt.U, Pt.locs, Pt.cells, Pt.slots] at X11 l11 y11 z11 st11 hQ11
  subst l11 y11 z11
  obtain ⟨rfl, Nq11, e11⟩ := hQ11
  have N11 := Fr.app N2 Nq11
  obtain ⟨T12, X12, e12, st12⟩ := getF X11 hx hZ hown (host := "") (Or.inl (ww hw 30 rfl)) Via.refl e11 F_lasts_o0 (g := (mkF m 162 #[va o0, vl q3, ss, vl q4, ss, vi 0, vi 0, vl ((0 : Int64) + ((q2 - q1) + (1 : Int64))), ss, vl (own_minL q3 q1), ss, uu, uu] [(.ref o0), (.long q4)])) rfl rfl (hb hby d8_162)
  obtain ⟨_, _, ⟨T13, L13, k13, n13⟩, -, X13, ⟨Lc13, hQ13, l13, y13, z13⟩, st13⟩ := Jvm.LawKit.callS X12 hx (y := My3) hown (mvT hZ (ww hw 79 rfl)) (mvT hZ (ww hw 11 rfl)) (mvT hZ (ww hw 8 rfl)) (mvT hZ (ww hw 12 rfl)) (by decide) (backOf (W := 0) (mg3_0 l Z a0 hw [] w_NONE q4 q2 h0 n0 O0 S) hZ (ww hw 12 rfl) (ww hw 8 rfl) (by decide) (by decide)) (g := (mkF m 168 #[va o0, vl q3, ss, vl q4, ss, vi 0, vi 0, vl ((0 : Int64) + ((q2 - q1) + (1 : Int64))), ss, vl (own_minL q3 q1), ss, uu, uu] [(.long q2), (.long q4)])) rfl (by rw [hml]; rfl) (argsL := [(.long q4), (.long q2)]) (rest := []) (lenOf pd_0 rfl) rfl (by show 2 * 0 + _ ≤ _; exact Nat.le_of_eq rfl) (hb hby d8_168) (fun _ _ => ⟨rfl, e12, (by decide : 0 + 0 ≤ _), (by decide : 0 + 0 ≤ _)⟩)
  dsimp only [Pt.U, Pt.locs, Pt.cells, Pt.slots] at X13 l13 y13 z13 st13 hQ13
  subst l13 y13 z13
  obtain ⟨rfl, Nq13, e13⟩ := hQ13
  have N13 := Fr.app N11 Nq13
  obtain ⟨T14, X14, e14, st14⟩ := getF X13 hx hZ hown (host := "") (Or.inl (ww hw 28 rfl)) Via.refl e13 F_firsts_o0 (g := (mkF m 174 #[va o0, vl q3, ss, vl q4, ss, vi 0, vi 0, vl ((0 : Int64) + ((q2 - q1) + (1 : Int64))), ss, vl (own_minL q3 q1), ss, vl (own_maxL q4 q2), ss] [(.ref o0)])) rfl rfl (hb hby d8_174)
  obtain ⟨T15, h15, X15, e15, W15, st15⟩ := stJ X14 hx hZ e14 Ar5 (j := (0 : Int32)) hin5_0 (g := (mkF m 181 #[va o0, vl q3, ss, vl q4, ss, vi 0, vi 0, vl ((0 : Int64) + ((q2 - q1) + (1 : Int64))), ss, vl (own_minL q3 q1), ss, vl (own_maxL q4 q2), ss] [(.long (own_minL q3 q1)), (.int 0), (.ref o1)])) rfl rfl (hb hby d8_181)
  have V15 : Arv Z h15 o1 kk_o1 .long (4 : Int32) [(.long (own_minL q3 q1)), (.long 0), (.long 0), (.long 0)] (.long 0) := Arv.set Ar5 qk5 Sz5 Ng5 Hh5 Gg5 rfl W15 0 rfl (Nat.le_of_ble_eq_true rfl)
  have O15 := O0.wr W15 g_o1
  have K15 : Keep h0 h15 [o1, o2, o0] := K0.wr W15 (Or.inl (List.mem_of_getElem? (i := 0) rfl))
  have N15 := Fr.snoc X15 N13 g_o1
  have fc16 := (F_lasts_o0.other W15 (Or.inl ne_o0_o1))
  obtain ⟨T17, X17, e17, st17⟩ := getF X15 hx hZ hown (host := "") (Or.inl (ww hw 30 rfl)) Via.refl e15 fc16 (g := (mkF m 183 #[va o0, vl q3, ss, vl q4, ss, vi 0, vi 0, vl ((0 : Int64) + ((q2 - q1) + (1 : Int64))), ss, vl (own_minL q3 q1), ss, vl (own_maxL q4 q2), ss] [(.ref o0)])) rfl rfl (hb hby d8_183)
  have fc18 := (V_o2.other W15 (Ne.symm ne_o1_o2))
  obtain ⟨cl19, Ar19, qk19, Sz19, Ng19, Hh19, Gg19⟩ := id fc18
  have hin19_0 : ¬ ((0 : Int32) < 0 ∨ cl19.slots.size ≤ ((0 : Int32)).toNatClampNeg) := inb_of Sz19 ⟨by decide, by decide⟩
  obtain ⟨T20, h20, X20, e20, W20, st20⟩ := stJ X17 hx hZ e17 Ar19 (j := (0 : Int32)) hin19_0 (g := (mkF m 190 #[va o0, vl q3, ss, vl q4, ss, vi 0, vi 0, vl ((0 : Int64) + ((q2 - q1) + (1 : Int64))), ss, vl (own_minL q3 q1), ss, vl (own_maxL q4 q2), ss] [(.long (own_maxL q4 q2)), (.int 0), (.ref o2)])) rfl rfl (hb hby d8_190)
  have V20 : Arv Z h20 o2 kk_o2 .long (4 : Int32) [(.long (own_maxL q4 q2)), (.long 0), (.long 0), (.long 0)] (.long 0) := Arv.set Ar19 qk19 Sz19 Ng19 Hh19 Gg19 rfl W20 0 rfl (Nat.le_of_ble_eq_true rfl)
  have O20 := O15.wr W20 g_o2
  have K20 : Keep h0 h20 [o1, o2, o0] := K15.wr W20 (Or.inl (List.mem_of_getElem? (i := 1) rfl))
  have N20 := Fr.snoc X20 N15 g_o2
  have fc21 := ((E_o0.wr W15).wr W20)
  have fc22 := ((F_count_o0.other W15 (Or.inl ne_o0_o1)).other W20 (Or.inl ne_o0_o2))
  have fc23 := ((F_firsts_o0.other W15 (Or.inl ne_o0_o1)).other W20 (Or.inl ne_o0_o2))
  have fc24 := (fc16.other W20 (Or.inl ne_o0_o2))
  have fc25 := ((F_maxRanges_o0.other W15 (Or.inl ne_o0_o1)).other W20 (Or.inl ne_o0_o2))
  have fc26 := ((F_ranges_o0.other W15 (Or.inl ne_o0_o1)).other W20 (Or.inl ne_o0_o2))
  have fc27 := (V15.other W20 ne_o1_o2)
  obtain ⟨cq28, qa28, qb28⟩ := fc21.cell
  obtain ⟨_, _, ⟨T28, L28, k28, n28⟩, -, X28, ⟨Lc28, hQ28, l28, y28, z28⟩, st28⟩ := X20.privateBack hx (y := My16) hown (mvT hZ (ww hw 80 rfl)) (mvT hZ (ww hw 81 rfl)) (own_selp (by decide) (mvT hZ (ww hw 14 rfl)) (mvP hZ (ww hw 82 rfl)) (mvT hZ (ww hw 81 rfl))) (Cond.privateMethod_at (mvP hZ (ww hw 82 rfl) (args := #[]))) (mvT hZ (ww hw 83 rfl)) (by decide) (backOf (W := 0) (rm16_0 l Z a0 hw [] w_NONE o0 o1 o2 kk_o1 kk_o2 q0 (own_minL q3 q1) (own_maxL q4 q2) h20 n0 O20 S fc21 fc22 fc23 fc24 fc25 fc26 fc27 V20 ne_o0_o1 ne_o0_o2 ne_o1_o2 g_o0 g_o1 g_o2) hZ (ww hw 83 rfl) (ww hw 15 rfl) (by decide) (by decide)) (g := (mkF m 201 #[va o0, vl q3, ss, vl q4, ss, vi 0, vi 0, vl ((0 : Int64) + ((q2 - q1) + (1 : Int64))), ss, vl (own_minL q3 q1), ss, vl (own_maxL q4 q2), ss] [(.int 0), (.int 1), (.ref o0)])) rfl (by rw [hml]; rfl) (Steps.refl _) (a := o0) (by rw [e20]; exact qa28) qb28 (argsL := [(.int 1), (.int 0)]) (rest := []) (lenOf pd_11 rfl) rfl (by show 2 * 0 + _ ≤ _; exact Nat.le_of_eq rfl) (hb hby d8_201) (fun _ _ => ⟨rfl, e20, (by decide : 0 + 0 ≤ _), (by decide : 0 + 0 ≤ _)⟩)
  dsimp only [Pt.U, Pt.locs, Pt.cells, Pt.slots] at X28 l28 y28 z28 st28 hQ28
  subst l28 y28 z28
  obtain ⟨rfl, Nq28, Kc28, P0_28, P1_28, P2_28, P3_28, P4_28, P5_28, P6_28, P7_28⟩ := hQ28
  have N28 := Fr.app N20 Nq28
  have O28 := O20.keep Kc28 (allS g_o1 (allS g_o2 (allS g_o0 all0)))
  have K28 : Keep h0 T28.heap [o1, o2, o0] := K20.trans Kc28 (allS (Or.inl (List.mem_of_getElem? (i := 0) rfl)) (allS (Or.inl (List.mem_of_getElem? (i := 1) rfl)) (allS (Or.inl (List.mem_of_getElem? (i := 2) rfl)) all0)))
  obtain ⟨T29, X29, e29, st29⟩ := getF X28 hx hZ hown (host := "") (Or.inl (ww hw 73 rfl)) Via.refl rfl P1_28 (g := (mkF m 206 #[va o0, vl q3, ss, vl q4, ss, vi 0, vi 0, vl ((0 : Int64) + ((q2 - q1) + (1 : Int64))), ss, vl (own_minL q3 q1), ss, vl (own_maxL q4 q2), ss] [(.ref o0), (.ref o0)])) rfl rfl (hb hby d8_206)
  obtain ⟨T30, h30, X30, e30, W30, st30⟩ := putF X29 hx hZ hown (host := "") (Or.inl (ww hw 73 rfl)) Via.refl e29 P1_28 P0_28 (Or.inl (ww hw 74 rfl)) (ww hw 14 rfl) (ty := .long) (by decide) rfl rfl (g := (mkF m 220 #[va o0, vl q3, ss, vl q4, ss, vi 0, vi 0, vl ((0 : Int64) + ((q2 - q1) + (1 : Int64))), ss, vl (own_minL q3 q1), ss, vl (own_maxL q4 q2), ss] [(.long (q0 + ((((own_maxL q4 q2) - (own_minL q3 q1)) + (1 : Int64)) - ((0 : Int64) + ((q2 - q1) + (1 : Int64)))))), (.ref o0)])) rfl rfl (hb hby d8_220)
  have Fw30 := P1_28.same W30
  have O30 := O28.wr W30 g_o0
  have K30 : Keep h0 h30 [o1, o2, o0] := K28.wr W30 (Or.inl (List.mem_of_getElem? (i := 2) rfl))
  have N30 := Fr.snoc X30 N28 g_o0
  obtain ⟨fs, hr, hrun, hended, hW, hsame⟩ := X30.leave (v := (some (.int 1))) (fun h => by rw [hrt] at h; cases h)
  have fc31 := (P0_28.wr W30)
  have fc32 := (P2_28.other W30 (Or.inr (slot_ne (Or.inl (ww hw 29 rfl)) (Or.inl (ww hw 74 rfl)) (by decide) (t := (.array .long)) (t' := .long) (by decide) (by decide))))
  have fc33 := (P3_28.other W30 (Or.inr (slot_ne (Or.inl (ww hw 31 rfl)) (Or.inl (ww hw 74 rfl)) (by decide) (t := (.array .long)) (t' := .long) (by decide) (by decide))))
  have fc34 := (P4_28.other W30 (Or.inr (slot_ne (Or.inr (ww hw 33 rfl)) (Or.inl (ww hw 74 rfl)) (by decide) (t := .int) (t' := .long) (by decide) (by decide))))
  have fc35 := (P5_28.other W30 (Or.inr (slot_ne (Or.inl (ww hw 40 rfl)) (Or.inl (ww hw 74 rfl)) (by decide) (t := .int) (t' := .long) (by decide) (by decide))))
  have fc36 := (P6_28.other W30 (Ne.symm ne_o0_o1))
  have fc37 := (P7_28.other W30 (Ne.symm ne_o0_o2))
  refine ⟨_, _, ?_, hrun, hended, _, _, rfl, ?_, ⟨_, rfl⟩, hW, hsame.mono (by decide) (by decide)⟩
  · show Steps p.tables e below (s₁.setTop (mkF m 0 #[va o0, vl q3, ss, vl q4, ss, uu, uu, uu, uu, uu, uu, uu, uu] [])) _
    refine XS.lloadN X0.here hx rfl (hb hby d8_0) rfl ?_
    refine XS.lloadN X0.here hx rfl (hb hby d8_1) rfl ?_
    refine st1 _ ?_
    refine XS.aloadN X1.here hx rfl (hb hby d8_5) rfl rfl ?_
    refine XS.lloadN X1.here hx rfl (hb hby d8_6) rfl ?_
    refine XS.lconst X1.here hx rfl (hb hby d8_7) ?_
    refine XS.lcmp X1.here hx rfl (hb hby d8_8) rfl ?_
    refine XS.ifNo X1.here hx rfl (hb hby d8_9) rfl (own_lc_eqT hc2).2 ?_
    show Steps p.tables e below (T1.setTop (mkF m 12 #[va o0, vl q3, ss, vl q4, ss, uu, uu, uu, uu, uu, uu, uu, uu] [(.ref o0)])) _
    refine XS.lconst X1.here hx rfl (hb hby d8_12) ?_
    refine XS.goto X1.here hx rfl (pc0 := 13) (pc' := 19) rfl (hb hby d8_13) (by decide) (by decide) ?_
    refine st2.trans ?_
    refine XS.istore X2.here hx rfl (hb hby d8_22) rfl (l' := #[va o0, vl q3, ss, vl q4, ss, vi 0, uu, uu, uu, uu, uu, uu, uu]) rfl ?_
    refine XS.iload X2.here hx rfl (hb hby d8_24) rfl ?_
    refine XS.istore X2.here hx rfl (hb hby d8_26) rfl (l' := #[va o0, vl q3, ss, vl q4, ss, vi 0, vi 0, uu, uu, uu, uu, uu, uu]) rfl ?_
    refine XS.iload X2.here hx rfl (hb hby d8_28) rfl ?_
    refine XS.aloadN X2.here hx rfl (hb hby d8_30) rfl rfl ?_
    show Steps p.tables e below (T2.setTop (mkF m 31 #[va o0, vl q3, ss, vl q4, ss, vi 0, vi 0, uu, uu, uu, uu, uu, uu] [(.ref o0), (.int 0)])) _
    refine st3 _ ?_
    refine XS.icmpNo X3.here hx rfl (hb hby d8_34) rfl (tlt (by decide : (0 : Int32) < (1 : Int32))).2.1 ?_
    refine XS.aloadN X3.here hx rfl (hb hby d8_37) rfl rfl ?_
    refine st4 _ ?_
    refine XS.iload X4.here hx rfl (hb hby d8_41) rfl ?_
    refine X4.laload hx (j := (0 : Int32)) (v := (.long q1)) (by rw [e4]; exact Ar5.1) (State.isArrayOf_alike hZ.alike Ar5.2.1) Ar5.2.2 hin5_0 (Has.at Hh5 hin5_0 rfl) (g := (mkF m 43 #[va o0, vl q3, ss, vl q4, ss, vi 0, vi 0, uu, uu, uu, uu, uu, uu] [(.int 0), (.ref o1)])) rfl rfl (hb hby d8_43) _ ?_
    refine XS.lloadN X4.here hx rfl (hb hby d8_44) rfl ?_
    refine XS.lconst X4.here hx rfl (hb hby d8_45) ?_
    show Steps p.tables e below (T4.setTop (mkF m 46 #[va o0, vl q3, ss, vl q4, ss, vi 0, vi 0, uu, uu, uu, uu, uu, uu] [(.long 1), (.long q4), (.long q1)])) _
    refine XS.ladd X4.here hx rfl (hb hby d8_46) rfl ?_
    refine XS.lcmp X4.here hx rfl (hb hby d8_47) rfl ?_
    refine XS.ifNo X4.here hx rfl (hb hby d8_48) rfl (own_lc_gtF hc4).1 ?_
    refine XS.iinc X4.here hx rfl (hb hby d8_51) rfl (l' := #[va o0, vl q3, ss, vl q4, ss, vi 0, vi ((0 : Int32) + (1 : Int32)), uu, uu, uu, uu, uu, uu]) rfl ?_
    show Steps p.tables e below (T4.setTop (mkF m 54 #[va o0, vl q3, ss, vl q4, ss, vi 0, vi ((0 : Int32) + (1 : Int32)), uu, uu, uu, uu, uu, uu] [])) _
    rw [show (((0 : Int32) + (1 : Int32)) : Int32) = (1 : Int32) from by decide]
    refine XS.goto X4.here hx rfl (pc0 := 54) (pc' := 28) rfl (hb hby d8_54) (by decide) (by decide) ?_
    refine XS.iload X4.here hx rfl (hb hby d8_28) rfl ?_
    refine XS.aloadN X4.here hx rfl (hb hby d8_30) rfl rfl ?_
    refine st6 _ ?_
    refine XS.icmpYes X6.here hx rfl (pc0 := 34) (pc' := 57) rfl (hb hby d8_34) rfl (flt (by decide : ¬ ((1 : Int32) < (1 : Int32)))).2.1 (by decide) (by decide) ?_
    refine XS.iinc X6.here hx rfl (hb hby d8_57) rfl (l' := #[va o0, vl q3, ss, vl q4, ss, vi 0, vi ((1 : Int32) + (-1 : Int32)), uu, uu, uu, uu, uu, uu]) rfl ?_
    show Steps p.tables e below (T6.setTop (mkF m 60 #[va o0, vl q3, ss, vl q4, ss, vi 0, vi ((1 : Int32) + (-1 : Int32)), uu, uu, uu, uu, uu, uu] [])) _
    rw [show (((1 : Int32) + (-1 : Int32)) : Int32) = (0 : Int32) from by decide]
    refine XS.iload X6.here hx rfl (hb hby d8_60) rfl ?_
    refine XS.iload X6.here hx rfl (hb hby d8_62) rfl ?_
    refine XS.icmpYes X6.here hx rfl (pc0 := 64) (pc' := 105) rfl (hb hby d8_64) rfl (flt (by decide : ¬ ((0 : Int32) < (0 : Int32)))).2.1 (by decide) (by decide) ?_
    refine XS.lconst X6.here hx rfl (hb hby d8_105) ?_
    refine XS.lstore X6.here hx rfl (hb hby d8_106) rfl (l' := #[va o0, vl q3, ss, vl q4, ss, vi 0, vi 0, vl 0, ss, uu, uu, uu, uu]) rfl ?_
    refine XS.iload X6.here hx rfl (hb hby d8_108) rfl ?_
    refine XS.istore X6.here hx rfl (hb hby d8_110) rfl (l' := #[va o0, vl q3, ss, vl q4, ss, vi 0, vi 0, vl 0, ss, vi 0, uu, uu, uu]) rfl ?_
    show Steps p.tables e below (T6.setTop (mkF m 112 #[va o0, vl q3, ss, vl q4, ss, vi 0, vi 0, vl 0, ss, vi 0, uu, uu, uu] [])) _
    refine XS.iload X6.here hx rfl (hb hby d8_112) rfl ?_
    refine XS.iload X6.here hx rfl (hb hby d8_114) rfl ?_
    refine XS.icmpNo X6.here hx rfl (hb hby d8_116) rfl (flt (by decide : ¬ ((0 : Int32) < (0 : Int32)))).2.2.1 ?_
    refine XS.lload X6.here hx rfl (hb hby d8_119) rfl ?_
    refine XS.aloadN X6.here hx rfl (hb hby d8_121) rfl rfl ?_
    refine st7 _ ?_
    refine XS.iload X7.here hx rfl (hb hby d8_125) rfl ?_
    refine X7.laload hx (j := (0 : Int32)) (v := (.long q2)) (by rw [e7]; exact Ar8.1) (State.isArrayOf_alike hZ.alike Ar8.2.1) Ar8.2.2 hin8_0 (Has.at Hh8 hin8_0 rfl) (g := (mkF m 127 #[va o0, vl q3, ss, vl q4, ss, vi 0, vi 0, vl 0, ss, vi 0, uu, uu, uu] [(.int 0), (.ref o2), (.long 0)])) rfl rfl (hb hby d8_127) _ ?_
    show Steps p.tables e below (T7.setTop (mkF m 128 #[va o0, vl q3, ss, vl q4, ss, vi 0, vi 0, vl 0, ss, vi 0, uu, uu, uu] [(.long q2), (.long 0)])) _
    refine XS.aloadN X7.here hx rfl (hb hby d8_128) rfl rfl ?_
    refine st9 _ ?_
    refine XS.iload X9.here hx rfl (hb hby d8_132) rfl ?_
    refine X9.laload hx (j := (0 : Int32)) (v := (.long q1)) (by rw [e9]; exact Ar5.1) (State.isArrayOf_alike hZ.alike Ar5.2.1) Ar5.2.2 hin5_0 (Has.at Hh5 hin5_0 rfl) (g := (mkF m 134 #[va o0, vl q3, ss, vl q4, ss, vi 0, vi 0, vl 0, ss, vi 0, uu, uu, uu] [(.int 0), (.ref o1), (.long q2), (.long 0)])) rfl rfl (hb hby d8_134) _ ?_
    refine XS.lsub X9.here hx rfl (hb hby d8_135) rfl ?_
    refine XS.lconst X9.here hx rfl (hb hby d8_136) ?_
    refine XS.ladd X9.here hx rfl (hb hby d8_137) rfl ?_
    refine XS.ladd X9.here hx rfl (hb hby d8_138) rfl ?_
    show Steps p.tables e below (T9.setTop (mkF m 139 #[va o0, vl q3, ss, vl q4, ss, vi 0, vi 0, vl 0, ss, vi 0, uu, uu, uu] [(.long ((0 : Int64) + ((q2 - q1) + (1 : Int64))))])) _
    refine XS.lstore X9.here hx rfl (hb hby d8_139) rfl (l' := #[va o0, vl q3, ss, vl q4, ss, vi 0, vi 0, vl ((0 : Int64) + ((q2 - q1) + (1 : Int64))), ss, vi 0, uu, uu, uu]) rfl ?_
    refine XS.iinc X9.here hx rfl (hb hby d8_141) rfl (l' := #[va o0, vl q3, ss, vl q4, ss, vi 0, vi 0, vl ((0 : Int64) + ((q2 - q1) + (1 : Int64))), ss, vi ((0 : Int32) + (1 : Int32)), uu, uu, uu]) rfl ?_
    show Steps p.tables e below (T9.setTop (mkF m 144 #[va o0, vl q3, ss, vl q4, ss, vi 0, vi 0, vl ((0 : Int64) + ((q2 - q1) + (1 : Int64))), ss, vi ((0 : Int32) + (1 : Int32)), uu, uu, uu] [])) _
    rw [show (((0 : Int32) + (1 : Int32)) : Int32) = (1 : Int32) from by decide]
    refine XS.goto X9.here hx rfl (pc0 := 144) (pc' := 112) rfl (hb hby d8_144) (by decide) (by decide) ?_
    refine XS.iload X9.here hx rfl (hb hby d8_112) rfl ?_
    refine XS.iload X9.here hx rfl (hb hby d8_114) rfl ?_
    refine XS.icmpYes X9.here hx rfl (pc0 := 116) (pc' := 147) rfl (hb hby d8_116) rfl (tlt (by decide : (0 : Int32) < (1 : Int32))).2.2.1 (by decide) (by decide) ?_
    refine XS.lloadN X9.here hx rfl (hb hby d8_147) rfl ?_
    refine XS.aloadN X9.here hx rfl (hb hby d8_148) rfl rfl ?_
    refine st10 _ ?_
    show Steps p.tables e below (T10.setTop (mkF m 152 #[va o0, vl q3, ss, vl q4, ss, vi 0, vi 0, vl ((0 : Int64) + ((q2 - q1) + (1 : Int64))), ss, vi 1, uu, uu, uu] [(.ref o1), (.long q3)])) _
    refine XS.iload X10.here hx rfl (hb hby d8_152) rfl ?_
    refine X10.laload hx (j := (0 : Int32)) (v := (.long q1)) (by rw [e10]; exact Ar5.1) (State.isArrayOf_alike hZ.alike Ar5.2.1) Ar5.2.2 hin5_0 (Has.at Hh5 hin5_0 rfl) (g := (mkF m 154 #[va o0, vl q3, ss, vl q4, ss, vi 0, vi 0, vl ((0 : Int64) + ((q2 - q1) + (1 : Int64))), ss, vi 1, uu, uu, uu] [(.int 0), (.ref o1), (.long q3)])) rfl rfl (hb hby d8_154) _ ?_
    refine st11 _ ?_
    refine XS.lstore X11.here hx rfl (hb hby d8_158) rfl (l' := #[va o0, vl q3, ss, vl q4, ss, vi 0, vi 0, vl ((0 : Int64) + ((q2 - q1) + (1 : Int64))), ss, vl (own_minL q3 q1), ss, uu, uu]) rfl ?_
    refine XS.lloadN X11.here hx rfl (hb hby d8_160) rfl ?_
    refine XS.aloadN X11.here hx rfl (hb hby d8_161) rfl rfl ?_
    refine st12 _ ?_
    refine XS.iload X12.here hx rfl (hb hby d8_165) rfl ?_
    show Steps p.tables e below (T12.setTop (mkF m 167 #[va o0, vl q3, ss, vl q4, ss, vi 0, vi 0, vl ((0 : Int64) + ((q2 - q1) + (1 : Int64))), ss, vl (own_minL q3 q1), ss, uu, uu] [(.int 0), (.ref o2), (.long q4)])) _
    refine X12.laload hx (j := (0 : Int32)) (v := (.long q2)) (by rw [e12]; exact Ar8.1) (State.isArrayOf_alike hZ.alike Ar8.2.1) Ar8.2.2 hin8_0 (Has.at Hh8 hin8_0 rfl) (g := (mkF m 167 #[va o0, vl q3, ss, vl q4, ss, vi 0, vi 0, vl ((0 : Int64) + ((q2 - q1) + (1 : Int64))), ss, vl (own_minL q3 q1), ss, uu, uu] [(.int 0), (.ref o2), (.long q4)])) rfl rfl (hb hby d8_167) _ ?_
    refine st13 _ ?_
    refine XS.lstore X13.here hx rfl (hb hby d8_171) rfl (l' := #[va o0, vl q3, ss, vl q4, ss, vi 0, vi 0, vl ((0 : Int64) + ((q2 - q1) + (1 : Int64))), ss, vl (own_minL q3 q1), ss, vl (own_maxL q4 q2), ss]) rfl ?_
    refine XS.aloadN X13.here hx rfl (hb hby d8_173) rfl rfl ?_
    refine st14 _ ?_
    refine XS.iload X14.here hx rfl (hb hby d8_177) rfl ?_
    refine XS.lload X14.here hx rfl (hb hby d8_179) rfl ?_
    refine st15 _ ?_
    show Steps p.tables e below (T15.setTop (mkF m 182 #[va o0, vl q3, ss, vl q4, ss, vi 0, vi 0, vl ((0 : Int64) + ((q2 - q1) + (1 : Int64))), ss, vl (own_minL q3 q1), ss, vl (own_maxL q4 q2), ss] [])) _
    refine XS.aloadN X15.here hx rfl (hb hby d8_182) rfl rfl ?_
    refine st17 _ ?_
    refine XS.iload X17.here hx rfl (hb hby d8_186) rfl ?_
    refine XS.lload X17.here hx rfl (hb hby d8_188) rfl ?_
    refine st20 _ ?_
    refine XS.aloadN X20.here hx rfl (hb hby d8_191) rfl rfl ?_
    refine XS.iload X20.here hx rfl (hb hby d8_192) rfl ?_
    refine XS.iconst X20.here hx rfl (hb hby d8_194) ?_
    show Steps p.tables e below (T20.setTop (mkF m 195 #[va o0, vl q3, ss, vl q4, ss, vi 0, vi 0, vl ((0 : Int64) + ((q2 - q1) + (1 : Int64))), ss, vl (own_minL q3 q1), ss, vl (own_maxL q4 q2), ss] [(.int 1), (.int 0), (.ref o0)])) _
    refine XS.iadd X20.here hx rfl (hb hby d8_195) rfl ?_
    show Steps p.tables e below (T20.setTop (mkF m 196 #[va o0, vl q3, ss, vl q4, ss, vi 0, vi 0, vl ((0 : Int64) + ((q2 - q1) + (1 : Int64))), ss, vl (own_minL q3 q1), ss, vl (own_maxL q4 q2), ss] [(.int ((0 : Int32) + (1 : Int32))), (.ref o0)])) _
    rw [show (((0 : Int32) + (1 : Int32)) : Int32) = (1 : Int32) from by decide]
    refine XS.iload X20.here hx rfl (hb hby d8_196) rfl ?_
    refine XS.iload X20.here hx rfl (hb hby d8_198) rfl ?_
    refine XS.isub X20.here hx rfl (hb hby d8_200) rfl ?_
    show Steps p.tables e below (T20.setTop (mkF m 201 #[va o0, vl q3, ss, vl q4, ss, vi 0, vi 0, vl ((0 : Int64) + ((q2 - q1) + (1 : Int64))), ss, vl (own_minL q3 q1), ss, vl (own_maxL q4 q2), ss] [(.int ((0 : Int32) - (0 : Int32))), (.int 1), (.ref o0)])) _
    rw [show (((0 : Int32) - (0 : Int32)) : Int32) = (0 : Int32) from by decide]
    refine st28.trans ?_
    refine XS.aloadN X28.here hx rfl (hb hby d8_204) rfl rfl ?_
    refine XS.dup X28.here hx rfl (hb hby d8_205) rfl rfl ?_
    refine st29 _ ?_
    refine XS.lload X29.here hx rfl (hb hby d8_209) rfl ?_
    refine XS.lload X29.here hx rfl (hb hby d8_211) rfl ?_
    refine XS.lsub X29.here hx rfl (hb hby d8_213) rfl ?_
    show Steps p.tables e below (T29.setTop (mkF m 214 #[va o0, vl q3, ss, vl q4, ss, vi 0, vi 0, vl ((0 : Int64) + ((q2 - q1) + (1 : Int64))), ss, vl (own_minL q3 q1), ss, vl (own_maxL q4 q2), ss] [(.long ((own_maxL q4 q2) - (own_minL q3 q1))), (.long q0), (.ref o0)])) _
    refine XS.lconst X29.here hx rfl (hb hby d8_214) ?_
    refine XS.ladd X29.here hx rfl (hb hby d8_215) rfl ?_
    refine XS.lload X29.here hx rfl (hb hby d8_216) rfl ?_
    refine XS.lsub X29.here hx rfl (hb hby d8_218) rfl ?_
    refine XS.ladd X29.here hx rfl (hb hby d8_219) rfl ?_
    refine st30 _ ?_
    refine XS.iconst X30.here hx rfl (hb hby d8_223) ?_
    exact retN X30 hx (t := .boolean) hrt (by simp) (hb hby d8_224) hr
  · show Q8_3 Z w_NONE o0 o1 o2 kk_o1 kk_o2 q3 q4 q0 q1 q2 h0 n0 (some (.int 1)) T30.heap _
    rw [e30]; exact ⟨rfl, N30, K30, fc31, Fw30, fc32, fc33, fc34, fc35, fc36, fc37⟩
def Q11_1 (Z : State) (w_NONE : Addr) (o0 : Addr) (o1 : Addr) (o2 : Addr) (kk_o1 : ClassId) (kk_o2 : ClassId) (q3 : Int64) (q4 : Int64) (q0 : Int64) (q1 : Int64) (q2 : Int64) (h0 : Heap) (n0 : Nat) (v : Option Value) (h : Heap) (L : List Loc) : Prop := v = none ∧ Fr n0 L ∧ Keep h0 h [o1, o2, o0] ∧ Exa Z h o0 sC0 ∧ Fld Z h o0 sC0 "count" "J" (.long q0) ∧ Fld Z h o0 sC0 "firsts" "[J" (.ref o1) ∧ Fld Z h o0 sC0 "lasts" "[J" (.ref o2) ∧ Fld Z h o0 sC0 "maxRanges" "I" (.int 2147483647) ∧ Fld Z h o0 sC0 "ranges" "I" (.int 2) ∧ Arv Z h o1 kk_o1 .long (4 : Int32) [(.long q3), (.long q1), (.long 0), (.long 0)] (.long 0) ∧ Arv Z h o2 kk_o2 .long (4 : Int32) [(.long q4), (.long q2), (.long 0), (.long 0)] (.long 0)
theorem rm11_1 (l : Launch) (Z : State) (a0 : Array Value) (hw : HW Z a0) (ws : List Jvm.Cond) (w_NONE : Addr) (o0 : Addr) (o1 : Addr) (o2 : Addr) (kk_o1 : ClassId) (kk_o2 : ClassId) (q3 : Int64) (q4 : Int64) (q0 : Int64) (q1 : Int64) (q2 : Int64) (h0 : Heap) (n0 : Nat) (O0 : Old Z n0 h0) (S : SF Z w_NONE) (E_o0 : Exa Z h0 o0 sC0) (F_count_o0 : Fld Z h0 o0 sC0 "count" "J" (.long q0)) (F_firsts_o0 : Fld Z h0 o0 sC0 "firsts" "[J" (.ref o1)) (F_lasts_o0 : Fld Z h0 o0 sC0 "lasts" "[J" (.ref o2)) (F_maxRanges_o0 : Fld Z h0 o0 sC0 "maxRanges" "I" (.int 2147483647)) (F_ranges_o0 : Fld Z h0 o0 sC0 "ranges" "I" (.int 1)) (V_o1 : Arv Z h0 o1 kk_o1 .long (4 : Int32) [(.long q1), (.long 0), (.long 0), (.long 0)] (.long 0)) (V_o2 : Arv Z h0 o2 kk_o2 .long (4 : Int32) [(.long q2), (.long 0), (.long 0), (.long 0)] (.long 0)) (ne_o0_o1 : o0 ≠ o1) (ne_o0_o2 : o0 ≠ o2) (ne_o1_o2 : o1 ≠ o2) (g_o0 : n0 ≤ o0) (g_o1 : n0 ≤ o1) (g_o2 : n0 ≤ o2) :
    Pay l Z My11 ws prog_55_method_21_code 7 none #[(.ref o0), (.int 0), (.long q3), (.long q4)] h0 ({ frames := 1, cells := 0, slots := 0, locals := 18 } : Room) (Q11_1 Z w_NONE o0 o1 o2 kk_o1 kk_o2 q3 q4 q0 q1 q2 h0 n0) := by
  refine own_body (plainFor_of_name pn_1) (L0 := #[va o0, vi 0, vl q3, ss, vl q4, ss, uu]) (fun _ => by first | rfl | (simp [entryFrame, mkF, argsToLocals, Value.category]; done)) ?_
  intro p e s m below meth c s₁ hrt hlk hx hby hml hZ hown0 hnm X0 e0
  have hown : s.vm.findClass sC0 = some m.cls := hown0
  have N0 := Fr.nil n0
  have K0 : Keep h0 h0 [o1, o2, o0] := Keep.refl _ _
  obtain ⟨T1, X1, e1, st1⟩ := getF X0 hx hZ hown (host := "") (Or.inl (ww hw 39 rfl)) Via.refl e0 F_ranges_o0 (g := (mkF m 1 #[va o0, vi 0, vl q3, ss, vl q4, ss, uu] [(.ref o0)])) rfl rfl (hb hby d11_1)
  obtain ⟨T2, X2, e2, st2⟩ := getF X1 hx hZ hown (host := "") (Or.inl (ww hw 28 rfl)) Via.refl e1 F_firsts_o0 (g := (mkF m 5 #[va o0, vi 0, vl q3, ss, vl q4, ss, uu] [(.ref o0), (.int 1)])) rfl rfl (hb hby d11_5)
  obtain ⟨cl3, Ar3, qk3, Sz3, Ng3, Hh3, Gg3⟩ := id V_o1
  obtain ⟨T4, X4, e4, st4⟩ := getF X2 hx hZ hown (host := "") (Or.inl (ww hw 28 rfl)) Via.refl e2 F_firsts_o0 (g := (mkF m 51 #[va o0, vi 0, vl q3, ss, vl q4, ss, uu] [(.ref o0)])) rfl rfl (hb hby d11_51)
  obtain ⟨T5, X5, e5, st5⟩ := getF X4 hx hZ hown (host := "") (Or.inl (ww hw 28 rfl)) Via.refl e4 F_firsts_o0 (g := (mkF m 56 #[va o0, vi 0, vl q3, ss, vl q4, ss, uu] [(.ref o0), (.int 0), (.ref o1)])) rfl rfl (hb hby d11_56)
  obtain ⟨T6, X6, e6, st6⟩ := getF X5 hx hZ hown (host := "") (Or.inl (ww hw 39 rfl)) Via.refl e5 F_ranges_o0 (g := (mkF m 63 #[va o0, vi 0, vl q3, ss, vl q4, ss, uu] [(.ref o0), (.int 1), (.ref o1), (.int 0), (.ref o1)])) rfl rfl (hb hby d11_63)
  obtain ⟨T7, h7, L7, X7, e7, N7, Kc7, Vc7, st7⟩ := cpA X6 hx hZ hown (ww hw 72 rfl) (ww hw 71 rfl) (ww hw 69 rfl) (ww hw 70 rfl) e6 V_o1 V_o1 (us := [(.long q1)]) (Or.inl ⟨rfl, rfl⟩) (sp := (0 : Int32)) (dp := (1 : Int32)) (nn := (1 : Int32)) (by decide) (by decide) (by decide) (by decide) (by decide) rfl (Nat.le_of_ble_eq_true rfl) N0 g_o1 (g := (mkF m 68 #[va o0, vi 0, vl q3, ss, vl q4, ss, uu] [(.int 1), (.int 1), (.ref o1), (.int 0), (.ref o1)])) rfl (by rw [hml]; rfl) (rest := []) rfl (hb hby d11_68) (by decide) (W := 0) (by show 2 * 0 + _ ≤ _; exact Nat.le_of_eq rfl) (by decide)
  have V7 : Arv Z h7 o1 kk_o1 .long (4 : Int32) [(.long q1), (.long q1), (.long 0), (.long 0)] (.long 0) := Vc7
  have O7 := O0.keep Kc7 (allS g_o1 all0)
  have K7 : Keep h0 h7 [o1, o2, o0] := K0.trans Kc7 (allS (Or.inl (List.mem_of_getElem? (i := 0) rfl)) all0)
  have fc8 := (F_lasts_o0.keep Kc7 (ninS ne_o0_o1 nin0))
  obtain ⟨T9, X9, e9, st9⟩ := getF X7 hx hZ hown (host := "") (Or.inl (ww hw 30 rfl)) Via.refl e7 fc8 (g := (mkF m 72 #[va o0, vi 0, vl q3, ss, vl q4, ss, uu] [(.ref o0)])) rfl rfl (hb hby d11_72)
  obtain ⟨T10, X10, e10, st10⟩ := getF X9 hx hZ hown (host := "") (Or.inl (ww hw 30 rfl)) Via.refl e9 fc8 (g := (mkF m 77 #[va o0, vi 0, vl q3, ss, vl q4, ss, uu] [(.ref o0), (.int 0), (.ref o2)])) rfl rfl (hb hby d11_77)
  have fc11 := (F_ranges_o0.keep Kc7 (ninS ne_o0_o1 nin0))
  obtain ⟨T12, X12, e12, st12⟩ := getF X10 hx hZ hown (host := "") (Or.inl (ww hw 39 rfl)) Via.refl e10 fc11 (g := (mkF m 84 #[va o0, vi 0, vl q3, ss, vl q4, ss, uu] [(.ref o0), (.int 1), (.ref o2), (.int 0), (.ref o2)])) rfl rfl (hb hby d11_84)
  have fc13 := (V_o2.keep Kc7 (ninS (Ne.symm ne_o1_o2) nin0))
  obtain ⟨T14, h14, L14, X14, e14, N14, Kc14, Vc14, st14⟩ := cpA X12 hx hZ hown (ww hw 72 rfl) (ww hw 71 rfl) (ww hw 69 rfl) (ww hw 70 rfl) e12 fc13 fc13 (us := [(.long q2)]) (Or.inl ⟨rfl, rfl⟩) (sp := (0 : Int32)) (dp := (1 : Int32)) (nn := (1 : Int32)) (by decide) (by decide) (by decide) (by decide) (by decide) rfl (Nat.le_of_ble_eq_true rfl) N7 g_o2 (g := (mkF m 89 #[va o0, vi 0, vl q3, ss, vl q4, ss, uu] [(.int 1), (.int 1), (.ref o2), (.int 0), (.ref o2)])) rfl (by rw [hml]; rfl) (rest := []) rfl (hb hby d11_89) (by decide) (W := 0) (by show 2 * 0 + _ ≤ _; exact Nat.le_of_eq rfl) (by decide)
  have V14 : Arv Z h14 o2 kk_o2 .long (4 : Int32) [(.long q2), (.long q2), (.long 0), (.long 0)] (.long 0) := Vc14
  have O14 := O7.keep Kc14 (allS g_o2 all0)
  have K14 : Keep h0 h14 [o1, o2, o0] := K7.trans Kc14 (allS (Or.inl (List.mem_of_getElem? (i := 1) rfl)) all0)
  have fc15 := ((F_firsts_o0.keep Kc7 (ninS ne_o0_o1 nin0)).keep Kc14 (ninS ne_o0_o2 nin0))
  obtain ⟨T16, X16, e16, st16⟩ := getF X14 hx hZ hown (host := "") (Or.inl (ww hw 28 rfl)) Via.refl e14 fc15 (g := (mkF m 93 #[va o0, vi 0, vl q3, ss, vl q4, ss, uu] [(.ref o0)])) rfl rfl (hb hby d11_93)
  have fc17 := (V7.keep Kc14 (ninS ne_o1_o2 nin0))
  obtain ⟨cl18, Ar18, qk18, Sz18, Ng18, Hh18, Gg18⟩ := id fc17
  have hin18_0 : ¬ ((0 : Int32) < 0 ∨ cl18.slots.size ≤ ((0 : Int32)).toNatClampNeg) := inb_of Sz18 ⟨by decide, by decide⟩
  obtain ⟨T19, h19, X19, e19, W19, st19⟩ := stJ X16 hx hZ e16 Ar18 (j := (0 : Int32)) hin18_0 (g := (mkF m 98 #[va o0, vi 0, vl q3, ss, vl q4, ss, uu] [(.long q3), (.int 0), (.ref o1)])) rfl rfl (hb hby d11_98)
  have V19 : Arv Z h19 o1 kk_o1 .long (4 : Int32) [(.long q3), (.long q1), (.long 0), (.long 0)] (.long 0) := Arv.set Ar18 qk18 Sz18 Ng18 Hh18 Gg18 rfl W19 0 rfl (Nat.le_of_ble_eq_true rfl)
  have O19 := O14.wr W19 g_o1
  have K19 : Keep h0 h19 [o1, o2, o0] := K14.wr W19 (Or.inl (List.mem_of_getElem? (i := 0) rfl))
  have N19 := Fr.snoc X19 N14 g_o1
  have fc20 := ((fc8.keep Kc14 (ninS ne_o0_o2 nin0)).other W19 (Or.inl ne_o0_o1))
  obtain ⟨T21, X21, e21, st21⟩ := getF X19 hx hZ hown (host := "") (Or.inl (ww hw 30 rfl)) Via.refl e19 fc20 (g := (mkF m 100 #[va o0, vi 0, vl q3, ss, vl q4, ss, uu] [(.ref o0)])) rfl rfl (hb hby d11_100)
  have fc22 := (V14.other W19 (Ne.symm ne_o1_o2))
  obtain ⟨cl23, Ar23, qk23, Sz23, Ng23, Hh23, Gg23⟩ := id fc22
  have hin23_0 : ¬ ((0 : Int32) < 0 ∨ cl23.slots.size ≤ ((0 : Int32)).toNatClampNeg) := inb_of Sz23 ⟨by decide, by decide⟩
  obtain ⟨T24, h24, X24, e24, W24, st24⟩ := stJ X21 hx hZ e21 Ar23 (j := (0 : Int32)) hin23_0 (g := (mkF m 106 #[va o0, vi 0, vl q3, ss, vl q4, ss, uu] [(.long q4), (.int 0), (.ref o2)])) rfl rfl (hb hby d11_106)
  have V24 : Arv Z h24 o2 kk_o2 .long (4 : Int32) [(.long q4), (.long q2), (.long 0), (.long 0)] (.long 0) := Arv.set Ar23 qk23 Sz23 Ng23 Hh23 Gg23 rfl W24 0 rfl (Nat.le_of_ble_eq_true rfl)
  have O24 := O19.wr W24 g_o2
  have K24 : Keep h0 h24 [o1, o2, o0] := K19.wr W24 (Or.inl (List.mem_of_getElem? (i := 1) rfl))
  have N24 := Fr.snoc X24 N19 g_o2
  have fc25 := (((fc11.keep Kc14 (ninS ne_o0_o2 nin0)).other W19 (Or.inl ne_o0_o1)).other W24 (Or.inl ne_o0_o2))
  obtain ⟨T26, X26, e26, st26⟩ := getF X24 hx hZ hown (host := "") (Or.inl (ww hw 39 rfl)) Via.refl e24 fc25 (g := (mkF m 109 #[va o0, vi 0, vl q3, ss, vl q4, ss, uu] [(.ref o0), (.ref o0)])) rfl rfl (hb hby d11_109)
  have fc27 := ((((E_o0.keep Kc7).keep Kc14).wr W19).wr W24)
  obtain ⟨T28, h28, X28, e28, W28, st28⟩ := putF X26 hx hZ hown (host := "") (Or.inl (ww hw 39 rfl)) Via.refl e26 fc25 fc27 (Or.inl (ww hw 40 rfl)) (ww hw 14 rfl) (ty := .int) (by decide) rfl rfl (g := (mkF m 114 #[va o0, vi 0, vl q3, ss, vl q4, ss, uu] [(.int 2), (.ref o0)])) rfl rfl (hb hby d11_114)
  have Fw28 := fc25.same W28
  have O28 := O24.wr W28 g_o0
  have K28 : Keep h0 h28 [o1, o2, o0] := K24.wr W28 (Or.inl (List.mem_of_getElem? (i := 2) rfl))
  have N28 := Fr.snoc X28 N24 g_o0
  obtain ⟨fs, hr, hrun, hended, hW, hsame⟩ := X28.leave (v := none) (fun _ => rfl)
  have fc29 := (fc27.wr W28)
  have fc30 := (((((F_count_o0.keep Kc7 (ninS ne_o0_o1 nin0)).keep Kc14 (ninS ne_o0_o2 nin0)).other W19 (Or.inl ne_o0_o1)).other W24 (Or.inl ne_o0_o2)).other W28 (Or.inr (slot_ne (Or.inl (ww hw 74 rfl)) (Or.inl (ww hw 40 rfl)) (by decide) (t := .long) (t' := .int) (by decide) (by decide))))
  have fc31 := (((fc15.other W19 (Or.inl ne_o0_o1)).other W24 (Or.inl ne_o0_o2)).other W28 (Or.inr (slot_ne (Or.inl (ww hw 29 rfl)) (Or.inl (ww hw 40 rfl)) (by decide) (t := (.array .long)) (t' := .int) (by decide) (by decide))))
  have fc32 := ((fc20.other W24 (Or.inl ne_o0_o2)).other W28 (Or.inr (slot_ne (Or.inl (ww hw 31 rfl)) (Or.inl (ww hw 40 rfl)) (by decide) (t := (.array .long)) (t' := .int) (by decide) (by decide))))
  have fc33 := (((((F_maxRanges_o0.keep Kc7 (ninS ne_o0_o1 nin0)).keep Kc14 (ninS ne_o0_o2 nin0)).other W19 (Or.inl ne_o0_o1)).other W24 (Or.inl ne_o0_o2)).other W28 (Or.inr (slot_ne (Or.inr (ww hw 33 rfl)) (Or.inl (ww hw 40 rfl)) (by decide) (t := .int) (t' := .int) (by decide) (by decide))))
  have fc34 := ((V19.other W24 ne_o1_o2).other W28 (Ne.symm ne_o0_o1))
  have fc35 := (V24.other W28 (Ne.symm ne_o0_o2))
  refine ⟨_, _, ?_, hrun, hended, _, _, rfl, ?_, ⟨_, rfl⟩, hW, hsame.mono (by decide) (by decide)⟩
  · show Steps p.tables e below (s₁.setTop (mkF m 0 #[va o0, vi 0, vl q3, ss, vl q4, ss, uu] [])) _
    refine XS.aloadN X0.here hx rfl (hb hby d11_0) rfl rfl ?_
    refine st1 _ ?_
    refine XS.aloadN X1.here hx rfl (hb hby d11_4) rfl rfl ?_
    refine st2 _ ?_
    refine X2.arraylength hx (by rw [e2]; exact Ar3.1) (State.isArrayOf_alike hZ.alike Ar3.2.1) (g := (mkF m 8 #[va o0, vi 0, vl q3, ss, vl q4, ss, uu] [(.ref o1), (.int 1)])) rfl rfl (hb hby d11_8) _ ?_
    rw [len_of Sz3 Ng3]
    refine XS.icmpYes X2.here hx rfl (pc0 := 9) (pc' := 50) rfl (hb hby d11_9) rfl (feq (by decide : ¬ ((1 : Int32) = (4 : Int32)))).2 (by decide) (by decide) ?_
    refine XS.aloadN X2.here hx rfl (hb hby d11_50) rfl rfl ?_
    refine st4 _ ?_
    show Steps p.tables e below (T4.setTop (mkF m 54 #[va o0, vi 0, vl q3, ss, vl q4, ss, uu] [(.ref o1)])) _
    refine XS.iloadN X4.here hx rfl (hb hby d11_54) rfl ?_
    refine XS.aloadN X4.here hx rfl (hb hby d11_55) rfl rfl ?_
    refine st5 _ ?_
    refine XS.iloadN X5.here hx rfl (hb hby d11_59) rfl ?_
    refine XS.iconst X5.here hx rfl (hb hby d11_60) ?_
    refine XS.iadd X5.here hx rfl (hb hby d11_61) rfl ?_
    show Steps p.tables e below (T5.setTop (mkF m 62 #[va o0, vi 0, vl q3, ss, vl q4, ss, uu] [(.int ((0 : Int32) + (1 : Int32))), (.ref o1), (.int 0), (.ref o1)])) _
    rw [show (((0 : Int32) + (1 : Int32)) : Int32) = (1 : Int32) from by decide]
    refine XS.aloadN X5.here hx rfl (hb hby d11_62) rfl rfl ?_
    refine st6 _ ?_
    refine XS.iloadN X6.here hx rfl (hb hby d11_66) rfl ?_
    refine XS.isub X6.here hx rfl (hb hby d11_67) rfl ?_
    show Steps p.tables e below (T6.setTop (mkF m 68 #[va o0, vi 0, vl q3, ss, vl q4, ss, uu] [(.int ((1 : Int32) - (0 : Int32))), (.int 1), (.ref o1), (.int 0), (.ref o1)])) _
    rw [show (((1 : Int32) - (0 : Int32)) : Int32) = (1 : Int32) from by decide]
    refine st7 _ ?_
    refine XS.aloadN X7.here hx rfl (hb hby d11_71) rfl rfl ?_
    refine st9 _ ?_
    refine XS.iloadN X9.here hx rfl (hb hby d11_75) rfl ?_
    refine XS.aloadN X9.here hx rfl (hb hby d11_76) rfl rfl ?_
    refine st10 _ ?_
    refine XS.iloadN X10.here hx rfl (hb hby d11_80) rfl ?_
    show Steps p.tables e below (T10.setTop (mkF m 81 #[va o0, vi 0, vl q3, ss, vl q4, ss, uu] [(.int 0), (.ref o2), (.int 0), (.ref o2)])) _
    refine XS.iconst X10.here hx rfl (hb hby d11_81) ?_
    refine XS.iadd X10.here hx rfl (hb hby d11_82) rfl ?_
    show Steps p.tables e below (T10.setTop (mkF m 83 #[va o0, vi 0, vl q3, ss, vl q4, ss, uu] [(.int ((0 : Int32) + (1 : Int32))), (.ref o2), (.int 0), (.ref o2)])) _
    rw [show (((0 : Int32) + (1 : Int32)) : Int32) = (1 : Int32) from by decide]
    refine XS.aloadN X10.here hx rfl (hb hby d11_83) rfl rfl ?_
    refine st12 _ ?_
    refine XS.iloadN X12.here hx rfl (hb hby d11_87) rfl ?_
    refine XS.isub X12.here hx rfl (hb hby d11_88) rfl ?_
    show Steps p.tables e below (T12.setTop (mkF m 89 #[va o0, vi 0, vl q3, ss, vl q4, ss, uu] [(.int ((1 : Int32) - (0 : Int32))), (.int 1), (.ref o2), (.int 0), (.ref o2)])) _
    rw [show (((1 : Int32) - (0 : Int32)) : Int32) = (1 : Int32) from by decide]
    refine st14 _ ?_
    refine XS.aloadN X14.here hx rfl (hb hby d11_92) rfl rfl ?_
    refine st16 _ ?_
    refine XS.iloadN X16.here hx rfl (hb hby d11_96) rfl ?_
    refine XS.lloadN X16.here hx rfl (hb hby d11_97) rfl ?_
    refine st19 _ ?_
    refine XS.aloadN X19.here hx rfl (hb hby d11_99) rfl rfl ?_
    show Steps p.tables e below (T19.setTop (mkF m 100 #[va o0, vi 0, vl q3, ss, vl q4, ss, uu] [(.ref o0)])) _
    refine st21 _ ?_
    refine XS.iloadN X21.here hx rfl (hb hby d11_103) rfl ?_
    refine XS.lload X21.here hx rfl (hb hby d11_104) rfl ?_
    refine st24 _ ?_
    refine XS.aloadN X24.here hx rfl (hb hby d11_107) rfl rfl ?_
    refine XS.dup X24.here hx rfl (hb hby d11_108) rfl rfl ?_
    refine st26 _ ?_
    refine XS.iconst X26.here hx rfl (hb hby d11_112) ?_
    show Steps p.tables e below (T26.setTop (mkF m 113 #[va o0, vi 0, vl q3, ss, vl q4, ss, uu] [(.int 1), (.int 1), (.ref o0)])) _
    refine XS.iadd X26.here hx rfl (hb hby d11_113) rfl ?_
    show Steps p.tables e below (T26.setTop (mkF m 114 #[va o0, vi 0, vl q3, ss, vl q4, ss, uu] [(.int ((1 : Int32) + (1 : Int32))), (.ref o0)])) _
    rw [show (((1 : Int32) + (1 : Int32)) : Int32) = (2 : Int32) from by decide]
    refine st28 _ ?_
    exact X28.returnOut hx hrt (hb hby d11_117) hr
  · show Q11_1 Z w_NONE o0 o1 o2 kk_o1 kk_o2 q3 q4 q0 q1 q2 h0 n0 none T28.heap _
    rw [e28]; exact ⟨rfl, N28, K28, fc29, fc30, fc31, fc32, fc33, Fw28, fc34, fc35⟩
def Q8_4 (Z : State) (w_NONE : Addr) (o0 : Addr) (o1 : Addr) (o2 : Addr) (kk_o1 : ClassId) (kk_o2 : ClassId) (q3 : Int64) (q4 : Int64) (q0 : Int64) (q1 : Int64) (q2 : Int64) (h0 : Heap) (n0 : Nat) (v : Option Value) (h : Heap) (L : List Loc) : Prop := v = (some (.int 1)) ∧ Fr n0 L ∧ Keep h0 h [o0, o2, o1] ∧ Exa Z h o0 sC0 ∧ Fld Z h o0 sC0 "count" "J" (.long (q0 + ((q4 - q3) + (1 : Int64)))) ∧ Fld Z h o0 sC0 "firsts" "[J" (.ref o1) ∧ Fld Z h o0 sC0 "lasts" "[J" (.ref o2) ∧ Fld Z h o0 sC0 "maxRanges" "I" (.int 2147483647) ∧ Fld Z h o0 sC0 "ranges" "I" (.int 2) ∧ Arv Z h o1 kk_o1 .long (4 : Int32) [(.long q3), (.long q1), (.long 0), (.long 0)] (.long 0) ∧ Arv Z h o2 kk_o2 .long (4 : Int32) [(.long q4), (.long q2), (.long 0), (.long 0)] (.long 0)
theorem rm8_4 (l : Launch) (Z : State) (a0 : Array Value) (hw : HW Z a0) (ws : List Jvm.Cond) (w_NONE : Addr) (o0 : Addr) (o1 : Addr) (o2 : Addr) (kk_o1 : ClassId) (kk_o2 : ClassId) (q3 : Int64) (q4 : Int64) (q0 : Int64) (q1 : Int64) (q2 : Int64) (h0 : Heap) (n0 : Nat) (O0 : Old Z n0 h0) (S : SF Z w_NONE) (E_o0 : Exa Z h0 o0 sC0) (F_count_o0 : Fld Z h0 o0 sC0 "count" "J" (.long q0)) (F_firsts_o0 : Fld Z h0 o0 sC0 "firsts" "[J" (.ref o1)) (F_lasts_o0 : Fld Z h0 o0 sC0 "lasts" "[J" (.ref o2)) (F_maxRanges_o0 : Fld Z h0 o0 sC0 "maxRanges" "I" (.int 2147483647)) (F_ranges_o0 : Fld Z h0 o0 sC0 "ranges" "I" (.int 1)) (V_o1 : Arv Z h0 o1 kk_o1 .long (4 : Int32) [(.long q1), (.long 0), (.long 0), (.long 0)] (.long 0)) (V_o2 : Arv Z h0 o2 kk_o2 .long (4 : Int32) [(.long q2), (.long 0), (.long 0), (.long 0)] (.long 0)) (ne_o0_o1 : o0 ≠ o1) (ne_o0_o2 : o0 ≠ o2) (ne_o1_o2 : o1 ≠ o2) (g_o0 : n0 ≤ o0) (g_o1 : n0 ≤ o1) (g_o2 : n0 ≤ o2) (hc0 : ¬ (q3 < (0 : Int64))) (hc1 : ¬ (q4 < q3)) (hc2 : q3 = (0 : Int64)) (hc3 : ¬ (q2 < (0 : Int64))) (hc4 : (q4 + (1 : Int64)) < q1) :
    Pay l Z My8 ws prog_55_method_8_code 13 (some .boolean) #[(.ref o0), (.long q3), (.long q4)] h0 ({ frames := 2, cells := 0, slots := 0, locals := 36 } : Room) (Q8_4 Z w_NONE o0 o1 o2 kk_o1 kk_o2 q3 q4 q0 q1 q2 h0 n0) := by
  refine own_body (plainFor_of_name pn_1) (L0 := #[va o0, vl q3, ss, vl q4, ss, uu, uu, uu, uu, uu, uu, uu, uu]) (fun _ => by first | rfl | (simp [entryFrame, mkF, argsToLocals, Value.category]; done)) ?_
  intro p e s m below meth c s₁ hrt hlk hx hby hml hZ hown0 hnm X0 e0
  have hown : s.vm.findClass sC0 = some m.cls := hown0
  have N0 := Fr.nil n0
  have K0 : Keep h0 h0 [o0, o2, o1] := Keep.refl _ _
  obtain ⟨_, _, ⟨T1, L1, k1, n1⟩, -, X1, ⟨Lc1, hQ1, l1, y1, z1⟩, st1⟩ := Jvm.LawKit.callS X0 hx (y := My9) hown (mvT hZ (ww hw 46 rfl)) (mvT hZ (ww hw 47 rfl)) (mvT hZ (ww hw 15 rfl)) (mvT hZ (ww hw 48 rfl)) (by decide) (backOf (W := 0) (rm9_0 l Z a0 hw [] w_NONE q3 q4 h0 n0 O0 S hc0 hc1) hZ (ww hw 48 rfl) (ww hw 15 rfl) (by decide) (by decide)) (g := (mkF m 2 #[va o0, vl q3, ss, vl q4, ss, uu, uu, uu, uu, uu, uu, uu, uu] [(.long q4), (.long q3)])) rfl (by rw [hml]; rfl) (argsL := [(.long q3), (.long q4)]) (rest := []) (lenOf pd_4 rfl) rfl (by show 2 * 0 + _ ≤ _; exact Nat.le_of_eq rfl) (hb hby d8_2) (fun _ _ => ⟨rfl, e0, (by decide : 0 + 0 ≤ _), (by decide : 0 + 0 ≤ _)⟩)
  dsimp only [Pt.U, Pt.locs, Pt.cells, Pt.slots] at X1 l1 y1 z1 st1 hQ1
  subst l1 y1 z1
  obtain ⟨rfl, Nq1, e1⟩ := hQ1
  have N1 := Fr.app N0 Nq1
  obtain ⟨cq2, qa2, qb2⟩ := E_o0.cell
  obtain ⟨_, _, ⟨T2, L2, k2, n2⟩, -, X2, ⟨Lc2, hQ2, l2, y2, z2⟩, st2⟩ := X1.privateBack hx (y := My10) hown (mvT hZ (ww hw 49 rfl)) (mvT hZ (ww hw 50 rfl)) (own_selp (by decide) (mvT hZ (ww hw 14 rfl)) (mvP hZ (ww hw 51 rfl)) (mvT hZ (ww hw 50 rfl))) (Cond.privateMethod_at (mvP hZ (ww hw 51 rfl) (args := #[]))) (mvT hZ (ww hw 52 rfl)) (by decide) (backOf (W := 0) (rm10_3 l Z a0 hw [] w_NONE o0 o1 o2 kk_o1 kk_o2 q0 q1 q2 h0 n0 O0 S F_lasts_o0 F_ranges_o0 V_o2 hc3) hZ (ww hw 52 rfl) (ww hw 15 rfl) (by decide) (by decide)) (g := (mkF m 19 #[va o0, vl q3, ss, vl q4, ss, uu, uu, uu, uu, uu, uu, uu, uu] [(.long 0), (.ref o0)])) rfl (by rw [hml]; rfl) (Steps.refl _) (a := o0) (by rw [e1]; exact qa2) qb2 (argsL := [(.long 0)]) (rest := []) (lenOf pd_5 rfl) rfl (by show 2 * 0 + _ ≤ _; exact Nat.le_of_eq rfl) (hb hby d8_19) (fun _ _ => ⟨rfl, e1, (by decide : 0 + 0 ≤ _), (by decide : 0 + 0 ≤ _)⟩)
  dsimp only [Pt.U, Pt.locs, Pt.cells, Pt.slots] at X2 l2 y2 z2 st2 hQ2
  subst l2 y2 z2
  obtain ⟨rfl, Nq2, e2⟩ := hQ2
  have N2 := Fr.app N1 Nq2
  obtain ⟨T3, X3, e3, st3⟩ := getF X2 hx hZ hown (host := "") (Or.inl (ww hw 39 rfl)) Via.refl e2 F_ranges_o0 (g := (mkF m 31 #[va o0, vl q3, ss, vl q4, ss, vi 0, vi 0, uu, uu, uu, uu, uu, uu] [(.ref o0), (.int 0)])) rfl rfl (hb hby d8_31)
  obtain ⟨T4, X4, e4, st4⟩ := getF X3 hx hZ hown (host := "") (Or.inl (ww hw 28 rfl)) Via.refl e3 F_firsts_o0 (g := (mkF m 38 #[va o0, vl q3, ss, vl q4, ss, vi 0, vi 0, uu, uu, uu, uu, uu, uu] [(.ref o0)])) rfl rfl (hb hby d8_38)
  obtain ⟨cl5, Ar5, qk5, Sz5, Ng5, Hh5, Gg5⟩ := id V_o1
  have hin5_0 : ¬ ((0 : Int32) < 0 ∨ cl5.slots.size ≤ ((0 : Int32)).toNatClampNeg) := inb_of Sz5 ⟨by decide, by decide⟩
  obtain ⟨T6, X6, e6, st6⟩ := getF X4 hx hZ hown (host := "") (Or.inl (ww hw 39 rfl)) Via.refl e4 F_ranges_o0 (g := (mkF m 68 #[va o0, vl q3, ss, vl q4, ss, vi 0, vi (-1), uu, uu, uu, uu, uu, uu] [(.ref o0)])) rfl rfl (hb hby d8_68)
  obtain ⟨T7, X7, e7, st7⟩ := getF X6 hx hZ hown (host := "") (Or.inl (ww hw 32 rfl)) Via.refl e6 F_maxRanges_o0 (g := (mkF m 72 #[va o0, vl q3, ss, vl q4, ss, vi 0, vi (-1), uu, uu, uu, uu, uu, uu] [(.ref o0), (.int 1)])) rfl rfl (hb hby d8_72)
  obtain ⟨cq8, qa8, qb8⟩ := E_o0.cell
  obtain ⟨_, _, ⟨T8, L8, k8, n8⟩, -, X8, ⟨Lc8, hQ8, l8, y8, z8⟩, st8⟩ := X7.privateBack hx (y := My11) hown (mvT hZ (ww hw 53 rfl)) (mvT hZ (ww hw 54 rfl)) (own_selp (by decide) (mvT hZ (ww hw 14 rfl)) (mvP hZ (ww hw 55 rfl)) (mvT hZ (ww hw 54 rfl))) (Cond.privateMethod_at (mvP hZ (ww hw 55 rfl) (args := #[]))) (mvT hZ (ww hw 56 rfl)) (by decide) (backOf (W := 0) (rm11_1 l Z a0 hw [] w_NONE o0 o1 o2 kk_o1 kk_o2 q3 q4 q0 q1 q2 h0 n0 O0 S E_o0 F_count_o0 F_firsts_o0 F_lasts_o0 F_maxRanges_o0 F_ranges_o0 V_o1 V_o2 ne_o0_o1 ne_o0_o2 ne_o1_o2 g_o0 g_o1 g_o2) hZ (ww hw 56 rfl) (ww hw 15 rfl) (by decide) (by decide)) (g := (mkF m 85 #[va o0, vl q3, ss, vl q4, ss, vi 0, vi (-1), uu, uu, uu, uu, uu, uu] [(.long q4), (.long q3), (.int 0), (.ref o0)])) rfl (by rw [hml]; rfl) (Steps.refl _) (a := o0) (by rw [e7]; exact qa8) qb8 (argsL := [(.int 0), (.long q3), (.long q4)]) (rest := []) (lenOf pd_8 rfl) rfl (by show 2 * 0 + _ ≤ _; exact Nat.le_of_eq rfl) (hb hby d8_85) (fun _ _ => ⟨rfl, e7, (by decide : 0 + 0 ≤ _), (by decide : 0 + 0 ≤ _)⟩)
  dsimp only [Pt.U, Pt.locs, Pt.cells, Pt.slots] at X8 l8 y8 z8 st8 hQ8
  subst l8 y8 z8
  obtain ⟨rfl, Nq8, Kc8, P0_8, P1_8, P2_8, P3_8, P4_8, P5_8, P6_8, P7_8⟩ := hQ8
  have N8 := Fr.app N2 Nq8
  have O8 := O0.keep Kc8 (allS g_o1 (allS g_o2 (allS g_o0 all0)))
  have K8 : Keep h0 T8.heap [o0, o2, o1] := K0.trans Kc8 (allS (Or.inl (List.mem_of_getElem? (i := 2) rfl)) (allS (Or.inl (List.mem_of_getElem? (i := 1) rfl)) (allS (Or.inl (List.mem_of_getElem? (i := 0) rfl)) all0)))
  obtain ⟨T9, X9, e9, st9⟩ := getF X8 hx hZ hown (host := "") (Or.inl (ww hw 73 rfl)) Via.refl rfl P1_8 (g := (mkF m 90 #[va o0, vl q3, ss, vl q4, ss, vi 0, vi (-1), uu, uu, uu, uu, uu, uu] [(.ref o0), (.ref o0)])) rfl rfl (hb hby d8_90)
  obtain ⟨T10, h10, X10, e10, W10, st10⟩ := putF X9 hx hZ hown (host := "") (Or.inl (ww hw 73 rfl)) Via.refl e9 P1_8 P0_8 (Or.inl (ww hw 74 rfl)) (ww hw 14 rfl) (ty := .long) (by decide) rfl rfl (g := (mkF m 99 #[va o0, vl q3, ss, vl q4, ss, vi 0, vi (-1), uu, uu, uu, uu, uu, uu] [(.long (q0 + ((q4 - q3) + (1 : Int64)))), (.ref o0)])) rfl rfl (hb hby d8_99)
  have Fw10 := P1_8.same W10
  have O10 := O8.wr W10 g_o0
  have K10 : Keep h0 h10 [o0, o2, o1] := K8.wr W10 (Or.inl (List.mem_of_getElem? (i := 0) rfl))
  have N10 := Fr.snoc X10 N8 g_o0
  obtain ⟨fs, hr, hrun, hended, hW, hsame⟩ := X10.leave (v := (some (.int 1))) (fun h => by rw [hrt] at h; cases h)
  have fc11 := (P0_8.wr W10)
  have fc12 := (P2_8.other W10 (Or.inr (slot_ne (Or.inl (ww hw 29 rfl)) (Or.inl (ww hw 74 rfl)) (by decide) (t := (.array .long)) (t' := .long) (by decide) (by decide))))
  have fc13 := (P3_8.other W10 (Or.inr (slot_ne (Or.inl (ww hw 31 rfl)) (Or.inl (ww hw 74 rfl)) (by decide) (t := (.array .long)) (t' := .long) (by decide) (by decide))))
  have fc14 := (P4_8.other W10 (Or.inr (slot_ne (Or.inr (ww hw 33 rfl)) (Or.inl (ww hw 74 rfl)) (by decide) (t := .int) (t' := .long) (by decide) (by decide))))
  have fc15 := (P5_8.other W10 (Or.inr (slot_ne (Or.inl (ww hw 40 rfl)) (Or.inl (ww hw 74 rfl)) (by decide) (t := .int) (t' := .long) (by decide) (by decide))))
  have fc16 := (P6_8.other W10 (Ne.symm ne_o0_o1))
  have fc17 := (P7_8.other W10 (Ne.symm ne_o0_o2))
  refine ⟨_, _, ?_, hrun, hended, _, _, rfl, ?_, ⟨_, rfl⟩, hW, hsame.mono (by decide) (by decide)⟩
  · show Steps p.tables e below (s₁.setTop (mkF m 0 #[va o0, vl q3, ss, vl q4, ss, uu, uu, uu, uu, uu, uu, uu, uu] [])) _
    refine XS.lloadN X0.here hx rfl (hb hby d8_0) rfl ?_
    refine XS.lloadN X0.here hx rfl (hb hby d8_1) rfl ?_
    refine st1 _ ?_
    refine XS.aloadN X1.here hx rfl (hb hby d8_5) rfl rfl ?_
    refine XS.lloadN X1.here hx rfl (hb hby d8_6) rfl ?_
    refine XS.lconst X1.here hx rfl (hb hby d8_7) ?_
    refine XS.lcmp X1.here hx rfl (hb hby d8_8) rfl ?_
    refine XS.ifNo X1.here hx rfl (hb hby d8_9) rfl (own_lc_eqT hc2).2 ?_
    show Steps p.tables e below (T1.setTop (mkF m 12 #[va o0, vl q3, ss, vl q4, ss, uu, uu, uu, uu, uu, uu, uu, uu] [(.ref o0)])) _
    refine XS.lconst X1.here hx rfl (hb hby d8_12) ?_
    refine XS.goto X1.here hx rfl (pc0 := 13) (pc' := 19) rfl (hb hby d8_13) (by decide) (by decide) ?_
    refine st2.trans ?_
    refine XS.istore X2.here hx rfl (hb hby d8_22) rfl (l' := #[va o0, vl q3, ss, vl q4, ss, vi 0, uu, uu, uu, uu, uu, uu, uu]) rfl ?_
    refine XS.iload X2.here hx rfl (hb hby d8_24) rfl ?_
    refine XS.istore X2.here hx rfl (hb hby d8_26) rfl (l' := #[va o0, vl q3, ss, vl q4, ss, vi 0, vi 0, uu, uu, uu, uu, uu, uu]) rfl ?_
    refine XS.iload X2.here hx rfl (hb hby d8_28) rfl ?_
    refine XS.aloadN X2.here hx rfl (hb hby d8_30) rfl rfl ?_
    show Steps p.tables e below (T2.setTop (mkF m 31 #[va o0, vl q3, ss, vl q4, ss, vi 0, vi 0, uu, uu, uu, uu, uu, uu] [(.ref o0), (.int 0)])) _
    refine st3 _ ?_
    refine XS.icmpNo X3.here hx rfl (hb hby d8_34) rfl (tlt (by decide : (0 : Int32) < (1 : Int32))).2.1 ?_
    refine XS.aloadN X3.here hx rfl (hb hby d8_37) rfl rfl ?_
    refine st4 _ ?_
    refine XS.iload X4.here hx rfl (hb hby d8_41) rfl ?_
    refine X4.laload hx (j := (0 : Int32)) (v := (.long q1)) (by rw [e4]; exact Ar5.1) (State.isArrayOf_alike hZ.alike Ar5.2.1) Ar5.2.2 hin5_0 (Has.at Hh5 hin5_0 rfl) (g := (mkF m 43 #[va o0, vl q3, ss, vl q4, ss, vi 0, vi 0, uu, uu, uu, uu, uu, uu] [(.int 0), (.ref o1)])) rfl rfl (hb hby d8_43) _ ?_
    refine XS.lloadN X4.here hx rfl (hb hby d8_44) rfl ?_
    refine XS.lconst X4.here hx rfl (hb hby d8_45) ?_
    show Steps p.tables e below (T4.setTop (mkF m 46 #[va o0, vl q3, ss, vl q4, ss, vi 0, vi 0, uu, uu, uu, uu, uu, uu] [(.long 1), (.long q4), (.long q1)])) _
    refine XS.ladd X4.here hx rfl (hb hby d8_46) rfl ?_
    refine XS.lcmp X4.here hx rfl (hb hby d8_47) rfl ?_
    refine XS.ifYes X4.here hx rfl (pc0 := 48) (pc' := 57) rfl (hb hby d8_48) rfl (own_lc_gtT hc4).1 (by decide) (by decide) ?_
    refine XS.iinc X4.here hx rfl (hb hby d8_57) rfl (l' := #[va o0, vl q3, ss, vl q4, ss, vi 0, vi ((0 : Int32) + (-1 : Int32)), uu, uu, uu, uu, uu, uu]) rfl ?_
    show Steps p.tables e below (T4.setTop (mkF m 60 #[va o0, vl q3, ss, vl q4, ss, vi 0, vi ((0 : Int32) + (-1 : Int32)), uu, uu, uu, uu, uu, uu] [])) _
    rw [show (((0 : Int32) + (-1 : Int32)) : Int32) = (-1 : Int32) from by decide]
    refine XS.iload X4.here hx rfl (hb hby d8_60) rfl ?_
    refine XS.iload X4.here hx rfl (hb hby d8_62) rfl ?_
    refine XS.icmpNo X4.here hx rfl (hb hby d8_64) rfl (tlt (by decide : (-1 : Int32) < (0 : Int32))).2.1 ?_
    refine XS.aloadN X4.here hx rfl (hb hby d8_67) rfl rfl ?_
    refine st6 _ ?_
    refine XS.aloadN X6.here hx rfl (hb hby d8_71) rfl rfl ?_
    refine st7 _ ?_
    show Steps p.tables e below (T7.setTop (mkF m 75 #[va o0, vl q3, ss, vl q4, ss, vi 0, vi (-1), uu, uu, uu, uu, uu, uu] [(.int 2147483647), (.int 1)])) _
    refine XS.icmpYes X7.here hx rfl (pc0 := 75) (pc' := 80) rfl (hb hby d8_75) rfl (feq (by decide : ¬ ((1 : Int32) = (2147483647 : Int32)))).2 (by decide) (by decide) ?_
    refine XS.aloadN X7.here hx rfl (hb hby d8_80) rfl rfl ?_
    refine XS.iload X7.here hx rfl (hb hby d8_81) rfl ?_
    refine XS.lloadN X7.here hx rfl (hb hby d8_83) rfl ?_
    refine XS.lloadN X7.here hx rfl (hb hby d8_84) rfl ?_
    refine st8.trans ?_
    refine XS.aloadN X8.here hx rfl (hb hby d8_88) rfl rfl ?_
    refine XS.dup X8.here hx rfl (hb hby d8_89) rfl rfl ?_
    show Steps p.tables e below (T8.setTop (mkF m 90 #[va o0, vl q3, ss, vl q4, ss, vi 0, vi (-1), uu, uu, uu, uu, uu, uu] [(.ref o0), (.ref o0)])) _
    refine st9 _ ?_
    refine XS.lloadN X9.here hx rfl (hb hby d8_93) rfl ?_
    refine XS.lloadN X9.here hx rfl (hb hby d8_94) rfl ?_
    refine XS.lsub X9.here hx rfl (hb hby d8_95) rfl ?_
    refine XS.lconst X9.here hx rfl (hb hby d8_96) ?_
    refine XS.ladd X9.here hx rfl (hb hby d8_97) rfl ?_
    refine XS.ladd X9.here hx rfl (hb hby d8_98) rfl ?_
    refine st10 _ ?_
    show Steps p.tables e below (T10.setTop (mkF m 102 #[va o0, vl q3, ss, vl q4, ss, vi 0, vi (-1), uu, uu, uu, uu, uu, uu] [])) _
    refine XS.goto X10.here hx rfl (pc0 := 102) (pc' := 223) rfl (hb hby d8_102) (by decide) (by decide) ?_
    refine XS.iconst X10.here hx rfl (hb hby d8_223) ?_
    exact retN X10 hx (t := .boolean) hrt (by simp) (hb hby d8_224) hr
  · show Q8_4 Z w_NONE o0 o1 o2 kk_o1 kk_o2 q3 q4 q0 q1 q2 h0 n0 (some (.int 1)) T10.heap _
    rw [e10]; exact ⟨rfl, N10, K10, fc11, Fw10, fc12, fc13, fc14, fc15, fc16, fc17⟩
theorem d7_0 : decode prog_55_method_17_code 0 = .ok (.aload_n 0, 1) := by decide +kernel
theorem d7_1 : decode prog_55_method_17_code 1 = .ok (.getfield 34, 3) := by decide +kernel
theorem d7_4 : decode prog_55_method_17_code 4 = .ok (.ifCond .ne 7, 3) := by decide +kernel
theorem d7_11 : decode prog_55_method_17_code 11 = .ok (.aload_n 0, 1) := by decide +kernel
theorem d7_12 : decode prog_55_method_17_code 12 = .ok (.getfield 22, 3) := by decide +kernel
theorem d7_15 : decode prog_55_method_17_code 15 = .ok (.aload_n 0, 1) := by decide +kernel
theorem d7_16 : decode prog_55_method_17_code 16 = .ok (.getfield 34, 3) := by decide +kernel
theorem d7_19 : decode prog_55_method_17_code 19 = .ok (.iconst 1, 1) := by decide +kernel
theorem d7_20 : decode prog_55_method_17_code 20 = .ok (.isub, 1) := by decide +kernel
theorem d7_21 : decode prog_55_method_17_code 21 = .ok (.laload, 1) := by decide +kernel
theorem d7_22 : decode prog_55_method_17_code 22 = .ok (.lconst 1, 1) := by decide +kernel
theorem d7_23 : decode prog_55_method_17_code 23 = .ok (.ladd, 1) := by decide +kernel
theorem d7_24 : decode prog_55_method_17_code 24 = .ok (.lreturn, 1) := by decide +kernel
def Q7_0 (Z : State) (w_NONE : Addr) (o0 : Addr) (o1 : Addr) (o2 : Addr) (kk_o1 : ClassId) (kk_o2 : ClassId) (q0 : Int64) (q1 : Int64) (q2 : Int64) (q3 : Int64) (q4 : Int64) (h0 : Heap) (n0 : Nat) (v : Option Value) (h : Heap) (L : List Loc) : Prop := v = (some (.long (q4 + (1 : Int64)))) ∧ Fr n0 L ∧ h = h0
theorem rm7_0 (l : Launch) (Z : State) (a0 : Array Value) (hw : HW Z a0) (ws : List Jvm.Cond) (w_NONE : Addr) (o0 : Addr) (o1 : Addr) (o2 : Addr) (kk_o1 : ClassId) (kk_o2 : ClassId) (q0 : Int64) (q1 : Int64) (q2 : Int64) (q3 : Int64) (q4 : Int64) (h0 : Heap) (n0 : Nat) (O0 : Old Z n0 h0) (S : SF Z w_NONE) (F_lasts_o0 : Fld Z h0 o0 sC0 "lasts" "[J" (.ref o2)) (F_ranges_o0 : Fld Z h0 o0 sC0 "ranges" "I" (.int 2)) (V_o2 : Arv Z h0 o2 kk_o2 .long (4 : Int32) [(.long q3), (.long q4), (.long 0), (.long 0)] (.long 0)) :
    Pay l Z My7 ws prog_55_method_17_code 1 (some .long) #[(.ref o0)] h0 ({ frames := 0, cells := 0, slots := 0, locals := 0 } : Room) (Q7_0 Z w_NONE o0 o1 o2 kk_o1 kk_o2 q0 q1 q2 q3 q4 h0 n0) := by
  refine own_body (plainFor_of_name pn_1) (L0 := #[va o0]) (fun _ => by first | rfl | (simp [entryFrame, mkF, argsToLocals, Value.category]; done)) ?_
  intro p e s m below meth c s₁ hrt hlk hx hby hml hZ hown0 hnm X0 e0
  have hown : s.vm.findClass sC0 = some m.cls := hown0
  have N0 := Fr.nil n0
  have K0 : Keep h0 h0 [] := Keep.refl _ _
  obtain ⟨T1, X1, e1, st1⟩ := getF X0 hx hZ hown (host := "") (Or.inl (ww hw 39 rfl)) Via.refl e0 F_ranges_o0 (g := (mkF m 1 #[va o0] [(.ref o0)])) rfl rfl (hb hby d7_1)
  obtain ⟨T2, X2, e2, st2⟩ := getF X1 hx hZ hown (host := "") (Or.inl (ww hw 30 rfl)) Via.refl e1 F_lasts_o0 (g := (mkF m 12 #[va o0] [(.ref o0)])) rfl rfl (hb hby d7_12)
  obtain ⟨T3, X3, e3, st3⟩ := getF X2 hx hZ hown (host := "") (Or.inl (ww hw 39 rfl)) Via.refl e2 F_ranges_o0 (g := (mkF m 16 #[va o0] [(.ref o0), (.ref o2)])) rfl rfl (hb hby d7_16)
  obtain ⟨cl4, Ar4, qk4, Sz4, Ng4, Hh4, Gg4⟩ := id V_o2
  have hin4_1 : ¬ ((1 : Int32) < 0 ∨ cl4.slots.size ≤ ((1 : Int32)).toNatClampNeg) := inb_of Sz4 ⟨by decide, by decide⟩
  obtain ⟨fs, hr, hrun, hended, hW, hsame⟩ := X3.leave (v := (some (.long (q4 + (1 : Int64))))) (fun h => by rw [hrt] at h; cases h)
  refine ⟨_, _, ?_, hrun, hended, _, _, rfl, ?_, ⟨_, rfl⟩, hW, hsame.mono (by decide) (by decide)⟩
  · show Steps p.tables e below (s₁.setTop (mkF m 0 #[va o0] [])) _
    refine XS.aloadN X0.here hx rfl (hb hby d7_0) rfl rfl ?_
    refine st1 _ ?_
    refine XS.ifYes X1.here hx rfl (pc0 := 4) (pc' := 11) rfl (hb hby d7_4) rfl ((if0 _ _).trans (feq (by decide : ¬ ((2 : Int32) = (0 : Int32)))).2) (by decide) (by decide) ?_
    refine XS.aloadN X1.here hx rfl (hb hby d7_11) rfl rfl ?_
    refine st2 _ ?_
    refine XS.aloadN X2.here hx rfl (hb hby d7_15) rfl rfl ?_
    refine st3 _ ?_
    refine XS.iconst X3.here hx rfl (hb hby d7_19) ?_
    show Steps p.tables e below (T3.setTop (mkF m 20 #[va o0] [(.int 1), (.int 2), (.ref o2)])) _
    refine XS.isub X3.here hx rfl (hb hby d7_20) rfl ?_
    show Steps p.tables e below (T3.setTop (mkF m 21 #[va o0] [(.int ((2 : Int32) - (1 : Int32))), (.ref o2)])) _
    rw [show (((2 : Int32) - (1 : Int32)) : Int32) = (1 : Int32) from by decide]
    refine X3.laload hx (j := (1 : Int32)) (v := (.long q4)) (by rw [e3]; exact Ar4.1) (State.isArrayOf_alike hZ.alike Ar4.2.1) Ar4.2.2 hin4_1 (Has.at Hh4 hin4_1 rfl) (g := (mkF m 21 #[va o0] [(.int 1), (.ref o2)])) rfl rfl (hb hby d7_21) _ ?_
    refine XS.lconst X3.here hx rfl (hb hby d7_22) ?_
    refine XS.ladd X3.here hx rfl (hb hby d7_23) rfl ?_
    exact retOut X3 hx (t := .long) (i := .lreturn) hrt rfl (Or.inr (Or.inl ⟨rfl, rfl, _, rfl⟩)) (hb hby d7_24) hr
  · show Q7_0 Z w_NONE o0 o1 o2 kk_o1 kk_o2 q0 q1 q2 q3 q4 h0 n0 (some (.long (q4 + (1 : Int64)))) T3.heap _
    exact (⟨rfl, N0, e3⟩)
theorem pd_12 : parseMethodDescriptor "()J" = some ⟨[], some .long⟩ := by decide +kernel
theorem ow1 (v0 : Int64) (v1 : Int64) (nf0 : 0 ≤ v0.toInt ∧ v0.toInt ≤ v1.toInt ∧ v1.toInt ≤ 9223372036854775806) : ¬ (v0 < (0 : Int64)) := by
  rw [Int64.lt_iff_toInt_lt]
  have t2 : ((0 : Int64) : Int64).toInt = 0 := by decide
  omega
theorem ow2 (v0 : Int64) (v1 : Int64) (nf0 : 0 ≤ v0.toInt ∧ v0.toInt ≤ v1.toInt ∧ v1.toInt ≤ 9223372036854775806) (hc20 : ¬ (v0 < (0 : Int64))) : ¬ (v1 < v0) := by
  rw [Int64.lt_iff_toInt_lt] at hc20
  rw [Int64.lt_iff_toInt_lt]
  have t2 : ((0 : Int64) : Int64).toInt = 0 := by decide
  omega
theorem ow3 (m139_2 : Int64) (m139_3 : Int64) (nf1 : 0 ≤ m139_2.toInt ∧ m139_2.toInt ≤ m139_3.toInt ∧ m139_3.toInt ≤ 9223372036854775806) : ¬ (m139_2 < (0 : Int64)) := by
  rw [Int64.lt_iff_toInt_lt]
  have t2 : ((0 : Int64) : Int64).toInt = 0 := by decide
  omega
theorem ow4 (m139_2 : Int64) (m139_3 : Int64) (nf1 : 0 ≤ m139_2.toInt ∧ m139_2.toInt ≤ m139_3.toInt ∧ m139_3.toInt ≤ 9223372036854775806) (hc1 : ¬ (m139_2 < (0 : Int64))) : ¬ (m139_3 < m139_2) := by
  rw [Int64.lt_iff_toInt_lt] at hc1
  rw [Int64.lt_iff_toInt_lt]
  have t2 : ((0 : Int64) : Int64).toInt = 0 := by decide
  omega
theorem ow5 (m139_0 : Int64) (m139_1 : Int64) (nf0 : 0 ≤ m139_0.toInt ∧ m139_0.toInt ≤ m139_1.toInt ∧ m139_1.toInt ≤ 9223372036854775806) : ¬ (m139_1 < (0 : Int64)) := by
  rw [Int64.lt_iff_toInt_lt]
  have t2 : ((0 : Int64) : Int64).toInt = 0 := by decide
  omega
theorem ow6 (m167_0 : Int64) (m167_1 : Int64) (m167_2 : Int64) (m167_3 : Int64) (m167_4 : Int64) (nf0 : 0 ≤ m167_0.toInt ∧ m167_0.toInt ≤ m167_1.toInt ∧ m167_1.toInt ≤ 9223372036854775806) (nf1 : 0 ≤ m167_2.toInt ∧ m167_2.toInt ≤ m167_3.toInt ∧ m167_3.toInt ≤ 9223372036854775806) (nf2 : 0 ≤ m167_4.toInt ∧ m167_4.toInt ≤ 9223372036854775806) (hj0 : m167_3 < m167_0) : (m167_1 + (1 : Int64)) = (own_maxL (own_part0 m167_0 m167_1 m167_4) (own_part0 m167_2 m167_3 m167_4)) := by
  rw [Int64.lt_iff_toInt_lt] at hj0
  rw [← Int64.toInt_inj]
  have t4 : ((1 : Int64) : Int64).toInt = 1 := by decide
  have t5 := Jvm.Kit.i64_add (x := m167_1) (y := (1 : Int64)) (by omega) (by omega)
  have t7 := own_part0_toInt m167_0 m167_1 m167_4
  have t9 := own_part0_toInt m167_2 m167_3 m167_4
  have t10 := own_maxL_toInt (own_part0 m167_0 m167_1 m167_4) (own_part0 m167_2 m167_3 m167_4)
  omega
def Q0 (n0 : Nat) (v : Option Value) (h : Heap) (L : List Loc) : Prop := v = (some (.int (1 : Int32))) ∧ Fr n0 L
theorem jn2 {p : Program} {l : Launch} {e : Env} {s : State} {m : MethodId} {below : List Frame} {meth : Method} {c : Code} {T0 : State} {locs : List Loc} {Z : State} {a0 : Array Value} {h0 : Heap} {n0 : Nat} (hx : p.tables.exec = Jvm.exec) (hZ : Z.Warmed39 s.vm) (hby : c.code = code) (hml : c.maxLocals = 26) (hown : s.vm.findClass sC1 = some m.cls) (hrt : meth.sig.returnType = ret) (hlk : meth.locks = false) (hw : HW Z a0) (w_NONE : Addr) (o0 : Addr) (o1 : Addr) (o2 : Addr) (kk_o1 : ClassId) (kk_o2 : ClassId) (p0 : Int32) (p1 : Int64) (p2 : Int64) (p3 : Int64) (p4 : Int64) (p5 : Int64) (m167_0 : Int64) (m167_1 : Int64) (m167_2 : Int64) (m167_3 : Int64) (m167_4 : Int64) (f0 : Int32) (f19 : Int32) (X0 : Stand p l e room_1 s m #[(.int p0), (.long p1), (.long p2), (.long p3), (.long p4), (.long p5)] below meth c T0 locs 10 60) (e0 : T0.heap = h0) (N0 : Fr n0 locs) (O0 : Old Z n0 h0) (S : SF Z w_NONE) (E_o0 : Exa Z h0 o0 sC0) (F_lasts_o0 : Fld Z h0 o0 sC0 "lasts" "[J" (.ref o2)) (F_ranges_o0 : Fld Z h0 o0 sC0 "ranges" "I" (.int 2)) (V_o2 : Arv Z h0 o2 kk_o2 .long (4 : Int32) [(.long m167_3), (.long m167_1), (.long 0), (.long 0)] (.long 0)) (nf0 : 0 ≤ m167_0.toInt ∧ m167_0.toInt ≤ m167_1.toInt ∧ m167_1.toInt ≤ 9223372036854775806) (nf1 : 0 ≤ m167_2.toInt ∧ m167_2.toInt ≤ m167_3.toInt ∧ m167_3.toInt ≤ 9223372036854775806) (nf2 : 0 ≤ m167_4.toInt ∧ m167_4.toInt ≤ 9223372036854775806) (hj0 : m167_3 < m167_0) :
    ∃ s₂ o, Steps p.tables e below (T0.setTop (mkF m 167 #[vi f0, vl p1, ss, vl p2, ss, vl p3, ss, vl p4, ss, vl p5, ss, vl m167_0, ss, vl m167_1, ss, vl m167_2, ss, vl m167_3, ss, vi f19, vi 0, vl m167_4, ss, va o0, vl (own_maxL (own_part0 m167_0 m167_1 m167_4) (own_part0 m167_2 m167_3 m167_4)), ss] [])) s₂ ∧ s₂.status = .running ∧ Ended s₂ below o ∧ ∃ v L, o = .returned v ∧ Q0 n0 v s₂.heap L ∧ FrameEnd s o s₂ L room_1.cells room_1.slots := by
  have K0 : Keep h0 h0 [] := Keep.refl _ _
  obtain ⟨cq1, kq1, q1a, q1b, q1c⟩ := isOf hZ e0 E_o0
  obtain ⟨_, _, ⟨T1, L1, k1, n1⟩, -, X1, ⟨Lc1, hQ1, l1, y1, z1⟩, st1⟩ := X0.virtualBack hx (y := My7) (z := My7) hown (mvT hZ (ww hw 34 rfl)) (mvT hZ (ww hw 35 rfl)) (notFace_of_selects (args := #[]) (mvT hZ (ww hw 37 rfl))) (mvT hZ (ww hw 37 rfl)) (mvT hZ (ww hw 36 rfl)) (by decide) (backOf (W := 0) (rm7_0 l Z a0 hw [] w_NONE o0 o1 o2 kk_o1 kk_o2 (((0 : Int64) + ((m167_1 - m167_0) + (1 : Int64))) + ((m167_3 - m167_2) + (1 : Int64))) m167_2 m167_0 m167_3 m167_1 h0 n0 O0 S F_lasts_o0 F_ranges_o0 V_o2) hZ (ww hw 38 rfl) (ww hw 15 rfl) (by decide) (by decide)) q1a q1c (g := (mkF m 184 #[vi f0, vl p1, ss, vl p2, ss, vl p3, ss, vl p4, ss, vl p5, ss, vl m167_0, ss, vl m167_1, ss, vl m167_2, ss, vl m167_3, ss, vi f19, vi 0, vl m167_4, ss, va o0, vl (own_maxL (own_part0 m167_0 m167_1 m167_4) (own_part0 m167_2 m167_3 m167_4)), ss] [(.ref o0)])) rfl (by rw [hml]; rfl) (Steps.refl _) (argsL := []) (rest := []) (lenOf pd_12 rfl) rfl (by show 2 * 0 + _ ≤ _; exact Nat.le_of_eq rfl) (hb hby at_184) (fun _ _ => ⟨rfl, e0, (by decide : 10 + 0 ≤ _), (by decide : 60 + 0 ≤ _)⟩)
  dsimp only [Pt.U, Pt.locs, Pt.cells, Pt.slots] at X1 l1 y1 z1 st1 hQ1
  subst l1 y1 z1
  obtain ⟨rfl, Nq1, e1⟩ := hQ1
  have N1 := Fr.app N0 Nq1
  have hc2 : (m167_1 + (1 : Int64)) = (own_maxL (own_part0 m167_0 m167_1 m167_4) (own_part0 m167_2 m167_3 m167_4)) := ow6 m167_0 m167_1 m167_2 m167_3 m167_4 nf0 nf1 nf2 hj0
  obtain ⟨fs, hr, hrun, hended, hW, hsame⟩ := X1.leave (v := (some (.int 1))) (fun h => by rw [hrt] at h; cases h)
  refine ⟨_, _, ?_, hrun, hended, _, _, rfl, ?_, ⟨_, rfl⟩, hW, hsame.mono (by decide) (by decide)⟩
  · show Steps p.tables e below (T0.setTop (mkF m 167 #[vi f0, vl p1, ss, vl p2, ss, vl p3, ss, vl p4, ss, vl p5, ss, vl m167_0, ss, vl m167_1, ss, vl m167_2, ss, vl m167_3, ss, vi f19, vi 0, vl m167_4, ss, va o0, vl (own_maxL (own_part0 m167_0 m167_1 m167_4) (own_part0 m167_2 m167_3 m167_4)), ss] [])) _
    refine XS.iload X0.here hx rfl (hb hby at_167) rfl ?_
    refine XS.ifYes X0.here hx rfl (pc0 := 169) (pc' := 182) rfl (hb hby at_169) rfl ((if0 _ _).trans (teq (by decide : (0 : Int32) = (0 : Int32))).1) (by decide) (by decide) ?_
    refine XS.aload X0.here hx rfl (hb hby at_182) rfl rfl ?_
    refine st1.trans ?_
    refine XS.lload X1.here hx rfl (hb hby at_187) rfl ?_
    refine XS.lcmp X1.here hx rfl (hb hby at_189) rfl ?_
    refine XS.ifNo X1.here hx rfl (hb hby at_190) rfl (own_lc_eqT hc2).2 ?_
    refine XS.iconst X1.here hx rfl (hb hby at_193) ?_
    show Steps p.tables e below (T1.setTop (mkF m 194 #[vi f0, vl p1, ss, vl p2, ss, vl p3, ss, vl p4, ss, vl p5, ss, vl m167_0, ss, vl m167_1, ss, vl m167_2, ss, vl m167_3, ss, vi f19, vi 0, vl m167_4, ss, va o0, vl (own_maxL (own_part0 m167_0 m167_1 m167_4) (own_part0 m167_2 m167_3 m167_4)), ss] [(.int 1)])) _
    refine XS.goto X1.here hx rfl (pc0 := 194) (pc' := 198) rfl (hb hby at_194) (by decide) (by decide) ?_
    exact retN X1 hx (t := .boolean) hrt (by simp) (hb hby at_198) hr
  · show Q0 n0 (some (.int 1)) T1.heap _
    exact (⟨rfl, N1⟩)
def Q7_1 (Z : State) (w_NONE : Addr) (o0 : Addr) (o1 : Addr) (o2 : Addr) (kk_o1 : ClassId) (kk_o2 : ClassId) (q0 : Int64) (q1 : Int64) (q2 : Int64) (h0 : Heap) (n0 : Nat) (v : Option Value) (h : Heap) (L : List Loc) : Prop := v = (some (.long (q2 + (1 : Int64)))) ∧ Fr n0 L ∧ h = h0
theorem rm7_1 (l : Launch) (Z : State) (a0 : Array Value) (hw : HW Z a0) (ws : List Jvm.Cond) (w_NONE : Addr) (o0 : Addr) (o1 : Addr) (o2 : Addr) (kk_o1 : ClassId) (kk_o2 : ClassId) (q0 : Int64) (q1 : Int64) (q2 : Int64) (h0 : Heap) (n0 : Nat) (O0 : Old Z n0 h0) (S : SF Z w_NONE) (F_lasts_o0 : Fld Z h0 o0 sC0 "lasts" "[J" (.ref o2)) (F_ranges_o0 : Fld Z h0 o0 sC0 "ranges" "I" (.int 1)) (V_o2 : Arv Z h0 o2 kk_o2 .long (4 : Int32) [(.long q2), (.long 0), (.long 0), (.long 0)] (.long 0)) :
    Pay l Z My7 ws prog_55_method_17_code 1 (some .long) #[(.ref o0)] h0 ({ frames := 0, cells := 0, slots := 0, locals := 0 } : Room) (Q7_1 Z w_NONE o0 o1 o2 kk_o1 kk_o2 q0 q1 q2 h0 n0) := by
  refine own_body (plainFor_of_name pn_1) (L0 := #[va o0]) (fun _ => by first | rfl | (simp [entryFrame, mkF, argsToLocals, Value.category]; done)) ?_
  intro p e s m below meth c s₁ hrt hlk hx hby hml hZ hown0 hnm X0 e0
  have hown : s.vm.findClass sC0 = some m.cls := hown0
  have N0 := Fr.nil n0
  have K0 : Keep h0 h0 [] := Keep.refl _ _
  obtain ⟨T1, X1, e1, st1⟩ := getF X0 hx hZ hown (host := "") (Or.inl (ww hw 39 rfl)) Via.refl e0 F_ranges_o0 (g := (mkF m 1 #[va o0] [(.ref o0)])) rfl rfl (hb hby d7_1)
  obtain ⟨T2, X2, e2, st2⟩ := getF X1 hx hZ hown (host := "") (Or.inl (ww hw 30 rfl)) Via.refl e1 F_lasts_o0 (g := (mkF m 12 #[va o0] [(.ref o0)])) rfl rfl (hb hby d7_12)
  obtain ⟨T3, X3, e3, st3⟩ := getF X2 hx hZ hown (host := "") (Or.inl (ww hw 39 rfl)) Via.refl e2 F_ranges_o0 (g := (mkF m 16 #[va o0] [(.ref o0), (.ref o2)])) rfl rfl (hb hby d7_16)
  obtain ⟨cl4, Ar4, qk4, Sz4, Ng4, Hh4, Gg4⟩ := id V_o2
  have hin4_0 : ¬ ((0 : Int32) < 0 ∨ cl4.slots.size ≤ ((0 : Int32)).toNatClampNeg) := inb_of Sz4 ⟨by decide, by decide⟩
  obtain ⟨fs, hr, hrun, hended, hW, hsame⟩ := X3.leave (v := (some (.long (q2 + (1 : Int64))))) (fun h => by rw [hrt] at h; cases h)
  refine ⟨_, _, ?_, hrun, hended, _, _, rfl, ?_, ⟨_, rfl⟩, hW, hsame.mono (by decide) (by decide)⟩
  · show Steps p.tables e below (s₁.setTop (mkF m 0 #[va o0] [])) _
    refine XS.aloadN X0.here hx rfl (hb hby d7_0) rfl rfl ?_
    refine st1 _ ?_
    refine XS.ifYes X1.here hx rfl (pc0 := 4) (pc' := 11) rfl (hb hby d7_4) rfl ((if0 _ _).trans (feq (by decide : ¬ ((1 : Int32) = (0 : Int32)))).2) (by decide) (by decide) ?_
    refine XS.aloadN X1.here hx rfl (hb hby d7_11) rfl rfl ?_
    refine st2 _ ?_
    refine XS.aloadN X2.here hx rfl (hb hby d7_15) rfl rfl ?_
    refine st3 _ ?_
    refine XS.iconst X3.here hx rfl (hb hby d7_19) ?_
    show Steps p.tables e below (T3.setTop (mkF m 20 #[va o0] [(.int 1), (.int 1), (.ref o2)])) _
    refine XS.isub X3.here hx rfl (hb hby d7_20) rfl ?_
    show Steps p.tables e below (T3.setTop (mkF m 21 #[va o0] [(.int ((1 : Int32) - (1 : Int32))), (.ref o2)])) _
    rw [show (((1 : Int32) - (1 : Int32)) : Int32) = (0 : Int32) from by decide]
    refine X3.laload hx (j := (0 : Int32)) (v := (.long q2)) (by rw [e3]; exact Ar4.1) (State.isArrayOf_alike hZ.alike Ar4.2.1) Ar4.2.2 hin4_0 (Has.at Hh4 hin4_0 rfl) (g := (mkF m 21 #[va o0] [(.int 0), (.ref o2)])) rfl rfl (hb hby d7_21) _ ?_
    refine XS.lconst X3.here hx rfl (hb hby d7_22) ?_
    refine XS.ladd X3.here hx rfl (hb hby d7_23) rfl ?_
    exact retOut X3 hx (t := .long) (i := .lreturn) hrt rfl (Or.inr (Or.inl ⟨rfl, rfl, _, rfl⟩)) (hb hby d7_24) hr
  · show Q7_1 Z w_NONE o0 o1 o2 kk_o1 kk_o2 q0 q1 q2 h0 n0 (some (.long (q2 + (1 : Int64)))) T3.heap _
    exact (⟨rfl, N0, e3⟩)
theorem ow7 (m139_0 : Int64) (m139_1 : Int64) (m139_2 : Int64) (m139_3 : Int64) (nf0 : 0 ≤ m139_0.toInt ∧ m139_0.toInt ≤ m139_1.toInt ∧ m139_1.toInt ≤ 9223372036854775806) (nf1 : 0 ≤ m139_2.toInt ∧ m139_2.toInt ≤ m139_3.toInt ∧ m139_3.toInt ≤ 9223372036854775806) (hc1 : ¬ (m139_2 < (0 : Int64))) (hc2 : ¬ (m139_3 < m139_2)) (hc3 : m139_2 = (0 : Int64)) (hc5 : ¬ (m139_1 < (0 : Int64))) (hc6 : (m139_3 + (1 : Int64)) < m139_0) : m139_3 < m139_0 := by
  rw [Int64.lt_iff_toInt_lt] at hc1 hc2 hc5 hc6
  rw [← Int64.toInt_inj] at hc3
  rw [Int64.lt_iff_toInt_lt]
  have t2 : ((0 : Int64) : Int64).toInt = 0 := by decide
  have t5 : ((1 : Int64) : Int64).toInt = 1 := by decide
  have t6 := Jvm.Kit.i64_add (x := m139_3) (y := (1 : Int64)) (by omega) (by omega)
  omega
theorem ow8 (m167_0 : Int64) (m167_1 : Int64) (m167_2 : Int64) (m167_3 : Int64) (m167_4 : Int64) (nf0 : 0 ≤ m167_0.toInt ∧ m167_0.toInt ≤ m167_1.toInt ∧ m167_1.toInt ≤ 9223372036854775806) (nf1 : 0 ≤ m167_2.toInt ∧ m167_2.toInt ≤ m167_3.toInt ∧ m167_3.toInt ≤ 9223372036854775806) (nf2 : 0 ≤ m167_4.toInt ∧ m167_4.toInt ≤ 9223372036854775806) (hj0 : ¬ ((m167_3 + (1 : Int64)) < m167_0)) (hj1 : ¬ ((m167_1 + (1 : Int64)) < m167_2)) : ((own_maxL m167_3 m167_1) + (1 : Int64)) = (own_maxL (own_part0 m167_0 m167_1 m167_4) (own_part0 m167_2 m167_3 m167_4)) := by
  rw [Int64.lt_iff_toInt_lt] at hj0 hj1
  rw [← Int64.toInt_inj]
  have t2 : ((1 : Int64) : Int64).toInt = 1 := by decide
  have t3 := Jvm.Kit.i64_add (x := m167_3) (y := (1 : Int64)) (by omega) (by omega)
  have t6 := Jvm.Kit.i64_add (x := m167_1) (y := (1 : Int64)) (by omega) (by omega)
  have t8 := own_maxL_toInt m167_3 m167_1
  have t9 := Jvm.Kit.i64_add (x := (own_maxL m167_3 m167_1)) (y := (1 : Int64)) (by omega) (by omega)
  have t11 := own_part0_toInt m167_0 m167_1 m167_4
  have t12 := own_part0_toInt m167_2 m167_3 m167_4
  have t13 := own_maxL_toInt (own_part0 m167_0 m167_1 m167_4) (own_part0 m167_2 m167_3 m167_4)
  omega
theorem jn3 {p : Program} {l : Launch} {e : Env} {s : State} {m : MethodId} {below : List Frame} {meth : Method} {c : Code} {T0 : State} {locs : List Loc} {Z : State} {a0 : Array Value} {h0 : Heap} {n0 : Nat} (hx : p.tables.exec = Jvm.exec) (hZ : Z.Warmed39 s.vm) (hby : c.code = code) (hml : c.maxLocals = 26) (hown : s.vm.findClass sC1 = some m.cls) (hrt : meth.sig.returnType = ret) (hlk : meth.locks = false) (hw : HW Z a0) (w_NONE : Addr) (o0 : Addr) (o1 : Addr) (o2 : Addr) (kk_o1 : ClassId) (kk_o2 : ClassId) (p0 : Int32) (p1 : Int64) (p2 : Int64) (p3 : Int64) (p4 : Int64) (p5 : Int64) (m167_0 : Int64) (m167_1 : Int64) (m167_2 : Int64) (m167_3 : Int64) (m167_4 : Int64) (f0 : Int32) (f19 : Int32) (X0 : Stand p l e room_1 s m #[(.int p0), (.long p1), (.long p2), (.long p3), (.long p4), (.long p5)] below meth c T0 locs 10 60) (e0 : T0.heap = h0) (N0 : Fr n0 locs) (O0 : Old Z n0 h0) (S : SF Z w_NONE) (E_o0 : Exa Z h0 o0 sC0) (F_lasts_o0 : Fld Z h0 o0 sC0 "lasts" "[J" (.ref o2)) (F_ranges_o0 : Fld Z h0 o0 sC0 "ranges" "I" (.int 1)) (V_o2 : Arv Z h0 o2 kk_o2 .long (4 : Int32) [(.long (own_maxL m167_3 m167_1)), (.long 0), (.long 0), (.long 0)] (.long 0)) (nf0 : 0 ≤ m167_0.toInt ∧ m167_0.toInt ≤ m167_1.toInt ∧ m167_1.toInt ≤ 9223372036854775806) (nf1 : 0 ≤ m167_2.toInt ∧ m167_2.toInt ≤ m167_3.toInt ∧ m167_3.toInt ≤ 9223372036854775806) (nf2 : 0 ≤ m167_4.toInt ∧ m167_4.toInt ≤ 9223372036854775806) (hj0 : ¬ ((m167_3 + (1 : Int64)) < m167_0)) (hj1 : ¬ ((m167_1 + (1 : Int64)) < m167_2)) :
    ∃ s₂ o, Steps p.tables e below (T0.setTop (mkF m 167 #[vi f0, vl p1, ss, vl p2, ss, vl p3, ss, vl p4, ss, vl p5, ss, vl m167_0, ss, vl m167_1, ss, vl m167_2, ss, vl m167_3, ss, vi f19, vi 0, vl m167_4, ss, va o0, vl (own_maxL (own_part0 m167_0 m167_1 m167_4) (own_part0 m167_2 m167_3 m167_4)), ss] [])) s₂ ∧ s₂.status = .running ∧ Ended s₂ below o ∧ ∃ v L, o = .returned v ∧ Q0 n0 v s₂.heap L ∧ FrameEnd s o s₂ L room_1.cells room_1.slots := by
  have K0 : Keep h0 h0 [] := Keep.refl _ _
  obtain ⟨cq1, kq1, q1a, q1b, q1c⟩ := isOf hZ e0 E_o0
  obtain ⟨_, _, ⟨T1, L1, k1, n1⟩, -, X1, ⟨Lc1, hQ1, l1, y1, z1⟩, st1⟩ := X0.virtualBack hx (y := My7) (z := My7) hown (mvT hZ (ww hw 34 rfl)) (mvT hZ (ww hw 35 rfl)) (notFace_of_selects (args := #[]) (mvT hZ (ww hw 37 rfl))) (mvT hZ (ww hw 37 rfl)) (mvT hZ (ww hw 36 rfl)) (by decide) (backOf (W := 0) (rm7_1 l Z a0 hw [] w_NONE o0 o1 o2 kk_o1 kk_o2 (((0 : Int64) + ((m167_1 - m167_0) + (1 : Int64))) + ((((own_maxL m167_3 m167_1) - (own_minL m167_2 m167_0)) + (1 : Int64)) - ((0 : Int64) + ((m167_1 - m167_0) + (1 : Int64))))) (own_minL m167_2 m167_0) (own_maxL m167_3 m167_1) h0 n0 O0 S F_lasts_o0 F_ranges_o0 V_o2) hZ (ww hw 38 rfl) (ww hw 15 rfl) (by decide) (by decide)) q1a q1c (g := (mkF m 184 #[vi f0, vl p1, ss, vl p2, ss, vl p3, ss, vl p4, ss, vl p5, ss, vl m167_0, ss, vl m167_1, ss, vl m167_2, ss, vl m167_3, ss, vi f19, vi 0, vl m167_4, ss, va o0, vl (own_maxL (own_part0 m167_0 m167_1 m167_4) (own_part0 m167_2 m167_3 m167_4)), ss] [(.ref o0)])) rfl (by rw [hml]; rfl) (Steps.refl _) (argsL := []) (rest := []) (lenOf pd_12 rfl) rfl (by show 2 * 0 + _ ≤ _; exact Nat.le_of_eq rfl) (hb hby at_184) (fun _ _ => ⟨rfl, e0, (by decide : 10 + 0 ≤ _), (by decide : 60 + 0 ≤ _)⟩)
  dsimp only [Pt.U, Pt.locs, Pt.cells, Pt.slots] at X1 l1 y1 z1 st1 hQ1
  subst l1 y1 z1
  obtain ⟨rfl, Nq1, e1⟩ := hQ1
  have N1 := Fr.app N0 Nq1
  have hc2 : ((own_maxL m167_3 m167_1) + (1 : Int64)) = (own_maxL (own_part0 m167_0 m167_1 m167_4) (own_part0 m167_2 m167_3 m167_4)) := ow8 m167_0 m167_1 m167_2 m167_3 m167_4 nf0 nf1 nf2 hj0 hj1
  obtain ⟨fs, hr, hrun, hended, hW, hsame⟩ := X1.leave (v := (some (.int 1))) (fun h => by rw [hrt] at h; cases h)
  refine ⟨_, _, ?_, hrun, hended, _, _, rfl, ?_, ⟨_, rfl⟩, hW, hsame.mono (by decide) (by decide)⟩
  · show Steps p.tables e below (T0.setTop (mkF m 167 #[vi f0, vl p1, ss, vl p2, ss, vl p3, ss, vl p4, ss, vl p5, ss, vl m167_0, ss, vl m167_1, ss, vl m167_2, ss, vl m167_3, ss, vi f19, vi 0, vl m167_4, ss, va o0, vl (own_maxL (own_part0 m167_0 m167_1 m167_4) (own_part0 m167_2 m167_3 m167_4)), ss] [])) _
    refine XS.iload X0.here hx rfl (hb hby at_167) rfl ?_
    refine XS.ifYes X0.here hx rfl (pc0 := 169) (pc' := 182) rfl (hb hby at_169) rfl ((if0 _ _).trans (teq (by decide : (0 : Int32) = (0 : Int32))).1) (by decide) (by decide) ?_
    refine XS.aload X0.here hx rfl (hb hby at_182) rfl rfl ?_
    refine st1.trans ?_
    refine XS.lload X1.here hx rfl (hb hby at_187) rfl ?_
    refine XS.lcmp X1.here hx rfl (hb hby at_189) rfl ?_
    refine XS.ifNo X1.here hx rfl (hb hby at_190) rfl (own_lc_eqT hc2).2 ?_
    refine XS.iconst X1.here hx rfl (hb hby at_193) ?_
    show Steps p.tables e below (T1.setTop (mkF m 194 #[vi f0, vl p1, ss, vl p2, ss, vl p3, ss, vl p4, ss, vl p5, ss, vl m167_0, ss, vl m167_1, ss, vl m167_2, ss, vl m167_3, ss, vi f19, vi 0, vl m167_4, ss, va o0, vl (own_maxL (own_part0 m167_0 m167_1 m167_4) (own_part0 m167_2 m167_3 m167_4)), ss] [(.int 1)])) _
    refine XS.goto X1.here hx rfl (pc0 := 194) (pc' := 198) rfl (hb hby at_194) (by decide) (by decide) ?_
    exact retN X1 hx (t := .boolean) hrt (by simp) (hb hby at_198) hr
  · show Q0 n0 (some (.int 1)) T1.heap _
    exact (⟨rfl, N1⟩)
theorem d10_34 : decode prog_55_method_19_code 34 = .ok (.iload 5, 2) := by decide +kernel
theorem d10_36 : decode prog_55_method_19_code 36 = .ok (.iconst 1, 1) := by decide +kernel
theorem d10_37 : decode prog_55_method_19_code 37 = .ok (.iadd, 1) := by decide +kernel
theorem d10_38 : decode prog_55_method_19_code 38 = .ok (.istore_n 3, 1) := by decide +kernel
theorem d10_39 : decode prog_55_method_19_code 39 = .ok (.goto 7, 3) := by decide +kernel
def Q10_4 (Z : State) (w_NONE : Addr) (o0 : Addr) (o1 : Addr) (o2 : Addr) (kk_o1 : ClassId) (kk_o2 : ClassId) (q3 : Int64) (q0 : Int64) (q1 : Int64) (q2 : Int64) (h0 : Heap) (n0 : Nat) (v : Option Value) (h : Heap) (L : List Loc) : Prop := v = (some (.int 1)) ∧ Fr n0 L ∧ h = h0
theorem rm10_4 (l : Launch) (Z : State) (a0 : Array Value) (hw : HW Z a0) (ws : List Jvm.Cond) (w_NONE : Addr) (o0 : Addr) (o1 : Addr) (o2 : Addr) (kk_o1 : ClassId) (kk_o2 : ClassId) (q3 : Int64) (q0 : Int64) (q1 : Int64) (q2 : Int64) (h0 : Heap) (n0 : Nat) (O0 : Old Z n0 h0) (S : SF Z w_NONE) (F_lasts_o0 : Fld Z h0 o0 sC0 "lasts" "[J" (.ref o2)) (F_ranges_o0 : Fld Z h0 o0 sC0 "ranges" "I" (.int 1)) (V_o2 : Arv Z h0 o2 kk_o2 .long (4 : Int32) [(.long q2), (.long 0), (.long 0), (.long 0)] (.long 0)) (hc0 : q2 < q3) :
    Pay l Z My10 ws prog_55_method_19_code 6 (some .int) #[(.ref o0), (.long q3)] h0 ({ frames := 0, cells := 0, slots := 0, locals := 0 } : Room) (Q10_4 Z w_NONE o0 o1 o2 kk_o1 kk_o2 q3 q0 q1 q2 h0 n0) := by
  refine own_body (plainFor_of_name pn_1) (L0 := #[va o0, vl q3, ss, uu, uu, uu]) (fun _ => by first | rfl | (simp [entryFrame, mkF, argsToLocals, Value.category]; done)) ?_
  intro p e s m below meth c s₁ hrt hlk hx hby hml hZ hown0 hnm X0 e0
  have hown : s.vm.findClass sC0 = some m.cls := hown0
  have N0 := Fr.nil n0
  have K0 : Keep h0 h0 [] := Keep.refl _ _
  obtain ⟨T1, X1, e1, st1⟩ := getF X0 hx hZ hown (host := "") (Or.inl (ww hw 39 rfl)) Via.refl e0 F_ranges_o0 (g := (mkF m 3 #[va o0, vl q3, ss, vi 0, uu, uu] [(.ref o0)])) rfl rfl (hb hby d10_3)
  obtain ⟨T2, X2, e2, st2⟩ := getF X1 hx hZ hown (host := "") (Or.inl (ww hw 30 rfl)) Via.refl e1 F_lasts_o0 (g := (mkF m 23 #[va o0, vl q3, ss, vi 0, vi 1, vi 0] [(.ref o0)])) rfl rfl (hb hby d10_23)
  obtain ⟨cl3, Ar3, qk3, Sz3, Ng3, Hh3, Gg3⟩ := id V_o2
  have hin3_0 : ¬ ((0 : Int32) < 0 ∨ cl3.slots.size ≤ ((0 : Int32)).toNatClampNeg) := inb_of Sz3 ⟨by decide, by decide⟩
  obtain ⟨fs, hr, hrun, hended, hW, hsame⟩ := X2.leave (v := (some (.int 1))) (fun h => by rw [hrt] at h; cases h)
  refine ⟨_, _, ?_, hrun, hended, _, _, rfl, ?_, ⟨_, rfl⟩, hW, hsame.mono (by decide) (by decide)⟩
  · show Steps p.tables e below (s₁.setTop (mkF m 0 #[va o0, vl q3, ss, uu, uu, uu] [])) _
    refine XS.iconst X0.here hx rfl (hb hby d10_0) ?_
    refine XS.istoreN X0.here hx rfl (hb hby d10_1) rfl (l' := #[va o0, vl q3, ss, vi 0, uu, uu]) rfl ?_
    refine XS.aloadN X0.here hx rfl (hb hby d10_2) rfl rfl ?_
    refine st1 _ ?_
    refine XS.istore X1.here hx rfl (hb hby d10_6) rfl (l' := #[va o0, vl q3, ss, vi 0, vi 1, uu]) rfl ?_
    refine XS.iloadN X1.here hx rfl (hb hby d10_8) rfl ?_
    refine XS.iload X1.here hx rfl (hb hby d10_9) rfl ?_
    refine XS.icmpNo X1.here hx rfl (hb hby d10_11) rfl (tlt (by decide : (0 : Int32) < (1 : Int32))).2.1 ?_
    show Steps p.tables e below (T1.setTop (mkF m 14 #[va o0, vl q3, ss, vi 0, vi 1, uu] [])) _
    refine XS.iloadN X1.here hx rfl (hb hby d10_14) rfl ?_
    refine XS.iload X1.here hx rfl (hb hby d10_15) rfl ?_
    refine XS.iadd X1.here hx rfl (hb hby d10_17) rfl ?_
    show Steps p.tables e below (T1.setTop (mkF m 18 #[va o0, vl q3, ss, vi 0, vi 1, uu] [(.int ((0 : Int32) + (1 : Int32)))])) _
    rw [show (((0 : Int32) + (1 : Int32)) : Int32) = (1 : Int32) from by decide]
    refine XS.iconst X1.here hx rfl (hb hby d10_18) ?_
    refine XS.iushr X1.here hx rfl (hb hby d10_19) rfl ?_
    show Steps p.tables e below (T1.setTop (mkF m 20 #[va o0, vl q3, ss, vi 0, vi 1, uu] [(.int (((1 : Int32).toUInt32 >>> ((1 : Int32) &&& 31).toUInt32).toInt32))])) _
    rw [show ((((1 : Int32).toUInt32 >>> ((1 : Int32) &&& 31).toUInt32).toInt32) : Int32) = (0 : Int32) from by decide]
    refine XS.istore X1.here hx rfl (hb hby d10_20) rfl (l' := #[va o0, vl q3, ss, vi 0, vi 1, vi 0]) rfl ?_
    refine XS.aloadN X1.here hx rfl (hb hby d10_22) rfl rfl ?_
    refine st2 _ ?_
    refine XS.iload X2.here hx rfl (hb hby d10_26) rfl ?_
    refine X2.laload hx (j := (0 : Int32)) (v := (.long q2)) (by rw [e2]; exact Ar3.1) (State.isArrayOf_alike hZ.alike Ar3.2.1) Ar3.2.2 hin3_0 (Has.at Hh3 hin3_0 rfl) (g := (mkF m 28 #[va o0, vl q3, ss, vi 0, vi 1, vi 0] [(.int 0), (.ref o2)])) rfl rfl (hb hby d10_28) _ ?_
    refine XS.lloadN X2.here hx rfl (hb hby d10_29) rfl ?_
    refine XS.lcmp X2.here hx rfl (hb hby d10_30) rfl ?_
    show Steps p.tables e below (T2.setTop (mkF m 31 #[va o0, vl q3, ss, vi 0, vi 1, vi 0] [(.int (lcmpW q2 q3))])) _
    refine XS.ifNo X2.here hx rfl (hb hby d10_31) rfl (own_lc_ltT hc0).2 ?_
    refine XS.iload X2.here hx rfl (hb hby d10_34) rfl ?_
    refine XS.iconst X2.here hx rfl (hb hby d10_36) ?_
    refine XS.iadd X2.here hx rfl (hb hby d10_37) rfl ?_
    show Steps p.tables e below (T2.setTop (mkF m 38 #[va o0, vl q3, ss, vi 0, vi 1, vi 0] [(.int ((0 : Int32) + (1 : Int32)))])) _
    rw [show (((0 : Int32) + (1 : Int32)) : Int32) = (1 : Int32) from by decide]
    refine XS.istoreN X2.here hx rfl (hb hby d10_38) rfl (l' := #[va o0, vl q3, ss, vi 1, vi 1, vi 0]) rfl ?_
    refine XS.goto X2.here hx rfl (pc0 := 39) (pc' := 46) rfl (hb hby d10_39) (by decide) (by decide) ?_
    refine XS.goto X2.here hx rfl (pc0 := 46) (pc' := 8) rfl (hb hby d10_46) (by decide) (by decide) ?_
    refine XS.iloadN X2.here hx rfl (hb hby d10_8) rfl ?_
    refine XS.iload X2.here hx rfl (hb hby d10_9) rfl ?_
    refine XS.icmpYes X2.here hx rfl (pc0 := 11) (pc' := 49) rfl (hb hby d10_11) rfl (flt (by decide : ¬ ((1 : Int32) < (1 : Int32)))).2.1 (by decide) (by decide) ?_
    refine XS.iloadN X2.here hx rfl (hb hby d10_49) rfl ?_
    show Steps p.tables e below (T2.setTop (mkF m 50 #[va o0, vl q3, ss, vi 1, vi 1, vi 0] [(.int 1)])) _
    exact retOut X2 hx (t := .int) (i := .ireturn) hrt rfl (Or.inl ⟨rfl, Or.inl rfl, _, rfl⟩) (hb hby d10_50) hr
  · show Q10_4 Z w_NONE o0 o1 o2 kk_o1 kk_o2 q3 q0 q1 q2 h0 n0 (some (.int 1)) T2.heap _
    exact (⟨rfl, N0, e2⟩)
def Q11_2 (Z : State) (w_NONE : Addr) (o0 : Addr) (o1 : Addr) (o2 : Addr) (kk_o1 : ClassId) (kk_o2 : ClassId) (q3 : Int64) (q4 : Int64) (q0 : Int64) (q1 : Int64) (q2 : Int64) (h0 : Heap) (n0 : Nat) (v : Option Value) (h : Heap) (L : List Loc) : Prop := v = none ∧ Fr n0 L ∧ Keep h0 h [o1, o2, o0] ∧ Exa Z h o0 sC0 ∧ Fld Z h o0 sC0 "count" "J" (.long q0) ∧ Fld Z h o0 sC0 "firsts" "[J" (.ref o1) ∧ Fld Z h o0 sC0 "lasts" "[J" (.ref o2) ∧ Fld Z h o0 sC0 "maxRanges" "I" (.int 2147483647) ∧ Fld Z h o0 sC0 "ranges" "I" (.int 2) ∧ Arv Z h o1 kk_o1 .long (4 : Int32) [(.long q1), (.long q3), (.long 0), (.long 0)] (.long 0) ∧ Arv Z h o2 kk_o2 .long (4 : Int32) [(.long q2), (.long q4), (.long 0), (.long 0)] (.long 0)
theorem rm11_2 (l : Launch) (Z : State) (a0 : Array Value) (hw : HW Z a0) (ws : List Jvm.Cond) (w_NONE : Addr) (o0 : Addr) (o1 : Addr) (o2 : Addr) (kk_o1 : ClassId) (kk_o2 : ClassId) (q3 : Int64) (q4 : Int64) (q0 : Int64) (q1 : Int64) (q2 : Int64) (h0 : Heap) (n0 : Nat) (O0 : Old Z n0 h0) (S : SF Z w_NONE) (E_o0 : Exa Z h0 o0 sC0) (F_count_o0 : Fld Z h0 o0 sC0 "count" "J" (.long q0)) (F_firsts_o0 : Fld Z h0 o0 sC0 "firsts" "[J" (.ref o1)) (F_lasts_o0 : Fld Z h0 o0 sC0 "lasts" "[J" (.ref o2)) (F_maxRanges_o0 : Fld Z h0 o0 sC0 "maxRanges" "I" (.int 2147483647)) (F_ranges_o0 : Fld Z h0 o0 sC0 "ranges" "I" (.int 1)) (V_o1 : Arv Z h0 o1 kk_o1 .long (4 : Int32) [(.long q1), (.long 0), (.long 0), (.long 0)] (.long 0)) (V_o2 : Arv Z h0 o2 kk_o2 .long (4 : Int32) [(.long q2), (.long 0), (.long 0), (.long 0)] (.long 0)) (ne_o0_o1 : o0 ≠ o1) (ne_o0_o2 : o0 ≠ o2) (ne_o1_o2 : o1 ≠ o2) (g_o0 : n0 ≤ o0) (g_o1 : n0 ≤ o1) (g_o2 : n0 ≤ o2) :
    Pay l Z My11 ws prog_55_method_21_code 7 none #[(.ref o0), (.int 1), (.long q3), (.long q4)] h0 ({ frames := 1, cells := 0, slots := 0, locals := 18 } : Room) (Q11_2 Z w_NONE o0 o1 o2 kk_o1 kk_o2 q3 q4 q0 q1 q2 h0 n0) := by
  refine own_body (plainFor_of_name pn_1) (L0 := #[va o0, vi 1, vl q3, ss, vl q4, ss, uu]) (fun _ => by first | rfl | (simp [entryFrame, mkF, argsToLocals, Value.category]; done)) ?_
  intro p e s m below meth c s₁ hrt hlk hx hby hml hZ hown0 hnm X0 e0
  have hown : s.vm.findClass sC0 = some m.cls := hown0
  have N0 := Fr.nil n0
  have K0 : Keep h0 h0 [o1, o2, o0] := Keep.refl _ _
  obtain ⟨T1, X1, e1, st1⟩ := getF X0 hx hZ hown (host := "") (Or.inl (ww hw 39 rfl)) Via.refl e0 F_ranges_o0 (g := (mkF m 1 #[va o0, vi 1, vl q3, ss, vl q4, ss, uu] [(.ref o0)])) rfl rfl (hb hby d11_1)
  obtain ⟨T2, X2, e2, st2⟩ := getF X1 hx hZ hown (host := "") (Or.inl (ww hw 28 rfl)) Via.refl e1 F_firsts_o0 (g := (mkF m 5 #[va o0, vi 1, vl q3, ss, vl q4, ss, uu] [(.ref o0), (.int 1)])) rfl rfl (hb hby d11_5)
  obtain ⟨cl3, Ar3, qk3, Sz3, Ng3, Hh3, Gg3⟩ := id V_o1
  obtain ⟨T4, X4, e4, st4⟩ := getF X2 hx hZ hown (host := "") (Or.inl (ww hw 28 rfl)) Via.refl e2 F_firsts_o0 (g := (mkF m 51 #[va o0, vi 1, vl q3, ss, vl q4, ss, uu] [(.ref o0)])) rfl rfl (hb hby d11_51)
  obtain ⟨T5, X5, e5, st5⟩ := getF X4 hx hZ hown (host := "") (Or.inl (ww hw 28 rfl)) Via.refl e4 F_firsts_o0 (g := (mkF m 56 #[va o0, vi 1, vl q3, ss, vl q4, ss, uu] [(.ref o0), (.int 1), (.ref o1)])) rfl rfl (hb hby d11_56)
  obtain ⟨T6, X6, e6, st6⟩ := getF X5 hx hZ hown (host := "") (Or.inl (ww hw 39 rfl)) Via.refl e5 F_ranges_o0 (g := (mkF m 63 #[va o0, vi 1, vl q3, ss, vl q4, ss, uu] [(.ref o0), (.int 2), (.ref o1), (.int 1), (.ref o1)])) rfl rfl (hb hby d11_63)
  obtain ⟨T7, h7, L7, X7, e7, N7, Kc7, Vc7, st7⟩ := cpA X6 hx hZ hown (ww hw 72 rfl) (ww hw 71 rfl) (ww hw 69 rfl) (ww hw 70 rfl) e6 V_o1 V_o1 (us := []) (Or.inl ⟨rfl, rfl⟩) (sp := (1 : Int32)) (dp := (2 : Int32)) (nn := (0 : Int32)) (by decide) (by decide) (by decide) (by decide) (by decide) rfl (Nat.le_of_ble_eq_true rfl) N0 g_o1 (g := (mkF m 68 #[va o0, vi 1, vl q3, ss, vl q4, ss, uu] [(.int 0), (.int 2), (.ref o1), (.int 1), (.ref o1)])) rfl (by rw [hml]; rfl) (rest := []) rfl (hb hby d11_68) (by decide) (W := 0) (by show 2 * 0 + _ ≤ _; exact Nat.le_of_eq rfl) (by decide)
  have V7 : Arv Z h7 o1 kk_o1 .long (4 : Int32) [(.long q1), (.long 0), (.long 0), (.long 0)] (.long 0) := Vc7
  have O7 := O0.keep Kc7 (allS g_o1 all0)
  have K7 : Keep h0 h7 [o1, o2, o0] := K0.trans Kc7 (allS (Or.inl (List.mem_of_getElem? (i := 0) rfl)) all0)
  have fc8 := (F_lasts_o0.keep Kc7 (ninS ne_o0_o1 nin0))
  obtain ⟨T9, X9, e9, st9⟩ := getF X7 hx hZ hown (host := "") (Or.inl (ww hw 30 rfl)) Via.refl e7 fc8 (g := (mkF m 72 #[va o0, vi 1, vl q3, ss, vl q4, ss, uu] [(.ref o0)])) rfl rfl (hb hby d11_72)
  obtain ⟨T10, X10, e10, st10⟩ := getF X9 hx hZ hown (host := "") (Or.inl (ww hw 30 rfl)) Via.refl e9 fc8 (g := (mkF m 77 #[va o0, vi 1, vl q3, ss, vl q4, ss, uu] [(.ref o0), (.int 1), (.ref o2)])) rfl rfl (hb hby d11_77)
  have fc11 := (F_ranges_o0.keep Kc7 (ninS ne_o0_o1 nin0))
  obtain ⟨T12, X12, e12, st12⟩ := getF X10 hx hZ hown (host := "") (Or.inl (ww hw 39 rfl)) Via.refl e10 fc11 (g := (mkF m 84 #[va o0, vi 1, vl q3, ss, vl q4, ss, uu] [(.ref o0), (.int 2), (.ref o2), (.int 1), (.ref o2)])) rfl rfl (hb hby d11_84)
  have fc13 := (V_o2.keep Kc7 (ninS (Ne.symm ne_o1_o2) nin0))
  obtain ⟨T14, h14, L14, X14, e14, N14, Kc14, Vc14, st14⟩ := cpA X12 hx hZ hown (ww hw 72 rfl) (ww hw 71 rfl) (ww hw 69 rfl) (ww hw 70 rfl) e12 fc13 fc13 (us := []) (Or.inl ⟨rfl, rfl⟩) (sp := (1 : Int32)) (dp := (2 : Int32)) (nn := (0 : Int32)) (by decide) (by decide) (by decide) (by decide) (by decide) rfl (Nat.le_of_ble_eq_true rfl) N7 g_o2 (g := (mkF m 89 #[va o0, vi 1, vl q3, ss, vl q4, ss, uu] [(.int 0), (.int 2), (.ref o2), (.int 1), (.ref o2)])) rfl (by rw [hml]; rfl) (rest := []) rfl (hb hby d11_89) (by decide) (W := 0) (by show 2 * 0 + _ ≤ _; exact Nat.le_of_eq rfl) (by decide)
  have V14 : Arv Z h14 o2 kk_o2 .long (4 : Int32) [(.long q2), (.long 0), (.long 0), (.long 0)] (.long 0) := Vc14
  have O14 := O7.keep Kc14 (allS g_o2 all0)
  have K14 : Keep h0 h14 [o1, o2, o0] := K7.trans Kc14 (allS (Or.inl (List.mem_of_getElem? (i := 1) rfl)) all0)
  have fc15 := ((F_firsts_o0.keep Kc7 (ninS ne_o0_o1 nin0)).keep Kc14 (ninS ne_o0_o2 nin0))
  obtain ⟨T16, X16, e16, st16⟩ := getF X14 hx hZ hown (host := "") (Or.inl (ww hw 28 rfl)) Via.refl e14 fc15 (g := (mkF m 93 #[va o0, vi 1, vl q3, ss, vl q4, ss, uu] [(.ref o0)])) rfl rfl (hb hby d11_93)
  have fc17 := (V7.keep Kc14 (ninS ne_o1_o2 nin0))
  obtain ⟨cl18, Ar18, qk18, Sz18, Ng18, Hh18, Gg18⟩ := id fc17
  have hin18_1 : ¬ ((1 : Int32) < 0 ∨ cl18.slots.size ≤ ((1 : Int32)).toNatClampNeg) := inb_of Sz18 ⟨by decide, by decide⟩
  obtain ⟨T19, h19, X19, e19, W19, st19⟩ := stJ X16 hx hZ e16 Ar18 (j := (1 : Int32)) hin18_1 (g := (mkF m 98 #[va o0, vi 1, vl q3, ss, vl q4, ss, uu] [(.long q3), (.int 1), (.ref o1)])) rfl rfl (hb hby d11_98)
  have V19 : Arv Z h19 o1 kk_o1 .long (4 : Int32) [(.long q1), (.long q3), (.long 0), (.long 0)] (.long 0) := Arv.set Ar18 qk18 Sz18 Ng18 Hh18 Gg18 rfl W19 1 rfl (Nat.le_of_ble_eq_true rfl)
  have O19 := O14.wr W19 g_o1
  have K19 : Keep h0 h19 [o1, o2, o0] := K14.wr W19 (Or.inl (List.mem_of_getElem? (i := 0) rfl))
  have N19 := Fr.snoc X19 N14 g_o1
  have fc20 := ((fc8.keep Kc14 (ninS ne_o0_o2 nin0)).other W19 (Or.inl ne_o0_o1))
  obtain ⟨T21, X21, e21, st21⟩ := getF X19 hx hZ hown (host := "") (Or.inl (ww hw 30 rfl)) Via.refl e19 fc20 (g := (mkF m 100 #[va o0, vi 1, vl q3, ss, vl q4, ss, uu] [(.ref o0)])) rfl rfl (hb hby d11_100)
  have fc22 := (V14.other W19 (Ne.symm ne_o1_o2))
  obtain ⟨cl23, Ar23, qk23, Sz23, Ng23, Hh23, Gg23⟩ := id fc22
  have hin23_1 : ¬ ((1 : Int32) < 0 ∨ cl23.slots.size ≤ ((1 : Int32)).toNatClampNeg) := inb_of Sz23 ⟨by decide, by decide⟩
  obtain ⟨T24, h24, X24, e24, W24, st24⟩ := stJ X21 hx hZ e21 Ar23 (j := (1 : Int32)) hin23_1 (g := (mkF m 106 #[va o0, vi 1, vl q3, ss, vl q4, ss, uu] [(.long q4), (.int 1), (.ref o2)])) rfl rfl (hb hby d11_106)
  have V24 : Arv Z h24 o2 kk_o2 .long (4 : Int32) [(.long q2), (.long q4), (.long 0), (.long 0)] (.long 0) := Arv.set Ar23 qk23 Sz23 Ng23 Hh23 Gg23 rfl W24 1 rfl (Nat.le_of_ble_eq_true rfl)
  have O24 := O19.wr W24 g_o2
  have K24 : Keep h0 h24 [o1, o2, o0] := K19.wr W24 (Or.inl (List.mem_of_getElem? (i := 1) rfl))
  have N24 := Fr.snoc X24 N19 g_o2
  have fc25 := (((fc11.keep Kc14 (ninS ne_o0_o2 nin0)).other W19 (Or.inl ne_o0_o1)).other W24 (Or.inl ne_o0_o2))
  obtain ⟨T26, X26, e26, st26⟩ := getF X24 hx hZ hown (host := "") (Or.inl (ww hw 39 rfl)) Via.refl e24 fc25 (g := (mkF m 109 #[va o0, vi 1, vl q3, ss, vl q4, ss, uu] [(.ref o0), (.ref o0)])) rfl rfl (hb hby d11_109)
  have fc27 := ((((E_o0.keep Kc7).keep Kc14).wr W19).wr W24)
  obtain ⟨T28, h28, X28, e28, W28, st28⟩ := putF X26 hx hZ hown (host := "") (Or.inl (ww hw 39 rfl)) Via.refl e26 fc25 fc27 (Or.inl (ww hw 40 rfl)) (ww hw 14 rfl) (ty := .int) (by decide) rfl rfl (g := (mkF m 114 #[va o0, vi 1, vl q3, ss, vl q4, ss, uu] [(.int 2), (.ref o0)])) rfl rfl (hb hby d11_114)
  have Fw28 := fc25.same W28
  have O28 := O24.wr W28 g_o0
  have K28 : Keep h0 h28 [o1, o2, o0] := K24.wr W28 (Or.inl (List.mem_of_getElem? (i := 2) rfl))
  have N28 := Fr.snoc X28 N24 g_o0
  obtain ⟨fs, hr, hrun, hended, hW, hsame⟩ := X28.leave (v := none) (fun _ => rfl)
  have fc29 := (fc27.wr W28)
  have fc30 := (((((F_count_o0.keep Kc7 (ninS ne_o0_o1 nin0)).keep Kc14 (ninS ne_o0_o2 nin0)).other W19 (Or.inl ne_o0_o1)).other W24 (Or.inl ne_o0_o2)).other W28 (Or.inr (slot_ne (Or.inl (ww hw 74 rfl)) (Or.inl (ww hw 40 rfl)) (by decide) (t := .long) (t' := .int) (by decide) (by decide))))
  have fc31 := (((fc15.other W19 (Or.inl ne_o0_o1)).other W24 (Or.inl ne_o0_o2)).other W28 (Or.inr (slot_ne (Or.inl (ww hw 29 rfl)) (Or.inl (ww hw 40 rfl)) (by decide) (t := (.array .long)) (t' := .int) (by decide) (by decide))))
  have fc32 := ((fc20.other W24 (Or.inl ne_o0_o2)).other W28 (Or.inr (slot_ne (Or.inl (ww hw 31 rfl)) (Or.inl (ww hw 40 rfl)) (by decide) (t := (.array .long)) (t' := .int) (by decide) (by decide))))
  have fc33 := (((((F_maxRanges_o0.keep Kc7 (ninS ne_o0_o1 nin0)).keep Kc14 (ninS ne_o0_o2 nin0)).other W19 (Or.inl ne_o0_o1)).other W24 (Or.inl ne_o0_o2)).other W28 (Or.inr (slot_ne (Or.inr (ww hw 33 rfl)) (Or.inl (ww hw 40 rfl)) (by decide) (t := .int) (t' := .int) (by decide) (by decide))))
  have fc34 := ((V19.other W24 ne_o1_o2).other W28 (Ne.symm ne_o0_o1))
  have fc35 := (V24.other W28 (Ne.symm ne_o0_o2))
  refine ⟨_, _, ?_, hrun, hended, _, _, rfl, ?_, ⟨_, rfl⟩, hW, hsame.mono (by decide) (by decide)⟩
  · show Steps p.tables e below (s₁.setTop (mkF m 0 #[va o0, vi 1, vl q3, ss, vl q4, ss, uu] [])) _
    refine XS.aloadN X0.here hx rfl (hb hby d11_0) rfl rfl ?_
    refine st1 _ ?_
    refine XS.aloadN X1.here hx rfl (hb hby d11_4) rfl rfl ?_
    refine st2 _ ?_
    refine X2.arraylength hx (by rw [e2]; exact Ar3.1) (State.isArrayOf_alike hZ.alike Ar3.2.1) (g := (mkF m 8 #[va o0, vi 1, vl q3, ss, vl q4, ss, uu] [(.ref o1), (.int 1)])) rfl rfl (hb hby d11_8) _ ?_
    rw [len_of Sz3 Ng3]
    refine XS.icmpYes X2.here hx rfl (pc0 := 9) (pc' := 50) rfl (hb hby d11_9) rfl (feq (by decide : ¬ ((1 : Int32) = (4 : Int32)))).2 (by decide) (by decide) ?_
    refine XS.aloadN X2.here hx rfl (hb hby d11_50) rfl rfl ?_
    refine st4 _ ?_
    show Steps p.tables e below (T4.setTop (mkF m 54 #[va o0, vi 1, vl q3, ss, vl q4, ss, uu] [(.ref o1)])) _
    refine XS.iloadN X4.here hx rfl (hb hby d11_54) rfl ?_
    refine XS.aloadN X4.here hx rfl (hb hby d11_55) rfl rfl ?_
    refine st5 _ ?_
    refine XS.iloadN X5.here hx rfl (hb hby d11_59) rfl ?_
    refine XS.iconst X5.here hx rfl (hb hby d11_60) ?_
    refine XS.iadd X5.here hx rfl (hb hby d11_61) rfl ?_
    show Steps p.tables e below (T5.setTop (mkF m 62 #[va o0, vi 1, vl q3, ss, vl q4, ss, uu] [(.int ((1 : Int32) + (1 : Int32))), (.ref o1), (.int 1), (.ref o1)])) _
    rw [show (((1 : Int32) + (1 : Int32)) : Int32) = (2 : Int32) from by decide]
    refine XS.aloadN X5.here hx rfl (hb hby d11_62) rfl rfl ?_
    refine st6 _ ?_
    refine XS.iloadN X6.here hx rfl (hb hby d11_66) rfl ?_
    refine XS.isub X6.here hx rfl (hb hby d11_67) rfl ?_
    show Steps p.tables e below (T6.setTop (mkF m 68 #[va o0, vi 1, vl q3, ss, vl q4, ss, uu] [(.int ((1 : Int32) - (1 : Int32))), (.int 2), (.ref o1), (.int 1), (.ref o1)])) _
    rw [show (((1 : Int32) - (1 : Int32)) : Int32) = (0 : Int32) from by decide]
    refine st7 _ ?_
    refine XS.aloadN X7.here hx rfl (hb hby d11_71) rfl rfl ?_
    refine st9 _ ?_
    refine XS.iloadN X9.here hx rfl (hb hby d11_75) rfl ?_
    refine XS.aloadN X9.here hx rfl (hb hby d11_76) rfl rfl ?_
    refine st10 _ ?_
    refine XS.iloadN X10.here hx rfl (hb hby d11_80) rfl ?_
    show Steps p.tables e below (T10.setTop (mkF m 81 #[va o0, vi 1, vl q3, ss, vl q4, ss, uu] [(.int 1), (.ref o2), (.int 1), (.ref o2)])) _
    refine XS.iconst X10.here hx rfl (hb hby d11_81) ?_
    refine XS.iadd X10.here hx rfl (hb hby d11_82) rfl ?_
    show Steps p.tables e below (T10.setTop (mkF m 83 #[va o0, vi 1, vl q3, ss, vl q4, ss, uu] [(.int ((1 : Int32) + (1 : Int32))), (.ref o2), (.int 1), (.ref o2)])) _
    rw [show (((1 : Int32) + (1 : Int32)) : Int32) = (2 : Int32) from by decide]
    refine XS.aloadN X10.here hx rfl (hb hby d11_83) rfl rfl ?_
    refine st12 _ ?_
    refine XS.iloadN X12.here hx rfl (hb hby d11_87) rfl ?_
    refine XS.isub X12.here hx rfl (hb hby d11_88) rfl ?_
    show Steps p.tables e below (T12.setTop (mkF m 89 #[va o0, vi 1, vl q3, ss, vl q4, ss, uu] [(.int ((1 : Int32) - (1 : Int32))), (.int 2), (.ref o2), (.int 1), (.ref o2)])) _
    rw [show (((1 : Int32) - (1 : Int32)) : Int32) = (0 : Int32) from by decide]
    refine st14 _ ?_
    refine XS.aloadN X14.here hx rfl (hb hby d11_92) rfl rfl ?_
    refine st16 _ ?_
    refine XS.iloadN X16.here hx rfl (hb hby d11_96) rfl ?_
    refine XS.lloadN X16.here hx rfl (hb hby d11_97) rfl ?_
    refine st19 _ ?_
    refine XS.aloadN X19.here hx rfl (hb hby d11_99) rfl rfl ?_
    show Steps p.tables e below (T19.setTop (mkF m 100 #[va o0, vi 1, vl q3, ss, vl q4, ss, uu] [(.ref o0)])) _
    refine st21 _ ?_
    refine XS.iloadN X21.here hx rfl (hb hby d11_103) rfl ?_
    refine XS.lload X21.here hx rfl (hb hby d11_104) rfl ?_
    refine st24 _ ?_
    refine XS.aloadN X24.here hx rfl (hb hby d11_107) rfl rfl ?_
    refine XS.dup X24.here hx rfl (hb hby d11_108) rfl rfl ?_
    refine st26 _ ?_
    refine XS.iconst X26.here hx rfl (hb hby d11_112) ?_
    show Steps p.tables e below (T26.setTop (mkF m 113 #[va o0, vi 1, vl q3, ss, vl q4, ss, uu] [(.int 1), (.int 1), (.ref o0)])) _
    refine XS.iadd X26.here hx rfl (hb hby d11_113) rfl ?_
    show Steps p.tables e below (T26.setTop (mkF m 114 #[va o0, vi 1, vl q3, ss, vl q4, ss, uu] [(.int ((1 : Int32) + (1 : Int32))), (.ref o0)])) _
    rw [show (((1 : Int32) + (1 : Int32)) : Int32) = (2 : Int32) from by decide]
    refine st28 _ ?_
    exact X28.returnOut hx hrt (hb hby d11_117) hr
  · show Q11_2 Z w_NONE o0 o1 o2 kk_o1 kk_o2 q3 q4 q0 q1 q2 h0 n0 none T28.heap _
    rw [e28]; exact ⟨rfl, N28, K28, fc29, fc30, fc31, fc32, fc33, Fw28, fc34, fc35⟩
def Q8_5 (Z : State) (w_NONE : Addr) (o0 : Addr) (o1 : Addr) (o2 : Addr) (kk_o1 : ClassId) (kk_o2 : ClassId) (q3 : Int64) (q4 : Int64) (q0 : Int64) (q1 : Int64) (q2 : Int64) (h0 : Heap) (n0 : Nat) (v : Option Value) (h : Heap) (L : List Loc) : Prop := v = (some (.int 1)) ∧ Fr n0 L ∧ Keep h0 h [o0, o2, o1] ∧ Exa Z h o0 sC0 ∧ Fld Z h o0 sC0 "count" "J" (.long (q0 + ((q4 - q3) + (1 : Int64)))) ∧ Fld Z h o0 sC0 "firsts" "[J" (.ref o1) ∧ Fld Z h o0 sC0 "lasts" "[J" (.ref o2) ∧ Fld Z h o0 sC0 "maxRanges" "I" (.int 2147483647) ∧ Fld Z h o0 sC0 "ranges" "I" (.int 2) ∧ Arv Z h o1 kk_o1 .long (4 : Int32) [(.long q1), (.long q3), (.long 0), (.long 0)] (.long 0) ∧ Arv Z h o2 kk_o2 .long (4 : Int32) [(.long q2), (.long q4), (.long 0), (.long 0)] (.long 0)
theorem rm8_5 (l : Launch) (Z : State) (a0 : Array Value) (hw : HW Z a0) (ws : List Jvm.Cond) (w_NONE : Addr) (o0 : Addr) (o1 : Addr) (o2 : Addr) (kk_o1 : ClassId) (kk_o2 : ClassId) (q3 : Int64) (q4 : Int64) (q0 : Int64) (q1 : Int64) (q2 : Int64) (h0 : Heap) (n0 : Nat) (O0 : Old Z n0 h0) (S : SF Z w_NONE) (E_o0 : Exa Z h0 o0 sC0) (F_count_o0 : Fld Z h0 o0 sC0 "count" "J" (.long q0)) (F_firsts_o0 : Fld Z h0 o0 sC0 "firsts" "[J" (.ref o1)) (F_lasts_o0 : Fld Z h0 o0 sC0 "lasts" "[J" (.ref o2)) (F_maxRanges_o0 : Fld Z h0 o0 sC0 "maxRanges" "I" (.int 2147483647)) (F_ranges_o0 : Fld Z h0 o0 sC0 "ranges" "I" (.int 1)) (V_o1 : Arv Z h0 o1 kk_o1 .long (4 : Int32) [(.long q1), (.long 0), (.long 0), (.long 0)] (.long 0)) (V_o2 : Arv Z h0 o2 kk_o2 .long (4 : Int32) [(.long q2), (.long 0), (.long 0), (.long 0)] (.long 0)) (ne_o0_o1 : o0 ≠ o1) (ne_o0_o2 : o0 ≠ o2) (ne_o1_o2 : o1 ≠ o2) (g_o0 : n0 ≤ o0) (g_o1 : n0 ≤ o1) (g_o2 : n0 ≤ o2) (hc0 : ¬ (q3 < (0 : Int64))) (hc1 : ¬ (q4 < q3)) (hc2 : ¬ (q3 = (0 : Int64))) (hc3 : q2 < (q3 - (1 : Int64))) :
    Pay l Z My8 ws prog_55_method_8_code 13 (some .boolean) #[(.ref o0), (.long q3), (.long q4)] h0 ({ frames := 2, cells := 0, slots := 0, locals := 36 } : Room) (Q8_5 Z w_NONE o0 o1 o2 kk_o1 kk_o2 q3 q4 q0 q1 q2 h0 n0) := by
  refine own_body (plainFor_of_name pn_1) (L0 := #[va o0, vl q3, ss, vl q4, ss, uu, uu, uu, uu, uu, uu, uu, uu]) (fun _ => by first | rfl | (simp [entryFrame, mkF, argsToLocals, Value.category]; done)) ?_
  intro p e s m below meth c s₁ hrt hlk hx hby hml hZ hown0 hnm X0 e0
  have hown : s.vm.findClass sC0 = some m.cls := hown0
  have N0 := Fr.nil n0
  have K0 : Keep h0 h0 [o0, o2, o1] := Keep.refl _ _
  obtain ⟨_, _, ⟨T1, L1, k1, n1⟩, -, X1, ⟨Lc1, hQ1, l1, y1, z1⟩, st1⟩ := Jvm.LawKit.callS X0 hx (y := My9) hown (mvT hZ (ww hw 46 rfl)) (mvT hZ (ww hw 47 rfl)) (mvT hZ (ww hw 15 rfl)) (mvT hZ (ww hw 48 rfl)) (by decide) (backOf (W := 0) (rm9_0 l Z a0 hw [] w_NONE q3 q4 h0 n0 O0 S hc0 hc1) hZ (ww hw 48 rfl) (ww hw 15 rfl) (by decide) (by decide)) (g := (mkF m 2 #[va o0, vl q3, ss, vl q4, ss, uu, uu, uu, uu, uu, uu, uu, uu] [(.long q4), (.long q3)])) rfl (by rw [hml]; rfl) (argsL := [(.long q3), (.long q4)]) (rest := []) (lenOf pd_4 rfl) rfl (by show 2 * 0 + _ ≤ _; exact Nat.le_of_eq rfl) (hb hby d8_2) (fun _ _ => ⟨rfl, e0, (by decide : 0 + 0 ≤ _), (by decide : 0 + 0 ≤ _)⟩)
  dsimp only [Pt.U, Pt.locs, Pt.cells, Pt.slots] at X1 l1 y1 z1 st1 hQ1
  subst l1 y1 z1
  obtain ⟨rfl, Nq1, e1⟩ := hQ1
  have N1 := Fr.app N0 Nq1
  obtain ⟨cq2, qa2, qb2⟩ := E_o0.cell
  obtain ⟨_, _, ⟨T2, L2, k2, n2⟩, -, X2, ⟨Lc2, hQ2, l2, y2, z2⟩, st2⟩ := X1.privateBack hx (y := My10) hown (mvT hZ (ww hw 49 rfl)) (mvT hZ (ww hw 50 rfl)) (own_selp (by decide) (mvT hZ (ww hw 14 rfl)) (mvP hZ (ww hw 51 rfl)) (mvT hZ (ww hw 50 rfl))) (Cond.privateMethod_at (mvP hZ (ww hw 51 rfl) (args := #[]))) (mvT hZ (ww hw 52 rfl)) (by decide) (backOf (W := 0) (rm10_4 l Z a0 hw [] w_NONE o0 o1 o2 kk_o1 kk_o2 (q3 - (1 : Int64)) q0 q1 q2 h0 n0 O0 S F_lasts_o0 F_ranges_o0 V_o2 hc3) hZ (ww hw 52 rfl) (ww hw 15 rfl) (by decide) (by decide)) (g := (mkF m 19 #[va o0, vl q3, ss, vl q4, ss, uu, uu, uu, uu, uu, uu, uu, uu] [(.long (q3 - (1 : Int64))), (.ref o0)])) rfl (by rw [hml]; rfl) (Steps.refl _) (a := o0) (by rw [e1]; exact qa2) qb2 (argsL := [(.long (q3 - (1 : Int64)))]) (rest := []) (lenOf pd_5 rfl) rfl (by show 2 * 0 + _ ≤ _; exact Nat.le_of_eq rfl) (hb hby d8_19) (fun _ _ => ⟨rfl, e1, (by decide : 0 + 0 ≤ _), (by decide : 0 + 0 ≤ _)⟩)
  dsimp only [Pt.U, Pt.locs, Pt.cells, Pt.slots] at X2 l2 y2 z2 st2 hQ2
  subst l2 y2 z2
  obtain ⟨rfl, Nq2, e2⟩ := hQ2
  have N2 := Fr.app N1 Nq2
  obtain ⟨T3, X3, e3, st3⟩ := getF X2 hx hZ hown (host := "") (Or.inl (ww hw 39 rfl)) Via.refl e2 F_ranges_o0 (g := (mkF m 31 #[va o0, vl q3, ss, vl q4, ss, vi 1, vi 1, uu, uu, uu, uu, uu, uu] [(.ref o0), (.int 1)])) rfl rfl (hb hby d8_31)
  obtain ⟨T4, X4, e4, st4⟩ := getF X3 hx hZ hown (host := "") (Or.inl (ww hw 39 rfl)) Via.refl e3 F_ranges_o0 (g := (mkF m 68 #[va o0, vl q3, ss, vl q4, ss, vi 1, vi 0, uu, uu, uu, uu, uu, uu] [(.ref o0)])) rfl rfl (hb hby d8_68)
  obtain ⟨T5, X5, e5, st5⟩ := getF X4 hx hZ hown (host := "") (Or.inl (ww hw 32 rfl)) Via.refl e4 F_maxRanges_o0 (g := (mkF m 72 #[va o0, vl q3, ss, vl q4, ss, vi 1, vi 0, uu, uu, uu, uu, uu, uu] [(.ref o0), (.int 1)])) rfl rfl (hb hby d8_72)
  obtain ⟨cq6, qa6, qb6⟩ := E_o0.cell
  obtain ⟨_, _, ⟨T6, L6, k6, n6⟩, -, X6, ⟨Lc6, hQ6, l6, y6, z6⟩, st6⟩ := X5.privateBack hx (y := My11) hown (mvT hZ (ww hw 53 rfl)) (mvT hZ (ww hw 54 rfl)) (own_selp (by decide) (mvT hZ (ww hw 14 rfl)) (mvP hZ (ww hw 55 rfl)) (mvT hZ (ww hw 54 rfl))) (Cond.privateMethod_at (mvP hZ (ww hw 55 rfl) (args := #[]))) (mvT hZ (ww hw 56 rfl)) (by decide) (backOf (W := 0) (rm11_2 l Z a0 hw [] w_NONE o0 o1 o2 kk_o1 kk_o2 q3 q4 q0 q1 q2 h0 n0 O0 S E_o0 F_count_o0 F_firsts_o0 F_lasts_o0 F_maxRanges_o0 F_ranges_o0 V_o1 V_o2 ne_o0_o1 ne_o0_o2 ne_o1_o2 g_o0 g_o1 g_o2) hZ (ww hw 56 rfl) (ww hw 15 rfl) (by decide) (by decide)) (g := (mkF m 85 #[va o0, vl q3, ss, vl q4, ss, vi 1, vi 0, uu, uu, uu, uu, uu, uu] [(.long q4), (.long q3), (.int 1), (.ref o0)])) rfl (by rw [hml]; rfl) (Steps.refl _) (a := o0) (by rw [e5]; exact qa6) qb6 (argsL := [(.int 1), (.long q3), (.long q4)]) (rest := []) (lenOf pd_8 rfl) rfl (by show 2 * 0 + _ ≤ _; exact Nat.le_of_eq rfl) (hb hby d8_85) (fun _ _ => ⟨rfl, e5, (by decide : 0 + 0 ≤ _), (by decide : 0 + 0 ≤ _)⟩)
  dsimp only [Pt.U, Pt.locs, Pt.cells, Pt.slots] at X6 l6 y6 z6 st6 hQ6
  subst l6 y6 z6
  obtain ⟨rfl, Nq6, Kc6, P0_6, P1_6, P2_6, P3_6, P4_6, P5_6, P6_6, P7_6⟩ := hQ6
  have N6 := Fr.app N2 Nq6
  have O6 := O0.keep Kc6 (allS g_o1 (allS g_o2 (allS g_o0 all0)))
  have K6 : Keep h0 T6.heap [o0, o2, o1] := K0.trans Kc6 (allS (Or.inl (List.mem_of_getElem? (i := 2) rfl)) (allS (Or.inl (List.mem_of_getElem? (i := 1) rfl)) (allS (Or.inl (List.mem_of_getElem? (i := 0) rfl)) all0)))
  obtain ⟨T7, X7, e7, st7⟩ := getF X6 hx hZ hown (host := "") (Or.inl (ww hw 73 rfl)) Via.refl rfl P1_6 (g := (mkF m 90 #[va o0, vl q3, ss, vl q4, ss, vi 1, vi 0, uu, uu, uu, uu, uu, uu] [(.ref o0), (.ref o0)])) rfl rfl (hb hby d8_90)
  obtain ⟨T8, h8, X8, e8, W8, st8⟩ := putF X7 hx hZ hown (host := "") (Or.inl (ww hw 73 rfl)) Via.refl e7 P1_6 P0_6 (Or.inl (ww hw 74 rfl)) (ww hw 14 rfl) (ty := .long) (by decide) rfl rfl (g := (mkF m 99 #[va o0, vl q3, ss, vl q4, ss, vi 1, vi 0, uu, uu, uu, uu, uu, uu] [(.long (q0 + ((q4 - q3) + (1 : Int64)))), (.ref o0)])) rfl rfl (hb hby d8_99)
  have Fw8 := P1_6.same W8
  have O8 := O6.wr W8 g_o0
  have K8 : Keep h0 h8 [o0, o2, o1] := K6.wr W8 (Or.inl (List.mem_of_getElem? (i := 0) rfl))
  have N8 := Fr.snoc X8 N6 g_o0
  obtain ⟨fs, hr, hrun, hended, hW, hsame⟩ := X8.leave (v := (some (.int 1))) (fun h => by rw [hrt] at h; cases h)
  have fc9 := (P0_6.wr W8)
  have fc10 := (P2_6.other W8 (Or.inr (slot_ne (Or.inl (ww hw 29 rfl)) (Or.inl (ww hw 74 rfl)) (by decide) (t := (.array .long)) (t' := .long) (by decide) (by decide))))
  have fc11 := (P3_6.other W8 (Or.inr (slot_ne (Or.inl (ww hw 31 rfl)) (Or.inl (ww hw 74 rfl)) (by decide) (t := (.array .long)) (t' := .long) (by decide) (by decide))))
  have fc12 := (P4_6.other W8 (Or.inr (slot_ne (Or.inr (ww hw 33 rfl)) (Or.inl (ww hw 74 rfl)) (by decide) (t := .int) (t' := .long) (by decide) (by decide))))
  have fc13 := (P5_6.other W8 (Or.inr (slot_ne (Or.inl (ww hw 40 rfl)) (Or.inl (ww hw 74 rfl)) (by decide) (t := .int) (t' := .long) (by decide) (by decide))))
  have fc14 := (P6_6.other W8 (Ne.symm ne_o0_o1))
  have fc15 := (P7_6.other W8 (Ne.symm ne_o0_o2))
  refine ⟨_, _, ?_, hrun, hended, _, _, rfl, ?_, ⟨_, rfl⟩, hW, hsame.mono (by decide) (by decide)⟩
  · show Steps p.tables e below (s₁.setTop (mkF m 0 #[va o0, vl q3, ss, vl q4, ss, uu, uu, uu, uu, uu, uu, uu, uu] [])) _
    refine XS.lloadN X0.here hx rfl (hb hby d8_0) rfl ?_
    refine XS.lloadN X0.here hx rfl (hb hby d8_1) rfl ?_
    refine st1 _ ?_
    refine XS.aloadN X1.here hx rfl (hb hby d8_5) rfl rfl ?_
    refine XS.lloadN X1.here hx rfl (hb hby d8_6) rfl ?_
    refine XS.lconst X1.here hx rfl (hb hby d8_7) ?_
    refine XS.lcmp X1.here hx rfl (hb hby d8_8) rfl ?_
    refine XS.ifYes X1.here hx rfl (pc0 := 9) (pc' := 16) rfl (hb hby d8_9) rfl (own_lc_eqF hc2).2 (by decide) (by decide) ?_
    show Steps p.tables e below (T1.setTop (mkF m 16 #[va o0, vl q3, ss, vl q4, ss, uu, uu, uu, uu, uu, uu, uu, uu] [(.ref o0)])) _
    refine XS.lloadN X1.here hx rfl (hb hby d8_16) rfl ?_
    refine XS.lconst X1.here hx rfl (hb hby d8_17) ?_
    refine XS.lsub X1.here hx rfl (hb hby d8_18) rfl ?_
    refine st2.trans ?_
    refine XS.istore X2.here hx rfl (hb hby d8_22) rfl (l' := #[va o0, vl q3, ss, vl q4, ss, vi 1, uu, uu, uu, uu, uu, uu, uu]) rfl ?_
    refine XS.iload X2.here hx rfl (hb hby d8_24) rfl ?_
    refine XS.istore X2.here hx rfl (hb hby d8_26) rfl (l' := #[va o0, vl q3, ss, vl q4, ss, vi 1, vi 1, uu, uu, uu, uu, uu, uu]) rfl ?_
    refine XS.iload X2.here hx rfl (hb hby d8_28) rfl ?_
    show Steps p.tables e below (T2.setTop (mkF m 30 #[va o0, vl q3, ss, vl q4, ss, vi 1, vi 1, uu, uu, uu, uu, uu, uu] [(.int 1)])) _
    refine XS.aloadN X2.here hx rfl (hb hby d8_30) rfl rfl ?_
    refine st3 _ ?_
    refine XS.icmpYes X3.here hx rfl (pc0 := 34) (pc' := 57) rfl (hb hby d8_34) rfl (flt (by decide : ¬ ((1 : Int32) < (1 : Int32)))).2.1 (by decide) (by decide) ?_
    refine XS.iinc X3.here hx rfl (hb hby d8_57) rfl (l' := #[va o0, vl q3, ss, vl q4, ss, vi 1, vi ((1 : Int32) + (-1 : Int32)), uu, uu, uu, uu, uu, uu]) rfl ?_
    show Steps p.tables e below (T3.setTop (mkF m 60 #[va o0, vl q3, ss, vl q4, ss, vi 1, vi ((1 : Int32) + (-1 : Int32)), uu, uu, uu, uu, uu, uu] [])) _
    rw [show (((1 : Int32) + (-1 : Int32)) : Int32) = (0 : Int32) from by decide]
    refine XS.iload X3.here hx rfl (hb hby d8_60) rfl ?_
    refine XS.iload X3.here hx rfl (hb hby d8_62) rfl ?_
    refine XS.icmpNo X3.here hx rfl (hb hby d8_64) rfl (tlt (by decide : (0 : Int32) < (1 : Int32))).2.1 ?_
    refine XS.aloadN X3.here hx rfl (hb hby d8_67) rfl rfl ?_
    refine st4 _ ?_
    refine XS.aloadN X4.here hx rfl (hb hby d8_71) rfl rfl ?_
    refine st5 _ ?_
    show Steps p.tables e below (T5.setTop (mkF m 75 #[va o0, vl q3, ss, vl q4, ss, vi 1, vi 0, uu, uu, uu, uu, uu, uu] [(.int 2147483647), (.int 1)])) _
    refine XS.icmpYes X5.here hx rfl (pc0 := 75) (pc' := 80) rfl (hb hby d8_75) rfl (feq (by decide : ¬ ((1 : Int32) = (2147483647 : Int32)))).2 (by decide) (by decide) ?_
    refine XS.aloadN X5.here hx rfl (hb hby d8_80) rfl rfl ?_
    refine XS.iload X5.here hx rfl (hb hby d8_81) rfl ?_
    refine XS.lloadN X5.here hx rfl (hb hby d8_83) rfl ?_
    refine XS.lloadN X5.here hx rfl (hb hby d8_84) rfl ?_
    refine st6.trans ?_
    refine XS.aloadN X6.here hx rfl (hb hby d8_88) rfl rfl ?_
    refine XS.dup X6.here hx rfl (hb hby d8_89) rfl rfl ?_
    show Steps p.tables e below (T6.setTop (mkF m 90 #[va o0, vl q3, ss, vl q4, ss, vi 1, vi 0, uu, uu, uu, uu, uu, uu] [(.ref o0), (.ref o0)])) _
    refine st7 _ ?_
    refine XS.lloadN X7.here hx rfl (hb hby d8_93) rfl ?_
    refine XS.lloadN X7.here hx rfl (hb hby d8_94) rfl ?_
    refine XS.lsub X7.here hx rfl (hb hby d8_95) rfl ?_
    refine XS.lconst X7.here hx rfl (hb hby d8_96) ?_
    refine XS.ladd X7.here hx rfl (hb hby d8_97) rfl ?_
    refine XS.ladd X7.here hx rfl (hb hby d8_98) rfl ?_
    refine st8 _ ?_
    show Steps p.tables e below (T8.setTop (mkF m 102 #[va o0, vl q3, ss, vl q4, ss, vi 1, vi 0, uu, uu, uu, uu, uu, uu] [])) _
    refine XS.goto X8.here hx rfl (pc0 := 102) (pc' := 223) rfl (hb hby d8_102) (by decide) (by decide) ?_
    refine XS.iconst X8.here hx rfl (hb hby d8_223) ?_
    exact retN X8 hx (t := .boolean) hrt (by simp) (hb hby d8_224) hr
  · show Q8_5 Z w_NONE o0 o1 o2 kk_o1 kk_o2 q3 q4 q0 q1 q2 h0 n0 (some (.int 1)) T8.heap _
    rw [e8]; exact ⟨rfl, N8, K8, fc9, Fw8, fc10, fc11, fc12, fc13, fc14, fc15⟩
theorem ow9 (m139_0 : Int64) (m139_1 : Int64) (m139_2 : Int64) (m139_3 : Int64) (nf0 : 0 ≤ m139_0.toInt ∧ m139_0.toInt ≤ m139_1.toInt ∧ m139_1.toInt ≤ 9223372036854775806) (nf1 : 0 ≤ m139_2.toInt ∧ m139_2.toInt ≤ m139_3.toInt ∧ m139_3.toInt ≤ 9223372036854775806) (hc1 : ¬ (m139_2 < (0 : Int64))) (hc2 : ¬ (m139_3 < m139_2)) (hc3 : m139_2 = (0 : Int64)) (hc5 : ¬ (m139_1 < (0 : Int64))) (hc6 : ¬ ((m139_3 + (1 : Int64)) < m139_0)) : ¬ ((m139_1 + (1 : Int64)) < m139_2) := by
  rw [Int64.lt_iff_toInt_lt] at hc1 hc2 hc5 hc6
  rw [← Int64.toInt_inj] at hc3
  rw [Int64.lt_iff_toInt_lt]
  have t2 : ((0 : Int64) : Int64).toInt = 0 := by decide
  have t5 : ((1 : Int64) : Int64).toInt = 1 := by decide
  have t6 := Jvm.Kit.i64_add (x := m139_3) (y := (1 : Int64)) (by omega) (by omega)
  have t8 := Jvm.Kit.i64_add (x := m139_1) (y := (1 : Int64)) (by omega) (by omega)
  omega
theorem ow10 (m167_0 : Int64) (m167_1 : Int64) (m167_2 : Int64) (m167_3 : Int64) (m167_4 : Int64) (nf0 : 0 ≤ m167_0.toInt ∧ m167_0.toInt ≤ m167_1.toInt ∧ m167_1.toInt ≤ 9223372036854775806) (nf1 : 0 ≤ m167_2.toInt ∧ m167_2.toInt ≤ m167_3.toInt ∧ m167_3.toInt ≤ 9223372036854775806) (nf2 : 0 ≤ m167_4.toInt ∧ m167_4.toInt ≤ 9223372036854775806) (hj0 : m167_1 < m167_2) : (m167_3 + (1 : Int64)) = (own_maxL (own_part0 m167_0 m167_1 m167_4) (own_part0 m167_2 m167_3 m167_4)) := by
  rw [Int64.lt_iff_toInt_lt] at hj0
  rw [← Int64.toInt_inj]
  have t4 : ((1 : Int64) : Int64).toInt = 1 := by decide
  have t5 := Jvm.Kit.i64_add (x := m167_3) (y := (1 : Int64)) (by omega) (by omega)
  have t8 := own_part0_toInt m167_0 m167_1 m167_4
  have t9 := own_part0_toInt m167_2 m167_3 m167_4
  have t10 := own_maxL_toInt (own_part0 m167_0 m167_1 m167_4) (own_part0 m167_2 m167_3 m167_4)
  omega
theorem jn4 {p : Program} {l : Launch} {e : Env} {s : State} {m : MethodId} {below : List Frame} {meth : Method} {c : Code} {T0 : State} {locs : List Loc} {Z : State} {a0 : Array Value} {h0 : Heap} {n0 : Nat} (hx : p.tables.exec = Jvm.exec) (hZ : Z.Warmed39 s.vm) (hby : c.code = code) (hml : c.maxLocals = 26) (hown : s.vm.findClass sC1 = some m.cls) (hrt : meth.sig.returnType = ret) (hlk : meth.locks = false) (hw : HW Z a0) (w_NONE : Addr) (o0 : Addr) (o1 : Addr) (o2 : Addr) (kk_o1 : ClassId) (kk_o2 : ClassId) (p0 : Int32) (p1 : Int64) (p2 : Int64) (p3 : Int64) (p4 : Int64) (p5 : Int64) (m167_0 : Int64) (m167_1 : Int64) (m167_2 : Int64) (m167_3 : Int64) (m167_4 : Int64) (f0 : Int32) (f19 : Int32) (X0 : Stand p l e room_1 s m #[(.int p0), (.long p1), (.long p2), (.long p3), (.long p4), (.long p5)] below meth c T0 locs 10 60) (e0 : T0.heap = h0) (N0 : Fr n0 locs) (O0 : Old Z n0 h0) (S : SF Z w_NONE) (E_o0 : Exa Z h0 o0 sC0) (F_lasts_o0 : Fld Z h0 o0 sC0 "lasts" "[J" (.ref o2)) (F_ranges_o0 : Fld Z h0 o0 sC0 "ranges" "I" (.int 2)) (V_o2 : Arv Z h0 o2 kk_o2 .long (4 : Int32) [(.long m167_1), (.long m167_3), (.long 0), (.long 0)] (.long 0)) (nf0 : 0 ≤ m167_0.toInt ∧ m167_0.toInt ≤ m167_1.toInt ∧ m167_1.toInt ≤ 9223372036854775806) (nf1 : 0 ≤ m167_2.toInt ∧ m167_2.toInt ≤ m167_3.toInt ∧ m167_3.toInt ≤ 9223372036854775806) (nf2 : 0 ≤ m167_4.toInt ∧ m167_4.toInt ≤ 9223372036854775806) (hj0 : m167_1 < m167_2) :
    ∃ s₂ o, Steps p.tables e below (T0.setTop (mkF m 167 #[vi f0, vl p1, ss, vl p2, ss, vl p3, ss, vl p4, ss, vl p5, ss, vl m167_0, ss, vl m167_1, ss, vl m167_2, ss, vl m167_3, ss, vi f19, vi 0, vl m167_4, ss, va o0, vl (own_maxL (own_part0 m167_0 m167_1 m167_4) (own_part0 m167_2 m167_3 m167_4)), ss] [])) s₂ ∧ s₂.status = .running ∧ Ended s₂ below o ∧ ∃ v L, o = .returned v ∧ Q0 n0 v s₂.heap L ∧ FrameEnd s o s₂ L room_1.cells room_1.slots := by
  have K0 : Keep h0 h0 [] := Keep.refl _ _
  obtain ⟨cq1, kq1, q1a, q1b, q1c⟩ := isOf hZ e0 E_o0
  obtain ⟨_, _, ⟨T1, L1, k1, n1⟩, -, X1, ⟨Lc1, hQ1, l1, y1, z1⟩, st1⟩ := X0.virtualBack hx (y := My7) (z := My7) hown (mvT hZ (ww hw 34 rfl)) (mvT hZ (ww hw 35 rfl)) (notFace_of_selects (args := #[]) (mvT hZ (ww hw 37 rfl))) (mvT hZ (ww hw 37 rfl)) (mvT hZ (ww hw 36 rfl)) (by decide) (backOf (W := 0) (rm7_0 l Z a0 hw [] w_NONE o0 o1 o2 kk_o1 kk_o2 (((0 : Int64) + ((m167_1 - m167_0) + (1 : Int64))) + ((m167_3 - m167_2) + (1 : Int64))) m167_0 m167_2 m167_1 m167_3 h0 n0 O0 S F_lasts_o0 F_ranges_o0 V_o2) hZ (ww hw 38 rfl) (ww hw 15 rfl) (by decide) (by decide)) q1a q1c (g := (mkF m 184 #[vi f0, vl p1, ss, vl p2, ss, vl p3, ss, vl p4, ss, vl p5, ss, vl m167_0, ss, vl m167_1, ss, vl m167_2, ss, vl m167_3, ss, vi f19, vi 0, vl m167_4, ss, va o0, vl (own_maxL (own_part0 m167_0 m167_1 m167_4) (own_part0 m167_2 m167_3 m167_4)), ss] [(.ref o0)])) rfl (by rw [hml]; rfl) (Steps.refl _) (argsL := []) (rest := []) (lenOf pd_12 rfl) rfl (by show 2 * 0 + _ ≤ _; exact Nat.le_of_eq rfl) (hb hby at_184) (fun _ _ => ⟨rfl, e0, (by decide : 10 + 0 ≤ _), (by decide : 60 + 0 ≤ _)⟩)
  dsimp only [Pt.U, Pt.locs, Pt.cells, Pt.slots] at X1 l1 y1 z1 st1 hQ1
  subst l1 y1 z1
  obtain ⟨rfl, Nq1, e1⟩ := hQ1
  have N1 := Fr.app N0 Nq1
  have hc2 : (m167_3 + (1 : Int64)) = (own_maxL (own_part0 m167_0 m167_1 m167_4) (own_part0 m167_2 m167_3 m167_4)) := ow10 m167_0 m167_1 m167_2 m167_3 m167_4 nf0 nf1 nf2 hj0
  obtain ⟨fs, hr, hrun, hended, hW, hsame⟩ := X1.leave (v := (some (.int 1))) (fun h => by rw [hrt] at h; cases h)
  refine ⟨_, _, ?_, hrun, hended, _, _, rfl, ?_, ⟨_, rfl⟩, hW, hsame.mono (by decide) (by decide)⟩
  · show Steps p.tables e below (T0.setTop (mkF m 167 #[vi f0, vl p1, ss, vl p2, ss, vl p3, ss, vl p4, ss, vl p5, ss, vl m167_0, ss, vl m167_1, ss, vl m167_2, ss, vl m167_3, ss, vi f19, vi 0, vl m167_4, ss, va o0, vl (own_maxL (own_part0 m167_0 m167_1 m167_4) (own_part0 m167_2 m167_3 m167_4)), ss] [])) _
    refine XS.iload X0.here hx rfl (hb hby at_167) rfl ?_
    refine XS.ifYes X0.here hx rfl (pc0 := 169) (pc' := 182) rfl (hb hby at_169) rfl ((if0 _ _).trans (teq (by decide : (0 : Int32) = (0 : Int32))).1) (by decide) (by decide) ?_
    refine XS.aload X0.here hx rfl (hb hby at_182) rfl rfl ?_
    refine st1.trans ?_
    refine XS.lload X1.here hx rfl (hb hby at_187) rfl ?_
    refine XS.lcmp X1.here hx rfl (hb hby at_189) rfl ?_
    refine XS.ifNo X1.here hx rfl (hb hby at_190) rfl (own_lc_eqT hc2).2 ?_
    refine XS.iconst X1.here hx rfl (hb hby at_193) ?_
    show Steps p.tables e below (T1.setTop (mkF m 194 #[vi f0, vl p1, ss, vl p2, ss, vl p3, ss, vl p4, ss, vl p5, ss, vl m167_0, ss, vl m167_1, ss, vl m167_2, ss, vl m167_3, ss, vi f19, vi 0, vl m167_4, ss, va o0, vl (own_maxL (own_part0 m167_0 m167_1 m167_4) (own_part0 m167_2 m167_3 m167_4)), ss] [(.int 1)])) _
    refine XS.goto X1.here hx rfl (pc0 := 194) (pc' := 198) rfl (hb hby at_194) (by decide) (by decide) ?_
    exact retN X1 hx (t := .boolean) hrt (by simp) (hb hby at_198) hr
  · show Q0 n0 (some (.int 1)) T1.heap _
    exact (⟨rfl, N1⟩)
def Q8_6 (Z : State) (w_NONE : Addr) (o0 : Addr) (o1 : Addr) (o2 : Addr) (kk_o1 : ClassId) (kk_o2 : ClassId) (q3 : Int64) (q4 : Int64) (q0 : Int64) (q1 : Int64) (q2 : Int64) (h0 : Heap) (n0 : Nat) (v : Option Value) (h : Heap) (L : List Loc) : Prop := v = (some (.int 1)) ∧ Fr n0 L ∧ Keep h0 h [o0, o2, o1] ∧ Exa Z h o0 sC0 ∧ Fld Z h o0 sC0 "count" "J" (.long (q0 + ((q4 - q3) + (1 : Int64)))) ∧ Fld Z h o0 sC0 "firsts" "[J" (.ref o1) ∧ Fld Z h o0 sC0 "lasts" "[J" (.ref o2) ∧ Fld Z h o0 sC0 "maxRanges" "I" (.int 2147483647) ∧ Fld Z h o0 sC0 "ranges" "I" (.int 2) ∧ Arv Z h o1 kk_o1 .long (4 : Int32) [(.long q3), (.long q1), (.long 0), (.long 0)] (.long 0) ∧ Arv Z h o2 kk_o2 .long (4 : Int32) [(.long q4), (.long q2), (.long 0), (.long 0)] (.long 0)
theorem rm8_6 (l : Launch) (Z : State) (a0 : Array Value) (hw : HW Z a0) (ws : List Jvm.Cond) (w_NONE : Addr) (o0 : Addr) (o1 : Addr) (o2 : Addr) (kk_o1 : ClassId) (kk_o2 : ClassId) (q3 : Int64) (q4 : Int64) (q0 : Int64) (q1 : Int64) (q2 : Int64) (h0 : Heap) (n0 : Nat) (O0 : Old Z n0 h0) (S : SF Z w_NONE) (E_o0 : Exa Z h0 o0 sC0) (F_count_o0 : Fld Z h0 o0 sC0 "count" "J" (.long q0)) (F_firsts_o0 : Fld Z h0 o0 sC0 "firsts" "[J" (.ref o1)) (F_lasts_o0 : Fld Z h0 o0 sC0 "lasts" "[J" (.ref o2)) (F_maxRanges_o0 : Fld Z h0 o0 sC0 "maxRanges" "I" (.int 2147483647)) (F_ranges_o0 : Fld Z h0 o0 sC0 "ranges" "I" (.int 1)) (V_o1 : Arv Z h0 o1 kk_o1 .long (4 : Int32) [(.long q1), (.long 0), (.long 0), (.long 0)] (.long 0)) (V_o2 : Arv Z h0 o2 kk_o2 .long (4 : Int32) [(.long q2), (.long 0), (.long 0), (.long 0)] (.long 0)) (ne_o0_o1 : o0 ≠ o1) (ne_o0_o2 : o0 ≠ o2) (ne_o1_o2 : o1 ≠ o2) (g_o0 : n0 ≤ o0) (g_o1 : n0 ≤ o1) (g_o2 : n0 ≤ o2) (hc0 : ¬ (q3 < (0 : Int64))) (hc1 : ¬ (q4 < q3)) (hc2 : ¬ (q3 = (0 : Int64))) (hc3 : ¬ (q2 < (q3 - (1 : Int64)))) (hc4 : (q4 + (1 : Int64)) < q1) :
    Pay l Z My8 ws prog_55_method_8_code 13 (some .boolean) #[(.ref o0), (.long q3), (.long q4)] h0 ({ frames := 2, cells := 0, slots := 0, locals := 36 } : Room) (Q8_6 Z w_NONE o0 o1 o2 kk_o1 kk_o2 q3 q4 q0 q1 q2 h0 n0) := by
  refine own_body (plainFor_of_name pn_1) (L0 := #[va o0, vl q3, ss, vl q4, ss, uu, uu, uu, uu, uu, uu, uu, uu]) (fun _ => by first | rfl | (simp [entryFrame, mkF, argsToLocals, Value.category]; done)) ?_
  intro p e s m below meth c s₁ hrt hlk hx hby hml hZ hown0 hnm X0 e0
  have hown : s.vm.findClass sC0 = some m.cls := hown0
  have N0 := Fr.nil n0
  have K0 : Keep h0 h0 [o0, o2, o1] := Keep.refl _ _
  obtain ⟨_, _, ⟨T1, L1, k1, n1⟩, -, X1, ⟨Lc1, hQ1, l1, y1, z1⟩, st1⟩ := Jvm.LawKit.callS X0 hx (y := My9) hown (mvT hZ (ww hw 46 rfl)) (mvT hZ (ww hw 47 rfl)) (mvT hZ (ww hw 15 rfl)) (mvT hZ (ww hw 48 rfl)) (by decide) (backOf (W := 0) (rm9_0 l Z a0 hw [] w_NONE q3 q4 h0 n0 O0 S hc0 hc1) hZ (ww hw 48 rfl) (ww hw 15 rfl) (by decide) (by decide)) (g := (mkF m 2 #[va o0, vl q3, ss, vl q4, ss, uu, uu, uu, uu, uu, uu, uu, uu] [(.long q4), (.long q3)])) rfl (by rw [hml]; rfl) (argsL := [(.long q3), (.long q4)]) (rest := []) (lenOf pd_4 rfl) rfl (by show 2 * 0 + _ ≤ _; exact Nat.le_of_eq rfl) (hb hby d8_2) (fun _ _ => ⟨rfl, e0, (by decide : 0 + 0 ≤ _), (by decide : 0 + 0 ≤ _)⟩)
  dsimp only [Pt.U, Pt.locs, Pt.cells, Pt.slots] at X1 l1 y1 z1 st1 hQ1
  subst l1 y1 z1
  obtain ⟨rfl, Nq1, e1⟩ := hQ1
  have N1 := Fr.app N0 Nq1
  obtain ⟨cq2, qa2, qb2⟩ := E_o0.cell
  obtain ⟨_, _, ⟨T2, L2, k2, n2⟩, -, X2, ⟨Lc2, hQ2, l2, y2, z2⟩, st2⟩ := X1.privateBack hx (y := My10) hown (mvT hZ (ww hw 49 rfl)) (mvT hZ (ww hw 50 rfl)) (own_selp (by decide) (mvT hZ (ww hw 14 rfl)) (mvP hZ (ww hw 51 rfl)) (mvT hZ (ww hw 50 rfl))) (Cond.privateMethod_at (mvP hZ (ww hw 51 rfl) (args := #[]))) (mvT hZ (ww hw 52 rfl)) (by decide) (backOf (W := 0) (rm10_2 l Z a0 hw [] w_NONE o0 o1 o2 kk_o1 kk_o2 (q3 - (1 : Int64)) q0 q1 q2 h0 n0 O0 S F_lasts_o0 F_ranges_o0 V_o2 hc3) hZ (ww hw 52 rfl) (ww hw 15 rfl) (by decide) (by decide)) (g := (mkF m 19 #[va o0, vl q3, ss, vl q4, ss, uu, uu, uu, uu, uu, uu, uu, uu] [(.long (q3 - (1 : Int64))), (.ref o0)])) rfl (by rw [hml]; rfl) (Steps.refl _) (a := o0) (by rw [e1]; exact qa2) qb2 (argsL := [(.long (q3 - (1 : Int64)))]) (rest := []) (lenOf pd_5 rfl) rfl (by show 2 * 0 + _ ≤ _; exact Nat.le_of_eq rfl) (hb hby d8_19) (fun _ _ => ⟨rfl, e1, (by decide : 0 + 0 ≤ _), (by decide : 0 + 0 ≤ _)⟩)
  dsimp only [Pt.U, Pt.locs, Pt.cells, Pt.slots] at X2 l2 y2 z2 st2 hQ2
  subst l2 y2 z2
  obtain ⟨rfl, Nq2, e2⟩ := hQ2
  have N2 := Fr.app N1 Nq2
  obtain ⟨T3, X3, e3, st3⟩ := getF X2 hx hZ hown (host := "") (Or.inl (ww hw 39 rfl)) Via.refl e2 F_ranges_o0 (g := (mkF m 31 #[va o0, vl q3, ss, vl q4, ss, vi 0, vi 0, uu, uu, uu, uu, uu, uu] [(.ref o0), (.int 0)])) rfl rfl (hb hby d8_31)
  obtain ⟨T4, X4, e4, st4⟩ := getF X3 hx hZ hown (host := "") (Or.inl (ww hw 28 rfl)) Via.refl e3 F_firsts_o0 (g := (mkF m 38 #[va o0, vl q3, ss, vl q4, ss, vi 0, vi 0, uu, uu, uu, uu, uu, uu] [(.ref o0)])) rfl rfl (hb hby d8_38)
  obtain ⟨cl5, Ar5, qk5, Sz5, Ng5, Hh5, Gg5⟩ := id V_o1
  have hin5_0 : ¬ ((0 : Int32) < 0 ∨ cl5.slots.size ≤ ((0 : Int32)).toNatClampNeg) := inb_of Sz5 ⟨by decide, by decide⟩
  obtain ⟨T6, X6, e6, st6⟩ := getF X4 hx hZ hown (host := "") (Or.inl (ww hw 39 rfl)) Via.refl e4 F_ranges_o0 (g := (mkF m 68 #[va o0, vl q3, ss, vl q4, ss, vi 0, vi (-1), uu, uu, uu, uu, uu, uu] [(.ref o0)])) rfl rfl (hb hby d8_68)
  obtain ⟨T7, X7, e7, st7⟩ := getF X6 hx hZ hown (host := "") (Or.inl (ww hw 32 rfl)) Via.refl e6 F_maxRanges_o0 (g := (mkF m 72 #[va o0, vl q3, ss, vl q4, ss, vi 0, vi (-1), uu, uu, uu, uu, uu, uu] [(.ref o0), (.int 1)])) rfl rfl (hb hby d8_72)
  obtain ⟨cq8, qa8, qb8⟩ := E_o0.cell
  obtain ⟨_, _, ⟨T8, L8, k8, n8⟩, -, X8, ⟨Lc8, hQ8, l8, y8, z8⟩, st8⟩ := X7.privateBack hx (y := My11) hown (mvT hZ (ww hw 53 rfl)) (mvT hZ (ww hw 54 rfl)) (own_selp (by decide) (mvT hZ (ww hw 14 rfl)) (mvP hZ (ww hw 55 rfl)) (mvT hZ (ww hw 54 rfl))) (Cond.privateMethod_at (mvP hZ (ww hw 55 rfl) (args := #[]))) (mvT hZ (ww hw 56 rfl)) (by decide) (backOf (W := 0) (rm11_1 l Z a0 hw [] w_NONE o0 o1 o2 kk_o1 kk_o2 q3 q4 q0 q1 q2 h0 n0 O0 S E_o0 F_count_o0 F_firsts_o0 F_lasts_o0 F_maxRanges_o0 F_ranges_o0 V_o1 V_o2 ne_o0_o1 ne_o0_o2 ne_o1_o2 g_o0 g_o1 g_o2) hZ (ww hw 56 rfl) (ww hw 15 rfl) (by decide) (by decide)) (g := (mkF m 85 #[va o0, vl q3, ss, vl q4, ss, vi 0, vi (-1), uu, uu, uu, uu, uu, uu] [(.long q4), (.long q3), (.int 0), (.ref o0)])) rfl (by rw [hml]; rfl) (Steps.refl _) (a := o0) (by rw [e7]; exact qa8) qb8 (argsL := [(.int 0), (.long q3), (.long q4)]) (rest := []) (lenOf pd_8 rfl) rfl (by show 2 * 0 + _ ≤ _; exact Nat.le_of_eq rfl) (hb hby d8_85) (fun _ _ => ⟨rfl, e7, (by decide : 0 + 0 ≤ _), (by decide : 0 + 0 ≤ _)⟩)
  dsimp only [Pt.U, Pt.locs, Pt.cells, Pt.slots] at X8 l8 y8 z8 st8 hQ8
  subst l8 y8 z8
  obtain ⟨rfl, Nq8, Kc8, P0_8, P1_8, P2_8, P3_8, P4_8, P5_8, P6_8, P7_8⟩ := hQ8
  have N8 := Fr.app N2 Nq8
  have O8 := O0.keep Kc8 (allS g_o1 (allS g_o2 (allS g_o0 all0)))
  have K8 : Keep h0 T8.heap [o0, o2, o1] := K0.trans Kc8 (allS (Or.inl (List.mem_of_getElem? (i := 2) rfl)) (allS (Or.inl (List.mem_of_getElem? (i := 1) rfl)) (allS (Or.inl (List.mem_of_getElem? (i := 0) rfl)) all0)))
  obtain ⟨T9, X9, e9, st9⟩ := getF X8 hx hZ hown (host := "") (Or.inl (ww hw 73 rfl)) Via.refl rfl P1_8 (g := (mkF m 90 #[va o0, vl q3, ss, vl q4, ss, vi 0, vi (-1), uu, uu, uu, uu, uu, uu] [(.ref o0), (.ref o0)])) rfl rfl (hb hby d8_90)
  obtain ⟨T10, h10, X10, e10, W10, st10⟩ := putF X9 hx hZ hown (host := "") (Or.inl (ww hw 73 rfl)) Via.refl e9 P1_8 P0_8 (Or.inl (ww hw 74 rfl)) (ww hw 14 rfl) (ty := .long) (by decide) rfl rfl (g := (mkF m 99 #[va o0, vl q3, ss, vl q4, ss, vi 0, vi (-1), uu, uu, uu, uu, uu, uu] [(.long (q0 + ((q4 - q3) + (1 : Int64)))), (.ref o0)])) rfl rfl (hb hby d8_99)
  have Fw10 := P1_8.same W10
  have O10 := O8.wr W10 g_o0
  have K10 : Keep h0 h10 [o0, o2, o1] := K8.wr W10 (Or.inl (List.mem_of_getElem? (i := 0) rfl))
  have N10 := Fr.snoc X10 N8 g_o0
  obtain ⟨fs, hr, hrun, hended, hW, hsame⟩ := X10.leave (v := (some (.int 1))) (fun h => by rw [hrt] at h; cases h)
  have fc11 := (P0_8.wr W10)
  have fc12 := (P2_8.other W10 (Or.inr (slot_ne (Or.inl (ww hw 29 rfl)) (Or.inl (ww hw 74 rfl)) (by decide) (t := (.array .long)) (t' := .long) (by decide) (by decide))))
  have fc13 := (P3_8.other W10 (Or.inr (slot_ne (Or.inl (ww hw 31 rfl)) (Or.inl (ww hw 74 rfl)) (by decide) (t := (.array .long)) (t' := .long) (by decide) (by decide))))
  have fc14 := (P4_8.other W10 (Or.inr (slot_ne (Or.inr (ww hw 33 rfl)) (Or.inl (ww hw 74 rfl)) (by decide) (t := .int) (t' := .long) (by decide) (by decide))))
  have fc15 := (P5_8.other W10 (Or.inr (slot_ne (Or.inl (ww hw 40 rfl)) (Or.inl (ww hw 74 rfl)) (by decide) (t := .int) (t' := .long) (by decide) (by decide))))
  have fc16 := (P6_8.other W10 (Ne.symm ne_o0_o1))
  have fc17 := (P7_8.other W10 (Ne.symm ne_o0_o2))
  refine ⟨_, _, ?_, hrun, hended, _, _, rfl, ?_, ⟨_, rfl⟩, hW, hsame.mono (by decide) (by decide)⟩
  · show Steps p.tables e below (s₁.setTop (mkF m 0 #[va o0, vl q3, ss, vl q4, ss, uu, uu, uu, uu, uu, uu, uu, uu] [])) _
    refine XS.lloadN X0.here hx rfl (hb hby d8_0) rfl ?_
    refine XS.lloadN X0.here hx rfl (hb hby d8_1) rfl ?_
    refine st1 _ ?_
    refine XS.aloadN X1.here hx rfl (hb hby d8_5) rfl rfl ?_
    refine XS.lloadN X1.here hx rfl (hb hby d8_6) rfl ?_
    refine XS.lconst X1.here hx rfl (hb hby d8_7) ?_
    refine XS.lcmp X1.here hx rfl (hb hby d8_8) rfl ?_
    refine XS.ifYes X1.here hx rfl (pc0 := 9) (pc' := 16) rfl (hb hby d8_9) rfl (own_lc_eqF hc2).2 (by decide) (by decide) ?_
    show Steps p.tables e below (T1.setTop (mkF m 16 #[va o0, vl q3, ss, vl q4, ss, uu, uu, uu, uu, uu, uu, uu, uu] [(.ref o0)])) _
    refine XS.lloadN X1.here hx rfl (hb hby d8_16) rfl ?_
    refine XS.lconst X1.here hx rfl (hb hby d8_17) ?_
    refine XS.lsub X1.here hx rfl (hb hby d8_18) rfl ?_
    refine st2.trans ?_
    refine XS.istore X2.here hx rfl (hb hby d8_22) rfl (l' := #[va o0, vl q3, ss, vl q4, ss, vi 0, uu, uu, uu, uu, uu, uu, uu]) rfl ?_
    refine XS.iload X2.here hx rfl (hb hby d8_24) rfl ?_
    refine XS.istore X2.here hx rfl (hb hby d8_26) rfl (l' := #[va o0, vl q3, ss, vl q4, ss, vi 0, vi 0, uu, uu, uu, uu, uu, uu]) rfl ?_
    refine XS.iload X2.here hx rfl (hb hby d8_28) rfl ?_
    show Steps p.tables e below (T2.setTop (mkF m 30 #[va o0, vl q3, ss, vl q4, ss, vi 0, vi 0, uu, uu, uu, uu, uu, uu] [(.int 0)])) _
    refine XS.aloadN X2.here hx rfl (hb hby d8_30) rfl rfl ?_
    refine st3 _ ?_
    refine XS.icmpNo X3.here hx rfl (hb hby d8_34) rfl (tlt (by decide : (0 : Int32) < (1 : Int32))).2.1 ?_
    refine XS.aloadN X3.here hx rfl (hb hby d8_37) rfl rfl ?_
    refine st4 _ ?_
    refine XS.iload X4.here hx rfl (hb hby d8_41) rfl ?_
    refine X4.laload hx (j := (0 : Int32)) (v := (.long q1)) (by rw [e4]; exact Ar5.1) (State.isArrayOf_alike hZ.alike Ar5.2.1) Ar5.2.2 hin5_0 (Has.at Hh5 hin5_0 rfl) (g := (mkF m 43 #[va o0, vl q3, ss, vl q4, ss, vi 0, vi 0, uu, uu, uu, uu, uu, uu] [(.int 0), (.ref o1)])) rfl rfl (hb hby d8_43) _ ?_
    refine XS.lloadN X4.here hx rfl (hb hby d8_44) rfl ?_
    show Steps p.tables e below (T4.setTop (mkF m 45 #[va o0, vl q3, ss, vl q4, ss, vi 0, vi 0, uu, uu, uu, uu, uu, uu] [(.long q4), (.long q1)])) _
    refine XS.lconst X4.here hx rfl (hb hby d8_45) ?_
    refine XS.ladd X4.here hx rfl (hb hby d8_46) rfl ?_
    refine XS.lcmp X4.here hx rfl (hb hby d8_47) rfl ?_
    refine XS.ifYes X4.here hx rfl (pc0 := 48) (pc' := 57) rfl (hb hby d8_48) rfl (own_lc_gtT hc4).1 (by decide) (by decide) ?_
    refine XS.iinc X4.here hx rfl (hb hby d8_57) rfl (l' := #[va o0, vl q3, ss, vl q4, ss, vi 0, vi ((0 : Int32) + (-1 : Int32)), uu, uu, uu, uu, uu, uu]) rfl ?_
    show Steps p.tables e below (T4.setTop (mkF m 60 #[va o0, vl q3, ss, vl q4, ss, vi 0, vi ((0 : Int32) + (-1 : Int32)), uu, uu, uu, uu, uu, uu] [])) _
    rw [show (((0 : Int32) + (-1 : Int32)) : Int32) = (-1 : Int32) from by decide]
    refine XS.iload X4.here hx rfl (hb hby d8_60) rfl ?_
    refine XS.iload X4.here hx rfl (hb hby d8_62) rfl ?_
    refine XS.icmpNo X4.here hx rfl (hb hby d8_64) rfl (tlt (by decide : (-1 : Int32) < (0 : Int32))).2.1 ?_
    refine XS.aloadN X4.here hx rfl (hb hby d8_67) rfl rfl ?_
    refine st6 _ ?_
    refine XS.aloadN X6.here hx rfl (hb hby d8_71) rfl rfl ?_
    refine st7 _ ?_
    show Steps p.tables e below (T7.setTop (mkF m 75 #[va o0, vl q3, ss, vl q4, ss, vi 0, vi (-1), uu, uu, uu, uu, uu, uu] [(.int 2147483647), (.int 1)])) _
    refine XS.icmpYes X7.here hx rfl (pc0 := 75) (pc' := 80) rfl (hb hby d8_75) rfl (feq (by decide : ¬ ((1 : Int32) = (2147483647 : Int32)))).2 (by decide) (by decide) ?_
    refine XS.aloadN X7.here hx rfl (hb hby d8_80) rfl rfl ?_
    refine XS.iload X7.here hx rfl (hb hby d8_81) rfl ?_
    refine XS.lloadN X7.here hx rfl (hb hby d8_83) rfl ?_
    refine XS.lloadN X7.here hx rfl (hb hby d8_84) rfl ?_
    refine st8.trans ?_
    refine XS.aloadN X8.here hx rfl (hb hby d8_88) rfl rfl ?_
    refine XS.dup X8.here hx rfl (hb hby d8_89) rfl rfl ?_
    show Steps p.tables e below (T8.setTop (mkF m 90 #[va o0, vl q3, ss, vl q4, ss, vi 0, vi (-1), uu, uu, uu, uu, uu, uu] [(.ref o0), (.ref o0)])) _
    refine st9 _ ?_
    refine XS.lloadN X9.here hx rfl (hb hby d8_93) rfl ?_
    refine XS.lloadN X9.here hx rfl (hb hby d8_94) rfl ?_
    refine XS.lsub X9.here hx rfl (hb hby d8_95) rfl ?_
    refine XS.lconst X9.here hx rfl (hb hby d8_96) ?_
    refine XS.ladd X9.here hx rfl (hb hby d8_97) rfl ?_
    refine XS.ladd X9.here hx rfl (hb hby d8_98) rfl ?_
    refine st10 _ ?_
    show Steps p.tables e below (T10.setTop (mkF m 102 #[va o0, vl q3, ss, vl q4, ss, vi 0, vi (-1), uu, uu, uu, uu, uu, uu] [])) _
    refine XS.goto X10.here hx rfl (pc0 := 102) (pc' := 223) rfl (hb hby d8_102) (by decide) (by decide) ?_
    refine XS.iconst X10.here hx rfl (hb hby d8_223) ?_
    exact retN X10 hx (t := .boolean) hrt (by simp) (hb hby d8_224) hr
  · show Q8_6 Z w_NONE o0 o1 o2 kk_o1 kk_o2 q3 q4 q0 q1 q2 h0 n0 (some (.int 1)) T10.heap _
    rw [e10]; exact ⟨rfl, N10, K10, fc11, Fw10, fc12, fc13, fc14, fc15, fc16, fc17⟩
theorem ow11 (m139_0 : Int64) (m139_1 : Int64) (m139_2 : Int64) (m139_3 : Int64) (nf0 : 0 ≤ m139_0.toInt ∧ m139_0.toInt ≤ m139_1.toInt ∧ m139_1.toInt ≤ 9223372036854775806) (nf1 : 0 ≤ m139_2.toInt ∧ m139_2.toInt ≤ m139_3.toInt ∧ m139_3.toInt ≤ 9223372036854775806) (hc1 : ¬ (m139_2 < (0 : Int64))) (hc2 : ¬ (m139_3 < m139_2)) (hc3 : ¬ (m139_2 = (0 : Int64))) (hc5 : m139_1 < (m139_2 - (1 : Int64))) : m139_1 < m139_2 := by
  rw [Int64.lt_iff_toInt_lt] at hc1 hc2 hc5
  rw [← Int64.toInt_inj] at hc3
  rw [Int64.lt_iff_toInt_lt]
  have t2 : ((0 : Int64) : Int64).toInt = 0 := by decide
  have t5 : ((1 : Int64) : Int64).toInt = 1 := by decide
  have t6 := Jvm.Kit.i64_sub (x := m139_2) (y := (1 : Int64)) (by omega) (by omega)
  omega
theorem ow12 (m139_0 : Int64) (m139_1 : Int64) (m139_2 : Int64) (m139_3 : Int64) (nf0 : 0 ≤ m139_0.toInt ∧ m139_0.toInt ≤ m139_1.toInt ∧ m139_1.toInt ≤ 9223372036854775806) (nf1 : 0 ≤ m139_2.toInt ∧ m139_2.toInt ≤ m139_3.toInt ∧ m139_3.toInt ≤ 9223372036854775806) (hc1 : ¬ (m139_2 < (0 : Int64))) (hc2 : ¬ (m139_3 < m139_2)) (hc3 : ¬ (m139_2 = (0 : Int64))) (hc5 : ¬ (m139_1 < (m139_2 - (1 : Int64)))) (hc6 : (m139_3 + (1 : Int64)) < m139_0) : m139_3 < m139_0 := by
  rw [Int64.lt_iff_toInt_lt] at hc1 hc2 hc5 hc6
  rw [← Int64.toInt_inj] at hc3
  rw [Int64.lt_iff_toInt_lt]
  have t2 : ((0 : Int64) : Int64).toInt = 0 := by decide
  have t5 : ((1 : Int64) : Int64).toInt = 1 := by decide
  have t6 := Jvm.Kit.i64_sub (x := m139_2) (y := (1 : Int64)) (by omega) (by omega)
  have t7 := Jvm.Kit.i64_add (x := m139_3) (y := (1 : Int64)) (by omega) (by omega)
  omega
theorem ow13 (m139_0 : Int64) (m139_1 : Int64) (m139_2 : Int64) (m139_3 : Int64) (nf0 : 0 ≤ m139_0.toInt ∧ m139_0.toInt ≤ m139_1.toInt ∧ m139_1.toInt ≤ 9223372036854775806) (nf1 : 0 ≤ m139_2.toInt ∧ m139_2.toInt ≤ m139_3.toInt ∧ m139_3.toInt ≤ 9223372036854775806) (hc1 : ¬ (m139_2 < (0 : Int64))) (hc2 : ¬ (m139_3 < m139_2)) (hc3 : ¬ (m139_2 = (0 : Int64))) (hc5 : ¬ (m139_1 < (m139_2 - (1 : Int64)))) (hc6 : ¬ ((m139_3 + (1 : Int64)) < m139_0)) : ¬ ((m139_1 + (1 : Int64)) < m139_2) := by
  rw [Int64.lt_iff_toInt_lt] at hc1 hc2 hc5 hc6
  rw [← Int64.toInt_inj] at hc3
  rw [Int64.lt_iff_toInt_lt]
  have t2 : ((0 : Int64) : Int64).toInt = 0 := by decide
  have t5 : ((1 : Int64) : Int64).toInt = 1 := by decide
  have t6 := Jvm.Kit.i64_sub (x := m139_2) (y := (1 : Int64)) (by omega) (by omega)
  have t7 := Jvm.Kit.i64_add (x := m139_3) (y := (1 : Int64)) (by omega) (by omega)
  have t9 := Jvm.Kit.i64_add (x := m139_1) (y := (1 : Int64)) (by omega) (by omega)
  omega
theorem jn1 {p : Program} {l : Launch} {e : Env} {s : State} {m : MethodId} {below : List Frame} {meth : Method} {c : Code} {T0 : State} {locs : List Loc} {Z : State} {a0 : Array Value} {h0 : Heap} {n0 : Nat} (hx : p.tables.exec = Jvm.exec) (hZ : Z.Warmed39 s.vm) (hby : c.code = code) (hml : c.maxLocals = 26) (hown : s.vm.findClass sC1 = some m.cls) (hrt : meth.sig.returnType = ret) (hlk : meth.locks = false) (hw : HW Z a0) (w_NONE : Addr) (o0 : Addr) (o1 : Addr) (o2 : Addr) (kk_o1 : ClassId) (kk_o2 : ClassId) (p0 : Int32) (p1 : Int64) (p2 : Int64) (p3 : Int64) (p4 : Int64) (p5 : Int64) (m139_0 : Int64) (m139_1 : Int64) (m139_2 : Int64) (m139_3 : Int64) (m139_4 : Int64) (f0 : Int32) (f19 : Int32) (X0 : Stand p l e room_1 s m #[(.int p0), (.long p1), (.long p2), (.long p3), (.long p4), (.long p5)] below meth c T0 locs 6 40) (e0 : T0.heap = h0) (N0 : Fr n0 locs) (O0 : Old Z n0 h0) (S : SF Z w_NONE) (E_o0 : Exa Z h0 o0 sC0) (F_count_o0 : Fld Z h0 o0 sC0 "count" "J" (.long ((0 : Int64) + ((m139_1 - m139_0) + (1 : Int64))))) (F_firsts_o0 : Fld Z h0 o0 sC0 "firsts" "[J" (.ref o1)) (F_lasts_o0 : Fld Z h0 o0 sC0 "lasts" "[J" (.ref o2)) (F_maxRanges_o0 : Fld Z h0 o0 sC0 "maxRanges" "I" (.int 2147483647)) (F_ranges_o0 : Fld Z h0 o0 sC0 "ranges" "I" (.int 1)) (V_o1 : Arv Z h0 o1 kk_o1 .long (4 : Int32) [(.long m139_0), (.long 0), (.long 0), (.long 0)] (.long 0)) (V_o2 : Arv Z h0 o2 kk_o2 .long (4 : Int32) [(.long m139_1), (.long 0), (.long 0), (.long 0)] (.long 0)) (ne_o0_o1 : o0 ≠ o1) (ne_o0_o2 : o0 ≠ o2) (ne_o1_o2 : o1 ≠ o2) (g_o0 : n0 ≤ o0) (g_o1 : n0 ≤ o1) (g_o2 : n0 ≤ o2) (nf0 : 0 ≤ m139_0.toInt ∧ m139_0.toInt ≤ m139_1.toInt ∧ m139_1.toInt ≤ 9223372036854775806) (nf1 : 0 ≤ m139_2.toInt ∧ m139_2.toInt ≤ m139_3.toInt ∧ m139_3.toInt ≤ 9223372036854775806) (nf2 : 0 ≤ m139_4.toInt ∧ m139_4.toInt ≤ 9223372036854775806) :
    ∃ s₂ o, Steps p.tables e below (T0.setTop (mkF m 139 #[vi f0, vl p1, ss, vl p2, ss, vl p3, ss, vl p4, ss, vl p5, ss, vl m139_0, ss, vl m139_1, ss, vl m139_2, ss, vl m139_3, ss, vi f19, vi 0, vl m139_4, ss, va o0, vl (own_part0 m139_0 m139_1 m139_4), ss] [])) s₂ ∧ s₂.status = .running ∧ Ended s₂ below o ∧ ∃ v L, o = .returned v ∧ Q0 n0 v s₂.heap L ∧ FrameEnd s o s₂ L room_1.cells room_1.slots := by
  have K0 : Keep h0 h0 [o1, o2, o0] := Keep.refl _ _
  have hc1 : ¬ (m139_2 < (0 : Int64)) := ow3 m139_2 m139_3 nf1
  have hc2 : ¬ (m139_3 < m139_2) := ow4 m139_2 m139_3 nf1 hc1
  have pre_4 : ∀ t, Steps p.tables e below (T0.setTop (mkF m 145 #[vi f0, vl p1, ss, vl p2, ss, vl p3, ss, vl p4, ss, vl p5, ss, vl m139_0, ss, vl m139_1, ss, vl m139_2, ss, vl m139_3, ss, vi f19, vi 0, vl m139_4, ss, va o0, vl (own_part0 m139_0 m139_1 m139_4), ss] [(.long m139_3), (.long m139_2), (.ref o0)])) t → Steps p.tables e below (T0.setTop (mkF m 139 #[vi f0, vl p1, ss, vl p2, ss, vl p3, ss, vl p4, ss, vl p5, ss, vl m139_0, ss, vl m139_1, ss, vl m139_2, ss, vl m139_3, ss, vi f19, vi 0, vl m139_4, ss, va o0, vl (own_part0 m139_0 m139_1 m139_4), ss] [])) t := fun t k => (by
    show Steps p.tables e below (T0.setTop (mkF m 139 #[vi f0, vl p1, ss, vl p2, ss, vl p3, ss, vl p4, ss, vl p5, ss, vl m139_0, ss, vl m139_1, ss, vl m139_2, ss, vl m139_3, ss, vi f19, vi 0, vl m139_4, ss, va o0, vl (own_part0 m139_0 m139_1 m139_4), ss] [])) _
    refine XS.aload X0.here hx rfl (hb hby at_139) rfl rfl ?_
    refine XS.lload X0.here hx rfl (hb hby at_141) rfl ?_
    refine XS.lload X0.here hx rfl (hb hby at_143) rfl ?_
    exact k)
  by_cases hc3 : m139_2 = (0 : Int64)
  · have hc5 : ¬ (m139_1 < (0 : Int64)) := ow5 m139_0 m139_1 nf0
    by_cases hc6 : (m139_3 + (1 : Int64)) < m139_0
    · obtain ⟨cq7, kq7, q7a, q7b, q7c⟩ := isOf hZ e0 E_o0
      obtain ⟨_, _, ⟨T7, L7, k7, n7⟩, -, X7, ⟨Lc7, hQ7, l7, y7, z7⟩, st7⟩ := X0.virtualBack hx (y := My8) (z := My8) hown (mvT hZ (ww hw 41 rfl)) (mvT hZ (ww hw 42 rfl)) (notFace_of_selects (args := #[]) (mvT hZ (ww hw 44 rfl))) (mvT hZ (ww hw 44 rfl)) (mvT hZ (ww hw 43 rfl)) (by decide) (backOf (W := 0) (rm8_4 l Z a0 hw [] w_NONE o0 o1 o2 kk_o1 kk_o2 m139_2 m139_3 ((0 : Int64) + ((m139_1 - m139_0) + (1 : Int64))) m139_0 m139_1 h0 n0 O0 S E_o0 F_count_o0 F_firsts_o0 F_lasts_o0 F_maxRanges_o0 F_ranges_o0 V_o1 V_o2 ne_o0_o1 ne_o0_o2 ne_o1_o2 g_o0 g_o1 g_o2 hc1 hc2 hc3 hc5 hc6) hZ (ww hw 45 rfl) (ww hw 15 rfl) (by decide) (by decide)) q7a q7c (g := (mkF m 145 #[vi f0, vl p1, ss, vl p2, ss, vl p3, ss, vl p4, ss, vl p5, ss, vl m139_0, ss, vl m139_1, ss, vl m139_2, ss, vl m139_3, ss, vi f19, vi 0, vl m139_4, ss, va o0, vl (own_part0 m139_0 m139_1 m139_4), ss] [(.long m139_3), (.long m139_2), (.ref o0)])) rfl (by rw [hml]; rfl) (Steps.refl _) (argsL := [(.long m139_2), (.long m139_3)]) (rest := []) (lenOf pd_9 rfl) rfl (by show 2 * 0 + _ ≤ _; exact Nat.le_of_eq rfl) (hb hby at_145) (fun _ _ => ⟨rfl, e0, (by decide : 6 + 0 ≤ _), (by decide : 40 + 0 ≤ _)⟩)
      dsimp only [Pt.U, Pt.locs, Pt.cells, Pt.slots] at X7 l7 y7 z7 st7 hQ7
      subst l7 y7 z7
      obtain ⟨rfl, Nq7, Kc7, P0_7, P1_7, P2_7, P3_7, P4_7, P5_7, P6_7, P7_7⟩ := hQ7
      have N7 := Fr.app N0 Nq7
      have O7 := O0.keep Kc7 (allS g_o0 (allS g_o2 (allS g_o1 all0)))
      have K7 : Keep h0 T7.heap [o1, o2, o0] := K0.trans Kc7 (allS (Or.inl (List.mem_of_getElem? (i := 2) rfl)) (allS (Or.inl (List.mem_of_getElem? (i := 1) rfl)) (allS (Or.inl (List.mem_of_getElem? (i := 0) rfl)) all0)))
      obtain ⟨_, _, ⟨T8, L8, k8, n8⟩, -, X8, ⟨Lc8, hQ8, l8, y8, z8⟩, st8⟩ := Jvm.LawKit.callS X7 hx (y := My15) hown (mvT hZ (ww hw 75 rfl)) (mvT hZ (ww hw 76 rfl)) (mvT hZ (ww hw 2 rfl)) (mvT hZ (ww hw 77 rfl)) (by decide) (backOf (W := 2) (mg15_0 l Z a0 hw [] w_NONE m139_2 m139_3 m139_4 T7.heap n0 O7 S) hZ (ww hw 77 rfl) (ww hw 2 rfl) (by decide) (by decide)) (g := (mkF m 159 #[vi f0, vl p1, ss, vl p2, ss, vl p3, ss, vl p4, ss, vl p5, ss, vl m139_0, ss, vl m139_1, ss, vl m139_2, ss, vl m139_3, ss, vi f19, vi 0, vl m139_4, ss, va o0, vl (own_part0 m139_0 m139_1 m139_4), ss] [(.long m139_4), (.int 0), (.long m139_3), (.long m139_2), (.long (own_part0 m139_0 m139_1 m139_4))])) rfl (by rw [hml]; rfl) (argsL := [(.long m139_2), (.long m139_3), (.int 0), (.long m139_4)]) (rest := [(.long (own_part0 m139_0 m139_1 m139_4))]) (lenOf pd_10 rfl) rfl (by show 2 * 0 + _ ≤ _; exact Nat.le_of_eq rfl) (hb hby at_159) (fun _ _ => ⟨rfl, rfl, (by decide : 6 + 0 ≤ _), (by decide : 40 + 0 ≤ _)⟩)
      dsimp only [Pt.U, Pt.locs, Pt.cells, Pt.slots] at X8 l8 y8 z8 st8 hQ8
      subst l8 y8 z8
      obtain ⟨rfl, Nq8, e8⟩ := hQ8
      have N8 := Fr.app N7 Nq8
      obtain ⟨_, _, ⟨T9, L9, k9, n9⟩, -, X9, ⟨Lc9, hQ9, l9, y9, z9⟩, st9⟩ := Jvm.LawKit.callS X8 hx (y := My3) hown (mvT hZ (ww hw 10 rfl)) (mvT hZ (ww hw 11 rfl)) (mvT hZ (ww hw 8 rfl)) (mvT hZ (ww hw 12 rfl)) (by decide) (backOf (W := 0) (mg3_0 l Z a0 hw [] w_NONE (own_part0 m139_0 m139_1 m139_4) (own_part0 m139_2 m139_3 m139_4) T7.heap n0 O7 S) hZ (ww hw 12 rfl) (ww hw 8 rfl) (by decide) (by decide)) (g := (mkF m 162 #[vi f0, vl p1, ss, vl p2, ss, vl p3, ss, vl p4, ss, vl p5, ss, vl m139_0, ss, vl m139_1, ss, vl m139_2, ss, vl m139_3, ss, vi f19, vi 0, vl m139_4, ss, va o0, vl (own_part0 m139_0 m139_1 m139_4), ss] [(.long (own_part0 m139_2 m139_3 m139_4)), (.long (own_part0 m139_0 m139_1 m139_4))])) rfl (by rw [hml]; rfl) (argsL := [(.long (own_part0 m139_0 m139_1 m139_4)), (.long (own_part0 m139_2 m139_3 m139_4))]) (rest := []) (lenOf pd_0 rfl) rfl (by show 2 * 0 + _ ≤ _; exact Nat.le_of_eq rfl) (hb hby at_162) (fun _ _ => ⟨rfl, e8, (by decide : 6 + 0 ≤ _), (by decide : 40 + 0 ≤ _)⟩)
      dsimp only [Pt.U, Pt.locs, Pt.cells, Pt.slots] at X9 l9 y9 z9 st9 hQ9
      subst l9 y9 z9
      obtain ⟨rfl, Nq9, e9⟩ := hQ9
      have N9 := Fr.app N8 Nq9
      have pre_10 : ∀ t, Steps p.tables e below (T9.setTop (mkF m 167 #[vi f0, vl p1, ss, vl p2, ss, vl p3, ss, vl p4, ss, vl p5, ss, vl m139_0, ss, vl m139_1, ss, vl m139_2, ss, vl m139_3, ss, vi f19, vi 0, vl m139_4, ss, va o0, vl (own_maxL (own_part0 m139_0 m139_1 m139_4) (own_part0 m139_2 m139_3 m139_4)), ss] [])) t → Steps p.tables e below (T0.setTop (mkF m 139 #[vi f0, vl p1, ss, vl p2, ss, vl p3, ss, vl p4, ss, vl p5, ss, vl m139_0, ss, vl m139_1, ss, vl m139_2, ss, vl m139_3, ss, vi f19, vi 0, vl m139_4, ss, va o0, vl (own_part0 m139_0 m139_1 m139_4), ss] [])) t := fun t k => pre_4 t (by
        show Steps p.tables e below (T0.setTop (mkF m 145 #[vi f0, vl p1, ss, vl p2, ss, vl p3, ss, vl p4, ss, vl p5, ss, vl m139_0, ss, vl m139_1, ss, vl m139_2, ss, vl m139_3, ss, vi f19, vi 0, vl m139_4, ss, va o0, vl (own_part0 m139_0 m139_1 m139_4), ss] [(.long m139_3), (.long m139_2), (.ref o0)])) _
        refine st7.trans ?_
        refine XS.pop X7.here hx rfl (hb hby at_148) rfl rfl ?_
        refine XS.lload X7.here hx rfl (hb hby at_149) rfl ?_
        refine XS.lload X7.here hx rfl (hb hby at_151) rfl ?_
        refine XS.lload X7.here hx rfl (hb hby at_153) rfl ?_
        refine XS.iload X7.here hx rfl (hb hby at_155) rfl ?_
        refine XS.lload X7.here hx rfl (hb hby at_157) rfl ?_
        refine st8 _ ?_
        show Steps p.tables e below (T8.setTop (mkF m 162 #[vi f0, vl p1, ss, vl p2, ss, vl p3, ss, vl p4, ss, vl p5, ss, vl m139_0, ss, vl m139_1, ss, vl m139_2, ss, vl m139_3, ss, vi f19, vi 0, vl m139_4, ss, va o0, vl (own_part0 m139_0 m139_1 m139_4), ss] [(.long (own_part0 m139_2 m139_3 m139_4)), (.long (own_part0 m139_0 m139_1 m139_4))])) _
        refine st9 _ ?_
        refine XS.lstore X9.here hx rfl (hb hby at_165) rfl (l' := #[vi f0, vl p1, ss, vl p2, ss, vl p3, ss, vl p4, ss, vl p5, ss, vl m139_0, ss, vl m139_1, ss, vl m139_2, ss, vl m139_3, ss, vi f19, vi 0, vl m139_4, ss, va o0, vl (own_maxL (own_part0 m139_0 m139_1 m139_4) (own_part0 m139_2 m139_3 m139_4)), ss]) rfl ?_
        exact k)
      have hj11 : m139_3 < m139_0 := ow7 m139_0 m139_1 m139_2 m139_3 nf0 nf1 hc1 hc2 hc3 hc5 hc6
      obtain ⟨U, o, st, rest⟩ := jn2 (a0 := a0) hx hZ hby hml hown hrt hlk hw w_NONE o0 o1 o2 kk_o1 kk_o2 p0 p1 p2 p3 p4 p5 m139_0 m139_1 m139_2 m139_3 m139_4 f0 f19 (X9.more (by decide) (by decide)) e9 N9 O7 S P0_7 P3_7 P5_7 P7_7 nf0 nf1 nf2 hj11
      exact ⟨U, o, pre_10 _ st, rest⟩
    · obtain ⟨cq7, kq7, q7a, q7b, q7c⟩ := isOf hZ e0 E_o0
      obtain ⟨_, _, ⟨T7, L7, k7, n7⟩, -, X7, ⟨Lc7, hQ7, l7, y7, z7⟩, st7⟩ := X0.virtualBack hx (y := My8) (z := My8) hown (mvT hZ (ww hw 41 rfl)) (mvT hZ (ww hw 42 rfl)) (notFace_of_selects (args := #[]) (mvT hZ (ww hw 44 rfl))) (mvT hZ (ww hw 44 rfl)) (mvT hZ (ww hw 43 rfl)) (by decide) (backOf (W := 0) (rm8_3 l Z a0 hw [] w_NONE o0 o1 o2 kk_o1 kk_o2 m139_2 m139_3 ((0 : Int64) + ((m139_1 - m139_0) + (1 : Int64))) m139_0 m139_1 h0 n0 O0 S E_o0 F_count_o0 F_firsts_o0 F_lasts_o0 F_maxRanges_o0 F_ranges_o0 V_o1 V_o2 ne_o0_o1 ne_o0_o2 ne_o1_o2 g_o0 g_o1 g_o2 hc1 hc2 hc3 hc5 hc6) hZ (ww hw 45 rfl) (ww hw 15 rfl) (by decide) (by decide)) q7a q7c (g := (mkF m 145 #[vi f0, vl p1, ss, vl p2, ss, vl p3, ss, vl p4, ss, vl p5, ss, vl m139_0, ss, vl m139_1, ss, vl m139_2, ss, vl m139_3, ss, vi f19, vi 0, vl m139_4, ss, va o0, vl (own_part0 m139_0 m139_1 m139_4), ss] [(.long m139_3), (.long m139_2), (.ref o0)])) rfl (by rw [hml]; rfl) (Steps.refl _) (argsL := [(.long m139_2), (.long m139_3)]) (rest := []) (lenOf pd_9 rfl) rfl (by show 2 * 0 + _ ≤ _; exact Nat.le_of_eq rfl) (hb hby at_145) (fun _ _ => ⟨rfl, e0, (by decide : 6 + 0 ≤ _), (by decide : 40 + 0 ≤ _)⟩)
      dsimp only [Pt.U, Pt.locs, Pt.cells, Pt.slots] at X7 l7 y7 z7 st7 hQ7
      subst l7 y7 z7
      obtain ⟨rfl, Nq7, Kc7, P0_7, P1_7, P2_7, P3_7, P4_7, P5_7, P6_7, P7_7⟩ := hQ7
      have N7 := Fr.app N0 Nq7
      have O7 := O0.keep Kc7 (allS g_o1 (allS g_o2 (allS g_o0 all0)))
      have K7 : Keep h0 T7.heap [o1, o2, o0] := K0.trans Kc7 (allS (Or.inl (List.mem_of_getElem? (i := 0) rfl)) (allS (Or.inl (List.mem_of_getElem? (i := 1) rfl)) (allS (Or.inl (List.mem_of_getElem? (i := 2) rfl)) all0)))
      obtain ⟨_, _, ⟨T8, L8, k8, n8⟩, -, X8, ⟨Lc8, hQ8, l8, y8, z8⟩, st8⟩ := Jvm.LawKit.callS X7 hx (y := My15) hown (mvT hZ (ww hw 75 rfl)) (mvT hZ (ww hw 76 rfl)) (mvT hZ (ww hw 2 rfl)) (mvT hZ (ww hw 77 rfl)) (by decide) (backOf (W := 2) (mg15_0 l Z a0 hw [] w_NONE m139_2 m139_3 m139_4 T7.heap n0 O7 S) hZ (ww hw 77 rfl) (ww hw 2 rfl) (by decide) (by decide)) (g := (mkF m 159 #[vi f0, vl p1, ss, vl p2, ss, vl p3, ss, vl p4, ss, vl p5, ss, vl m139_0, ss, vl m139_1, ss, vl m139_2, ss, vl m139_3, ss, vi f19, vi 0, vl m139_4, ss, va o0, vl (own_part0 m139_0 m139_1 m139_4), ss] [(.long m139_4), (.int 0), (.long m139_3), (.long m139_2), (.long (own_part0 m139_0 m139_1 m139_4))])) rfl (by rw [hml]; rfl) (argsL := [(.long m139_2), (.long m139_3), (.int 0), (.long m139_4)]) (rest := [(.long (own_part0 m139_0 m139_1 m139_4))]) (lenOf pd_10 rfl) rfl (by show 2 * 0 + _ ≤ _; exact Nat.le_of_eq rfl) (hb hby at_159) (fun _ _ => ⟨rfl, rfl, (by decide : 6 + 0 ≤ _), (by decide : 40 + 0 ≤ _)⟩)
      dsimp only [Pt.U, Pt.locs, Pt.cells, Pt.slots] at X8 l8 y8 z8 st8 hQ8
      subst l8 y8 z8
      obtain ⟨rfl, Nq8, e8⟩ := hQ8
      have N8 := Fr.app N7 Nq8
      obtain ⟨_, _, ⟨T9, L9, k9, n9⟩, -, X9, ⟨Lc9, hQ9, l9, y9, z9⟩, st9⟩ := Jvm.LawKit.callS X8 hx (y := My3) hown (mvT hZ (ww hw 10 rfl)) (mvT hZ (ww hw 11 rfl)) (mvT hZ (ww hw 8 rfl)) (mvT hZ (ww hw 12 rfl)) (by decide) (backOf (W := 0) (mg3_0 l Z a0 hw [] w_NONE (own_part0 m139_0 m139_1 m139_4) (own_part0 m139_2 m139_3 m139_4) T7.heap n0 O7 S) hZ (ww hw 12 rfl) (ww hw 8 rfl) (by decide) (by decide)) (g := (mkF m 162 #[vi f0, vl p1, ss, vl p2, ss, vl p3, ss, vl p4, ss, vl p5, ss, vl m139_0, ss, vl m139_1, ss, vl m139_2, ss, vl m139_3, ss, vi f19, vi 0, vl m139_4, ss, va o0, vl (own_part0 m139_0 m139_1 m139_4), ss] [(.long (own_part0 m139_2 m139_3 m139_4)), (.long (own_part0 m139_0 m139_1 m139_4))])) rfl (by rw [hml]; rfl) (argsL := [(.long (own_part0 m139_0 m139_1 m139_4)), (.long (own_part0 m139_2 m139_3 m139_4))]) (rest := []) (lenOf pd_0 rfl) rfl (by show 2 * 0 + _ ≤ _; exact Nat.le_of_eq rfl) (hb hby at_162) (fun _ _ => ⟨rfl, e8, (by decide : 6 + 0 ≤ _), (by decide : 40 + 0 ≤ _)⟩)
      dsimp only [Pt.U, Pt.locs, Pt.cells, Pt.slots] at X9 l9 y9 z9 st9 hQ9
      subst l9 y9 z9
      obtain ⟨rfl, Nq9, e9⟩ := hQ9
      have N9 := Fr.app N8 Nq9
      have pre_10 : ∀ t, Steps p.tables e below (T9.setTop (mkF m 167 #[vi f0, vl p1, ss, vl p2, ss, vl p3, ss, vl p4, ss, vl p5, ss, vl m139_0, ss, vl m139_1, ss, vl m139_2, ss, vl m139_3, ss, vi f19, vi 0, vl m139_4, ss, va o0, vl (own_maxL (own_part0 m139_0 m139_1 m139_4) (own_part0 m139_2 m139_3 m139_4)), ss] [])) t → Steps p.tables e below (T0.setTop (mkF m 139 #[vi f0, vl p1, ss, vl p2, ss, vl p3, ss, vl p4, ss, vl p5, ss, vl m139_0, ss, vl m139_1, ss, vl m139_2, ss, vl m139_3, ss, vi f19, vi 0, vl m139_4, ss, va o0, vl (own_part0 m139_0 m139_1 m139_4), ss] [])) t := fun t k => pre_4 t (by
        show Steps p.tables e below (T0.setTop (mkF m 145 #[vi f0, vl p1, ss, vl p2, ss, vl p3, ss, vl p4, ss, vl p5, ss, vl m139_0, ss, vl m139_1, ss, vl m139_2, ss, vl m139_3, ss, vi f19, vi 0, vl m139_4, ss, va o0, vl (own_part0 m139_0 m139_1 m139_4), ss] [(.long m139_3), (.long m139_2), (.ref o0)])) _
        refine st7.trans ?_
        refine XS.pop X7.here hx rfl (hb hby at_148) rfl rfl ?_
        refine XS.lload X7.here hx rfl (hb hby at_149) rfl ?_
        refine XS.lload X7.here hx rfl (hb hby at_151) rfl ?_
        refine XS.lload X7.here hx rfl (hb hby at_153) rfl ?_
        refine XS.iload X7.here hx rfl (hb hby at_155) rfl ?_
        refine XS.lload X7.here hx rfl (hb hby at_157) rfl ?_
        refine st8 _ ?_
        show Steps p.tables e below (T8.setTop (mkF m 162 #[vi f0, vl p1, ss, vl p2, ss, vl p3, ss, vl p4, ss, vl p5, ss, vl m139_0, ss, vl m139_1, ss, vl m139_2, ss, vl m139_3, ss, vi f19, vi 0, vl m139_4, ss, va o0, vl (own_part0 m139_0 m139_1 m139_4), ss] [(.long (own_part0 m139_2 m139_3 m139_4)), (.long (own_part0 m139_0 m139_1 m139_4))])) _
        refine st9 _ ?_
        refine XS.lstore X9.here hx rfl (hb hby at_165) rfl (l' := #[vi f0, vl p1, ss, vl p2, ss, vl p3, ss, vl p4, ss, vl p5, ss, vl m139_0, ss, vl m139_1, ss, vl m139_2, ss, vl m139_3, ss, vi f19, vi 0, vl m139_4, ss, va o0, vl (own_maxL (own_part0 m139_0 m139_1 m139_4) (own_part0 m139_2 m139_3 m139_4)), ss]) rfl ?_
        exact k)
      have hj11 : ¬ ((m139_1 + (1 : Int64)) < m139_2) := ow9 m139_0 m139_1 m139_2 m139_3 nf0 nf1 hc1 hc2 hc3 hc5 hc6
      obtain ⟨U, o, st, rest⟩ := jn3 (a0 := a0) hx hZ hby hml hown hrt hlk hw w_NONE o0 o1 o2 kk_o1 kk_o2 p0 p1 p2 p3 p4 p5 m139_0 m139_1 m139_2 m139_3 m139_4 f0 f19 (X9.more (by decide) (by decide)) e9 N9 O7 S P0_7 P3_7 P5_7 P7_7 nf0 nf1 nf2 hc6 hj11
      exact ⟨U, o, pre_10 _ st, rest⟩
  · by_cases hc5 : m139_1 < (m139_2 - (1 : Int64))
    · obtain ⟨cq6, kq6, q6a, q6b, q6c⟩ := isOf hZ e0 E_o0
      obtain ⟨_, _, ⟨T6, L6, k6, n6⟩, -, X6, ⟨Lc6, hQ6, l6, y6, z6⟩, st6⟩ := X0.virtualBack hx (y := My8) (z := My8) hown (mvT hZ (ww hw 41 rfl)) (mvT hZ (ww hw 42 rfl)) (notFace_of_selects (args := #[]) (mvT hZ (ww hw 44 rfl))) (mvT hZ (ww hw 44 rfl)) (mvT hZ (ww hw 43 rfl)) (by decide) (backOf (W := 0) (rm8_5 l Z a0 hw [] w_NONE o0 o1 o2 kk_o1 kk_o2 m139_2 m139_3 ((0 : Int64) + ((m139_1 - m139_0) + (1 : Int64))) m139_0 m139_1 h0 n0 O0 S E_o0 F_count_o0 F_firsts_o0 F_lasts_o0 F_maxRanges_o0 F_ranges_o0 V_o1 V_o2 ne_o0_o1 ne_o0_o2 ne_o1_o2 g_o0 g_o1 g_o2 hc1 hc2 hc3 hc5) hZ (ww hw 45 rfl) (ww hw 15 rfl) (by decide) (by decide)) q6a q6c (g := (mkF m 145 #[vi f0, vl p1, ss, vl p2, ss, vl p3, ss, vl p4, ss, vl p5, ss, vl m139_0, ss, vl m139_1, ss, vl m139_2, ss, vl m139_3, ss, vi f19, vi 0, vl m139_4, ss, va o0, vl (own_part0 m139_0 m139_1 m139_4), ss] [(.long m139_3), (.long m139_2), (.ref o0)])) rfl (by rw [hml]; rfl) (Steps.refl _) (argsL := [(.long m139_2), (.long m139_3)]) (rest := []) (lenOf pd_9 rfl) rfl (by show 2 * 0 + _ ≤ _; exact Nat.le_of_eq rfl) (hb hby at_145) (fun _ _ => ⟨rfl, e0, (by decide : 6 + 0 ≤ _), (by decide : 40 + 0 ≤ _)⟩)
      dsimp only [Pt.U, Pt.locs, Pt.cells, Pt.slots] at X6 l6 y6 z6 st6 hQ6
      subst l6 y6 z6
      obtain ⟨rfl, Nq6, Kc6, P0_6, P1_6, P2_6, P3_6, P4_6, P5_6, P6_6, P7_6⟩ := hQ6
      have N6 := Fr.app N0 Nq6
      have O6 := O0.keep Kc6 (allS g_o0 (allS g_o2 (allS g_o1 all0)))
      have K6 : Keep h0 T6.heap [o1, o2, o0] := K0.trans Kc6 (allS (Or.inl (List.mem_of_getElem? (i := 2) rfl)) (allS (Or.inl (List.mem_of_getElem? (i := 1) rfl)) (allS (Or.inl (List.mem_of_getElem? (i := 0) rfl)) all0)))
      obtain ⟨_, _, ⟨T7, L7, k7, n7⟩, -, X7, ⟨Lc7, hQ7, l7, y7, z7⟩, st7⟩ := Jvm.LawKit.callS X6 hx (y := My15) hown (mvT hZ (ww hw 75 rfl)) (mvT hZ (ww hw 76 rfl)) (mvT hZ (ww hw 2 rfl)) (mvT hZ (ww hw 77 rfl)) (by decide) (backOf (W := 2) (mg15_0 l Z a0 hw [] w_NONE m139_2 m139_3 m139_4 T6.heap n0 O6 S) hZ (ww hw 77 rfl) (ww hw 2 rfl) (by decide) (by decide)) (g := (mkF m 159 #[vi f0, vl p1, ss, vl p2, ss, vl p3, ss, vl p4, ss, vl p5, ss, vl m139_0, ss, vl m139_1, ss, vl m139_2, ss, vl m139_3, ss, vi f19, vi 0, vl m139_4, ss, va o0, vl (own_part0 m139_0 m139_1 m139_4), ss] [(.long m139_4), (.int 0), (.long m139_3), (.long m139_2), (.long (own_part0 m139_0 m139_1 m139_4))])) rfl (by rw [hml]; rfl) (argsL := [(.long m139_2), (.long m139_3), (.int 0), (.long m139_4)]) (rest := [(.long (own_part0 m139_0 m139_1 m139_4))]) (lenOf pd_10 rfl) rfl (by show 2 * 0 + _ ≤ _; exact Nat.le_of_eq rfl) (hb hby at_159) (fun _ _ => ⟨rfl, rfl, (by decide : 6 + 0 ≤ _), (by decide : 40 + 0 ≤ _)⟩)
      dsimp only [Pt.U, Pt.locs, Pt.cells, Pt.slots] at X7 l7 y7 z7 st7 hQ7
      subst l7 y7 z7
      obtain ⟨rfl, Nq7, e7⟩ := hQ7
      have N7 := Fr.app N6 Nq7
      obtain ⟨_, _, ⟨T8, L8, k8, n8⟩, -, X8, ⟨Lc8, hQ8, l8, y8, z8⟩, st8⟩ := Jvm.LawKit.callS X7 hx (y := My3) hown (mvT hZ (ww hw 10 rfl)) (mvT hZ (ww hw 11 rfl)) (mvT hZ (ww hw 8 rfl)) (mvT hZ (ww hw 12 rfl)) (by decide) (backOf (W := 0) (mg3_0 l Z a0 hw [] w_NONE (own_part0 m139_0 m139_1 m139_4) (own_part0 m139_2 m139_3 m139_4) T6.heap n0 O6 S) hZ (ww hw 12 rfl) (ww hw 8 rfl) (by decide) (by decide)) (g := (mkF m 162 #[vi f0, vl p1, ss, vl p2, ss, vl p3, ss, vl p4, ss, vl p5, ss, vl m139_0, ss, vl m139_1, ss, vl m139_2, ss, vl m139_3, ss, vi f19, vi 0, vl m139_4, ss, va o0, vl (own_part0 m139_0 m139_1 m139_4), ss] [(.long (own_part0 m139_2 m139_3 m139_4)), (.long (own_part0 m139_0 m139_1 m139_4))])) rfl (by rw [hml]; rfl) (argsL := [(.long (own_part0 m139_0 m139_1 m139_4)), (.long (own_part0 m139_2 m139_3 m139_4))]) (rest := []) (lenOf pd_0 rfl) rfl (by show 2 * 0 + _ ≤ _; exact Nat.le_of_eq rfl) (hb hby at_162) (fun _ _ => ⟨rfl, e7, (by decide : 6 + 0 ≤ _), (by decide : 40 + 0 ≤ _)⟩)
      dsimp only [Pt.U, Pt.locs, Pt.cells, Pt.slots] at X8 l8 y8 z8 st8 hQ8
      subst l8 y8 z8
      obtain ⟨rfl, Nq8, e8⟩ := hQ8
      have N8 := Fr.app N7 Nq8
      have pre_9 : ∀ t, Steps p.tables e below (T8.setTop (mkF m 167 #[vi f0, vl p1, ss, vl p2, ss, vl p3, ss, vl p4, ss, vl p5, ss, vl m139_0, ss, vl m139_1, ss, vl m139_2, ss, vl m139_3, ss, vi f19, vi 0, vl m139_4, ss, va o0, vl (own_maxL (own_part0 m139_0 m139_1 m139_4) (own_part0 m139_2 m139_3 m139_4)), ss] [])) t → Steps p.tables e below (T0.setTop (mkF m 139 #[vi f0, vl p1, ss, vl p2, ss, vl p3, ss, vl p4, ss, vl p5, ss, vl m139_0, ss, vl m139_1, ss, vl m139_2, ss, vl m139_3, ss, vi f19, vi 0, vl m139_4, ss, va o0, vl (own_part0 m139_0 m139_1 m139_4), ss] [])) t := fun t k => pre_4 t (by
        show Steps p.tables e below (T0.setTop (mkF m 145 #[vi f0, vl p1, ss, vl p2, ss, vl p3, ss, vl p4, ss, vl p5, ss, vl m139_0, ss, vl m139_1, ss, vl m139_2, ss, vl m139_3, ss, vi f19, vi 0, vl m139_4, ss, va o0, vl (own_part0 m139_0 m139_1 m139_4), ss] [(.long m139_3), (.long m139_2), (.ref o0)])) _
        refine st6.trans ?_
        refine XS.pop X6.here hx rfl (hb hby at_148) rfl rfl ?_
        refine XS.lload X6.here hx rfl (hb hby at_149) rfl ?_
        refine XS.lload X6.here hx rfl (hb hby at_151) rfl ?_
        refine XS.lload X6.here hx rfl (hb hby at_153) rfl ?_
        refine XS.iload X6.here hx rfl (hb hby at_155) rfl ?_
        refine XS.lload X6.here hx rfl (hb hby at_157) rfl ?_
        refine st7 _ ?_
        show Steps p.tables e below (T7.setTop (mkF m 162 #[vi f0, vl p1, ss, vl p2, ss, vl p3, ss, vl p4, ss, vl p5, ss, vl m139_0, ss, vl m139_1, ss, vl m139_2, ss, vl m139_3, ss, vi f19, vi 0, vl m139_4, ss, va o0, vl (own_part0 m139_0 m139_1 m139_4), ss] [(.long (own_part0 m139_2 m139_3 m139_4)), (.long (own_part0 m139_0 m139_1 m139_4))])) _
        refine st8 _ ?_
        refine XS.lstore X8.here hx rfl (hb hby at_165) rfl (l' := #[vi f0, vl p1, ss, vl p2, ss, vl p3, ss, vl p4, ss, vl p5, ss, vl m139_0, ss, vl m139_1, ss, vl m139_2, ss, vl m139_3, ss, vi f19, vi 0, vl m139_4, ss, va o0, vl (own_maxL (own_part0 m139_0 m139_1 m139_4) (own_part0 m139_2 m139_3 m139_4)), ss]) rfl ?_
        exact k)
      have hj10 : m139_1 < m139_2 := ow11 m139_0 m139_1 m139_2 m139_3 nf0 nf1 hc1 hc2 hc3 hc5
      obtain ⟨U, o, st, rest⟩ := jn4 (a0 := a0) hx hZ hby hml hown hrt hlk hw w_NONE o0 o1 o2 kk_o1 kk_o2 p0 p1 p2 p3 p4 p5 m139_0 m139_1 m139_2 m139_3 m139_4 f0 f19 (X8.more (by decide) (by decide)) e8 N8 O6 S P0_6 P3_6 P5_6 P7_6 nf0 nf1 nf2 hj10
      exact ⟨U, o, pre_9 _ st, rest⟩
    · by_cases hc6 : (m139_3 + (1 : Int64)) < m139_0
      · obtain ⟨cq7, kq7, q7a, q7b, q7c⟩ := isOf hZ e0 E_o0
        obtain ⟨_, _, ⟨T7, L7, k7, n7⟩, -, X7, ⟨Lc7, hQ7, l7, y7, z7⟩, st7⟩ := X0.virtualBack hx (y := My8) (z := My8) hown (mvT hZ (ww hw 41 rfl)) (mvT hZ (ww hw 42 rfl)) (notFace_of_selects (args := #[]) (mvT hZ (ww hw 44 rfl))) (mvT hZ (ww hw 44 rfl)) (mvT hZ (ww hw 43 rfl)) (by decide) (backOf (W := 0) (rm8_6 l Z a0 hw [] w_NONE o0 o1 o2 kk_o1 kk_o2 m139_2 m139_3 ((0 : Int64) + ((m139_1 - m139_0) + (1 : Int64))) m139_0 m139_1 h0 n0 O0 S E_o0 F_count_o0 F_firsts_o0 F_lasts_o0 F_maxRanges_o0 F_ranges_o0 V_o1 V_o2 ne_o0_o1 ne_o0_o2 ne_o1_o2 g_o0 g_o1 g_o2 hc1 hc2 hc3 hc5 hc6) hZ (ww hw 45 rfl) (ww hw 15 rfl) (by decide) (by decide)) q7a q7c (g := (mkF m 145 #[vi f0, vl p1, ss, vl p2, ss, vl p3, ss, vl p4, ss, vl p5, ss, vl m139_0, ss, vl m139_1, ss, vl m139_2, ss, vl m139_3, ss, vi f19, vi 0, vl m139_4, ss, va o0, vl (own_part0 m139_0 m139_1 m139_4), ss] [(.long m139_3), (.long m139_2), (.ref o0)])) rfl (by rw [hml]; rfl) (Steps.refl _) (argsL := [(.long m139_2), (.long m139_3)]) (rest := []) (lenOf pd_9 rfl) rfl (by show 2 * 0 + _ ≤ _; exact Nat.le_of_eq rfl) (hb hby at_145) (fun _ _ => ⟨rfl, e0, (by decide : 6 + 0 ≤ _), (by decide : 40 + 0 ≤ _)⟩)
        dsimp only [Pt.U, Pt.locs, Pt.cells, Pt.slots] at X7 l7 y7 z7 st7 hQ7
        subst l7 y7 z7
        obtain ⟨rfl, Nq7, Kc7, P0_7, P1_7, P2_7, P3_7, P4_7, P5_7, P6_7, P7_7⟩ := hQ7
        have N7 := Fr.app N0 Nq7
        have O7 := O0.keep Kc7 (allS g_o0 (allS g_o2 (allS g_o1 all0)))
        have K7 : Keep h0 T7.heap [o1, o2, o0] := K0.trans Kc7 (allS (Or.inl (List.mem_of_getElem? (i := 2) rfl)) (allS (Or.inl (List.mem_of_getElem? (i := 1) rfl)) (allS (Or.inl (List.mem_of_getElem? (i := 0) rfl)) all0)))
        obtain ⟨_, _, ⟨T8, L8, k8, n8⟩, -, X8, ⟨Lc8, hQ8, l8, y8, z8⟩, st8⟩ := Jvm.LawKit.callS X7 hx (y := My15) hown (mvT hZ (ww hw 75 rfl)) (mvT hZ (ww hw 76 rfl)) (mvT hZ (ww hw 2 rfl)) (mvT hZ (ww hw 77 rfl)) (by decide) (backOf (W := 2) (mg15_0 l Z a0 hw [] w_NONE m139_2 m139_3 m139_4 T7.heap n0 O7 S) hZ (ww hw 77 rfl) (ww hw 2 rfl) (by decide) (by decide)) (g := (mkF m 159 #[vi f0, vl p1, ss, vl p2, ss, vl p3, ss, vl p4, ss, vl p5, ss, vl m139_0, ss, vl m139_1, ss, vl m139_2, ss, vl m139_3, ss, vi f19, vi 0, vl m139_4, ss, va o0, vl (own_part0 m139_0 m139_1 m139_4), ss] [(.long m139_4), (.int 0), (.long m139_3), (.long m139_2), (.long (own_part0 m139_0 m139_1 m139_4))])) rfl (by rw [hml]; rfl) (argsL := [(.long m139_2), (.long m139_3), (.int 0), (.long m139_4)]) (rest := [(.long (own_part0 m139_0 m139_1 m139_4))]) (lenOf pd_10 rfl) rfl (by show 2 * 0 + _ ≤ _; exact Nat.le_of_eq rfl) (hb hby at_159) (fun _ _ => ⟨rfl, rfl, (by decide : 6 + 0 ≤ _), (by decide : 40 + 0 ≤ _)⟩)
        dsimp only [Pt.U, Pt.locs, Pt.cells, Pt.slots] at X8 l8 y8 z8 st8 hQ8
        subst l8 y8 z8
        obtain ⟨rfl, Nq8, e8⟩ := hQ8
        have N8 := Fr.app N7 Nq8
        obtain ⟨_, _, ⟨T9, L9, k9, n9⟩, -, X9, ⟨Lc9, hQ9, l9, y9, z9⟩, st9⟩ := Jvm.LawKit.callS X8 hx (y := My3) hown (mvT hZ (ww hw 10 rfl)) (mvT hZ (ww hw 11 rfl)) (mvT hZ (ww hw 8 rfl)) (mvT hZ (ww hw 12 rfl)) (by decide) (backOf (W := 0) (mg3_0 l Z a0 hw [] w_NONE (own_part0 m139_0 m139_1 m139_4) (own_part0 m139_2 m139_3 m139_4) T7.heap n0 O7 S) hZ (ww hw 12 rfl) (ww hw 8 rfl) (by decide) (by decide)) (g := (mkF m 162 #[vi f0, vl p1, ss, vl p2, ss, vl p3, ss, vl p4, ss, vl p5, ss, vl m139_0, ss, vl m139_1, ss, vl m139_2, ss, vl m139_3, ss, vi f19, vi 0, vl m139_4, ss, va o0, vl (own_part0 m139_0 m139_1 m139_4), ss] [(.long (own_part0 m139_2 m139_3 m139_4)), (.long (own_part0 m139_0 m139_1 m139_4))])) rfl (by rw [hml]; rfl) (argsL := [(.long (own_part0 m139_0 m139_1 m139_4)), (.long (own_part0 m139_2 m139_3 m139_4))]) (rest := []) (lenOf pd_0 rfl) rfl (by show 2 * 0 + _ ≤ _; exact Nat.le_of_eq rfl) (hb hby at_162) (fun _ _ => ⟨rfl, e8, (by decide : 6 + 0 ≤ _), (by decide : 40 + 0 ≤ _)⟩)
        dsimp only [Pt.U, Pt.locs, Pt.cells, Pt.slots] at X9 l9 y9 z9 st9 hQ9
        subst l9 y9 z9
        obtain ⟨rfl, Nq9, e9⟩ := hQ9
        have N9 := Fr.app N8 Nq9
        have pre_10 : ∀ t, Steps p.tables e below (T9.setTop (mkF m 167 #[vi f0, vl p1, ss, vl p2, ss, vl p3, ss, vl p4, ss, vl p5, ss, vl m139_0, ss, vl m139_1, ss, vl m139_2, ss, vl m139_3, ss, vi f19, vi 0, vl m139_4, ss, va o0, vl (own_maxL (own_part0 m139_0 m139_1 m139_4) (own_part0 m139_2 m139_3 m139_4)), ss] [])) t → Steps p.tables e below (T0.setTop (mkF m 139 #[vi f0, vl p1, ss, vl p2, ss, vl p3, ss, vl p4, ss, vl p5, ss, vl m139_0, ss, vl m139_1, ss, vl m139_2, ss, vl m139_3, ss, vi f19, vi 0, vl m139_4, ss, va o0, vl (own_part0 m139_0 m139_1 m139_4), ss] [])) t := fun t k => pre_4 t (by
          show Steps p.tables e below (T0.setTop (mkF m 145 #[vi f0, vl p1, ss, vl p2, ss, vl p3, ss, vl p4, ss, vl p5, ss, vl m139_0, ss, vl m139_1, ss, vl m139_2, ss, vl m139_3, ss, vi f19, vi 0, vl m139_4, ss, va o0, vl (own_part0 m139_0 m139_1 m139_4), ss] [(.long m139_3), (.long m139_2), (.ref o0)])) _
          refine st7.trans ?_
          refine XS.pop X7.here hx rfl (hb hby at_148) rfl rfl ?_
          refine XS.lload X7.here hx rfl (hb hby at_149) rfl ?_
          refine XS.lload X7.here hx rfl (hb hby at_151) rfl ?_
          refine XS.lload X7.here hx rfl (hb hby at_153) rfl ?_
          refine XS.iload X7.here hx rfl (hb hby at_155) rfl ?_
          refine XS.lload X7.here hx rfl (hb hby at_157) rfl ?_
          refine st8 _ ?_
          show Steps p.tables e below (T8.setTop (mkF m 162 #[vi f0, vl p1, ss, vl p2, ss, vl p3, ss, vl p4, ss, vl p5, ss, vl m139_0, ss, vl m139_1, ss, vl m139_2, ss, vl m139_3, ss, vi f19, vi 0, vl m139_4, ss, va o0, vl (own_part0 m139_0 m139_1 m139_4), ss] [(.long (own_part0 m139_2 m139_3 m139_4)), (.long (own_part0 m139_0 m139_1 m139_4))])) _
          refine st9 _ ?_
          refine XS.lstore X9.here hx rfl (hb hby at_165) rfl (l' := #[vi f0, vl p1, ss, vl p2, ss, vl p3, ss, vl p4, ss, vl p5, ss, vl m139_0, ss, vl m139_1, ss, vl m139_2, ss, vl m139_3, ss, vi f19, vi 0, vl m139_4, ss, va o0, vl (own_maxL (own_part0 m139_0 m139_1 m139_4) (own_part0 m139_2 m139_3 m139_4)), ss]) rfl ?_
          exact k)
        have hj11 : m139_3 < m139_0 := ow12 m139_0 m139_1 m139_2 m139_3 nf0 nf1 hc1 hc2 hc3 hc5 hc6
        obtain ⟨U, o, st, rest⟩ := jn2 (a0 := a0) hx hZ hby hml hown hrt hlk hw w_NONE o0 o1 o2 kk_o1 kk_o2 p0 p1 p2 p3 p4 p5 m139_0 m139_1 m139_2 m139_3 m139_4 f0 f19 (X9.more (by decide) (by decide)) e9 N9 O7 S P0_7 P3_7 P5_7 P7_7 nf0 nf1 nf2 hj11
        exact ⟨U, o, pre_10 _ st, rest⟩
      · obtain ⟨cq7, kq7, q7a, q7b, q7c⟩ := isOf hZ e0 E_o0
        obtain ⟨_, _, ⟨T7, L7, k7, n7⟩, -, X7, ⟨Lc7, hQ7, l7, y7, z7⟩, st7⟩ := X0.virtualBack hx (y := My8) (z := My8) hown (mvT hZ (ww hw 41 rfl)) (mvT hZ (ww hw 42 rfl)) (notFace_of_selects (args := #[]) (mvT hZ (ww hw 44 rfl))) (mvT hZ (ww hw 44 rfl)) (mvT hZ (ww hw 43 rfl)) (by decide) (backOf (W := 0) (rm8_2 l Z a0 hw [] w_NONE o0 o1 o2 kk_o1 kk_o2 m139_2 m139_3 ((0 : Int64) + ((m139_1 - m139_0) + (1 : Int64))) m139_0 m139_1 h0 n0 O0 S E_o0 F_count_o0 F_firsts_o0 F_lasts_o0 F_maxRanges_o0 F_ranges_o0 V_o1 V_o2 ne_o0_o1 ne_o0_o2 ne_o1_o2 g_o0 g_o1 g_o2 hc1 hc2 hc3 hc5 hc6) hZ (ww hw 45 rfl) (ww hw 15 rfl) (by decide) (by decide)) q7a q7c (g := (mkF m 145 #[vi f0, vl p1, ss, vl p2, ss, vl p3, ss, vl p4, ss, vl p5, ss, vl m139_0, ss, vl m139_1, ss, vl m139_2, ss, vl m139_3, ss, vi f19, vi 0, vl m139_4, ss, va o0, vl (own_part0 m139_0 m139_1 m139_4), ss] [(.long m139_3), (.long m139_2), (.ref o0)])) rfl (by rw [hml]; rfl) (Steps.refl _) (argsL := [(.long m139_2), (.long m139_3)]) (rest := []) (lenOf pd_9 rfl) rfl (by show 2 * 0 + _ ≤ _; exact Nat.le_of_eq rfl) (hb hby at_145) (fun _ _ => ⟨rfl, e0, (by decide : 6 + 0 ≤ _), (by decide : 40 + 0 ≤ _)⟩)
        dsimp only [Pt.U, Pt.locs, Pt.cells, Pt.slots] at X7 l7 y7 z7 st7 hQ7
        subst l7 y7 z7
        obtain ⟨rfl, Nq7, Kc7, P0_7, P1_7, P2_7, P3_7, P4_7, P5_7, P6_7, P7_7⟩ := hQ7
        have N7 := Fr.app N0 Nq7
        have O7 := O0.keep Kc7 (allS g_o1 (allS g_o2 (allS g_o0 all0)))
        have K7 : Keep h0 T7.heap [o1, o2, o0] := K0.trans Kc7 (allS (Or.inl (List.mem_of_getElem? (i := 0) rfl)) (allS (Or.inl (List.mem_of_getElem? (i := 1) rfl)) (allS (Or.inl (List.mem_of_getElem? (i := 2) rfl)) all0)))
        obtain ⟨_, _, ⟨T8, L8, k8, n8⟩, -, X8, ⟨Lc8, hQ8, l8, y8, z8⟩, st8⟩ := Jvm.LawKit.callS X7 hx (y := My15) hown (mvT hZ (ww hw 75 rfl)) (mvT hZ (ww hw 76 rfl)) (mvT hZ (ww hw 2 rfl)) (mvT hZ (ww hw 77 rfl)) (by decide) (backOf (W := 2) (mg15_0 l Z a0 hw [] w_NONE m139_2 m139_3 m139_4 T7.heap n0 O7 S) hZ (ww hw 77 rfl) (ww hw 2 rfl) (by decide) (by decide)) (g := (mkF m 159 #[vi f0, vl p1, ss, vl p2, ss, vl p3, ss, vl p4, ss, vl p5, ss, vl m139_0, ss, vl m139_1, ss, vl m139_2, ss, vl m139_3, ss, vi f19, vi 0, vl m139_4, ss, va o0, vl (own_part0 m139_0 m139_1 m139_4), ss] [(.long m139_4), (.int 0), (.long m139_3), (.long m139_2), (.long (own_part0 m139_0 m139_1 m139_4))])) rfl (by rw [hml]; rfl) (argsL := [(.long m139_2), (.long m139_3), (.int 0), (.long m139_4)]) (rest := [(.long (own_part0 m139_0 m139_1 m139_4))]) (lenOf pd_10 rfl) rfl (by show 2 * 0 + _ ≤ _; exact Nat.le_of_eq rfl) (hb hby at_159) (fun _ _ => ⟨rfl, rfl, (by decide : 6 + 0 ≤ _), (by decide : 40 + 0 ≤ _)⟩)
        dsimp only [Pt.U, Pt.locs, Pt.cells, Pt.slots] at X8 l8 y8 z8 st8 hQ8
        subst l8 y8 z8
        obtain ⟨rfl, Nq8, e8⟩ := hQ8
        have N8 := Fr.app N7 Nq8
        obtain ⟨_, _, ⟨T9, L9, k9, n9⟩, -, X9, ⟨Lc9, hQ9, l9, y9, z9⟩, st9⟩ := Jvm.LawKit.callS X8 hx (y := My3) hown (mvT hZ (ww hw 10 rfl)) (mvT hZ (ww hw 11 rfl)) (mvT hZ (ww hw 8 rfl)) (mvT hZ (ww hw 12 rfl)) (by decide) (backOf (W := 0) (mg3_0 l Z a0 hw [] w_NONE (own_part0 m139_0 m139_1 m139_4) (own_part0 m139_2 m139_3 m139_4) T7.heap n0 O7 S) hZ (ww hw 12 rfl) (ww hw 8 rfl) (by decide) (by decide)) (g := (mkF m 162 #[vi f0, vl p1, ss, vl p2, ss, vl p3, ss, vl p4, ss, vl p5, ss, vl m139_0, ss, vl m139_1, ss, vl m139_2, ss, vl m139_3, ss, vi f19, vi 0, vl m139_4, ss, va o0, vl (own_part0 m139_0 m139_1 m139_4), ss] [(.long (own_part0 m139_2 m139_3 m139_4)), (.long (own_part0 m139_0 m139_1 m139_4))])) rfl (by rw [hml]; rfl) (argsL := [(.long (own_part0 m139_0 m139_1 m139_4)), (.long (own_part0 m139_2 m139_3 m139_4))]) (rest := []) (lenOf pd_0 rfl) rfl (by show 2 * 0 + _ ≤ _; exact Nat.le_of_eq rfl) (hb hby at_162) (fun _ _ => ⟨rfl, e8, (by decide : 6 + 0 ≤ _), (by decide : 40 + 0 ≤ _)⟩)
        dsimp only [Pt.U, Pt.locs, Pt.cells, Pt.slots] at X9 l9 y9 z9 st9 hQ9
        subst l9 y9 z9
        obtain ⟨rfl, Nq9, e9⟩ := hQ9
        have N9 := Fr.app N8 Nq9
        have pre_10 : ∀ t, Steps p.tables e below (T9.setTop (mkF m 167 #[vi f0, vl p1, ss, vl p2, ss, vl p3, ss, vl p4, ss, vl p5, ss, vl m139_0, ss, vl m139_1, ss, vl m139_2, ss, vl m139_3, ss, vi f19, vi 0, vl m139_4, ss, va o0, vl (own_maxL (own_part0 m139_0 m139_1 m139_4) (own_part0 m139_2 m139_3 m139_4)), ss] [])) t → Steps p.tables e below (T0.setTop (mkF m 139 #[vi f0, vl p1, ss, vl p2, ss, vl p3, ss, vl p4, ss, vl p5, ss, vl m139_0, ss, vl m139_1, ss, vl m139_2, ss, vl m139_3, ss, vi f19, vi 0, vl m139_4, ss, va o0, vl (own_part0 m139_0 m139_1 m139_4), ss] [])) t := fun t k => pre_4 t (by
          show Steps p.tables e below (T0.setTop (mkF m 145 #[vi f0, vl p1, ss, vl p2, ss, vl p3, ss, vl p4, ss, vl p5, ss, vl m139_0, ss, vl m139_1, ss, vl m139_2, ss, vl m139_3, ss, vi f19, vi 0, vl m139_4, ss, va o0, vl (own_part0 m139_0 m139_1 m139_4), ss] [(.long m139_3), (.long m139_2), (.ref o0)])) _
          refine st7.trans ?_
          refine XS.pop X7.here hx rfl (hb hby at_148) rfl rfl ?_
          refine XS.lload X7.here hx rfl (hb hby at_149) rfl ?_
          refine XS.lload X7.here hx rfl (hb hby at_151) rfl ?_
          refine XS.lload X7.here hx rfl (hb hby at_153) rfl ?_
          refine XS.iload X7.here hx rfl (hb hby at_155) rfl ?_
          refine XS.lload X7.here hx rfl (hb hby at_157) rfl ?_
          refine st8 _ ?_
          show Steps p.tables e below (T8.setTop (mkF m 162 #[vi f0, vl p1, ss, vl p2, ss, vl p3, ss, vl p4, ss, vl p5, ss, vl m139_0, ss, vl m139_1, ss, vl m139_2, ss, vl m139_3, ss, vi f19, vi 0, vl m139_4, ss, va o0, vl (own_part0 m139_0 m139_1 m139_4), ss] [(.long (own_part0 m139_2 m139_3 m139_4)), (.long (own_part0 m139_0 m139_1 m139_4))])) _
          refine st9 _ ?_
          refine XS.lstore X9.here hx rfl (hb hby at_165) rfl (l' := #[vi f0, vl p1, ss, vl p2, ss, vl p3, ss, vl p4, ss, vl p5, ss, vl m139_0, ss, vl m139_1, ss, vl m139_2, ss, vl m139_3, ss, vi f19, vi 0, vl m139_4, ss, va o0, vl (own_maxL (own_part0 m139_0 m139_1 m139_4) (own_part0 m139_2 m139_3 m139_4)), ss]) rfl ?_
          exact k)
        have hj11 : ¬ ((m139_1 + (1 : Int64)) < m139_2) := ow13 m139_0 m139_1 m139_2 m139_3 nf0 nf1 hc1 hc2 hc3 hc5 hc6
        obtain ⟨U, o, st, rest⟩ := jn3 (a0 := a0) hx hZ hby hml hown hrt hlk hw w_NONE o0 o1 o2 kk_o1 kk_o2 p0 p1 p2 p3 p4 p5 m139_0 m139_1 m139_2 m139_3 m139_4 f0 f19 (X9.more (by decide) (by decide)) e9 N9 O7 S P0_7 P3_7 P5_7 P7_7 nf0 nf1 nf2 hc6 hj11
        exact ⟨U, o, pre_10 _ st, rest⟩
theorem d15_9 : decode method_3_code 9 = .ok (.lload_n 0, 1) := by decide +kernel
theorem d15_10 : decode method_3_code 10 = .ok (.lload 5, 2) := by decide +kernel
theorem d15_12 : decode method_3_code 12 = .ok (.lcmp, 1) := by decide +kernel
theorem d15_13 : decode method_3_code 13 = .ok (.ifCond .ge 14, 3) := by decide +kernel
theorem d15_16 : decode method_3_code 16 = .ok (.lload_n 2, 1) := by decide +kernel
theorem d15_17 : decode method_3_code 17 = .ok (.lconst 1, 1) := by decide +kernel
theorem d15_18 : decode method_3_code 18 = .ok (.ladd, 1) := by decide +kernel
theorem d15_19 : decode method_3_code 19 = .ok (.lload 5, 2) := by decide +kernel
theorem d15_21 : decode method_3_code 21 = .ok (.invokestatic 13, 3) := by decide +kernel
theorem d15_24 : decode method_3_code 24 = .ok (.goto 4, 3) := by decide +kernel
theorem d15_28 : decode method_3_code 28 = .ok (.lreturn, 1) := by decide +kernel
theorem d15_27 : decode method_3_code 27 = .ok (.lconst 0, 1) := by decide +kernel
def Q15_1 (Z : State) (w_NONE : Addr) (q0 : Int64) (q1 : Int64) (q3 : Int64) (h0 : Heap) (n0 : Nat) (v : Option Value) (h : Heap) (L : List Loc) : Prop := v = (some (.long (own_minL (q1 + (1 : Int64)) q3))) ∧ Fr n0 L ∧ h = h0
theorem rm15_1 (l : Launch) (Z : State) (a0 : Array Value) (hw : HW Z a0) (ws : List Jvm.Cond) (w_NONE : Addr) (q0 : Int64) (q1 : Int64) (q3 : Int64) (h0 : Heap) (n0 : Nat) (O0 : Old Z n0 h0) (S : SF Z w_NONE) (hc0 : q0 < q3) :
    Pay l Z My15 ws method_3_code 7 (some .long) #[(.long q0), (.long q1), (.int 1), (.long q3)] h0 ({ frames := 1, cells := 0, slots := 0, locals := 15 } : Room) (Q15_1 Z w_NONE q0 q1 q3 h0 n0) := by
  refine own_body (plainFor_of_name pn_0) (L0 := #[vl q0, ss, vl q1, ss, vi 1, vl q3, ss]) (fun _ => by first | rfl | (simp [entryFrame, mkF, argsToLocals, Value.category]; done)) ?_
  intro p e s m below meth c s₁ hrt hlk hx hby hml hZ hown0 hnm X0 e0
  have hown : s.vm.findClass sC1 = some m.cls := hown0
  have N0 := Fr.nil n0
  have K0 : Keep h0 h0 [] := Keep.refl _ _
  obtain ⟨_, _, ⟨T1, L1, k1, n1⟩, -, X1, ⟨Lc1, hQ1, l1, y1, z1⟩, st1⟩ := Jvm.LawKit.callS X0 hx (y := My2) hown (mvT hZ (ww hw 6 rfl)) (mvT hZ (ww hw 7 rfl)) (mvT hZ (ww hw 8 rfl)) (mvT hZ (ww hw 9 rfl)) (by decide) (backOf (W := 0) (mg2_0 l Z a0 hw [] w_NONE (q1 + (1 : Int64)) q3 h0 n0 O0 S) hZ (ww hw 9 rfl) (ww hw 8 rfl) (by decide) (by decide)) (g := (mkF m 21 #[vl q0, ss, vl q1, ss, vi 1, vl q3, ss] [(.long q3), (.long (q1 + (1 : Int64)))])) rfl (by rw [hml]; rfl) (argsL := [(.long (q1 + (1 : Int64))), (.long q3)]) (rest := []) (lenOf pd_0 rfl) rfl (by show 2 * 0 + _ ≤ _; exact Nat.le_of_eq rfl) (hb hby d15_21) (fun _ _ => ⟨rfl, e0, (by decide : 0 + 0 ≤ _), (by decide : 0 + 0 ≤ _)⟩)
  dsimp only [Pt.U, Pt.locs, Pt.cells, Pt.slots] at X1 l1 y1 z1 st1 hQ1
  subst l1 y1 z1
  obtain ⟨rfl, Nq1, e1⟩ := hQ1
  have N1 := Fr.app N0 Nq1
  obtain ⟨fs, hr, hrun, hended, hW, hsame⟩ := X1.leave (v := (some (.long (own_minL (q1 + (1 : Int64)) q3)))) (fun h => by rw [hrt] at h; cases h)
  refine ⟨_, _, ?_, hrun, hended, _, _, rfl, ?_, ⟨_, rfl⟩, hW, hsame.mono (by decide) (by decide)⟩
  · show Steps p.tables e below (s₁.setTop (mkF m 0 #[vl q0, ss, vl q1, ss, vi 1, vl q3, ss] [])) _
    refine XS.iload X0.here hx rfl (hb hby d15_0) rfl ?_
    refine XS.ifYes X0.here hx rfl (pc0 := 2) (pc' := 9) rfl (hb hby d15_2) rfl ((if0 _ _).trans (feq (by decide : ¬ ((1 : Int32) = (0 : Int32)))).2) (by decide) (by decide) ?_
    refine XS.lloadN X0.here hx rfl (hb hby d15_9) rfl ?_
    refine XS.lload X0.here hx rfl (hb hby d15_10) rfl ?_
    refine XS.lcmp X0.here hx rfl (hb hby d15_12) rfl ?_
    refine XS.ifNo X0.here hx rfl (hb hby d15_13) rfl (own_lc_ltT hc0).2 ?_
    refine XS.lloadN X0.here hx rfl (hb hby d15_16) rfl ?_
    refine XS.lconst X0.here hx rfl (hb hby d15_17) ?_
    show Steps p.tables e below (s₁.setTop (mkF m 18 #[vl q0, ss, vl q1, ss, vi 1, vl q3, ss] [(.long 1), (.long q1)])) _
    refine XS.ladd X0.here hx rfl (hb hby d15_18) rfl ?_
    refine XS.lload X0.here hx rfl (hb hby d15_19) rfl ?_
    refine st1 _ ?_
    refine XS.goto X1.here hx rfl (pc0 := 24) (pc' := 28) rfl (hb hby d15_24) (by decide) (by decide) ?_
    exact retOut X1 hx (t := .long) (i := .lreturn) hrt rfl (Or.inr (Or.inl ⟨rfl, rfl, _, rfl⟩)) (hb hby d15_28) hr
  · show Q15_1 Z w_NONE q0 q1 q3 h0 n0 (some (.long (own_minL (q1 + (1 : Int64)) q3))) T1.heap _
    exact (⟨rfl, N1, e1⟩)
def Q15_2 (Z : State) (w_NONE : Addr) (q0 : Int64) (q1 : Int64) (q3 : Int64) (h0 : Heap) (n0 : Nat) (v : Option Value) (h : Heap) (L : List Loc) : Prop := v = (some (.long 0)) ∧ Fr n0 L ∧ h = h0
theorem rm15_2 (l : Launch) (Z : State) (a0 : Array Value) (hw : HW Z a0) (ws : List Jvm.Cond) (w_NONE : Addr) (q0 : Int64) (q1 : Int64) (q3 : Int64) (h0 : Heap) (n0 : Nat) (O0 : Old Z n0 h0) (S : SF Z w_NONE) (hc0 : ¬ (q0 < q3)) :
    Pay l Z My15 ws method_3_code 7 (some .long) #[(.long q0), (.long q1), (.int 1), (.long q3)] h0 ({ frames := 1, cells := 0, slots := 0, locals := 15 } : Room) (Q15_2 Z w_NONE q0 q1 q3 h0 n0) := by
  refine own_body (plainFor_of_name pn_0) (L0 := #[vl q0, ss, vl q1, ss, vi 1, vl q3, ss]) (fun _ => by first | rfl | (simp [entryFrame, mkF, argsToLocals, Value.category]; done)) ?_
  intro p e s m below meth c s₁ hrt hlk hx hby hml hZ hown0 hnm X0 e0
  have hown : s.vm.findClass sC1 = some m.cls := hown0
  have N0 := Fr.nil n0
  have K0 : Keep h0 h0 [] := Keep.refl _ _
  obtain ⟨fs, hr, hrun, hended, hW, hsame⟩ := X0.leave (v := (some (.long 0))) (fun h => by rw [hrt] at h; cases h)
  refine ⟨_, _, ?_, hrun, hended, _, _, rfl, ?_, ⟨_, rfl⟩, hW, hsame.mono (by decide) (by decide)⟩
  · show Steps p.tables e below (s₁.setTop (mkF m 0 #[vl q0, ss, vl q1, ss, vi 1, vl q3, ss] [])) _
    refine XS.iload X0.here hx rfl (hb hby d15_0) rfl ?_
    refine XS.ifYes X0.here hx rfl (pc0 := 2) (pc' := 9) rfl (hb hby d15_2) rfl ((if0 _ _).trans (feq (by decide : ¬ ((1 : Int32) = (0 : Int32)))).2) (by decide) (by decide) ?_
    refine XS.lloadN X0.here hx rfl (hb hby d15_9) rfl ?_
    refine XS.lload X0.here hx rfl (hb hby d15_10) rfl ?_
    refine XS.lcmp X0.here hx rfl (hb hby d15_12) rfl ?_
    refine XS.ifYes X0.here hx rfl (pc0 := 13) (pc' := 27) rfl (hb hby d15_13) rfl (own_lc_ltF hc0).2 (by decide) (by decide) ?_
    refine XS.lconst X0.here hx rfl (hb hby d15_27) ?_
    exact retOut X0 hx (t := .long) (i := .lreturn) hrt rfl (Or.inr (Or.inl ⟨rfl, rfl, _, rfl⟩)) (hb hby d15_28) hr
  · show Q15_2 Z w_NONE q0 q1 q3 h0 n0 (some (.long 0)) s₁.heap _
    exact (⟨rfl, N0, e0⟩)
def Qm15_1 (Z : State) (w_NONE : Addr) (q0 : Int64) (q1 : Int64) (q3 : Int64) (h0 : Heap) (n0 : Nat) (v : Option Value) (h : Heap) (L : List Loc) : Prop := v = (some (.long (own_part1 q0 q1 q3))) ∧ Fr n0 L ∧ h = h0
theorem mg15_1 (l : Launch) (Z : State) (a0 : Array Value) (hw : HW Z a0) (ws : List Jvm.Cond) (w_NONE : Addr) (q0 : Int64) (q1 : Int64) (q3 : Int64) (h0 : Heap) (n0 : Nat) (O0 : Old Z n0 h0) (S : SF Z w_NONE) :
    Pay l Z My15 ws method_3_code 7 (some .long) #[(.long q0), (.long q1), (.int 1), (.long q3)] h0 ({ frames := 1, cells := 0, slots := 0, locals := 15 } : Room) (Qm15_1 Z w_NONE q0 q1 q3 h0 n0) := by
  by_cases hm0 : q0 < q3
  · have q := rm15_1 l Z a0 hw ws w_NONE q0 q1 q3 h0 n0 O0 S hm0
    have e : (own_part1 q0 q1 q3) = (own_minL (q1 + (1 : Int64)) q3) := by simp [own_part1, hm0]
    rw [show (Qm15_1 Z w_NONE q0 q1 q3 h0 n0) = (Q15_1 Z w_NONE q0 q1 q3 h0 n0) from by funext v h L; unfold Qm15_1 Q15_1; rw [e]]; exact q
  · have q := rm15_2 l Z a0 hw ws w_NONE q0 q1 q3 h0 n0 O0 S hm0
    have e : (own_part1 q0 q1 q3) = (0 : Int64) := by simp [own_part1, hm0]
    rw [show (Qm15_1 Z w_NONE q0 q1 q3 h0 n0) = (Q15_2 Z w_NONE q0 q1 q3 h0 n0) from by funext v h L; unfold Qm15_1 Q15_2; rw [e]]; exact q
theorem d17_0 : decode prog_55_method_10_code 0 = .ok (.lload_n 1, 1) := by decide +kernel
theorem d17_1 : decode prog_55_method_10_code 1 = .ok (.lload_n 3, 1) := by decide +kernel
theorem d17_2 : decode prog_55_method_10_code 2 = .ok (.invokestatic 51, 3) := by decide +kernel
def Q9_1 (Z : State) (w_NONE : Addr) (q0 : Int64) (h0 : Heap) (n0 : Nat) (v : Option Value) (h : Heap) (L : List Loc) : Prop := v = none ∧ Fr n0 L ∧ h = h0
theorem rm9_1 (l : Launch) (Z : State) (a0 : Array Value) (hw : HW Z a0) (ws : List Jvm.Cond) (w_NONE : Addr) (q0 : Int64) (h0 : Heap) (n0 : Nat) (O0 : Old Z n0 h0) (S : SF Z w_NONE) (hc0 : ¬ (q0 < (0 : Int64))) (hc1 : ¬ ((9223372036854775806 : Int64) < q0)) :
    Pay l Z My9 ws prog_55_method_20_code 4 none #[(.long q0), (.long 9223372036854775806)] h0 ({ frames := 0, cells := 0, slots := 0, locals := 0 } : Room) (Q9_1 Z w_NONE q0 h0 n0) := by
  refine own_body (plainFor_of_name pn_1) (L0 := #[vl q0, ss, vl 9223372036854775806, ss]) (fun _ => by first | rfl | (simp [entryFrame, mkF, argsToLocals, Value.category]; done)) ?_
  intro p e s m below meth c s₁ hrt hlk hx hby hml hZ hown0 hnm X0 e0
  have hown : s.vm.findClass sC0 = some m.cls := hown0
  have N0 := Fr.nil n0
  have K0 : Keep h0 h0 [] := Keep.refl _ _
  obtain ⟨fs, hr, hrun, hended, hW, hsame⟩ := X0.leave (v := none) (fun _ => rfl)
  refine ⟨_, _, ?_, hrun, hended, _, _, rfl, ?_, ⟨_, rfl⟩, hW, hsame.mono (by decide) (by decide)⟩
  · show Steps p.tables e below (s₁.setTop (mkF m 0 #[vl q0, ss, vl 9223372036854775806, ss] [])) _
    refine XS.lloadN X0.here hx rfl (hb hby d9_0) rfl ?_
    refine XS.lconst X0.here hx rfl (hb hby d9_1) ?_
    refine XS.lcmp X0.here hx rfl (hb hby d9_2) rfl ?_
    refine XS.ifNo X0.here hx rfl (hb hby d9_3) rfl (own_lc_ltF hc0).1 ?_
    refine XS.lloadN X0.here hx rfl (hb hby d9_6) rfl ?_
    refine XS.lloadN X0.here hx rfl (hb hby d9_7) rfl ?_
    refine XS.lcmp X0.here hx rfl (hb hby d9_8) rfl ?_
    refine XS.ifYes X0.here hx rfl (pc0 := 9) (pc' := 27) rfl (hb hby d9_9) rfl (own_lc_gtF hc1).2 (by decide) (by decide) ?_
    show Steps p.tables e below (s₁.setTop (mkF m 27 #[vl q0, ss, vl 9223372036854775806, ss] [])) _
    exact X0.returnOut hx hrt (hb hby d9_27) hr
  · show Q9_1 Z w_NONE q0 h0 n0 none s₁.heap _
    exact (⟨rfl, N0, e0⟩)
theorem d17_5 : decode prog_55_method_10_code 5 = .ok (.aload_n 0, 1) := by decide +kernel
theorem d17_6 : decode prog_55_method_10_code 6 = .ok (.lload_n 1, 1) := by decide +kernel
theorem d17_7 : decode prog_55_method_10_code 7 = .ok (.invokevirtual 47, 3) := by decide +kernel
def Q10_5 (Z : State) (w_NONE : Addr) (o0 : Addr) (o1 : Addr) (o2 : Addr) (kk_o1 : ClassId) (kk_o2 : ClassId) (q5 : Int64) (q0 : Int64) (q1 : Int64) (q2 : Int64) (q3 : Int64) (q4 : Int64) (h0 : Heap) (n0 : Nat) (v : Option Value) (h : Heap) (L : List Loc) : Prop := v = (some (.int 2)) ∧ Fr n0 L ∧ h = h0
theorem rm10_5 (l : Launch) (Z : State) (a0 : Array Value) (hw : HW Z a0) (ws : List Jvm.Cond) (w_NONE : Addr) (o0 : Addr) (o1 : Addr) (o2 : Addr) (kk_o1 : ClassId) (kk_o2 : ClassId) (q5 : Int64) (q0 : Int64) (q1 : Int64) (q2 : Int64) (q3 : Int64) (q4 : Int64) (h0 : Heap) (n0 : Nat) (O0 : Old Z n0 h0) (S : SF Z w_NONE) (F_lasts_o0 : Fld Z h0 o0 sC0 "lasts" "[J" (.ref o2)) (F_ranges_o0 : Fld Z h0 o0 sC0 "ranges" "I" (.int 2)) (V_o2 : Arv Z h0 o2 kk_o2 .long (4 : Int32) [(.long q3), (.long q4), (.long 0), (.long 0)] (.long 0)) (hc0 : q4 < q5) :
    Pay l Z My10 ws prog_55_method_19_code 6 (some .int) #[(.ref o0), (.long q5)] h0 ({ frames := 0, cells := 0, slots := 0, locals := 0 } : Room) (Q10_5 Z w_NONE o0 o1 o2 kk_o1 kk_o2 q5 q0 q1 q2 q3 q4 h0 n0) := by
  refine own_body (plainFor_of_name pn_1) (L0 := #[va o0, vl q5, ss, uu, uu, uu]) (fun _ => by first | rfl | (simp [entryFrame, mkF, argsToLocals, Value.category]; done)) ?_
  intro p e s m below meth c s₁ hrt hlk hx hby hml hZ hown0 hnm X0 e0
  have hown : s.vm.findClass sC0 = some m.cls := hown0
  have N0 := Fr.nil n0
  have K0 : Keep h0 h0 [] := Keep.refl _ _
  obtain ⟨T1, X1, e1, st1⟩ := getF X0 hx hZ hown (host := "") (Or.inl (ww hw 39 rfl)) Via.refl e0 F_ranges_o0 (g := (mkF m 3 #[va o0, vl q5, ss, vi 0, uu, uu] [(.ref o0)])) rfl rfl (hb hby d10_3)
  obtain ⟨T2, X2, e2, st2⟩ := getF X1 hx hZ hown (host := "") (Or.inl (ww hw 30 rfl)) Via.refl e1 F_lasts_o0 (g := (mkF m 23 #[va o0, vl q5, ss, vi 0, vi 2, vi 1] [(.ref o0)])) rfl rfl (hb hby d10_23)
  obtain ⟨cl3, Ar3, qk3, Sz3, Ng3, Hh3, Gg3⟩ := id V_o2
  have hin3_1 : ¬ ((1 : Int32) < 0 ∨ cl3.slots.size ≤ ((1 : Int32)).toNatClampNeg) := inb_of Sz3 ⟨by decide, by decide⟩
  obtain ⟨fs, hr, hrun, hended, hW, hsame⟩ := X2.leave (v := (some (.int 2))) (fun h => by rw [hrt] at h; cases h)
  refine ⟨_, _, ?_, hrun, hended, _, _, rfl, ?_, ⟨_, rfl⟩, hW, hsame.mono (by decide) (by decide)⟩
  · show Steps p.tables e below (s₁.setTop (mkF m 0 #[va o0, vl q5, ss, uu, uu, uu] [])) _
    refine XS.iconst X0.here hx rfl (hb hby d10_0) ?_
    refine XS.istoreN X0.here hx rfl (hb hby d10_1) rfl (l' := #[va o0, vl q5, ss, vi 0, uu, uu]) rfl ?_
    refine XS.aloadN X0.here hx rfl (hb hby d10_2) rfl rfl ?_
    refine st1 _ ?_
    refine XS.istore X1.here hx rfl (hb hby d10_6) rfl (l' := #[va o0, vl q5, ss, vi 0, vi 2, uu]) rfl ?_
    refine XS.iloadN X1.here hx rfl (hb hby d10_8) rfl ?_
    refine XS.iload X1.here hx rfl (hb hby d10_9) rfl ?_
    refine XS.icmpNo X1.here hx rfl (hb hby d10_11) rfl (tlt (by decide : (0 : Int32) < (2 : Int32))).2.1 ?_
    show Steps p.tables e below (T1.setTop (mkF m 14 #[va o0, vl q5, ss, vi 0, vi 2, uu] [])) _
    refine XS.iloadN X1.here hx rfl (hb hby d10_14) rfl ?_
    refine XS.iload X1.here hx rfl (hb hby d10_15) rfl ?_
    refine XS.iadd X1.here hx rfl (hb hby d10_17) rfl ?_
    show Steps p.tables e below (T1.setTop (mkF m 18 #[va o0, vl q5, ss, vi 0, vi 2, uu] [(.int ((0 : Int32) + (2 : Int32)))])) _
    rw [show (((0 : Int32) + (2 : Int32)) : Int32) = (2 : Int32) from by decide]
    refine XS.iconst X1.here hx rfl (hb hby d10_18) ?_
    refine XS.iushr X1.here hx rfl (hb hby d10_19) rfl ?_
    show Steps p.tables e below (T1.setTop (mkF m 20 #[va o0, vl q5, ss, vi 0, vi 2, uu] [(.int (((2 : Int32).toUInt32 >>> ((1 : Int32) &&& 31).toUInt32).toInt32))])) _
    rw [show ((((2 : Int32).toUInt32 >>> ((1 : Int32) &&& 31).toUInt32).toInt32) : Int32) = (1 : Int32) from by decide]
    refine XS.istore X1.here hx rfl (hb hby d10_20) rfl (l' := #[va o0, vl q5, ss, vi 0, vi 2, vi 1]) rfl ?_
    refine XS.aloadN X1.here hx rfl (hb hby d10_22) rfl rfl ?_
    refine st2 _ ?_
    refine XS.iload X2.here hx rfl (hb hby d10_26) rfl ?_
    refine X2.laload hx (j := (1 : Int32)) (v := (.long q4)) (by rw [e2]; exact Ar3.1) (State.isArrayOf_alike hZ.alike Ar3.2.1) Ar3.2.2 hin3_1 (Has.at Hh3 hin3_1 rfl) (g := (mkF m 28 #[va o0, vl q5, ss, vi 0, vi 2, vi 1] [(.int 1), (.ref o2)])) rfl rfl (hb hby d10_28) _ ?_
    refine XS.lloadN X2.here hx rfl (hb hby d10_29) rfl ?_
    refine XS.lcmp X2.here hx rfl (hb hby d10_30) rfl ?_
    show Steps p.tables e below (T2.setTop (mkF m 31 #[va o0, vl q5, ss, vi 0, vi 2, vi 1] [(.int (lcmpW q4 q5))])) _
    refine XS.ifNo X2.here hx rfl (hb hby d10_31) rfl (own_lc_ltT hc0).2 ?_
    refine XS.iload X2.here hx rfl (hb hby d10_34) rfl ?_
    refine XS.iconst X2.here hx rfl (hb hby d10_36) ?_
    refine XS.iadd X2.here hx rfl (hb hby d10_37) rfl ?_
    show Steps p.tables e below (T2.setTop (mkF m 38 #[va o0, vl q5, ss, vi 0, vi 2, vi 1] [(.int ((1 : Int32) + (1 : Int32)))])) _
    rw [show (((1 : Int32) + (1 : Int32)) : Int32) = (2 : Int32) from by decide]
    refine XS.istoreN X2.here hx rfl (hb hby d10_38) rfl (l' := #[va o0, vl q5, ss, vi 2, vi 2, vi 1]) rfl ?_
    refine XS.goto X2.here hx rfl (pc0 := 39) (pc' := 46) rfl (hb hby d10_39) (by decide) (by decide) ?_
    refine XS.goto X2.here hx rfl (pc0 := 46) (pc' := 8) rfl (hb hby d10_46) (by decide) (by decide) ?_
    refine XS.iloadN X2.here hx rfl (hb hby d10_8) rfl ?_
    refine XS.iload X2.here hx rfl (hb hby d10_9) rfl ?_
    refine XS.icmpYes X2.here hx rfl (pc0 := 11) (pc' := 49) rfl (hb hby d10_11) rfl (flt (by decide : ¬ ((2 : Int32) < (2 : Int32)))).2.1 (by decide) (by decide) ?_
    refine XS.iloadN X2.here hx rfl (hb hby d10_49) rfl ?_
    show Steps p.tables e below (T2.setTop (mkF m 50 #[va o0, vl q5, ss, vi 2, vi 2, vi 1] [(.int 2)])) _
    exact retOut X2 hx (t := .int) (i := .ireturn) hrt rfl (Or.inl ⟨rfl, Or.inl rfl, _, rfl⟩) (hb hby d10_50) hr
  · show Q10_5 Z w_NONE o0 o1 o2 kk_o1 kk_o2 q5 q0 q1 q2 q3 q4 h0 n0 (some (.int 2)) T2.heap _
    exact (⟨rfl, N0, e2⟩)
theorem d17_10 : decode prog_55_method_10_code 10 = .ok (.istore 5, 2) := by decide +kernel
theorem d17_12 : decode prog_55_method_10_code 12 = .ok (.iload 5, 2) := by decide +kernel
theorem d17_14 : decode prog_55_method_10_code 14 = .ok (.aload_n 0, 1) := by decide +kernel
theorem d17_15 : decode prog_55_method_10_code 15 = .ok (.getfield 34, 3) := by decide +kernel
theorem d17_18 : decode prog_55_method_10_code 18 = .ok (.if_icmp .eq 15, 3) := by decide +kernel
theorem d17_33 : decode prog_55_method_10_code 33 = .ok (.return_, 1) := by decide +kernel
def Q17_0 (Z : State) (w_NONE : Addr) (o0 : Addr) (o1 : Addr) (o2 : Addr) (kk_o1 : ClassId) (kk_o2 : ClassId) (q5 : Int64) (q0 : Int64) (q1 : Int64) (q2 : Int64) (q3 : Int64) (q4 : Int64) (h0 : Heap) (n0 : Nat) (v : Option Value) (h : Heap) (L : List Loc) : Prop := v = none ∧ Fr n0 L ∧ h = h0
theorem rm17_0 (l : Launch) (Z : State) (a0 : Array Value) (hw : HW Z a0) (ws : List Jvm.Cond) (w_NONE : Addr) (o0 : Addr) (o1 : Addr) (o2 : Addr) (kk_o1 : ClassId) (kk_o2 : ClassId) (q5 : Int64) (q0 : Int64) (q1 : Int64) (q2 : Int64) (q3 : Int64) (q4 : Int64) (h0 : Heap) (n0 : Nat) (O0 : Old Z n0 h0) (S : SF Z w_NONE) (E_o0 : Exa Z h0 o0 sC0) (F_lasts_o0 : Fld Z h0 o0 sC0 "lasts" "[J" (.ref o2)) (F_ranges_o0 : Fld Z h0 o0 sC0 "ranges" "I" (.int 2)) (V_o2 : Arv Z h0 o2 kk_o2 .long (4 : Int32) [(.long q3), (.long q4), (.long 0), (.long 0)] (.long 0)) (hc0 : ¬ (q5 < (0 : Int64))) (hc1 : ¬ ((9223372036854775806 : Int64) < q5)) (hc2 : q4 < q5) :
    Pay l Z My17 ws prog_55_method_10_code 12 none #[(.ref o0), (.long q5), (.long 9223372036854775806)] h0 ({ frames := 1, cells := 0, slots := 0, locals := 17 } : Room) (Q17_0 Z w_NONE o0 o1 o2 kk_o1 kk_o2 q5 q0 q1 q2 q3 q4 h0 n0) := by
  refine own_body (plainFor_of_name pn_1) (L0 := #[va o0, vl q5, ss, vl 9223372036854775806, ss, uu, uu, uu, uu, uu, uu, uu]) (fun _ => by first | rfl | (simp [entryFrame, mkF, argsToLocals, Value.category]; done)) ?_
  intro p e s m below meth c s₁ hrt hlk hx hby hml hZ hown0 hnm X0 e0
  have hown : s.vm.findClass sC0 = some m.cls := hown0
  have N0 := Fr.nil n0
  have K0 : Keep h0 h0 [] := Keep.refl _ _
  obtain ⟨_, _, ⟨T1, L1, k1, n1⟩, -, X1, ⟨Lc1, hQ1, l1, y1, z1⟩, st1⟩ := Jvm.LawKit.callS X0 hx (y := My9) hown (mvT hZ (ww hw 46 rfl)) (mvT hZ (ww hw 47 rfl)) (mvT hZ (ww hw 15 rfl)) (mvT hZ (ww hw 48 rfl)) (by decide) (backOf (W := 0) (rm9_1 l Z a0 hw [] w_NONE q5 h0 n0 O0 S hc0 hc1) hZ (ww hw 48 rfl) (ww hw 15 rfl) (by decide) (by decide)) (g := (mkF m 2 #[va o0, vl q5, ss, vl 9223372036854775806, ss, uu, uu, uu, uu, uu, uu, uu] [(.long 9223372036854775806), (.long q5)])) rfl (by rw [hml]; rfl) (argsL := [(.long q5), (.long 9223372036854775806)]) (rest := []) (lenOf pd_4 rfl) rfl (by show 2 * 0 + _ ≤ _; exact Nat.le_of_eq rfl) (hb hby d17_2) (fun _ _ => ⟨rfl, e0, (by decide : 0 + 0 ≤ _), (by decide : 0 + 0 ≤ _)⟩)
  dsimp only [Pt.U, Pt.locs, Pt.cells, Pt.slots] at X1 l1 y1 z1 st1 hQ1
  subst l1 y1 z1
  obtain ⟨rfl, Nq1, e1⟩ := hQ1
  have N1 := Fr.app N0 Nq1
  obtain ⟨cq2, qa2, qb2⟩ := E_o0.cell
  obtain ⟨_, _, ⟨T2, L2, k2, n2⟩, -, X2, ⟨Lc2, hQ2, l2, y2, z2⟩, st2⟩ := X1.privateBack hx (y := My10) hown (mvT hZ (ww hw 49 rfl)) (mvT hZ (ww hw 50 rfl)) (own_selp (by decide) (mvT hZ (ww hw 14 rfl)) (mvP hZ (ww hw 51 rfl)) (mvT hZ (ww hw 50 rfl))) (Cond.privateMethod_at (mvP hZ (ww hw 51 rfl) (args := #[]))) (mvT hZ (ww hw 52 rfl)) (by decide) (backOf (W := 0) (rm10_5 l Z a0 hw [] w_NONE o0 o1 o2 kk_o1 kk_o2 q5 q0 q1 q2 q3 q4 h0 n0 O0 S F_lasts_o0 F_ranges_o0 V_o2 hc2) hZ (ww hw 52 rfl) (ww hw 15 rfl) (by decide) (by decide)) (g := (mkF m 7 #[va o0, vl q5, ss, vl 9223372036854775806, ss, uu, uu, uu, uu, uu, uu, uu] [(.long q5), (.ref o0)])) rfl (by rw [hml]; rfl) (Steps.refl _) (a := o0) (by rw [e1]; exact qa2) qb2 (argsL := [(.long q5)]) (rest := []) (lenOf pd_5 rfl) rfl (by show 2 * 0 + _ ≤ _; exact Nat.le_of_eq rfl) (hb hby d17_7) (fun _ _ => ⟨rfl, e1, (by decide : 0 + 0 ≤ _), (by decide : 0 + 0 ≤ _)⟩)
  dsimp only [Pt.U, Pt.locs, Pt.cells, Pt.slots] at X2 l2 y2 z2 st2 hQ2
  subst l2 y2 z2
  obtain ⟨rfl, Nq2, e2⟩ := hQ2
  have N2 := Fr.app N1 Nq2
  obtain ⟨T3, X3, e3, st3⟩ := getF X2 hx hZ hown (host := "") (Or.inl (ww hw 39 rfl)) Via.refl e2 F_ranges_o0 (g := (mkF m 15 #[va o0, vl q5, ss, vl 9223372036854775806, ss, vi 2, uu, uu, uu, uu, uu, uu] [(.ref o0), (.int 2)])) rfl rfl (hb hby d17_15)
  obtain ⟨fs, hr, hrun, hended, hW, hsame⟩ := X3.leave (v := none) (fun _ => rfl)
  refine ⟨_, _, ?_, hrun, hended, _, _, rfl, ?_, ⟨_, rfl⟩, hW, hsame.mono (by decide) (by decide)⟩
  · show Steps p.tables e below (s₁.setTop (mkF m 0 #[va o0, vl q5, ss, vl 9223372036854775806, ss, uu, uu, uu, uu, uu, uu, uu] [])) _
    refine XS.lloadN X0.here hx rfl (hb hby d17_0) rfl ?_
    refine XS.lloadN X0.here hx rfl (hb hby d17_1) rfl ?_
    refine st1 _ ?_
    refine XS.aloadN X1.here hx rfl (hb hby d17_5) rfl rfl ?_
    refine XS.lloadN X1.here hx rfl (hb hby d17_6) rfl ?_
    refine st2.trans ?_
    refine XS.istore X2.here hx rfl (hb hby d17_10) rfl (l' := #[va o0, vl q5, ss, vl 9223372036854775806, ss, vi 2, uu, uu, uu, uu, uu, uu]) rfl ?_
    refine XS.iload X2.here hx rfl (hb hby d17_12) rfl ?_
    show Steps p.tables e below (T2.setTop (mkF m 14 #[va o0, vl q5, ss, vl 9223372036854775806, ss, vi 2, uu, uu, uu, uu, uu, uu] [(.int 2)])) _
    refine XS.aloadN X2.here hx rfl (hb hby d17_14) rfl rfl ?_
    refine st3 _ ?_
    refine XS.icmpYes X3.here hx rfl (pc0 := 18) (pc' := 33) rfl (hb hby d17_18) rfl (teq (by decide : (2 : Int32) = (2 : Int32))).1 (by decide) (by decide) ?_
    exact X3.returnOut hx hrt (hb hby d17_33) hr
  · show Q17_0 Z w_NONE o0 o1 o2 kk_o1 kk_o2 q5 q0 q1 q2 q3 q4 h0 n0 none T3.heap _
    exact (⟨rfl, N2, e3⟩)
def Q10_6 (Z : State) (w_NONE : Addr) (o0 : Addr) (o1 : Addr) (o2 : Addr) (kk_o1 : ClassId) (kk_o2 : ClassId) (q5 : Int64) (q0 : Int64) (q1 : Int64) (q2 : Int64) (q3 : Int64) (q4 : Int64) (h0 : Heap) (n0 : Nat) (v : Option Value) (h : Heap) (L : List Loc) : Prop := v = (some (.int 0)) ∧ Fr n0 L ∧ h = h0
theorem rm10_6 (l : Launch) (Z : State) (a0 : Array Value) (hw : HW Z a0) (ws : List Jvm.Cond) (w_NONE : Addr) (o0 : Addr) (o1 : Addr) (o2 : Addr) (kk_o1 : ClassId) (kk_o2 : ClassId) (q5 : Int64) (q0 : Int64) (q1 : Int64) (q2 : Int64) (q3 : Int64) (q4 : Int64) (h0 : Heap) (n0 : Nat) (O0 : Old Z n0 h0) (S : SF Z w_NONE) (F_lasts_o0 : Fld Z h0 o0 sC0 "lasts" "[J" (.ref o2)) (F_ranges_o0 : Fld Z h0 o0 sC0 "ranges" "I" (.int 2)) (V_o2 : Arv Z h0 o2 kk_o2 .long (4 : Int32) [(.long q3), (.long q4), (.long 0), (.long 0)] (.long 0)) (hc0 : ¬ (q4 < q5)) (hc1 : ¬ (q3 < q5)) :
    Pay l Z My10 ws prog_55_method_19_code 6 (some .int) #[(.ref o0), (.long q5)] h0 ({ frames := 0, cells := 0, slots := 0, locals := 0 } : Room) (Q10_6 Z w_NONE o0 o1 o2 kk_o1 kk_o2 q5 q0 q1 q2 q3 q4 h0 n0) := by
  refine own_body (plainFor_of_name pn_1) (L0 := #[va o0, vl q5, ss, uu, uu, uu]) (fun _ => by first | rfl | (simp [entryFrame, mkF, argsToLocals, Value.category]; done)) ?_
  intro p e s m below meth c s₁ hrt hlk hx hby hml hZ hown0 hnm X0 e0
  have hown : s.vm.findClass sC0 = some m.cls := hown0
  have N0 := Fr.nil n0
  have K0 : Keep h0 h0 [] := Keep.refl _ _
  obtain ⟨T1, X1, e1, st1⟩ := getF X0 hx hZ hown (host := "") (Or.inl (ww hw 39 rfl)) Via.refl e0 F_ranges_o0 (g := (mkF m 3 #[va o0, vl q5, ss, vi 0, uu, uu] [(.ref o0)])) rfl rfl (hb hby d10_3)
  obtain ⟨T2, X2, e2, st2⟩ := getF X1 hx hZ hown (host := "") (Or.inl (ww hw 30 rfl)) Via.refl e1 F_lasts_o0 (g := (mkF m 23 #[va o0, vl q5, ss, vi 0, vi 2, vi 1] [(.ref o0)])) rfl rfl (hb hby d10_23)
  obtain ⟨cl3, Ar3, qk3, Sz3, Ng3, Hh3, Gg3⟩ := id V_o2
  have hin3_1 : ¬ ((1 : Int32) < 0 ∨ cl3.slots.size ≤ ((1 : Int32)).toNatClampNeg) := inb_of Sz3 ⟨by decide, by decide⟩
  obtain ⟨T4, X4, e4, st4⟩ := getF X2 hx hZ hown (host := "") (Or.inl (ww hw 30 rfl)) Via.refl e2 F_lasts_o0 (g := (mkF m 23 #[va o0, vl q5, ss, vi 0, vi 1, vi 0] [(.ref o0)])) rfl rfl (hb hby d10_23)
  have hin3_0 : ¬ ((0 : Int32) < 0 ∨ cl3.slots.size ≤ ((0 : Int32)).toNatClampNeg) := inb_of Sz3 ⟨by decide, by decide⟩
  obtain ⟨fs, hr, hrun, hended, hW, hsame⟩ := X4.leave (v := (some (.int 0))) (fun h => by rw [hrt] at h; cases h)
  refine ⟨_, _, ?_, hrun, hended, _, _, rfl, ?_, ⟨_, rfl⟩, hW, hsame.mono (by decide) (by decide)⟩
  · show Steps p.tables e below (s₁.setTop (mkF m 0 #[va o0, vl q5, ss, uu, uu, uu] [])) _
    refine XS.iconst X0.here hx rfl (hb hby d10_0) ?_
    refine XS.istoreN X0.here hx rfl (hb hby d10_1) rfl (l' := #[va o0, vl q5, ss, vi 0, uu, uu]) rfl ?_
    refine XS.aloadN X0.here hx rfl (hb hby d10_2) rfl rfl ?_
    refine st1 _ ?_
    refine XS.istore X1.here hx rfl (hb hby d10_6) rfl (l' := #[va o0, vl q5, ss, vi 0, vi 2, uu]) rfl ?_
    refine XS.iloadN X1.here hx rfl (hb hby d10_8) rfl ?_
    refine XS.iload X1.here hx rfl (hb hby d10_9) rfl ?_
    refine XS.icmpNo X1.here hx rfl (hb hby d10_11) rfl (tlt (by decide : (0 : Int32) < (2 : Int32))).2.1 ?_
    show Steps p.tables e below (T1.setTop (mkF m 14 #[va o0, vl q5, ss, vi 0, vi 2, uu] [])) _
    refine XS.iloadN X1.here hx rfl (hb hby d10_14) rfl ?_
    refine XS.iload X1.here hx rfl (hb hby d10_15) rfl ?_
    refine XS.iadd X1.here hx rfl (hb hby d10_17) rfl ?_
    show Steps p.tables e below (T1.setTop (mkF m 18 #[va o0, vl q5, ss, vi 0, vi 2, uu] [(.int ((0 : Int32) + (2 : Int32)))])) _
    rw [show (((0 : Int32) + (2 : Int32)) : Int32) = (2 : Int32) from by decide]
    refine XS.iconst X1.here hx rfl (hb hby d10_18) ?_
    refine XS.iushr X1.here hx rfl (hb hby d10_19) rfl ?_
    show Steps p.tables e below (T1.setTop (mkF m 20 #[va o0, vl q5, ss, vi 0, vi 2, uu] [(.int (((2 : Int32).toUInt32 >>> ((1 : Int32) &&& 31).toUInt32).toInt32))])) _
    rw [show ((((2 : Int32).toUInt32 >>> ((1 : Int32) &&& 31).toUInt32).toInt32) : Int32) = (1 : Int32) from by decide]
    refine XS.istore X1.here hx rfl (hb hby d10_20) rfl (l' := #[va o0, vl q5, ss, vi 0, vi 2, vi 1]) rfl ?_
    refine XS.aloadN X1.here hx rfl (hb hby d10_22) rfl rfl ?_
    refine st2 _ ?_
    refine XS.iload X2.here hx rfl (hb hby d10_26) rfl ?_
    refine X2.laload hx (j := (1 : Int32)) (v := (.long q4)) (by rw [e2]; exact Ar3.1) (State.isArrayOf_alike hZ.alike Ar3.2.1) Ar3.2.2 hin3_1 (Has.at Hh3 hin3_1 rfl) (g := (mkF m 28 #[va o0, vl q5, ss, vi 0, vi 2, vi 1] [(.int 1), (.ref o2)])) rfl rfl (hb hby d10_28) _ ?_
    refine XS.lloadN X2.here hx rfl (hb hby d10_29) rfl ?_
    refine XS.lcmp X2.here hx rfl (hb hby d10_30) rfl ?_
    show Steps p.tables e below (T2.setTop (mkF m 31 #[va o0, vl q5, ss, vi 0, vi 2, vi 1] [(.int (lcmpW q4 q5))])) _
    refine XS.ifYes X2.here hx rfl (pc0 := 31) (pc' := 42) rfl (hb hby d10_31) rfl (own_lc_ltF hc0).2 (by decide) (by decide) ?_
    refine XS.iload X2.here hx rfl (hb hby d10_42) rfl ?_
    refine XS.istore X2.here hx rfl (hb hby d10_44) rfl (l' := #[va o0, vl q5, ss, vi 0, vi 1, vi 1]) rfl ?_
    refine XS.goto X2.here hx rfl (pc0 := 46) (pc' := 8) rfl (hb hby d10_46) (by decide) (by decide) ?_
    refine XS.iloadN X2.here hx rfl (hb hby d10_8) rfl ?_
    refine XS.iload X2.here hx rfl (hb hby d10_9) rfl ?_
    refine XS.icmpNo X2.here hx rfl (hb hby d10_11) rfl (tlt (by decide : (0 : Int32) < (1 : Int32))).2.1 ?_
    refine XS.iloadN X2.here hx rfl (hb hby d10_14) rfl ?_
    show Steps p.tables e below (T2.setTop (mkF m 15 #[va o0, vl q5, ss, vi 0, vi 1, vi 1] [(.int 0)])) _
    refine XS.iload X2.here hx rfl (hb hby d10_15) rfl ?_
    refine XS.iadd X2.here hx rfl (hb hby d10_17) rfl ?_
    show Steps p.tables e below (T2.setTop (mkF m 18 #[va o0, vl q5, ss, vi 0, vi 1, vi 1] [(.int ((0 : Int32) + (1 : Int32)))])) _
    rw [show (((0 : Int32) + (1 : Int32)) : Int32) = (1 : Int32) from by decide]
    refine XS.iconst X2.here hx rfl (hb hby d10_18) ?_
    refine XS.iushr X2.here hx rfl (hb hby d10_19) rfl ?_
    show Steps p.tables e below (T2.setTop (mkF m 20 #[va o0, vl q5, ss, vi 0, vi 1, vi 1] [(.int (((1 : Int32).toUInt32 >>> ((1 : Int32) &&& 31).toUInt32).toInt32))])) _
    rw [show ((((1 : Int32).toUInt32 >>> ((1 : Int32) &&& 31).toUInt32).toInt32) : Int32) = (0 : Int32) from by decide]
    refine XS.istore X2.here hx rfl (hb hby d10_20) rfl (l' := #[va o0, vl q5, ss, vi 0, vi 1, vi 0]) rfl ?_
    refine XS.aloadN X2.here hx rfl (hb hby d10_22) rfl rfl ?_
    refine st4 _ ?_
    refine XS.iload X4.here hx rfl (hb hby d10_26) rfl ?_
    refine X4.laload hx (j := (0 : Int32)) (v := (.long q3)) (by rw [e4]; exact Ar3.1) (State.isArrayOf_alike hZ.alike Ar3.2.1) Ar3.2.2 hin3_0 (Has.at Hh3 hin3_0 rfl) (g := (mkF m 28 #[va o0, vl q5, ss, vi 0, vi 1, vi 0] [(.int 0), (.ref o2)])) rfl rfl (hb hby d10_28) _ ?_
    refine XS.lloadN X4.here hx rfl (hb hby d10_29) rfl ?_
    refine XS.lcmp X4.here hx rfl (hb hby d10_30) rfl ?_
    show Steps p.tables e below (T4.setTop (mkF m 31 #[va o0, vl q5, ss, vi 0, vi 1, vi 0] [(.int (lcmpW q3 q5))])) _
    refine XS.ifYes X4.here hx rfl (pc0 := 31) (pc' := 42) rfl (hb hby d10_31) rfl (own_lc_ltF hc1).2 (by decide) (by decide) ?_
    refine XS.iload X4.here hx rfl (hb hby d10_42) rfl ?_
    refine XS.istore X4.here hx rfl (hb hby d10_44) rfl (l' := #[va o0, vl q5, ss, vi 0, vi 0, vi 0]) rfl ?_
    refine XS.goto X4.here hx rfl (pc0 := 46) (pc' := 8) rfl (hb hby d10_46) (by decide) (by decide) ?_
    refine XS.iloadN X4.here hx rfl (hb hby d10_8) rfl ?_
    refine XS.iload X4.here hx rfl (hb hby d10_9) rfl ?_
    refine XS.icmpYes X4.here hx rfl (pc0 := 11) (pc' := 49) rfl (hb hby d10_11) rfl (flt (by decide : ¬ ((0 : Int32) < (0 : Int32)))).2.1 (by decide) (by decide) ?_
    refine XS.iloadN X4.here hx rfl (hb hby d10_49) rfl ?_
    show Steps p.tables e below (T4.setTop (mkF m 50 #[va o0, vl q5, ss, vi 0, vi 0, vi 0] [(.int 0)])) _
    exact retOut X4 hx (t := .int) (i := .ireturn) hrt rfl (Or.inl ⟨rfl, Or.inl rfl, _, rfl⟩) (hb hby d10_50) hr
  · show Q10_6 Z w_NONE o0 o1 o2 kk_o1 kk_o2 q5 q0 q1 q2 q3 q4 h0 n0 (some (.int 0)) T4.heap _
    exact (⟨rfl, N0, e4⟩)
theorem d17_21 : decode prog_55_method_10_code 21 = .ok (.aload_n 0, 1) := by decide +kernel
theorem d17_22 : decode prog_55_method_10_code 22 = .ok (.getfield 19, 3) := by decide +kernel
theorem d17_25 : decode prog_55_method_10_code 25 = .ok (.iload 5, 2) := by decide +kernel
theorem d17_27 : decode prog_55_method_10_code 27 = .ok (.laload, 1) := by decide +kernel
theorem d17_28 : decode prog_55_method_10_code 28 = .ok (.lload_n 3, 1) := by decide +kernel
theorem d17_29 : decode prog_55_method_10_code 29 = .ok (.lcmp, 1) := by decide +kernel
theorem d17_30 : decode prog_55_method_10_code 30 = .ok (.ifCond .le 4, 3) := by decide +kernel
theorem d17_34 : decode prog_55_method_10_code 34 = .ok (.aload_n 0, 1) := by decide +kernel
theorem d17_35 : decode prog_55_method_10_code 35 = .ok (.getfield 19, 3) := by decide +kernel
theorem d17_38 : decode prog_55_method_10_code 38 = .ok (.iload 5, 2) := by decide +kernel
theorem d17_40 : decode prog_55_method_10_code 40 = .ok (.laload, 1) := by decide +kernel
theorem d17_41 : decode prog_55_method_10_code 41 = .ok (.lload_n 1, 1) := by decide +kernel
theorem d17_42 : decode prog_55_method_10_code 42 = .ok (.lcmp, 1) := by decide +kernel
theorem d17_43 : decode prog_55_method_10_code 43 = .ok (.ifCond .ge 75, 3) := by decide +kernel
theorem d17_118 : decode prog_55_method_10_code 118 = .ok (.iload 5, 2) := by decide +kernel
theorem d17_120 : decode prog_55_method_10_code 120 = .ok (.istore 6, 2) := by decide +kernel
theorem d17_122 : decode prog_55_method_10_code 122 = .ok (.iload 6, 2) := by decide +kernel
theorem d17_124 : decode prog_55_method_10_code 124 = .ok (.aload_n 0, 1) := by decide +kernel
theorem d17_125 : decode prog_55_method_10_code 125 = .ok (.getfield 34, 3) := by decide +kernel
theorem d17_128 : decode prog_55_method_10_code 128 = .ok (.if_icmp .ge 21, 3) := by decide +kernel
theorem d17_131 : decode prog_55_method_10_code 131 = .ok (.aload_n 0, 1) := by decide +kernel
theorem d17_132 : decode prog_55_method_10_code 132 = .ok (.getfield 19, 3) := by decide +kernel
theorem d17_135 : decode prog_55_method_10_code 135 = .ok (.iload 6, 2) := by decide +kernel
theorem d17_137 : decode prog_55_method_10_code 137 = .ok (.laload, 1) := by decide +kernel
theorem d17_138 : decode prog_55_method_10_code 138 = .ok (.lload_n 3, 1) := by decide +kernel
theorem d17_139 : decode prog_55_method_10_code 139 = .ok (.lcmp, 1) := by decide +kernel
theorem d17_140 : decode prog_55_method_10_code 140 = .ok (.ifCond .gt 9, 3) := by decide +kernel
theorem d17_143 : decode prog_55_method_10_code 143 = .ok (.iinc 6 1, 3) := by decide +kernel
theorem d17_146 : decode prog_55_method_10_code 146 = .ok (.goto (-24), 3) := by decide +kernel
theorem d17_149 : decode prog_55_method_10_code 149 = .ok (.iload 5, 2) := by decide +kernel
theorem d17_151 : decode prog_55_method_10_code 151 = .ok (.istore 7, 2) := by decide +kernel
theorem d17_153 : decode prog_55_method_10_code 153 = .ok (.iload 6, 2) := by decide +kernel
theorem d17_155 : decode prog_55_method_10_code 155 = .ok (.istore 8, 2) := by decide +kernel
theorem d17_157 : decode prog_55_method_10_code 157 = .ok (.lconst 0, 1) := by decide +kernel
theorem d17_158 : decode prog_55_method_10_code 158 = .ok (.lstore 9, 2) := by decide +kernel
theorem d17_160 : decode prog_55_method_10_code 160 = .ok (.aload_n 0, 1) := by decide +kernel
theorem d17_161 : decode prog_55_method_10_code 161 = .ok (.getfield 19, 3) := by decide +kernel
theorem d17_164 : decode prog_55_method_10_code 164 = .ok (.iload 5, 2) := by decide +kernel
theorem d17_166 : decode prog_55_method_10_code 166 = .ok (.laload, 1) := by decide +kernel
theorem d17_167 : decode prog_55_method_10_code 167 = .ok (.lload_n 1, 1) := by decide +kernel
theorem d17_168 : decode prog_55_method_10_code 168 = .ok (.lcmp, 1) := by decide +kernel
theorem d17_169 : decode prog_55_method_10_code 169 = .ok (.ifCond .ge 32, 3) := by decide +kernel
theorem d17_201 : decode prog_55_method_10_code 201 = .ok (.iload 7, 2) := by decide +kernel
theorem d17_203 : decode prog_55_method_10_code 203 = .ok (.iload 8, 2) := by decide +kernel
theorem d17_205 : decode prog_55_method_10_code 205 = .ok (.if_icmp .ge 50, 3) := by decide +kernel
theorem d17_208 : decode prog_55_method_10_code 208 = .ok (.aload_n 0, 1) := by decide +kernel
theorem d17_209 : decode prog_55_method_10_code 209 = .ok (.getfield 22, 3) := by decide +kernel
theorem d17_212 : decode prog_55_method_10_code 212 = .ok (.iload 6, 2) := by decide +kernel
theorem d17_214 : decode prog_55_method_10_code 214 = .ok (.iconst 1, 1) := by decide +kernel
theorem d17_215 : decode prog_55_method_10_code 215 = .ok (.isub, 1) := by decide +kernel
theorem d17_216 : decode prog_55_method_10_code 216 = .ok (.laload, 1) := by decide +kernel
theorem d17_217 : decode prog_55_method_10_code 217 = .ok (.lload_n 3, 1) := by decide +kernel
theorem d17_218 : decode prog_55_method_10_code 218 = .ok (.lcmp, 1) := by decide +kernel
theorem d17_219 : decode prog_55_method_10_code 219 = .ok (.ifCond .le 36, 3) := by decide +kernel
theorem d17_255 : decode prog_55_method_10_code 255 = .ok (.iload 7, 2) := by decide +kernel
theorem d17_257 : decode prog_55_method_10_code 257 = .ok (.istore 11, 2) := by decide +kernel
theorem d17_259 : decode prog_55_method_10_code 259 = .ok (.iload 11, 2) := by decide +kernel
theorem d17_261 : decode prog_55_method_10_code 261 = .ok (.iload 8, 2) := by decide +kernel
theorem d17_263 : decode prog_55_method_10_code 263 = .ok (.if_icmp .ge 31, 3) := by decide +kernel
theorem d17_266 : decode prog_55_method_10_code 266 = .ok (.lload 9, 2) := by decide +kernel
theorem d17_268 : decode prog_55_method_10_code 268 = .ok (.aload_n 0, 1) := by decide +kernel
theorem d17_269 : decode prog_55_method_10_code 269 = .ok (.getfield 22, 3) := by decide +kernel
theorem d17_272 : decode prog_55_method_10_code 272 = .ok (.iload 11, 2) := by decide +kernel
theorem d17_274 : decode prog_55_method_10_code 274 = .ok (.laload, 1) := by decide +kernel
theorem d17_275 : decode prog_55_method_10_code 275 = .ok (.aload_n 0, 1) := by decide +kernel
theorem d17_276 : decode prog_55_method_10_code 276 = .ok (.getfield 19, 3) := by decide +kernel
theorem d17_279 : decode prog_55_method_10_code 279 = .ok (.iload 11, 2) := by decide +kernel
theorem d17_281 : decode prog_55_method_10_code 281 = .ok (.laload, 1) := by decide +kernel
theorem d17_282 : decode prog_55_method_10_code 282 = .ok (.lsub, 1) := by decide +kernel
theorem d17_283 : decode prog_55_method_10_code 283 = .ok (.lconst 1, 1) := by decide +kernel
theorem d17_284 : decode prog_55_method_10_code 284 = .ok (.ladd, 1) := by decide +kernel
theorem d17_285 : decode prog_55_method_10_code 285 = .ok (.ladd, 1) := by decide +kernel
theorem d17_286 : decode prog_55_method_10_code 286 = .ok (.lstore 9, 2) := by decide +kernel
theorem d17_288 : decode prog_55_method_10_code 288 = .ok (.iinc 11 1, 3) := by decide +kernel
theorem d17_291 : decode prog_55_method_10_code 291 = .ok (.goto (-32), 3) := by decide +kernel
theorem d17_294 : decode prog_55_method_10_code 294 = .ok (.aload_n 0, 1) := by decide +kernel
theorem d17_295 : decode prog_55_method_10_code 295 = .ok (.iload 7, 2) := by decide +kernel
theorem d17_297 : decode prog_55_method_10_code 297 = .ok (.iload 8, 2) := by decide +kernel
theorem d17_299 : decode prog_55_method_10_code 299 = .ok (.iload 7, 2) := by decide +kernel
theorem d17_301 : decode prog_55_method_10_code 301 = .ok (.isub, 1) := by decide +kernel
theorem d17_302 : decode prog_55_method_10_code 302 = .ok (.invokevirtual 68, 3) := by decide +kernel
def Q16_1 (Z : State) (w_NONE : Addr) (o0 : Addr) (o1 : Addr) (o2 : Addr) (kk_o1 : ClassId) (kk_o2 : ClassId) (q0 : Int64) (q1 : Int64) (q2 : Int64) (q3 : Int64) (q4 : Int64) (h0 : Heap) (n0 : Nat) (v : Option Value) (h : Heap) (L : List Loc) : Prop := v = none ∧ Fr n0 L ∧ Keep h0 h [o1, o2, o0] ∧ Exa Z h o0 sC0 ∧ Fld Z h o0 sC0 "count" "J" (.long q0) ∧ Fld Z h o0 sC0 "firsts" "[J" (.ref o1) ∧ Fld Z h o0 sC0 "lasts" "[J" (.ref o2) ∧ Fld Z h o0 sC0 "maxRanges" "I" (.int 2147483647) ∧ Fld Z h o0 sC0 "ranges" "I" (.int 0) ∧ Arv Z h o1 kk_o1 .long (4 : Int32) [(.long q1), (.long q2), (.long 0), (.long 0)] (.long 0) ∧ Arv Z h o2 kk_o2 .long (4 : Int32) [(.long q3), (.long q4), (.long 0), (.long 0)] (.long 0)
theorem rm16_1 (l : Launch) (Z : State) (a0 : Array Value) (hw : HW Z a0) (ws : List Jvm.Cond) (w_NONE : Addr) (o0 : Addr) (o1 : Addr) (o2 : Addr) (kk_o1 : ClassId) (kk_o2 : ClassId) (q0 : Int64) (q1 : Int64) (q2 : Int64) (q3 : Int64) (q4 : Int64) (h0 : Heap) (n0 : Nat) (O0 : Old Z n0 h0) (S : SF Z w_NONE) (E_o0 : Exa Z h0 o0 sC0) (F_count_o0 : Fld Z h0 o0 sC0 "count" "J" (.long q0)) (F_firsts_o0 : Fld Z h0 o0 sC0 "firsts" "[J" (.ref o1)) (F_lasts_o0 : Fld Z h0 o0 sC0 "lasts" "[J" (.ref o2)) (F_maxRanges_o0 : Fld Z h0 o0 sC0 "maxRanges" "I" (.int 2147483647)) (F_ranges_o0 : Fld Z h0 o0 sC0 "ranges" "I" (.int 2)) (V_o1 : Arv Z h0 o1 kk_o1 .long (4 : Int32) [(.long q1), (.long q2), (.long 0), (.long 0)] (.long 0)) (V_o2 : Arv Z h0 o2 kk_o2 .long (4 : Int32) [(.long q3), (.long q4), (.long 0), (.long 0)] (.long 0)) (ne_o0_o1 : o0 ≠ o1) (ne_o0_o2 : o0 ≠ o2) (ne_o1_o2 : o1 ≠ o2) (g_o0 : n0 ≤ o0) (g_o1 : n0 ≤ o1) (g_o2 : n0 ≤ o2) :
    Pay l Z My16 ws prog_55_method_22_code 3 none #[(.ref o0), (.int 0), (.int 2)] h0 ({ frames := 1, cells := 0, slots := 0, locals := 18 } : Room) (Q16_1 Z w_NONE o0 o1 o2 kk_o1 kk_o2 q0 q1 q2 q3 q4 h0 n0) := by
  refine own_body (plainFor_of_name pn_1) (L0 := #[va o0, vi 0, vi 2]) (fun _ => by first | rfl | (simp [entryFrame, mkF, argsToLocals, Value.category]; done)) ?_
  intro p e s m below meth c s₁ hrt hlk hx hby hml hZ hown0 hnm X0 e0
  have hown : s.vm.findClass sC0 = some m.cls := hown0
  have N0 := Fr.nil n0
  have K0 : Keep h0 h0 [o1, o2, o0] := Keep.refl _ _
  obtain ⟨T1, X1, e1, st1⟩ := getF X0 hx hZ hown (host := "") (Or.inl (ww hw 28 rfl)) Via.refl e0 F_firsts_o0 (g := (mkF m 1 #[va o0, vi 0, vi 2] [(.ref o0)])) rfl rfl (hb hby d16_1)
  obtain ⟨T2, X2, e2, st2⟩ := getF X1 hx hZ hown (host := "") (Or.inl (ww hw 28 rfl)) Via.refl e1 F_firsts_o0 (g := (mkF m 8 #[va o0, vi 0, vi 2] [(.ref o0), (.int 2), (.ref o1)])) rfl rfl (hb hby d16_8)
  obtain ⟨T3, X3, e3, st3⟩ := getF X2 hx hZ hown (host := "") (Or.inl (ww hw 39 rfl)) Via.refl e2 F_ranges_o0 (g := (mkF m 13 #[va o0, vi 0, vi 2] [(.ref o0), (.int 0), (.ref o1), (.int 2), (.ref o1)])) rfl rfl (hb hby d16_13)
  obtain ⟨T4, h4, L4, X4, e4, N4, Kc4, Vc4, st4⟩ := cpA X3 hx hZ hown (ww hw 72 rfl) (ww hw 71 rfl) (ww hw 69 rfl) (ww hw 70 rfl) e3 V_o1 V_o1 (us := []) (Or.inl ⟨rfl, rfl⟩) (sp := (2 : Int32)) (dp := (0 : Int32)) (nn := (0 : Int32)) (by decide) (by decide) (by decide) (by decide) (by decide) rfl (Nat.le_of_ble_eq_true rfl) N0 g_o1 (g := (mkF m 20 #[va o0, vi 0, vi 2] [(.int 0), (.int 0), (.ref o1), (.int 2), (.ref o1)])) rfl (by rw [hml]; rfl) (rest := []) rfl (hb hby d16_20) (by decide) (W := 0) (by show 2 * 0 + _ ≤ _; exact Nat.le_of_eq rfl) (by decide)
  have V4 : Arv Z h4 o1 kk_o1 .long (4 : Int32) [(.long q1), (.long q2), (.long 0), (.long 0)] (.long 0) := Vc4
  have O4 := O0.keep Kc4 (allS g_o1 all0)
  have K4 : Keep h0 h4 [o1, o2, o0] := K0.trans Kc4 (allS (Or.inl (List.mem_of_getElem? (i := 0) rfl)) all0)
  have fc5 := (F_lasts_o0.keep Kc4 (ninS ne_o0_o1 nin0))
  obtain ⟨T6, X6, e6, st6⟩ := getF X4 hx hZ hown (host := "") (Or.inl (ww hw 30 rfl)) Via.refl e4 fc5 (g := (mkF m 24 #[va o0, vi 0, vi 2] [(.ref o0)])) rfl rfl (hb hby d16_24)
  obtain ⟨T7, X7, e7, st7⟩ := getF X6 hx hZ hown (host := "") (Or.inl (ww hw 30 rfl)) Via.refl e6 fc5 (g := (mkF m 31 #[va o0, vi 0, vi 2] [(.ref o0), (.int 2), (.ref o2)])) rfl rfl (hb hby d16_31)
  have fc8 := (F_ranges_o0.keep Kc4 (ninS ne_o0_o1 nin0))
  obtain ⟨T9, X9, e9, st9⟩ := getF X7 hx hZ hown (host := "") (Or.inl (ww hw 39 rfl)) Via.refl e7 fc8 (g := (mkF m 36 #[va o0, vi 0, vi 2] [(.ref o0), (.int 0), (.ref o2), (.int 2), (.ref o2)])) rfl rfl (hb hby d16_36)
  have fc10 := (V_o2.keep Kc4 (ninS (Ne.symm ne_o1_o2) nin0))
  obtain ⟨T11, h11, L11, X11, e11, N11, Kc11, Vc11, st11⟩ := cpA X9 hx hZ hown (ww hw 72 rfl) (ww hw 71 rfl) (ww hw 69 rfl) (ww hw 70 rfl) e9 fc10 fc10 (us := []) (Or.inl ⟨rfl, rfl⟩) (sp := (2 : Int32)) (dp := (0 : Int32)) (nn := (0 : Int32)) (by decide) (by decide) (by decide) (by decide) (by decide) rfl (Nat.le_of_ble_eq_true rfl) N4 g_o2 (g := (mkF m 43 #[va o0, vi 0, vi 2] [(.int 0), (.int 0), (.ref o2), (.int 2), (.ref o2)])) rfl (by rw [hml]; rfl) (rest := []) rfl (hb hby d16_43) (by decide) (W := 0) (by show 2 * 0 + _ ≤ _; exact Nat.le_of_eq rfl) (by decide)
  have V11 : Arv Z h11 o2 kk_o2 .long (4 : Int32) [(.long q3), (.long q4), (.long 0), (.long 0)] (.long 0) := Vc11
  have O11 := O4.keep Kc11 (allS g_o2 all0)
  have K11 : Keep h0 h11 [o1, o2, o0] := K4.trans Kc11 (allS (Or.inl (List.mem_of_getElem? (i := 1) rfl)) all0)
  have fc12 := (fc8.keep Kc11 (ninS ne_o0_o2 nin0))
  obtain ⟨T13, X13, e13, st13⟩ := getF X11 hx hZ hown (host := "") (Or.inl (ww hw 39 rfl)) Via.refl e11 fc12 (g := (mkF m 48 #[va o0, vi 0, vi 2] [(.ref o0), (.ref o0)])) rfl rfl (hb hby d16_48)
  have fc14 := ((E_o0.keep Kc4).keep Kc11)
  obtain ⟨T15, h15, X15, e15, W15, st15⟩ := putF X13 hx hZ hown (host := "") (Or.inl (ww hw 39 rfl)) Via.refl e13 fc12 fc14 (Or.inl (ww hw 40 rfl)) (ww hw 14 rfl) (ty := .int) (by decide) rfl rfl (g := (mkF m 53 #[va o0, vi 0, vi 2] [(.int 0), (.ref o0)])) rfl rfl (hb hby d16_53)
  have Fw15 := fc12.same W15
  have O15 := O11.wr W15 g_o0
  have K15 : Keep h0 h15 [o1, o2, o0] := K11.wr W15 (Or.inl (List.mem_of_getElem? (i := 2) rfl))
  have N15 := Fr.snoc X15 N11 g_o0
  obtain ⟨fs, hr, hrun, hended, hW, hsame⟩ := X15.leave (v := none) (fun _ => rfl)
  have fc16 := (fc14.wr W15)
  have fc17 := (((F_count_o0.keep Kc4 (ninS ne_o0_o1 nin0)).keep Kc11 (ninS ne_o0_o2 nin0)).other W15 (Or.inr (slot_ne (Or.inl (ww hw 74 rfl)) (Or.inl (ww hw 40 rfl)) (by decide) (t := .long) (t' := .int) (by decide) (by decide))))
  have fc18 := (((F_firsts_o0.keep Kc4 (ninS ne_o0_o1 nin0)).keep Kc11 (ninS ne_o0_o2 nin0)).other W15 (Or.inr (slot_ne (Or.inl (ww hw 29 rfl)) (Or.inl (ww hw 40 rfl)) (by decide) (t := (.array .long)) (t' := .int) (by decide) (by decide))))
  have fc19 := ((fc5.keep Kc11 (ninS ne_o0_o2 nin0)).other W15 (Or.inr (slot_ne (Or.inl (ww hw 31 rfl)) (Or.inl (ww hw 40 rfl)) (by decide) (t := (.array .long)) (t' := .int) (by decide) (by decide))))
  have fc20 := (((F_maxRanges_o0.keep Kc4 (ninS ne_o0_o1 nin0)).keep Kc11 (ninS ne_o0_o2 nin0)).other W15 (Or.inr (slot_ne (Or.inr (ww hw 33 rfl)) (Or.inl (ww hw 40 rfl)) (by decide) (t := .int) (t' := .int) (by decide) (by decide))))
  have fc21 := ((V4.keep Kc11 (ninS ne_o1_o2 nin0)).other W15 (Ne.symm ne_o0_o1))
  have fc22 := (V11.other W15 (Ne.symm ne_o0_o2))
  refine ⟨_, _, ?_, hrun, hended, _, _, rfl, ?_, ⟨_, rfl⟩, hW, hsame.mono (by decide) (by decide)⟩
  · show Steps p.tables e below (s₁.setTop (mkF m 0 #[va o0, vi 0, vi 2] [])) _
    refine XS.aloadN X0.here hx rfl (hb hby d16_0) rfl rfl ?_
    refine st1 _ ?_
    refine XS.iloadN X1.here hx rfl (hb hby d16_4) rfl ?_
    refine XS.iloadN X1.here hx rfl (hb hby d16_5) rfl ?_
    refine XS.iadd X1.here hx rfl (hb hby d16_6) rfl ?_
    show Steps p.tables e below (T1.setTop (mkF m 7 #[va o0, vi 0, vi 2] [(.int ((0 : Int32) + (2 : Int32))), (.ref o1)])) _
    rw [show (((0 : Int32) + (2 : Int32)) : Int32) = (2 : Int32) from by decide]
    refine XS.aloadN X1.here hx rfl (hb hby d16_7) rfl rfl ?_
    refine st2 _ ?_
    refine XS.iloadN X2.here hx rfl (hb hby d16_11) rfl ?_
    refine XS.aloadN X2.here hx rfl (hb hby d16_12) rfl rfl ?_
    refine st3 _ ?_
    refine XS.iloadN X3.here hx rfl (hb hby d16_16) rfl ?_
    refine XS.isub X3.here hx rfl (hb hby d16_17) rfl ?_
    show Steps p.tables e below (T3.setTop (mkF m 18 #[va o0, vi 0, vi 2] [(.int ((2 : Int32) - (0 : Int32))), (.int 0), (.ref o1), (.int 2), (.ref o1)])) _
    rw [show (((2 : Int32) - (0 : Int32)) : Int32) = (2 : Int32) from by decide]
    refine XS.iloadN X3.here hx rfl (hb hby d16_18) rfl ?_
    refine XS.isub X3.here hx rfl (hb hby d16_19) rfl ?_
    show Steps p.tables e below (T3.setTop (mkF m 20 #[va o0, vi 0, vi 2] [(.int ((2 : Int32) - (2 : Int32))), (.int 0), (.ref o1), (.int 2), (.ref o1)])) _
    rw [show (((2 : Int32) - (2 : Int32)) : Int32) = (0 : Int32) from by decide]
    refine st4 _ ?_
    refine XS.aloadN X4.here hx rfl (hb hby d16_23) rfl rfl ?_
    refine st6 _ ?_
    refine XS.iloadN X6.here hx rfl (hb hby d16_27) rfl ?_
    refine XS.iloadN X6.here hx rfl (hb hby d16_28) rfl ?_
    refine XS.iadd X6.here hx rfl (hb hby d16_29) rfl ?_
    show Steps p.tables e below (T6.setTop (mkF m 30 #[va o0, vi 0, vi 2] [(.int ((0 : Int32) + (2 : Int32))), (.ref o2)])) _
    rw [show (((0 : Int32) + (2 : Int32)) : Int32) = (2 : Int32) from by decide]
    refine XS.aloadN X6.here hx rfl (hb hby d16_30) rfl rfl ?_
    refine st7 _ ?_
    refine XS.iloadN X7.here hx rfl (hb hby d16_34) rfl ?_
    refine XS.aloadN X7.here hx rfl (hb hby d16_35) rfl rfl ?_
    refine st9 _ ?_
    refine XS.iloadN X9.here hx rfl (hb hby d16_39) rfl ?_
    refine XS.isub X9.here hx rfl (hb hby d16_40) rfl ?_
    show Steps p.tables e below (T9.setTop (mkF m 41 #[va o0, vi 0, vi 2] [(.int ((2 : Int32) - (0 : Int32))), (.int 0), (.ref o2), (.int 2), (.ref o2)])) _
    rw [show (((2 : Int32) - (0 : Int32)) : Int32) = (2 : Int32) from by decide]
    refine XS.iloadN X9.here hx rfl (hb hby d16_41) rfl ?_
    refine XS.isub X9.here hx rfl (hb hby d16_42) rfl ?_
    show Steps p.tables e below (T9.setTop (mkF m 43 #[va o0, vi 0, vi 2] [(.int ((2 : Int32) - (2 : Int32))), (.int 0), (.ref o2), (.int 2), (.ref o2)])) _
    rw [show (((2 : Int32) - (2 : Int32)) : Int32) = (0 : Int32) from by decide]
    refine st11 _ ?_
    refine XS.aloadN X11.here hx rfl (hb hby d16_46) rfl rfl ?_
    refine XS.dup X11.here hx rfl (hb hby d16_47) rfl rfl ?_
    refine st13 _ ?_
    refine XS.iloadN X13.here hx rfl (hb hby d16_51) rfl ?_
    refine XS.isub X13.here hx rfl (hb hby d16_52) rfl ?_
    show Steps p.tables e below (T13.setTop (mkF m 53 #[va o0, vi 0, vi 2] [(.int ((2 : Int32) - (2 : Int32))), (.ref o0)])) _
    rw [show (((2 : Int32) - (2 : Int32)) : Int32) = (0 : Int32) from by decide]
    refine st15 _ ?_
    exact X15.returnOut hx hrt (hb hby d16_56) hr
  · show Q16_1 Z w_NONE o0 o1 o2 kk_o1 kk_o2 q0 q1 q2 q3 q4 h0 n0 none T15.heap _
    rw [e15]; exact ⟨rfl, N15, K15, fc16, fc17, fc18, fc19, fc20, Fw15, fc21, fc22⟩
theorem d17_305 : decode prog_55_method_10_code 305 = .ok (.aload_n 0, 1) := by decide +kernel
theorem d17_306 : decode prog_55_method_10_code 306 = .ok (.dup, 1) := by decide +kernel
theorem d17_307 : decode prog_55_method_10_code 307 = .ok (.getfield 43, 3) := by decide +kernel
theorem d17_310 : decode prog_55_method_10_code 310 = .ok (.lload 9, 2) := by decide +kernel
theorem d17_312 : decode prog_55_method_10_code 312 = .ok (.lsub, 1) := by decide +kernel
theorem d17_313 : decode prog_55_method_10_code 313 = .ok (.putfield 43, 3) := by decide +kernel
theorem d17_316 : decode prog_55_method_10_code 316 = .ok (.return_, 1) := by decide +kernel
def Q17_1 (Z : State) (w_NONE : Addr) (o0 : Addr) (o1 : Addr) (o2 : Addr) (kk_o1 : ClassId) (kk_o2 : ClassId) (q5 : Int64) (q0 : Int64) (q1 : Int64) (q2 : Int64) (q3 : Int64) (q4 : Int64) (h0 : Heap) (n0 : Nat) (v : Option Value) (h : Heap) (L : List Loc) : Prop := v = none ∧ Fr n0 L ∧ Keep h0 h [o0, o2, o1] ∧ Exa Z h o0 sC0 ∧ Fld Z h o0 sC0 "count" "J" (.long (q0 - (((0 : Int64) + ((q3 - q1) + (1 : Int64))) + ((q4 - q2) + (1 : Int64))))) ∧ Fld Z h o0 sC0 "firsts" "[J" (.ref o1) ∧ Fld Z h o0 sC0 "lasts" "[J" (.ref o2) ∧ Fld Z h o0 sC0 "maxRanges" "I" (.int 2147483647) ∧ Fld Z h o0 sC0 "ranges" "I" (.int 0) ∧ Arv Z h o1 kk_o1 .long (4 : Int32) [(.long q1), (.long q2), (.long 0), (.long 0)] (.long 0) ∧ Arv Z h o2 kk_o2 .long (4 : Int32) [(.long q3), (.long q4), (.long 0), (.long 0)] (.long 0)
theorem rm17_1 (l : Launch) (Z : State) (a0 : Array Value) (hw : HW Z a0) (ws : List Jvm.Cond) (w_NONE : Addr) (o0 : Addr) (o1 : Addr) (o2 : Addr) (kk_o1 : ClassId) (kk_o2 : ClassId) (q5 : Int64) (q0 : Int64) (q1 : Int64) (q2 : Int64) (q3 : Int64) (q4 : Int64) (h0 : Heap) (n0 : Nat) (O0 : Old Z n0 h0) (S : SF Z w_NONE) (E_o0 : Exa Z h0 o0 sC0) (F_count_o0 : Fld Z h0 o0 sC0 "count" "J" (.long q0)) (F_firsts_o0 : Fld Z h0 o0 sC0 "firsts" "[J" (.ref o1)) (F_lasts_o0 : Fld Z h0 o0 sC0 "lasts" "[J" (.ref o2)) (F_maxRanges_o0 : Fld Z h0 o0 sC0 "maxRanges" "I" (.int 2147483647)) (F_ranges_o0 : Fld Z h0 o0 sC0 "ranges" "I" (.int 2)) (V_o1 : Arv Z h0 o1 kk_o1 .long (4 : Int32) [(.long q1), (.long q2), (.long 0), (.long 0)] (.long 0)) (V_o2 : Arv Z h0 o2 kk_o2 .long (4 : Int32) [(.long q3), (.long q4), (.long 0), (.long 0)] (.long 0)) (ne_o0_o1 : o0 ≠ o1) (ne_o0_o2 : o0 ≠ o2) (ne_o1_o2 : o1 ≠ o2) (g_o0 : n0 ≤ o0) (g_o1 : n0 ≤ o1) (g_o2 : n0 ≤ o2) (hc0 : ¬ (q5 < (0 : Int64))) (hc1 : ¬ ((9223372036854775806 : Int64) < q5)) (hc2 : ¬ (q4 < q5)) (hc3 : ¬ (q3 < q5)) (hc4 : ¬ ((9223372036854775806 : Int64) < q1)) (hc5 : ¬ (q1 < q5)) (hc6 : ¬ ((9223372036854775806 : Int64) < q2)) (hc7 : ¬ ((9223372036854775806 : Int64) < q4)) :
    Pay l Z My17 ws prog_55_method_10_code 12 none #[(.ref o0), (.long q5), (.long 9223372036854775806)] h0 ({ frames := 2, cells := 0, slots := 0, locals := 32 } : Room) (Q17_1 Z w_NONE o0 o1 o2 kk_o1 kk_o2 q5 q0 q1 q2 q3 q4 h0 n0) := by
  refine own_body (plainFor_of_name pn_1) (L0 := #[va o0, vl q5, ss, vl 9223372036854775806, ss, uu, uu, uu, uu, uu, uu, uu]) (fun _ => by first | rfl | (simp [entryFrame, mkF, argsToLocals, Value.category]; done)) ?_
  intro p e s m below meth c s₁ hrt hlk hx hby hml hZ hown0 hnm X0 e0
  have hown : s.vm.findClass sC0 = some m.cls := hown0
  have N0 := Fr.nil n0
  have K0 : Keep h0 h0 [o0, o2, o1] := Keep.refl _ _
  obtain ⟨_, _, ⟨T1, L1, k1, n1⟩, -, X1, ⟨Lc1, hQ1, l1, y1, z1⟩, st1⟩ := Jvm.LawKit.callS X0 hx (y := My9) hown (mvT hZ (ww hw 46 rfl)) (mvT hZ (ww hw 47 rfl)) (mvT hZ (ww hw 15 rfl)) (mvT hZ (ww hw 48 rfl)) (by decide) (backOf (W := 0) (rm9_1 l Z a0 hw [] w_NONE q5 h0 n0 O0 S hc0 hc1) hZ (ww hw 48 rfl) (ww hw 15 rfl) (by decide) (by decide)) (g := (mkF m 2 #[va o0, vl q5, ss, vl 9223372036854775806, ss, uu, uu, uu, uu, uu, uu, uu] [(.long 9223372036854775806), (.long q5)])) rfl (by rw [hml]; rfl) (argsL := [(.long q5), (.long 9223372036854775806)]) (rest := []) (lenOf pd_4 rfl) rfl (by show 2 * 0 + _ ≤ _; exact Nat.le_of_eq rfl) (hb hby d17_2) (fun _ _ => ⟨rfl, e0, (by decide : 0 + 0 ≤ _), (by decide : 0 + 0 ≤ _)⟩)
  dsimp only [Pt.U, Pt.locs, Pt.cells, Pt.slots] at X1 l1 y1 z1 st1 hQ1
  subst l1 y1 z1
  obtain ⟨rfl, Nq1, e1⟩ := hQ1
  have N1 := Fr.app N0 Nq1
  obtain ⟨cq2, qa2, qb2⟩ := E_o0.cell
  obtain ⟨_, _, ⟨T2, L2, k2, n2⟩, -, X2, ⟨Lc2, hQ2, l2, y2, z2⟩, st2⟩ := X1.privateBack hx (y := My10) hown (mvT hZ (ww hw 49 rfl)) (mvT hZ (ww hw 50 rfl)) (own_selp (by decide) (mvT hZ (ww hw 14 rfl)) (mvP hZ (ww hw 51 rfl)) (mvT hZ (ww hw 50 rfl))) (Cond.privateMethod_at (mvP hZ (ww hw 51 rfl) (args := #[]))) (mvT hZ (ww hw 52 rfl)) (by decide) (backOf (W := 0) (rm10_6 l Z a0 hw [] w_NONE o0 o1 o2 kk_o1 kk_o2 q5 q0 q1 q2 q3 q4 h0 n0 O0 S F_lasts_o0 F_ranges_o0 V_o2 hc2 hc3) hZ (ww hw 52 rfl) (ww hw 15 rfl) (by decide) (by decide)) (g := (mkF m 7 #[va o0, vl q5, ss, vl 9223372036854775806, ss, uu, uu, uu, uu, uu, uu, uu] [(.long q5), (.ref o0)])) rfl (by rw [hml]; rfl) (Steps.refl _) (a := o0) (by rw [e1]; exact qa2) qb2 (argsL := [(.long q5)]) (rest := []) (lenOf pd_5 rfl) rfl (by show 2 * 0 + _ ≤ _; exact Nat.le_of_eq rfl) (hb hby d17_7) (fun _ _ => ⟨rfl, e1, (by decide : 0 + 0 ≤ _), (by decide : 0 + 0 ≤ _)⟩)
  dsimp only [Pt.U, Pt.locs, Pt.cells, Pt.slots] at X2 l2 y2 z2 st2 hQ2
  subst l2 y2 z2
  obtain ⟨rfl, Nq2, e2⟩ := hQ2
  have N2 := Fr.app N1 Nq2
  obtain ⟨T3, X3, e3, st3⟩ := getF X2 hx hZ hown (host := "") (Or.inl (ww hw 39 rfl)) Via.refl e2 F_ranges_o0 (g := (mkF m 15 #[va o0, vl q5, ss, vl 9223372036854775806, ss, vi 0, uu, uu, uu, uu, uu, uu] [(.ref o0), (.int 0)])) rfl rfl (hb hby d17_15)
  obtain ⟨T4, X4, e4, st4⟩ := getF X3 hx hZ hown (host := "") (Or.inl (ww hw 28 rfl)) Via.refl e3 F_firsts_o0 (g := (mkF m 22 #[va o0, vl q5, ss, vl 9223372036854775806, ss, vi 0, uu, uu, uu, uu, uu, uu] [(.ref o0)])) rfl rfl (hb hby d17_22)
  obtain ⟨cl5, Ar5, qk5, Sz5, Ng5, Hh5, Gg5⟩ := id V_o1
  have hin5_0 : ¬ ((0 : Int32) < 0 ∨ cl5.slots.size ≤ ((0 : Int32)).toNatClampNeg) := inb_of Sz5 ⟨by decide, by decide⟩
  obtain ⟨T6, X6, e6, st6⟩ := getF X4 hx hZ hown (host := "") (Or.inl (ww hw 28 rfl)) Via.refl e4 F_firsts_o0 (g := (mkF m 35 #[va o0, vl q5, ss, vl 9223372036854775806, ss, vi 0, uu, uu, uu, uu, uu, uu] [(.ref o0)])) rfl rfl (hb hby d17_35)
  obtain ⟨T7, X7, e7, st7⟩ := getF X6 hx hZ hown (host := "") (Or.inl (ww hw 39 rfl)) Via.refl e6 F_ranges_o0 (g := (mkF m 125 #[va o0, vl q5, ss, vl 9223372036854775806, ss, vi 0, vi 0, uu, uu, uu, uu, uu] [(.ref o0), (.int 0)])) rfl rfl (hb hby d17_125)
  obtain ⟨T8, X8, e8, st8⟩ := getF X7 hx hZ hown (host := "") (Or.inl (ww hw 28 rfl)) Via.refl e7 F_firsts_o0 (g := (mkF m 132 #[va o0, vl q5, ss, vl 9223372036854775806, ss, vi 0, vi 0, uu, uu, uu, uu, uu] [(.ref o0)])) rfl rfl (hb hby d17_132)
  obtain ⟨T9, X9, e9, st9⟩ := getF X8 hx hZ hown (host := "") (Or.inl (ww hw 39 rfl)) Via.refl e8 F_ranges_o0 (g := (mkF m 125 #[va o0, vl q5, ss, vl 9223372036854775806, ss, vi 0, vi 1, uu, uu, uu, uu, uu] [(.ref o0), (.int 1)])) rfl rfl (hb hby d17_125)
  obtain ⟨T10, X10, e10, st10⟩ := getF X9 hx hZ hown (host := "") (Or.inl (ww hw 28 rfl)) Via.refl e9 F_firsts_o0 (g := (mkF m 132 #[va o0, vl q5, ss, vl 9223372036854775806, ss, vi 0, vi 1, uu, uu, uu, uu, uu] [(.ref o0)])) rfl rfl (hb hby d17_132)
  have hin5_1 : ¬ ((1 : Int32) < 0 ∨ cl5.slots.size ≤ ((1 : Int32)).toNatClampNeg) := inb_of Sz5 ⟨by decide, by decide⟩
  obtain ⟨T11, X11, e11, st11⟩ := getF X10 hx hZ hown (host := "") (Or.inl (ww hw 39 rfl)) Via.refl e10 F_ranges_o0 (g := (mkF m 125 #[va o0, vl q5, ss, vl 9223372036854775806, ss, vi 0, vi 2, uu, uu, uu, uu, uu] [(.ref o0), (.int 2)])) rfl rfl (hb hby d17_125)
  obtain ⟨T12, X12, e12, st12⟩ := getF X11 hx hZ hown (host := "") (Or.inl (ww hw 28 rfl)) Via.refl e11 F_firsts_o0 (g := (mkF m 161 #[va o0, vl q5, ss, vl 9223372036854775806, ss, vi 0, vi 2, vi 0, vi 2, vl 0, ss, uu] [(.ref o0)])) rfl rfl (hb hby d17_161)
  obtain ⟨T13, X13, e13, st13⟩ := getF X12 hx hZ hown (host := "") (Or.inl (ww hw 30 rfl)) Via.refl e12 F_lasts_o0 (g := (mkF m 209 #[va o0, vl q5, ss, vl 9223372036854775806, ss, vi 0, vi 2, vi 0, vi 2, vl 0, ss, uu] [(.ref o0)])) rfl rfl (hb hby d17_209)
  obtain ⟨cl14, Ar14, qk14, Sz14, Ng14, Hh14, Gg14⟩ := id V_o2
  have hin14_1 : ¬ ((1 : Int32) < 0 ∨ cl14.slots.size ≤ ((1 : Int32)).toNatClampNeg) := inb_of Sz14 ⟨by decide, by decide⟩
  obtain ⟨T15, X15, e15, st15⟩ := getF X13 hx hZ hown (host := "") (Or.inl (ww hw 30 rfl)) Via.refl e13 F_lasts_o0 (g := (mkF m 269 #[va o0, vl q5, ss, vl 9223372036854775806, ss, vi 0, vi 2, vi 0, vi 2, vl 0, ss, vi 0] [(.ref o0), (.long 0)])) rfl rfl (hb hby d17_269)
  have hin14_0 : ¬ ((0 : Int32) < 0 ∨ cl14.slots.size ≤ ((0 : Int32)).toNatClampNeg) := inb_of Sz14 ⟨by decide, by decide⟩
  obtain ⟨T16, X16, e16, st16⟩ := getF X15 hx hZ hown (host := "") (Or.inl (ww hw 28 rfl)) Via.refl e15 F_firsts_o0 (g := (mkF m 276 #[va o0, vl q5, ss, vl 9223372036854775806, ss, vi 0, vi 2, vi 0, vi 2, vl 0, ss, vi 0] [(.ref o0), (.long q3), (.long 0)])) rfl rfl (hb hby d17_276)
  obtain ⟨T17, X17, e17, st17⟩ := getF X16 hx hZ hown (host := "") (Or.inl (ww hw 30 rfl)) Via.refl e16 F_lasts_o0 (g := (mkF m 269 #[va o0, vl q5, ss, vl 9223372036854775806, ss, vi 0, vi 2, vi 0, vi 2, vl ((0 : Int64) + ((q3 - q1) + (1 : Int64))), ss, vi 1] [(.ref o0), (.long ((0 : Int64) + ((q3 - q1) + (1 : Int64))))])) rfl rfl (hb hby d17_269)
  obtain ⟨T18, X18, e18, st18⟩ := getF X17 hx hZ hown (host := "") (Or.inl (ww hw 28 rfl)) Via.refl e17 F_firsts_o0 (g := (mkF m 276 #[va o0, vl q5, ss, vl 9223372036854775806, ss, vi 0, vi 2, vi 0, vi 2, vl ((0 : Int64) + ((q3 - q1) + (1 : Int64))), ss, vi 1] [(.ref o0), (.long q4), (.long ((0 : Int64) + ((q3 - q1) + (1 : Int64))))])) rfl rfl (hb hby d17_276)
  obtain ⟨cq19, qa19, qb19⟩ := E_o0.cell
  obtain ⟨_, _, ⟨T19, L19, k19, n19⟩, -, X19, ⟨Lc19, hQ19, l19, y19, z19⟩, st19⟩ := X18.privateBack hx (y := My16) hown (mvT hZ (ww hw 80 rfl)) (mvT hZ (ww hw 81 rfl)) (own_selp (by decide) (mvT hZ (ww hw 14 rfl)) (mvP hZ (ww hw 82 rfl)) (mvT hZ (ww hw 81 rfl))) (Cond.privateMethod_at (mvP hZ (ww hw 82 rfl) (args := #[]))) (mvT hZ (ww hw 83 rfl)) (by decide) (backOf (W := 0) (rm16_1 l Z a0 hw [] w_NONE o0 o1 o2 kk_o1 kk_o2 q0 q1 q2 q3 q4 h0 n0 O0 S E_o0 F_count_o0 F_firsts_o0 F_lasts_o0 F_maxRanges_o0 F_ranges_o0 V_o1 V_o2 ne_o0_o1 ne_o0_o2 ne_o1_o2 g_o0 g_o1 g_o2) hZ (ww hw 83 rfl) (ww hw 15 rfl) (by decide) (by decide)) (g := (mkF m 302 #[va o0, vl q5, ss, vl 9223372036854775806, ss, vi 0, vi 2, vi 0, vi 2, vl (((0 : Int64) + ((q3 - q1) + (1 : Int64))) + ((q4 - q2) + (1 : Int64))), ss, vi 2] [(.int 2), (.int 0), (.ref o0)])) rfl (by rw [hml]; rfl) (Steps.refl _) (a := o0) (by rw [e18]; exact qa19) qb19 (argsL := [(.int 0), (.int 2)]) (rest := []) (lenOf pd_11 rfl) rfl (by show 2 * 0 + _ ≤ _; exact Nat.le_of_eq rfl) (hb hby d17_302) (fun _ _ => ⟨rfl, e18, (by decide : 0 + 0 ≤ _), (by decide : 0 + 0 ≤ _)⟩)
  dsimp only [Pt.U, Pt.locs, Pt.cells, Pt.slots] at X19 l19 y19 z19 st19 hQ19
  subst l19 y19 z19
  obtain ⟨rfl, Nq19, Kc19, P0_19, P1_19, P2_19, P3_19, P4_19, P5_19, P6_19, P7_19⟩ := hQ19
  have N19 := Fr.app N2 Nq19
  have O19 := O0.keep Kc19 (allS g_o1 (allS g_o2 (allS g_o0 all0)))
  have K19 : Keep h0 T19.heap [o0, o2, o1] := K0.trans Kc19 (allS (Or.inl (List.mem_of_getElem? (i := 2) rfl)) (allS (Or.inl (List.mem_of_getElem? (i := 1) rfl)) (allS (Or.inl (List.mem_of_getElem? (i := 0) rfl)) all0)))
  obtain ⟨T20, X20, e20, st20⟩ := getF X19 hx hZ hown (host := "") (Or.inl (ww hw 73 rfl)) Via.refl rfl P1_19 (g := (mkF m 307 #[va o0, vl q5, ss, vl 9223372036854775806, ss, vi 0, vi 2, vi 0, vi 2, vl (((0 : Int64) + ((q3 - q1) + (1 : Int64))) + ((q4 - q2) + (1 : Int64))), ss, vi 2] [(.ref o0), (.ref o0)])) rfl rfl (hb hby d17_307)
  obtain ⟨T21, h21, X21, e21, W21, st21⟩ := putF X20 hx hZ hown (host := "") (Or.inl (ww hw 73 rfl)) Via.refl e20 P1_19 P0_19 (Or.inl (ww hw 74 rfl)) (ww hw 14 rfl) (ty := .long) (by decide) rfl rfl (g := (mkF m 313 #[va o0, vl q5, ss, vl 9223372036854775806, ss, vi 0, vi 2, vi 0, vi 2, vl (((0 : Int64) + ((q3 - q1) + (1 : Int64))) + ((q4 - q2) + (1 : Int64))), ss, vi 2] [(.long (q0 - (((0 : Int64) + ((q3 - q1) + (1 : Int64))) + ((q4 - q2) + (1 : Int64))))), (.ref o0)])) rfl rfl (hb hby d17_313)
  have Fw21 := P1_19.same W21
  have O21 := O19.wr W21 g_o0
  have K21 : Keep h0 h21 [o0, o2, o1] := K19.wr W21 (Or.inl (List.mem_of_getElem? (i := 0) rfl))
  have N21 := Fr.snoc X21 N19 g_o0
  obtain ⟨fs, hr, hrun, hended, hW, hsame⟩ := X21.leave (v := none) (fun _ => rfl)
  have fc22 := (P0_19.wr W21)
  have fc23 := (P2_19.other W21 (Or.inr (slot_ne (Or.inl (ww hw 29 rfl)) (Or.inl (ww hw 74 rfl)) (by decide) (t := (.array .long)) (t' := .long) (by decide) (by decide))))
  have fc24 := (P3_19.other W21 (Or.inr (slot_ne (Or.inl (ww hw 31 rfl)) (Or.inl (ww hw 74 rfl)) (by decide) (t := (.array .long)) (t' := .long) (by decide) (by decide))))
  have fc25 := (P4_19.other W21 (Or.inr (slot_ne (Or.inr (ww hw 33 rfl)) (Or.inl (ww hw 74 rfl)) (by decide) (t := .int) (t' := .long) (by decide) (by decide))))
  have fc26 := (P5_19.other W21 (Or.inr (slot_ne (Or.inl (ww hw 40 rfl)) (Or.inl (ww hw 74 rfl)) (by decide) (t := .int) (t' := .long) (by decide) (by decide))))
  have fc27 := (P6_19.other W21 (Ne.symm ne_o0_o1))
  have fc28 := (P7_19.other W21 (Ne.symm ne_o0_o2))
  refine ⟨_, _, ?_, hrun, hended, _, _, rfl, ?_, ⟨_, rfl⟩, hW, hsame.mono (by decide) (by decide)⟩
  · show Steps p.tables e below (s₁.setTop (mkF m 0 #[va o0, vl q5, ss, vl 9223372036854775806, ss, uu, uu, uu, uu, uu, uu, uu] [])) _
    refine XS.lloadN X0.here hx rfl (hb hby d17_0) rfl ?_
    refine XS.lloadN X0.here hx rfl (hb hby d17_1) rfl ?_
    refine st1 _ ?_
    refine XS.aloadN X1.here hx rfl (hb hby d17_5) rfl rfl ?_
    refine XS.lloadN X1.here hx rfl (hb hby d17_6) rfl ?_
    refine st2.trans ?_
    refine XS.istore X2.here hx rfl (hb hby d17_10) rfl (l' := #[va o0, vl q5, ss, vl 9223372036854775806, ss, vi 0, uu, uu, uu, uu, uu, uu]) rfl ?_
    refine XS.iload X2.here hx rfl (hb hby d17_12) rfl ?_
    show Steps p.tables e below (T2.setTop (mkF m 14 #[va o0, vl q5, ss, vl 9223372036854775806, ss, vi 0, uu, uu, uu, uu, uu, uu] [(.int 0)])) _
    refine XS.aloadN X2.here hx rfl (hb hby d17_14) rfl rfl ?_
    refine st3 _ ?_
    refine XS.icmpNo X3.here hx rfl (hb hby d17_18) rfl (feq (by decide : ¬ ((0 : Int32) = (2 : Int32)))).1 ?_
    refine XS.aloadN X3.here hx rfl (hb hby d17_21) rfl rfl ?_
    refine st4 _ ?_
    refine XS.iload X4.here hx rfl (hb hby d17_25) rfl ?_
    refine X4.laload hx (j := (0 : Int32)) (v := (.long q1)) (by rw [e4]; exact Ar5.1) (State.isArrayOf_alike hZ.alike Ar5.2.1) Ar5.2.2 hin5_0 (Has.at Hh5 hin5_0 rfl) (g := (mkF m 27 #[va o0, vl q5, ss, vl 9223372036854775806, ss, vi 0, uu, uu, uu, uu, uu, uu] [(.int 0), (.ref o1)])) rfl rfl (hb hby d17_27) _ ?_
    refine XS.lloadN X4.here hx rfl (hb hby d17_28) rfl ?_
    show Steps p.tables e below (T4.setTop (mkF m 29 #[va o0, vl q5, ss, vl 9223372036854775806, ss, vi 0, uu, uu, uu, uu, uu, uu] [(.long 9223372036854775806), (.long q1)])) _
    refine XS.lcmp X4.here hx rfl (hb hby d17_29) rfl ?_
    refine XS.ifYes X4.here hx rfl (pc0 := 30) (pc' := 34) rfl (hb hby d17_30) rfl (own_lc_gtF hc4).2 (by decide) (by decide) ?_
    refine XS.aloadN X4.here hx rfl (hb hby d17_34) rfl rfl ?_
    refine st6 _ ?_
    refine XS.iload X6.here hx rfl (hb hby d17_38) rfl ?_
    refine X6.laload hx (j := (0 : Int32)) (v := (.long q1)) (by rw [e6]; exact Ar5.1) (State.isArrayOf_alike hZ.alike Ar5.2.1) Ar5.2.2 hin5_0 (Has.at Hh5 hin5_0 rfl) (g := (mkF m 40 #[va o0, vl q5, ss, vl 9223372036854775806, ss, vi 0, uu, uu, uu, uu, uu, uu] [(.int 0), (.ref o1)])) rfl rfl (hb hby d17_40) _ ?_
    refine XS.lloadN X6.here hx rfl (hb hby d17_41) rfl ?_
    refine XS.lcmp X6.here hx rfl (hb hby d17_42) rfl ?_
    show Steps p.tables e below (T6.setTop (mkF m 43 #[va o0, vl q5, ss, vl 9223372036854775806, ss, vi 0, uu, uu, uu, uu, uu, uu] [(.int (lcmpW q1 q5))])) _
    refine XS.ifYes X6.here hx rfl (pc0 := 43) (pc' := 118) rfl (hb hby d17_43) rfl (own_lc_ltF hc5).2 (by decide) (by decide) ?_
    refine XS.iload X6.here hx rfl (hb hby d17_118) rfl ?_
    refine XS.istore X6.here hx rfl (hb hby d17_120) rfl (l' := #[va o0, vl q5, ss, vl 9223372036854775806, ss, vi 0, vi 0, uu, uu, uu, uu, uu]) rfl ?_
    refine XS.iload X6.here hx rfl (hb hby d17_122) rfl ?_
    refine XS.aloadN X6.here hx rfl (hb hby d17_124) rfl rfl ?_
    refine st7 _ ?_
    refine XS.icmpNo X7.here hx rfl (hb hby d17_128) rfl (tlt (by decide : (0 : Int32) < (2 : Int32))).2.1 ?_
    refine XS.aloadN X7.here hx rfl (hb hby d17_131) rfl rfl ?_
    show Steps p.tables e below (T7.setTop (mkF m 132 #[va o0, vl q5, ss, vl 9223372036854775806, ss, vi 0, vi 0, uu, uu, uu, uu, uu] [(.ref o0)])) _
    refine st8 _ ?_
    refine XS.iload X8.here hx rfl (hb hby d17_135) rfl ?_
    refine X8.laload hx (j := (0 : Int32)) (v := (.long q1)) (by rw [e8]; exact Ar5.1) (State.isArrayOf_alike hZ.alike Ar5.2.1) Ar5.2.2 hin5_0 (Has.at Hh5 hin5_0 rfl) (g := (mkF m 137 #[va o0, vl q5, ss, vl 9223372036854775806, ss, vi 0, vi 0, uu, uu, uu, uu, uu] [(.int 0), (.ref o1)])) rfl rfl (hb hby d17_137) _ ?_
    refine XS.lloadN X8.here hx rfl (hb hby d17_138) rfl ?_
    refine XS.lcmp X8.here hx rfl (hb hby d17_139) rfl ?_
    refine XS.ifNo X8.here hx rfl (hb hby d17_140) rfl (own_lc_gtF hc4).1 ?_
    refine XS.iinc X8.here hx rfl (hb hby d17_143) rfl (l' := #[va o0, vl q5, ss, vl 9223372036854775806, ss, vi 0, vi ((0 : Int32) + (1 : Int32)), uu, uu, uu, uu, uu]) rfl ?_
    show Steps p.tables e below (T8.setTop (mkF m 146 #[va o0, vl q5, ss, vl 9223372036854775806, ss, vi 0, vi ((0 : Int32) + (1 : Int32)), uu, uu, uu, uu, uu] [])) _
    rw [show (((0 : Int32) + (1 : Int32)) : Int32) = (1 : Int32) from by decide]
    refine XS.goto X8.here hx rfl (pc0 := 146) (pc' := 122) rfl (hb hby d17_146) (by decide) (by decide) ?_
    refine XS.iload X8.here hx rfl (hb hby d17_122) rfl ?_
    refine XS.aloadN X8.here hx rfl (hb hby d17_124) rfl rfl ?_
    refine st9 _ ?_
    refine XS.icmpNo X9.here hx rfl (hb hby d17_128) rfl (tlt (by decide : (1 : Int32) < (2 : Int32))).2.1 ?_
    refine XS.aloadN X9.here hx rfl (hb hby d17_131) rfl rfl ?_
    refine st10 _ ?_
    show Steps p.tables e below (T10.setTop (mkF m 135 #[va o0, vl q5, ss, vl 9223372036854775806, ss, vi 0, vi 1, uu, uu, uu, uu, uu] [(.ref o1)])) _
    refine XS.iload X10.here hx rfl (hb hby d17_135) rfl ?_
    refine X10.laload hx (j := (1 : Int32)) (v := (.long q2)) (by rw [e10]; exact Ar5.1) (State.isArrayOf_alike hZ.alike Ar5.2.1) Ar5.2.2 hin5_1 (Has.at Hh5 hin5_1 rfl) (g := (mkF m 137 #[va o0, vl q5, ss, vl 9223372036854775806, ss, vi 0, vi 1, uu, uu, uu, uu, uu] [(.int 1), (.ref o1)])) rfl rfl (hb hby d17_137) _ ?_
    refine XS.lloadN X10.here hx rfl (hb hby d17_138) rfl ?_
    refine XS.lcmp X10.here hx rfl (hb hby d17_139) rfl ?_
    refine XS.ifNo X10.here hx rfl (hb hby d17_140) rfl (own_lc_gtF hc6).1 ?_
    refine XS.iinc X10.here hx rfl (hb hby d17_143) rfl (l' := #[va o0, vl q5, ss, vl 9223372036854775806, ss, vi 0, vi ((1 : Int32) + (1 : Int32)), uu, uu, uu, uu, uu]) rfl ?_
    show Steps p.tables e below (T10.setTop (mkF m 146 #[va o0, vl q5, ss, vl 9223372036854775806, ss, vi 0, vi ((1 : Int32) + (1 : Int32)), uu, uu, uu, uu, uu] [])) _
    rw [show (((1 : Int32) + (1 : Int32)) : Int32) = (2 : Int32) from by decide]
    refine XS.goto X10.here hx rfl (pc0 := 146) (pc' := 122) rfl (hb hby d17_146) (by decide) (by decide) ?_
    refine XS.iload X10.here hx rfl (hb hby d17_122) rfl ?_
    refine XS.aloadN X10.here hx rfl (hb hby d17_124) rfl rfl ?_
    refine st11 _ ?_
    refine XS.icmpYes X11.here hx rfl (pc0 := 128) (pc' := 149) rfl (hb hby d17_128) rfl (flt (by decide : ¬ ((2 : Int32) < (2 : Int32)))).2.1 (by decide) (by decide) ?_
    refine XS.iload X11.here hx rfl (hb hby d17_149) rfl ?_
    refine XS.istore X11.here hx rfl (hb hby d17_151) rfl (l' := #[va o0, vl q5, ss, vl 9223372036854775806, ss, vi 0, vi 2, vi 0, uu, uu, uu, uu]) rfl ?_
    show Steps p.tables e below (T11.setTop (mkF m 153 #[va o0, vl q5, ss, vl 9223372036854775806, ss, vi 0, vi 2, vi 0, uu, uu, uu, uu] [])) _
    refine XS.iload X11.here hx rfl (hb hby d17_153) rfl ?_
    refine XS.istore X11.here hx rfl (hb hby d17_155) rfl (l' := #[va o0, vl q5, ss, vl 9223372036854775806, ss, vi 0, vi 2, vi 0, vi 2, uu, uu, uu]) rfl ?_
    refine XS.lconst X11.here hx rfl (hb hby d17_157) ?_
    refine XS.lstore X11.here hx rfl (hb hby d17_158) rfl (l' := #[va o0, vl q5, ss, vl 9223372036854775806, ss, vi 0, vi 2, vi 0, vi 2, vl 0, ss, uu]) rfl ?_
    refine XS.aloadN X11.here hx rfl (hb hby d17_160) rfl rfl ?_
    refine st12 _ ?_
    refine XS.iload X12.here hx rfl (hb hby d17_164) rfl ?_
    refine X12.laload hx (j := (0 : Int32)) (v := (.long q1)) (by rw [e12]; exact Ar5.1) (State.isArrayOf_alike hZ.alike Ar5.2.1) Ar5.2.2 hin5_0 (Has.at Hh5 hin5_0 rfl) (g := (mkF m 166 #[va o0, vl q5, ss, vl 9223372036854775806, ss, vi 0, vi 2, vi 0, vi 2, vl 0, ss, uu] [(.int 0), (.ref o1)])) rfl rfl (hb hby d17_166) _ ?_
    show Steps p.tables e below (T12.setTop (mkF m 167 #[va o0, vl q5, ss, vl 9223372036854775806, ss, vi 0, vi 2, vi 0, vi 2, vl 0, ss, uu] [(.long q1)])) _
    refine XS.lloadN X12.here hx rfl (hb hby d17_167) rfl ?_
    refine XS.lcmp X12.here hx rfl (hb hby d17_168) rfl ?_
    refine XS.ifYes X12.here hx rfl (pc0 := 169) (pc' := 201) rfl (hb hby d17_169) rfl (own_lc_ltF hc5).2 (by decide) (by decide) ?_
    refine XS.iload X12.here hx rfl (hb hby d17_201) rfl ?_
    refine XS.iload X12.here hx rfl (hb hby d17_203) rfl ?_
    refine XS.icmpNo X12.here hx rfl (hb hby d17_205) rfl (tlt (by decide : (0 : Int32) < (2 : Int32))).2.1 ?_
    refine XS.aloadN X12.here hx rfl (hb hby d17_208) rfl rfl ?_
    refine st13 _ ?_
    show Steps p.tables e below (T13.setTop (mkF m 212 #[va o0, vl q5, ss, vl 9223372036854775806, ss, vi 0, vi 2, vi 0, vi 2, vl 0, ss, uu] [(.ref o2)])) _
    refine XS.iload X13.here hx rfl (hb hby d17_212) rfl ?_
    refine XS.iconst X13.here hx rfl (hb hby d17_214) ?_
    refine XS.isub X13.here hx rfl (hb hby d17_215) rfl ?_
    show Steps p.tables e below (T13.setTop (mkF m 216 #[va o0, vl q5, ss, vl 9223372036854775806, ss, vi 0, vi 2, vi 0, vi 2, vl 0, ss, uu] [(.int ((2 : Int32) - (1 : Int32))), (.ref o2)])) _
    rw [show (((2 : Int32) - (1 : Int32)) : Int32) = (1 : Int32) from by decide]
    refine X13.laload hx (j := (1 : Int32)) (v := (.long q4)) (by rw [e13]; exact Ar14.1) (State.isArrayOf_alike hZ.alike Ar14.2.1) Ar14.2.2 hin14_1 (Has.at Hh14 hin14_1 rfl) (g := (mkF m 216 #[va o0, vl q5, ss, vl 9223372036854775806, ss, vi 0, vi 2, vi 0, vi 2, vl 0, ss, uu] [(.int 1), (.ref o2)])) rfl rfl (hb hby d17_216) _ ?_
    refine XS.lloadN X13.here hx rfl (hb hby d17_217) rfl ?_
    refine XS.lcmp X13.here hx rfl (hb hby d17_218) rfl ?_
    refine XS.ifYes X13.here hx rfl (pc0 := 219) (pc' := 255) rfl (hb hby d17_219) rfl (own_lc_gtF hc7).2 (by decide) (by decide) ?_
    refine XS.iload X13.here hx rfl (hb hby d17_255) rfl ?_
    refine XS.istore X13.here hx rfl (hb hby d17_257) rfl (l' := #[va o0, vl q5, ss, vl 9223372036854775806, ss, vi 0, vi 2, vi 0, vi 2, vl 0, ss, vi 0]) rfl ?_
    refine XS.iload X13.here hx rfl (hb hby d17_259) rfl ?_
    show Steps p.tables e below (T13.setTop (mkF m 261 #[va o0, vl q5, ss, vl 9223372036854775806, ss, vi 0, vi 2, vi 0, vi 2, vl 0, ss, vi 0] [(.int 0)])) _
    refine XS.iload X13.here hx rfl (hb hby d17_261) rfl ?_
    refine XS.icmpNo X13.here hx rfl (hb hby d17_263) rfl (tlt (by decide : (0 : Int32) < (2 : Int32))).2.1 ?_
    refine XS.lload X13.here hx rfl (hb hby d17_266) rfl ?_
    refine XS.aloadN X13.here hx rfl (hb hby d17_268) rfl rfl ?_
    refine st15 _ ?_
    refine XS.iload X15.here hx rfl (hb hby d17_272) rfl ?_
    refine X15.laload hx (j := (0 : Int32)) (v := (.long q3)) (by rw [e15]; exact Ar14.1) (State.isArrayOf_alike hZ.alike Ar14.2.1) Ar14.2.2 hin14_0 (Has.at Hh14 hin14_0 rfl) (g := (mkF m 274 #[va o0, vl q5, ss, vl 9223372036854775806, ss, vi 0, vi 2, vi 0, vi 2, vl 0, ss, vi 0] [(.int 0), (.ref o2), (.long 0)])) rfl rfl (hb hby d17_274) _ ?_
    refine XS.aloadN X15.here hx rfl (hb hby d17_275) rfl rfl ?_
    show Steps p.tables e below (T15.setTop (mkF m 276 #[va o0, vl q5, ss, vl 9223372036854775806, ss, vi 0, vi 2, vi 0, vi 2, vl 0, ss, vi 0] [(.ref o0), (.long q3), (.long 0)])) _
    refine st16 _ ?_
    refine XS.iload X16.here hx rfl (hb hby d17_279) rfl ?_
    refine X16.laload hx (j := (0 : Int32)) (v := (.long q1)) (by rw [e16]; exact Ar5.1) (State.isArrayOf_alike hZ.alike Ar5.2.1) Ar5.2.2 hin5_0 (Has.at Hh5 hin5_0 rfl) (g := (mkF m 281 #[va o0, vl q5, ss, vl 9223372036854775806, ss, vi 0, vi 2, vi 0, vi 2, vl 0, ss, vi 0] [(.int 0), (.ref o1), (.long q3), (.long 0)])) rfl rfl (hb hby d17_281) _ ?_
    refine XS.lsub X16.here hx rfl (hb hby d17_282) rfl ?_
    refine XS.lconst X16.here hx rfl (hb hby d17_283) ?_
    refine XS.ladd X16.here hx rfl (hb hby d17_284) rfl ?_
    refine XS.ladd X16.here hx rfl (hb hby d17_285) rfl ?_
    refine XS.lstore X16.here hx rfl (hb hby d17_286) rfl (l' := #[va o0, vl q5, ss, vl 9223372036854775806, ss, vi 0, vi 2, vi 0, vi 2, vl ((0 : Int64) + ((q3 - q1) + (1 : Int64))), ss, vi 0]) rfl ?_
    show Steps p.tables e below (T16.setTop (mkF m 288 #[va o0, vl q5, ss, vl 9223372036854775806, ss, vi 0, vi 2, vi 0, vi 2, vl ((0 : Int64) + ((q3 - q1) + (1 : Int64))), ss, vi 0] [])) _
    refine XS.iinc X16.here hx rfl (hb hby d17_288) rfl (l' := #[va o0, vl q5, ss, vl 9223372036854775806, ss, vi 0, vi 2, vi 0, vi 2, vl ((0 : Int64) + ((q3 - q1) + (1 : Int64))), ss, vi ((0 : Int32) + (1 : Int32))]) rfl ?_
    show Steps p.tables e below (T16.setTop (mkF m 291 #[va o0, vl q5, ss, vl 9223372036854775806, ss, vi 0, vi 2, vi 0, vi 2, vl ((0 : Int64) + ((q3 - q1) + (1 : Int64))), ss, vi ((0 : Int32) + (1 : Int32))] [])) _
    rw [show (((0 : Int32) + (1 : Int32)) : Int32) = (1 : Int32) from by decide]
    refine XS.goto X16.here hx rfl (pc0 := 291) (pc' := 259) rfl (hb hby d17_291) (by decide) (by decide) ?_
    refine XS.iload X16.here hx rfl (hb hby d17_259) rfl ?_
    refine XS.iload X16.here hx rfl (hb hby d17_261) rfl ?_
    refine XS.icmpNo X16.here hx rfl (hb hby d17_263) rfl (tlt (by decide : (1 : Int32) < (2 : Int32))).2.1 ?_
    refine XS.lload X16.here hx rfl (hb hby d17_266) rfl ?_
    refine XS.aloadN X16.here hx rfl (hb hby d17_268) rfl rfl ?_
    refine st17 _ ?_
    show Steps p.tables e below (T17.setTop (mkF m 272 #[va o0, vl q5, ss, vl 9223372036854775806, ss, vi 0, vi 2, vi 0, vi 2, vl ((0 : Int64) + ((q3 - q1) + (1 : Int64))), ss, vi 1] [(.ref o2), (.long ((0 : Int64) + ((q3 - q1) + (1 : Int64))))])) _
    refine XS.iload X17.here hx rfl (hb hby d17_272) rfl ?_
    refine X17.laload hx (j := (1 : Int32)) (v := (.long q4)) (by rw [e17]; exact Ar14.1) (State.isArrayOf_alike hZ.alike Ar14.2.1) Ar14.2.2 hin14_1 (Has.at Hh14 hin14_1 rfl) (g := (mkF m 274 #[va o0, vl q5, ss, vl 9223372036854775806, ss, vi 0, vi 2, vi 0, vi 2, vl ((0 : Int64) + ((q3 - q1) + (1 : Int64))), ss, vi 1] [(.int 1), (.ref o2), (.long ((0 : Int64) + ((q3 - q1) + (1 : Int64))))])) rfl rfl (hb hby d17_274) _ ?_
    refine XS.aloadN X17.here hx rfl (hb hby d17_275) rfl rfl ?_
    refine st18 _ ?_
    refine XS.iload X18.here hx rfl (hb hby d17_279) rfl ?_
    refine X18.laload hx (j := (1 : Int32)) (v := (.long q2)) (by rw [e18]; exact Ar5.1) (State.isArrayOf_alike hZ.alike Ar5.2.1) Ar5.2.2 hin5_1 (Has.at Hh5 hin5_1 rfl) (g := (mkF m 281 #[va o0, vl q5, ss, vl 9223372036854775806, ss, vi 0, vi 2, vi 0, vi 2, vl ((0 : Int64) + ((q3 - q1) + (1 : Int64))), ss, vi 1] [(.int 1), (.ref o1), (.long q4), (.long ((0 : Int64) + ((q3 - q1) + (1 : Int64))))])) rfl rfl (hb hby d17_281) _ ?_
    refine XS.lsub X18.here hx rfl (hb hby d17_282) rfl ?_
    refine XS.lconst X18.here hx rfl (hb hby d17_283) ?_
    show Steps p.tables e below (T18.setTop (mkF m 284 #[va o0, vl q5, ss, vl 9223372036854775806, ss, vi 0, vi 2, vi 0, vi 2, vl ((0 : Int64) + ((q3 - q1) + (1 : Int64))), ss, vi 1] [(.long 1), (.long (q4 - q2)), (.long ((0 : Int64) + ((q3 - q1) + (1 : Int64))))])) _
    refine XS.ladd X18.here hx rfl (hb hby d17_284) rfl ?_
    refine XS.ladd X18.here hx rfl (hb hby d17_285) rfl ?_
    refine XS.lstore X18.here hx rfl (hb hby d17_286) rfl (l' := #[va o0, vl q5, ss, vl 9223372036854775806, ss, vi 0, vi 2, vi 0, vi 2, vl (((0 : Int64) + ((q3 - q1) + (1 : Int64))) + ((q4 - q2) + (1 : Int64))), ss, vi 1]) rfl ?_
    refine XS.iinc X18.here hx rfl (hb hby d17_288) rfl (l' := #[va o0, vl q5, ss, vl 9223372036854775806, ss, vi 0, vi 2, vi 0, vi 2, vl (((0 : Int64) + ((q3 - q1) + (1 : Int64))) + ((q4 - q2) + (1 : Int64))), ss, vi ((1 : Int32) + (1 : Int32))]) rfl ?_
    show Steps p.tables e below (T18.setTop (mkF m 291 #[va o0, vl q5, ss, vl 9223372036854775806, ss, vi 0, vi 2, vi 0, vi 2, vl (((0 : Int64) + ((q3 - q1) + (1 : Int64))) + ((q4 - q2) + (1 : Int64))), ss, vi ((1 : Int32) + (1 : Int32))] [])) _
    rw [show (((1 : Int32) + (1 : Int32)) : Int32) = (2 : Int32) from by decide]
    refine XS.goto X18.here hx rfl (pc0 := 291) (pc' := 259) rfl (hb hby d17_291) (by decide) (by decide) ?_
    refine XS.iload X18.here hx rfl (hb hby d17_259) rfl ?_
    refine XS.iload X18.here hx rfl (hb hby d17_261) rfl ?_
    refine XS.icmpYes X18.here hx rfl (pc0 := 263) (pc' := 294) rfl (hb hby d17_263) rfl (flt (by decide : ¬ ((2 : Int32) < (2 : Int32)))).2.1 (by decide) (by decide) ?_
    refine XS.aloadN X18.here hx rfl (hb hby d17_294) rfl rfl ?_
    refine XS.iload X18.here hx rfl (hb hby d17_295) rfl ?_
    refine XS.iload X18.here hx rfl (hb hby d17_297) rfl ?_
    show Steps p.tables e below (T18.setTop (mkF m 299 #[va o0, vl q5, ss, vl 9223372036854775806, ss, vi 0, vi 2, vi 0, vi 2, vl (((0 : Int64) + ((q3 - q1) + (1 : Int64))) + ((q4 - q2) + (1 : Int64))), ss, vi 2] [(.int 2), (.int 0), (.ref o0)])) _
    refine XS.iload X18.here hx rfl (hb hby d17_299) rfl ?_
    refine XS.isub X18.here hx rfl (hb hby d17_301) rfl ?_
    show Steps p.tables e below (T18.setTop (mkF m 302 #[va o0, vl q5, ss, vl 9223372036854775806, ss, vi 0, vi 2, vi 0, vi 2, vl (((0 : Int64) + ((q3 - q1) + (1 : Int64))) + ((q4 - q2) + (1 : Int64))), ss, vi 2] [(.int ((2 : Int32) - (0 : Int32))), (.int 0), (.ref o0)])) _
    rw [show (((2 : Int32) - (0 : Int32)) : Int32) = (2 : Int32) from by decide]
    refine st19.trans ?_
    refine XS.aloadN X19.here hx rfl (hb hby d17_305) rfl rfl ?_
    refine XS.dup X19.here hx rfl (hb hby d17_306) rfl rfl ?_
    refine st20 _ ?_
    refine XS.lload X20.here hx rfl (hb hby d17_310) rfl ?_
    refine XS.lsub X20.here hx rfl (hb hby d17_312) rfl ?_
    refine st21 _ ?_
    show Steps p.tables e below (T21.setTop (mkF m 316 #[va o0, vl q5, ss, vl 9223372036854775806, ss, vi 0, vi 2, vi 0, vi 2, vl (((0 : Int64) + ((q3 - q1) + (1 : Int64))) + ((q4 - q2) + (1 : Int64))), ss, vi 2] [])) _
    exact X21.returnOut hx hrt (hb hby d17_316) hr
  · show Q17_1 Z w_NONE o0 o1 o2 kk_o1 kk_o2 q5 q0 q1 q2 q3 q4 h0 n0 none T21.heap _
    rw [e21]; exact ⟨rfl, N21, K21, fc22, Fw21, fc23, fc24, fc25, fc26, fc27, fc28⟩
def Q10_7 (Z : State) (w_NONE : Addr) (o0 : Addr) (o1 : Addr) (o2 : Addr) (kk_o1 : ClassId) (kk_o2 : ClassId) (q5 : Int64) (q0 : Int64) (q1 : Int64) (q2 : Int64) (q3 : Int64) (q4 : Int64) (h0 : Heap) (n0 : Nat) (v : Option Value) (h : Heap) (L : List Loc) : Prop := v = (some (.int 1)) ∧ Fr n0 L ∧ h = h0
theorem rm10_7 (l : Launch) (Z : State) (a0 : Array Value) (hw : HW Z a0) (ws : List Jvm.Cond) (w_NONE : Addr) (o0 : Addr) (o1 : Addr) (o2 : Addr) (kk_o1 : ClassId) (kk_o2 : ClassId) (q5 : Int64) (q0 : Int64) (q1 : Int64) (q2 : Int64) (q3 : Int64) (q4 : Int64) (h0 : Heap) (n0 : Nat) (O0 : Old Z n0 h0) (S : SF Z w_NONE) (F_lasts_o0 : Fld Z h0 o0 sC0 "lasts" "[J" (.ref o2)) (F_ranges_o0 : Fld Z h0 o0 sC0 "ranges" "I" (.int 2)) (V_o2 : Arv Z h0 o2 kk_o2 .long (4 : Int32) [(.long q3), (.long q4), (.long 0), (.long 0)] (.long 0)) (hc0 : ¬ (q4 < q5)) (hc1 : q3 < q5) :
    Pay l Z My10 ws prog_55_method_19_code 6 (some .int) #[(.ref o0), (.long q5)] h0 ({ frames := 0, cells := 0, slots := 0, locals := 0 } : Room) (Q10_7 Z w_NONE o0 o1 o2 kk_o1 kk_o2 q5 q0 q1 q2 q3 q4 h0 n0) := by
  refine own_body (plainFor_of_name pn_1) (L0 := #[va o0, vl q5, ss, uu, uu, uu]) (fun _ => by first | rfl | (simp [entryFrame, mkF, argsToLocals, Value.category]; done)) ?_
  intro p e s m below meth c s₁ hrt hlk hx hby hml hZ hown0 hnm X0 e0
  have hown : s.vm.findClass sC0 = some m.cls := hown0
  have N0 := Fr.nil n0
  have K0 : Keep h0 h0 [] := Keep.refl _ _
  obtain ⟨T1, X1, e1, st1⟩ := getF X0 hx hZ hown (host := "") (Or.inl (ww hw 39 rfl)) Via.refl e0 F_ranges_o0 (g := (mkF m 3 #[va o0, vl q5, ss, vi 0, uu, uu] [(.ref o0)])) rfl rfl (hb hby d10_3)
  obtain ⟨T2, X2, e2, st2⟩ := getF X1 hx hZ hown (host := "") (Or.inl (ww hw 30 rfl)) Via.refl e1 F_lasts_o0 (g := (mkF m 23 #[va o0, vl q5, ss, vi 0, vi 2, vi 1] [(.ref o0)])) rfl rfl (hb hby d10_23)
  obtain ⟨cl3, Ar3, qk3, Sz3, Ng3, Hh3, Gg3⟩ := id V_o2
  have hin3_1 : ¬ ((1 : Int32) < 0 ∨ cl3.slots.size ≤ ((1 : Int32)).toNatClampNeg) := inb_of Sz3 ⟨by decide, by decide⟩
  obtain ⟨T4, X4, e4, st4⟩ := getF X2 hx hZ hown (host := "") (Or.inl (ww hw 30 rfl)) Via.refl e2 F_lasts_o0 (g := (mkF m 23 #[va o0, vl q5, ss, vi 0, vi 1, vi 0] [(.ref o0)])) rfl rfl (hb hby d10_23)
  have hin3_0 : ¬ ((0 : Int32) < 0 ∨ cl3.slots.size ≤ ((0 : Int32)).toNatClampNeg) := inb_of Sz3 ⟨by decide, by decide⟩
  obtain ⟨fs, hr, hrun, hended, hW, hsame⟩ := X4.leave (v := (some (.int 1))) (fun h => by rw [hrt] at h; cases h)
  refine ⟨_, _, ?_, hrun, hended, _, _, rfl, ?_, ⟨_, rfl⟩, hW, hsame.mono (by decide) (by decide)⟩
  · show Steps p.tables e below (s₁.setTop (mkF m 0 #[va o0, vl q5, ss, uu, uu, uu] [])) _
    refine XS.iconst X0.here hx rfl (hb hby d10_0) ?_
    refine XS.istoreN X0.here hx rfl (hb hby d10_1) rfl (l' := #[va o0, vl q5, ss, vi 0, uu, uu]) rfl ?_
    refine XS.aloadN X0.here hx rfl (hb hby d10_2) rfl rfl ?_
    refine st1 _ ?_
    refine XS.istore X1.here hx rfl (hb hby d10_6) rfl (l' := #[va o0, vl q5, ss, vi 0, vi 2, uu]) rfl ?_
    refine XS.iloadN X1.here hx rfl (hb hby d10_8) rfl ?_
    refine XS.iload X1.here hx rfl (hb hby d10_9) rfl ?_
    refine XS.icmpNo X1.here hx rfl (hb hby d10_11) rfl (tlt (by decide : (0 : Int32) < (2 : Int32))).2.1 ?_
    show Steps p.tables e below (T1.setTop (mkF m 14 #[va o0, vl q5, ss, vi 0, vi 2, uu] [])) _
    refine XS.iloadN X1.here hx rfl (hb hby d10_14) rfl ?_
    refine XS.iload X1.here hx rfl (hb hby d10_15) rfl ?_
    refine XS.iadd X1.here hx rfl (hb hby d10_17) rfl ?_
    show Steps p.tables e below (T1.setTop (mkF m 18 #[va o0, vl q5, ss, vi 0, vi 2, uu] [(.int ((0 : Int32) + (2 : Int32)))])) _
    rw [show (((0 : Int32) + (2 : Int32)) : Int32) = (2 : Int32) from by decide]
    refine XS.iconst X1.here hx rfl (hb hby d10_18) ?_
    refine XS.iushr X1.here hx rfl (hb hby d10_19) rfl ?_
    show Steps p.tables e below (T1.setTop (mkF m 20 #[va o0, vl q5, ss, vi 0, vi 2, uu] [(.int (((2 : Int32).toUInt32 >>> ((1 : Int32) &&& 31).toUInt32).toInt32))])) _
    rw [show ((((2 : Int32).toUInt32 >>> ((1 : Int32) &&& 31).toUInt32).toInt32) : Int32) = (1 : Int32) from by decide]
    refine XS.istore X1.here hx rfl (hb hby d10_20) rfl (l' := #[va o0, vl q5, ss, vi 0, vi 2, vi 1]) rfl ?_
    refine XS.aloadN X1.here hx rfl (hb hby d10_22) rfl rfl ?_
    refine st2 _ ?_
    refine XS.iload X2.here hx rfl (hb hby d10_26) rfl ?_
    refine X2.laload hx (j := (1 : Int32)) (v := (.long q4)) (by rw [e2]; exact Ar3.1) (State.isArrayOf_alike hZ.alike Ar3.2.1) Ar3.2.2 hin3_1 (Has.at Hh3 hin3_1 rfl) (g := (mkF m 28 #[va o0, vl q5, ss, vi 0, vi 2, vi 1] [(.int 1), (.ref o2)])) rfl rfl (hb hby d10_28) _ ?_
    refine XS.lloadN X2.here hx rfl (hb hby d10_29) rfl ?_
    refine XS.lcmp X2.here hx rfl (hb hby d10_30) rfl ?_
    show Steps p.tables e below (T2.setTop (mkF m 31 #[va o0, vl q5, ss, vi 0, vi 2, vi 1] [(.int (lcmpW q4 q5))])) _
    refine XS.ifYes X2.here hx rfl (pc0 := 31) (pc' := 42) rfl (hb hby d10_31) rfl (own_lc_ltF hc0).2 (by decide) (by decide) ?_
    refine XS.iload X2.here hx rfl (hb hby d10_42) rfl ?_
    refine XS.istore X2.here hx rfl (hb hby d10_44) rfl (l' := #[va o0, vl q5, ss, vi 0, vi 1, vi 1]) rfl ?_
    refine XS.goto X2.here hx rfl (pc0 := 46) (pc' := 8) rfl (hb hby d10_46) (by decide) (by decide) ?_
    refine XS.iloadN X2.here hx rfl (hb hby d10_8) rfl ?_
    refine XS.iload X2.here hx rfl (hb hby d10_9) rfl ?_
    refine XS.icmpNo X2.here hx rfl (hb hby d10_11) rfl (tlt (by decide : (0 : Int32) < (1 : Int32))).2.1 ?_
    refine XS.iloadN X2.here hx rfl (hb hby d10_14) rfl ?_
    show Steps p.tables e below (T2.setTop (mkF m 15 #[va o0, vl q5, ss, vi 0, vi 1, vi 1] [(.int 0)])) _
    refine XS.iload X2.here hx rfl (hb hby d10_15) rfl ?_
    refine XS.iadd X2.here hx rfl (hb hby d10_17) rfl ?_
    show Steps p.tables e below (T2.setTop (mkF m 18 #[va o0, vl q5, ss, vi 0, vi 1, vi 1] [(.int ((0 : Int32) + (1 : Int32)))])) _
    rw [show (((0 : Int32) + (1 : Int32)) : Int32) = (1 : Int32) from by decide]
    refine XS.iconst X2.here hx rfl (hb hby d10_18) ?_
    refine XS.iushr X2.here hx rfl (hb hby d10_19) rfl ?_
    show Steps p.tables e below (T2.setTop (mkF m 20 #[va o0, vl q5, ss, vi 0, vi 1, vi 1] [(.int (((1 : Int32).toUInt32 >>> ((1 : Int32) &&& 31).toUInt32).toInt32))])) _
    rw [show ((((1 : Int32).toUInt32 >>> ((1 : Int32) &&& 31).toUInt32).toInt32) : Int32) = (0 : Int32) from by decide]
    refine XS.istore X2.here hx rfl (hb hby d10_20) rfl (l' := #[va o0, vl q5, ss, vi 0, vi 1, vi 0]) rfl ?_
    refine XS.aloadN X2.here hx rfl (hb hby d10_22) rfl rfl ?_
    refine st4 _ ?_
    refine XS.iload X4.here hx rfl (hb hby d10_26) rfl ?_
    refine X4.laload hx (j := (0 : Int32)) (v := (.long q3)) (by rw [e4]; exact Ar3.1) (State.isArrayOf_alike hZ.alike Ar3.2.1) Ar3.2.2 hin3_0 (Has.at Hh3 hin3_0 rfl) (g := (mkF m 28 #[va o0, vl q5, ss, vi 0, vi 1, vi 0] [(.int 0), (.ref o2)])) rfl rfl (hb hby d10_28) _ ?_
    refine XS.lloadN X4.here hx rfl (hb hby d10_29) rfl ?_
    refine XS.lcmp X4.here hx rfl (hb hby d10_30) rfl ?_
    show Steps p.tables e below (T4.setTop (mkF m 31 #[va o0, vl q5, ss, vi 0, vi 1, vi 0] [(.int (lcmpW q3 q5))])) _
    refine XS.ifNo X4.here hx rfl (hb hby d10_31) rfl (own_lc_ltT hc1).2 ?_
    refine XS.iload X4.here hx rfl (hb hby d10_34) rfl ?_
    refine XS.iconst X4.here hx rfl (hb hby d10_36) ?_
    refine XS.iadd X4.here hx rfl (hb hby d10_37) rfl ?_
    show Steps p.tables e below (T4.setTop (mkF m 38 #[va o0, vl q5, ss, vi 0, vi 1, vi 0] [(.int ((0 : Int32) + (1 : Int32)))])) _
    rw [show (((0 : Int32) + (1 : Int32)) : Int32) = (1 : Int32) from by decide]
    refine XS.istoreN X4.here hx rfl (hb hby d10_38) rfl (l' := #[va o0, vl q5, ss, vi 1, vi 1, vi 0]) rfl ?_
    refine XS.goto X4.here hx rfl (pc0 := 39) (pc' := 46) rfl (hb hby d10_39) (by decide) (by decide) ?_
    refine XS.goto X4.here hx rfl (pc0 := 46) (pc' := 8) rfl (hb hby d10_46) (by decide) (by decide) ?_
    refine XS.iloadN X4.here hx rfl (hb hby d10_8) rfl ?_
    refine XS.iload X4.here hx rfl (hb hby d10_9) rfl ?_
    refine XS.icmpYes X4.here hx rfl (pc0 := 11) (pc' := 49) rfl (hb hby d10_11) rfl (flt (by decide : ¬ ((1 : Int32) < (1 : Int32)))).2.1 (by decide) (by decide) ?_
    refine XS.iloadN X4.here hx rfl (hb hby d10_49) rfl ?_
    show Steps p.tables e below (T4.setTop (mkF m 50 #[va o0, vl q5, ss, vi 1, vi 1, vi 0] [(.int 1)])) _
    exact retOut X4 hx (t := .int) (i := .ireturn) hrt rfl (Or.inl ⟨rfl, Or.inl rfl, _, rfl⟩) (hb hby d10_50) hr
  · show Q10_7 Z w_NONE o0 o1 o2 kk_o1 kk_o2 q5 q0 q1 q2 q3 q4 h0 n0 (some (.int 1)) T4.heap _
    exact (⟨rfl, N0, e4⟩)
def Q16_2 (Z : State) (w_NONE : Addr) (o0 : Addr) (o1 : Addr) (o2 : Addr) (kk_o1 : ClassId) (kk_o2 : ClassId) (q0 : Int64) (q1 : Int64) (q2 : Int64) (q3 : Int64) (q4 : Int64) (h0 : Heap) (n0 : Nat) (v : Option Value) (h : Heap) (L : List Loc) : Prop := v = none ∧ Fr n0 L ∧ Keep h0 h [o1, o2, o0] ∧ Exa Z h o0 sC0 ∧ Fld Z h o0 sC0 "count" "J" (.long q0) ∧ Fld Z h o0 sC0 "firsts" "[J" (.ref o1) ∧ Fld Z h o0 sC0 "lasts" "[J" (.ref o2) ∧ Fld Z h o0 sC0 "maxRanges" "I" (.int 2147483647) ∧ Fld Z h o0 sC0 "ranges" "I" (.int 1) ∧ Arv Z h o1 kk_o1 .long (4 : Int32) [(.long q1), (.long q2), (.long 0), (.long 0)] (.long 0) ∧ Arv Z h o2 kk_o2 .long (4 : Int32) [(.long q3), (.long q4), (.long 0), (.long 0)] (.long 0)
theorem rm16_2 (l : Launch) (Z : State) (a0 : Array Value) (hw : HW Z a0) (ws : List Jvm.Cond) (w_NONE : Addr) (o0 : Addr) (o1 : Addr) (o2 : Addr) (kk_o1 : ClassId) (kk_o2 : ClassId) (q0 : Int64) (q1 : Int64) (q2 : Int64) (q3 : Int64) (q4 : Int64) (h0 : Heap) (n0 : Nat) (O0 : Old Z n0 h0) (S : SF Z w_NONE) (E_o0 : Exa Z h0 o0 sC0) (F_count_o0 : Fld Z h0 o0 sC0 "count" "J" (.long q0)) (F_firsts_o0 : Fld Z h0 o0 sC0 "firsts" "[J" (.ref o1)) (F_lasts_o0 : Fld Z h0 o0 sC0 "lasts" "[J" (.ref o2)) (F_maxRanges_o0 : Fld Z h0 o0 sC0 "maxRanges" "I" (.int 2147483647)) (F_ranges_o0 : Fld Z h0 o0 sC0 "ranges" "I" (.int 2)) (V_o1 : Arv Z h0 o1 kk_o1 .long (4 : Int32) [(.long q1), (.long q2), (.long 0), (.long 0)] (.long 0)) (V_o2 : Arv Z h0 o2 kk_o2 .long (4 : Int32) [(.long q3), (.long q4), (.long 0), (.long 0)] (.long 0)) (ne_o0_o1 : o0 ≠ o1) (ne_o0_o2 : o0 ≠ o2) (ne_o1_o2 : o1 ≠ o2) (g_o0 : n0 ≤ o0) (g_o1 : n0 ≤ o1) (g_o2 : n0 ≤ o2) :
    Pay l Z My16 ws prog_55_method_22_code 3 none #[(.ref o0), (.int 1), (.int 1)] h0 ({ frames := 1, cells := 0, slots := 0, locals := 18 } : Room) (Q16_2 Z w_NONE o0 o1 o2 kk_o1 kk_o2 q0 q1 q2 q3 q4 h0 n0) := by
  refine own_body (plainFor_of_name pn_1) (L0 := #[va o0, vi 1, vi 1]) (fun _ => by first | rfl | (simp [entryFrame, mkF, argsToLocals, Value.category]; done)) ?_
  intro p e s m below meth c s₁ hrt hlk hx hby hml hZ hown0 hnm X0 e0
  have hown : s.vm.findClass sC0 = some m.cls := hown0
  have N0 := Fr.nil n0
  have K0 : Keep h0 h0 [o1, o2, o0] := Keep.refl _ _
  obtain ⟨T1, X1, e1, st1⟩ := getF X0 hx hZ hown (host := "") (Or.inl (ww hw 28 rfl)) Via.refl e0 F_firsts_o0 (g := (mkF m 1 #[va o0, vi 1, vi 1] [(.ref o0)])) rfl rfl (hb hby d16_1)
  obtain ⟨T2, X2, e2, st2⟩ := getF X1 hx hZ hown (host := "") (Or.inl (ww hw 28 rfl)) Via.refl e1 F_firsts_o0 (g := (mkF m 8 #[va o0, vi 1, vi 1] [(.ref o0), (.int 2), (.ref o1)])) rfl rfl (hb hby d16_8)
  obtain ⟨T3, X3, e3, st3⟩ := getF X2 hx hZ hown (host := "") (Or.inl (ww hw 39 rfl)) Via.refl e2 F_ranges_o0 (g := (mkF m 13 #[va o0, vi 1, vi 1] [(.ref o0), (.int 1), (.ref o1), (.int 2), (.ref o1)])) rfl rfl (hb hby d16_13)
  obtain ⟨T4, h4, L4, X4, e4, N4, Kc4, Vc4, st4⟩ := cpA X3 hx hZ hown (ww hw 72 rfl) (ww hw 71 rfl) (ww hw 69 rfl) (ww hw 70 rfl) e3 V_o1 V_o1 (us := []) (Or.inl ⟨rfl, rfl⟩) (sp := (2 : Int32)) (dp := (1 : Int32)) (nn := (0 : Int32)) (by decide) (by decide) (by decide) (by decide) (by decide) rfl (Nat.le_of_ble_eq_true rfl) N0 g_o1 (g := (mkF m 20 #[va o0, vi 1, vi 1] [(.int 0), (.int 1), (.ref o1), (.int 2), (.ref o1)])) rfl (by rw [hml]; rfl) (rest := []) rfl (hb hby d16_20) (by decide) (W := 0) (by show 2 * 0 + _ ≤ _; exact Nat.le_of_eq rfl) (by decide)
  have V4 : Arv Z h4 o1 kk_o1 .long (4 : Int32) [(.long q1), (.long q2), (.long 0), (.long 0)] (.long 0) := Vc4
  have O4 := O0.keep Kc4 (allS g_o1 all0)
  have K4 : Keep h0 h4 [o1, o2, o0] := K0.trans Kc4 (allS (Or.inl (List.mem_of_getElem? (i := 0) rfl)) all0)
  have fc5 := (F_lasts_o0.keep Kc4 (ninS ne_o0_o1 nin0))
  obtain ⟨T6, X6, e6, st6⟩ := getF X4 hx hZ hown (host := "") (Or.inl (ww hw 30 rfl)) Via.refl e4 fc5 (g := (mkF m 24 #[va o0, vi 1, vi 1] [(.ref o0)])) rfl rfl (hb hby d16_24)
  obtain ⟨T7, X7, e7, st7⟩ := getF X6 hx hZ hown (host := "") (Or.inl (ww hw 30 rfl)) Via.refl e6 fc5 (g := (mkF m 31 #[va o0, vi 1, vi 1] [(.ref o0), (.int 2), (.ref o2)])) rfl rfl (hb hby d16_31)
  have fc8 := (F_ranges_o0.keep Kc4 (ninS ne_o0_o1 nin0))
  obtain ⟨T9, X9, e9, st9⟩ := getF X7 hx hZ hown (host := "") (Or.inl (ww hw 39 rfl)) Via.refl e7 fc8 (g := (mkF m 36 #[va o0, vi 1, vi 1] [(.ref o0), (.int 1), (.ref o2), (.int 2), (.ref o2)])) rfl rfl (hb hby d16_36)
  have fc10 := (V_o2.keep Kc4 (ninS (Ne.symm ne_o1_o2) nin0))
  obtain ⟨T11, h11, L11, X11, e11, N11, Kc11, Vc11, st11⟩ := cpA X9 hx hZ hown (ww hw 72 rfl) (ww hw 71 rfl) (ww hw 69 rfl) (ww hw 70 rfl) e9 fc10 fc10 (us := []) (Or.inl ⟨rfl, rfl⟩) (sp := (2 : Int32)) (dp := (1 : Int32)) (nn := (0 : Int32)) (by decide) (by decide) (by decide) (by decide) (by decide) rfl (Nat.le_of_ble_eq_true rfl) N4 g_o2 (g := (mkF m 43 #[va o0, vi 1, vi 1] [(.int 0), (.int 1), (.ref o2), (.int 2), (.ref o2)])) rfl (by rw [hml]; rfl) (rest := []) rfl (hb hby d16_43) (by decide) (W := 0) (by show 2 * 0 + _ ≤ _; exact Nat.le_of_eq rfl) (by decide)
  have V11 : Arv Z h11 o2 kk_o2 .long (4 : Int32) [(.long q3), (.long q4), (.long 0), (.long 0)] (.long 0) := Vc11
  have O11 := O4.keep Kc11 (allS g_o2 all0)
  have K11 : Keep h0 h11 [o1, o2, o0] := K4.trans Kc11 (allS (Or.inl (List.mem_of_getElem? (i := 1) rfl)) all0)
  have fc12 := (fc8.keep Kc11 (ninS ne_o0_o2 nin0))
  obtain ⟨T13, X13, e13, st13⟩ := getF X11 hx hZ hown (host := "") (Or.inl (ww hw 39 rfl)) Via.refl e11 fc12 (g := (mkF m 48 #[va o0, vi 1, vi 1] [(.ref o0), (.ref o0)])) rfl rfl (hb hby d16_48)
  have fc14 := ((E_o0.keep Kc4).keep Kc11)
  obtain ⟨T15, h15, X15, e15, W15, st15⟩ := putF X13 hx hZ hown (host := "") (Or.inl (ww hw 39 rfl)) Via.refl e13 fc12 fc14 (Or.inl (ww hw 40 rfl)) (ww hw 14 rfl) (ty := .int) (by decide) rfl rfl (g := (mkF m 53 #[va o0, vi 1, vi 1] [(.int 1), (.ref o0)])) rfl rfl (hb hby d16_53)
  have Fw15 := fc12.same W15
  have O15 := O11.wr W15 g_o0
  have K15 : Keep h0 h15 [o1, o2, o0] := K11.wr W15 (Or.inl (List.mem_of_getElem? (i := 2) rfl))
  have N15 := Fr.snoc X15 N11 g_o0
  obtain ⟨fs, hr, hrun, hended, hW, hsame⟩ := X15.leave (v := none) (fun _ => rfl)
  have fc16 := (fc14.wr W15)
  have fc17 := (((F_count_o0.keep Kc4 (ninS ne_o0_o1 nin0)).keep Kc11 (ninS ne_o0_o2 nin0)).other W15 (Or.inr (slot_ne (Or.inl (ww hw 74 rfl)) (Or.inl (ww hw 40 rfl)) (by decide) (t := .long) (t' := .int) (by decide) (by decide))))
  have fc18 := (((F_firsts_o0.keep Kc4 (ninS ne_o0_o1 nin0)).keep Kc11 (ninS ne_o0_o2 nin0)).other W15 (Or.inr (slot_ne (Or.inl (ww hw 29 rfl)) (Or.inl (ww hw 40 rfl)) (by decide) (t := (.array .long)) (t' := .int) (by decide) (by decide))))
  have fc19 := ((fc5.keep Kc11 (ninS ne_o0_o2 nin0)).other W15 (Or.inr (slot_ne (Or.inl (ww hw 31 rfl)) (Or.inl (ww hw 40 rfl)) (by decide) (t := (.array .long)) (t' := .int) (by decide) (by decide))))
  have fc20 := (((F_maxRanges_o0.keep Kc4 (ninS ne_o0_o1 nin0)).keep Kc11 (ninS ne_o0_o2 nin0)).other W15 (Or.inr (slot_ne (Or.inr (ww hw 33 rfl)) (Or.inl (ww hw 40 rfl)) (by decide) (t := .int) (t' := .int) (by decide) (by decide))))
  have fc21 := ((V4.keep Kc11 (ninS ne_o1_o2 nin0)).other W15 (Ne.symm ne_o0_o1))
  have fc22 := (V11.other W15 (Ne.symm ne_o0_o2))
  refine ⟨_, _, ?_, hrun, hended, _, _, rfl, ?_, ⟨_, rfl⟩, hW, hsame.mono (by decide) (by decide)⟩
  · show Steps p.tables e below (s₁.setTop (mkF m 0 #[va o0, vi 1, vi 1] [])) _
    refine XS.aloadN X0.here hx rfl (hb hby d16_0) rfl rfl ?_
    refine st1 _ ?_
    refine XS.iloadN X1.here hx rfl (hb hby d16_4) rfl ?_
    refine XS.iloadN X1.here hx rfl (hb hby d16_5) rfl ?_
    refine XS.iadd X1.here hx rfl (hb hby d16_6) rfl ?_
    show Steps p.tables e below (T1.setTop (mkF m 7 #[va o0, vi 1, vi 1] [(.int ((1 : Int32) + (1 : Int32))), (.ref o1)])) _
    rw [show (((1 : Int32) + (1 : Int32)) : Int32) = (2 : Int32) from by decide]
    refine XS.aloadN X1.here hx rfl (hb hby d16_7) rfl rfl ?_
    refine st2 _ ?_
    refine XS.iloadN X2.here hx rfl (hb hby d16_11) rfl ?_
    refine XS.aloadN X2.here hx rfl (hb hby d16_12) rfl rfl ?_
    refine st3 _ ?_
    refine XS.iloadN X3.here hx rfl (hb hby d16_16) rfl ?_
    refine XS.isub X3.here hx rfl (hb hby d16_17) rfl ?_
    show Steps p.tables e below (T3.setTop (mkF m 18 #[va o0, vi 1, vi 1] [(.int ((2 : Int32) - (1 : Int32))), (.int 1), (.ref o1), (.int 2), (.ref o1)])) _
    rw [show (((2 : Int32) - (1 : Int32)) : Int32) = (1 : Int32) from by decide]
    refine XS.iloadN X3.here hx rfl (hb hby d16_18) rfl ?_
    refine XS.isub X3.here hx rfl (hb hby d16_19) rfl ?_
    show Steps p.tables e below (T3.setTop (mkF m 20 #[va o0, vi 1, vi 1] [(.int ((1 : Int32) - (1 : Int32))), (.int 1), (.ref o1), (.int 2), (.ref o1)])) _
    rw [show (((1 : Int32) - (1 : Int32)) : Int32) = (0 : Int32) from by decide]
    refine st4 _ ?_
    refine XS.aloadN X4.here hx rfl (hb hby d16_23) rfl rfl ?_
    refine st6 _ ?_
    refine XS.iloadN X6.here hx rfl (hb hby d16_27) rfl ?_
    refine XS.iloadN X6.here hx rfl (hb hby d16_28) rfl ?_
    refine XS.iadd X6.here hx rfl (hb hby d16_29) rfl ?_
    show Steps p.tables e below (T6.setTop (mkF m 30 #[va o0, vi 1, vi 1] [(.int ((1 : Int32) + (1 : Int32))), (.ref o2)])) _
    rw [show (((1 : Int32) + (1 : Int32)) : Int32) = (2 : Int32) from by decide]
    refine XS.aloadN X6.here hx rfl (hb hby d16_30) rfl rfl ?_
    refine st7 _ ?_
    refine XS.iloadN X7.here hx rfl (hb hby d16_34) rfl ?_
    refine XS.aloadN X7.here hx rfl (hb hby d16_35) rfl rfl ?_
    refine st9 _ ?_
    refine XS.iloadN X9.here hx rfl (hb hby d16_39) rfl ?_
    refine XS.isub X9.here hx rfl (hb hby d16_40) rfl ?_
    show Steps p.tables e below (T9.setTop (mkF m 41 #[va o0, vi 1, vi 1] [(.int ((2 : Int32) - (1 : Int32))), (.int 1), (.ref o2), (.int 2), (.ref o2)])) _
    rw [show (((2 : Int32) - (1 : Int32)) : Int32) = (1 : Int32) from by decide]
    refine XS.iloadN X9.here hx rfl (hb hby d16_41) rfl ?_
    refine XS.isub X9.here hx rfl (hb hby d16_42) rfl ?_
    show Steps p.tables e below (T9.setTop (mkF m 43 #[va o0, vi 1, vi 1] [(.int ((1 : Int32) - (1 : Int32))), (.int 1), (.ref o2), (.int 2), (.ref o2)])) _
    rw [show (((1 : Int32) - (1 : Int32)) : Int32) = (0 : Int32) from by decide]
    refine st11 _ ?_
    refine XS.aloadN X11.here hx rfl (hb hby d16_46) rfl rfl ?_
    refine XS.dup X11.here hx rfl (hb hby d16_47) rfl rfl ?_
    refine st13 _ ?_
    refine XS.iloadN X13.here hx rfl (hb hby d16_51) rfl ?_
    refine XS.isub X13.here hx rfl (hb hby d16_52) rfl ?_
    show Steps p.tables e below (T13.setTop (mkF m 53 #[va o0, vi 1, vi 1] [(.int ((2 : Int32) - (1 : Int32))), (.ref o0)])) _
    rw [show (((2 : Int32) - (1 : Int32)) : Int32) = (1 : Int32) from by decide]
    refine st15 _ ?_
    exact X15.returnOut hx hrt (hb hby d16_56) hr
  · show Q16_2 Z w_NONE o0 o1 o2 kk_o1 kk_o2 q0 q1 q2 q3 q4 h0 n0 none T15.heap _
    rw [e15]; exact ⟨rfl, N15, K15, fc16, fc17, fc18, fc19, fc20, Fw15, fc21, fc22⟩
def Q17_2 (Z : State) (w_NONE : Addr) (o0 : Addr) (o1 : Addr) (o2 : Addr) (kk_o1 : ClassId) (kk_o2 : ClassId) (q5 : Int64) (q0 : Int64) (q1 : Int64) (q2 : Int64) (q3 : Int64) (q4 : Int64) (h0 : Heap) (n0 : Nat) (v : Option Value) (h : Heap) (L : List Loc) : Prop := v = none ∧ Fr n0 L ∧ Keep h0 h [o0, o2, o1] ∧ Exa Z h o0 sC0 ∧ Fld Z h o0 sC0 "count" "J" (.long (q0 - ((0 : Int64) + ((q4 - q2) + (1 : Int64))))) ∧ Fld Z h o0 sC0 "firsts" "[J" (.ref o1) ∧ Fld Z h o0 sC0 "lasts" "[J" (.ref o2) ∧ Fld Z h o0 sC0 "maxRanges" "I" (.int 2147483647) ∧ Fld Z h o0 sC0 "ranges" "I" (.int 1) ∧ Arv Z h o1 kk_o1 .long (4 : Int32) [(.long q1), (.long q2), (.long 0), (.long 0)] (.long 0) ∧ Arv Z h o2 kk_o2 .long (4 : Int32) [(.long q3), (.long q4), (.long 0), (.long 0)] (.long 0)
theorem rm17_2 (l : Launch) (Z : State) (a0 : Array Value) (hw : HW Z a0) (ws : List Jvm.Cond) (w_NONE : Addr) (o0 : Addr) (o1 : Addr) (o2 : Addr) (kk_o1 : ClassId) (kk_o2 : ClassId) (q5 : Int64) (q0 : Int64) (q1 : Int64) (q2 : Int64) (q3 : Int64) (q4 : Int64) (h0 : Heap) (n0 : Nat) (O0 : Old Z n0 h0) (S : SF Z w_NONE) (E_o0 : Exa Z h0 o0 sC0) (F_count_o0 : Fld Z h0 o0 sC0 "count" "J" (.long q0)) (F_firsts_o0 : Fld Z h0 o0 sC0 "firsts" "[J" (.ref o1)) (F_lasts_o0 : Fld Z h0 o0 sC0 "lasts" "[J" (.ref o2)) (F_maxRanges_o0 : Fld Z h0 o0 sC0 "maxRanges" "I" (.int 2147483647)) (F_ranges_o0 : Fld Z h0 o0 sC0 "ranges" "I" (.int 2)) (V_o1 : Arv Z h0 o1 kk_o1 .long (4 : Int32) [(.long q1), (.long q2), (.long 0), (.long 0)] (.long 0)) (V_o2 : Arv Z h0 o2 kk_o2 .long (4 : Int32) [(.long q3), (.long q4), (.long 0), (.long 0)] (.long 0)) (ne_o0_o1 : o0 ≠ o1) (ne_o0_o2 : o0 ≠ o2) (ne_o1_o2 : o1 ≠ o2) (g_o0 : n0 ≤ o0) (g_o1 : n0 ≤ o1) (g_o2 : n0 ≤ o2) (hc0 : ¬ (q5 < (0 : Int64))) (hc1 : ¬ ((9223372036854775806 : Int64) < q5)) (hc2 : ¬ (q4 < q5)) (hc3 : q3 < q5) (hc4 : ¬ ((9223372036854775806 : Int64) < q2)) (hc5 : ¬ (q2 < q5)) (hc6 : ¬ ((9223372036854775806 : Int64) < q4)) :
    Pay l Z My17 ws prog_55_method_10_code 12 none #[(.ref o0), (.long q5), (.long 9223372036854775806)] h0 ({ frames := 2, cells := 0, slots := 0, locals := 32 } : Room) (Q17_2 Z w_NONE o0 o1 o2 kk_o1 kk_o2 q5 q0 q1 q2 q3 q4 h0 n0) := by
  refine own_body (plainFor_of_name pn_1) (L0 := #[va o0, vl q5, ss, vl 9223372036854775806, ss, uu, uu, uu, uu, uu, uu, uu]) (fun _ => by first | rfl | (simp [entryFrame, mkF, argsToLocals, Value.category]; done)) ?_
  intro p e s m below meth c s₁ hrt hlk hx hby hml hZ hown0 hnm X0 e0
  have hown : s.vm.findClass sC0 = some m.cls := hown0
  have N0 := Fr.nil n0
  have K0 : Keep h0 h0 [o0, o2, o1] := Keep.refl _ _
  obtain ⟨_, _, ⟨T1, L1, k1, n1⟩, -, X1, ⟨Lc1, hQ1, l1, y1, z1⟩, st1⟩ := Jvm.LawKit.callS X0 hx (y := My9) hown (mvT hZ (ww hw 46 rfl)) (mvT hZ (ww hw 47 rfl)) (mvT hZ (ww hw 15 rfl)) (mvT hZ (ww hw 48 rfl)) (by decide) (backOf (W := 0) (rm9_1 l Z a0 hw [] w_NONE q5 h0 n0 O0 S hc0 hc1) hZ (ww hw 48 rfl) (ww hw 15 rfl) (by decide) (by decide)) (g := (mkF m 2 #[va o0, vl q5, ss, vl 9223372036854775806, ss, uu, uu, uu, uu, uu, uu, uu] [(.long 9223372036854775806), (.long q5)])) rfl (by rw [hml]; rfl) (argsL := [(.long q5), (.long 9223372036854775806)]) (rest := []) (lenOf pd_4 rfl) rfl (by show 2 * 0 + _ ≤ _; exact Nat.le_of_eq rfl) (hb hby d17_2) (fun _ _ => ⟨rfl, e0, (by decide : 0 + 0 ≤ _), (by decide : 0 + 0 ≤ _)⟩)
  dsimp only [Pt.U, Pt.locs, Pt.cells, Pt.slots] at X1 l1 y1 z1 st1 hQ1
  subst l1 y1 z1
  obtain ⟨rfl, Nq1, e1⟩ := hQ1
  have N1 := Fr.app N0 Nq1
  obtain ⟨cq2, qa2, qb2⟩ := E_o0.cell
  obtain ⟨_, _, ⟨T2, L2, k2, n2⟩, -, X2, ⟨Lc2, hQ2, l2, y2, z2⟩, st2⟩ := X1.privateBack hx (y := My10) hown (mvT hZ (ww hw 49 rfl)) (mvT hZ (ww hw 50 rfl)) (own_selp (by decide) (mvT hZ (ww hw 14 rfl)) (mvP hZ (ww hw 51 rfl)) (mvT hZ (ww hw 50 rfl))) (Cond.privateMethod_at (mvP hZ (ww hw 51 rfl) (args := #[]))) (mvT hZ (ww hw 52 rfl)) (by decide) (backOf (W := 0) (rm10_7 l Z a0 hw [] w_NONE o0 o1 o2 kk_o1 kk_o2 q5 q0 q1 q2 q3 q4 h0 n0 O0 S F_lasts_o0 F_ranges_o0 V_o2 hc2 hc3) hZ (ww hw 52 rfl) (ww hw 15 rfl) (by decide) (by decide)) (g := (mkF m 7 #[va o0, vl q5, ss, vl 9223372036854775806, ss, uu, uu, uu, uu, uu, uu, uu] [(.long q5), (.ref o0)])) rfl (by rw [hml]; rfl) (Steps.refl _) (a := o0) (by rw [e1]; exact qa2) qb2 (argsL := [(.long q5)]) (rest := []) (lenOf pd_5 rfl) rfl (by show 2 * 0 + _ ≤ _; exact Nat.le_of_eq rfl) (hb hby d17_7) (fun _ _ => ⟨rfl, e1, (by decide : 0 + 0 ≤ _), (by decide : 0 + 0 ≤ _)⟩)
  dsimp only [Pt.U, Pt.locs, Pt.cells, Pt.slots] at X2 l2 y2 z2 st2 hQ2
  subst l2 y2 z2
  obtain ⟨rfl, Nq2, e2⟩ := hQ2
  have N2 := Fr.app N1 Nq2
  obtain ⟨T3, X3, e3, st3⟩ := getF X2 hx hZ hown (host := "") (Or.inl (ww hw 39 rfl)) Via.refl e2 F_ranges_o0 (g := (mkF m 15 #[va o0, vl q5, ss, vl 9223372036854775806, ss, vi 1, uu, uu, uu, uu, uu, uu] [(.ref o0), (.int 1)])) rfl rfl (hb hby d17_15)
  obtain ⟨T4, X4, e4, st4⟩ := getF X3 hx hZ hown (host := "") (Or.inl (ww hw 28 rfl)) Via.refl e3 F_firsts_o0 (g := (mkF m 22 #[va o0, vl q5, ss, vl 9223372036854775806, ss, vi 1, uu, uu, uu, uu, uu, uu] [(.ref o0)])) rfl rfl (hb hby d17_22)
  obtain ⟨cl5, Ar5, qk5, Sz5, Ng5, Hh5, Gg5⟩ := id V_o1
  have hin5_1 : ¬ ((1 : Int32) < 0 ∨ cl5.slots.size ≤ ((1 : Int32)).toNatClampNeg) := inb_of Sz5 ⟨by decide, by decide⟩
  obtain ⟨T6, X6, e6, st6⟩ := getF X4 hx hZ hown (host := "") (Or.inl (ww hw 28 rfl)) Via.refl e4 F_firsts_o0 (g := (mkF m 35 #[va o0, vl q5, ss, vl 9223372036854775806, ss, vi 1, uu, uu, uu, uu, uu, uu] [(.ref o0)])) rfl rfl (hb hby d17_35)
  obtain ⟨T7, X7, e7, st7⟩ := getF X6 hx hZ hown (host := "") (Or.inl (ww hw 39 rfl)) Via.refl e6 F_ranges_o0 (g := (mkF m 125 #[va o0, vl q5, ss, vl 9223372036854775806, ss, vi 1, vi 1, uu, uu, uu, uu, uu] [(.ref o0), (.int 1)])) rfl rfl (hb hby d17_125)
  obtain ⟨T8, X8, e8, st8⟩ := getF X7 hx hZ hown (host := "") (Or.inl (ww hw 28 rfl)) Via.refl e7 F_firsts_o0 (g := (mkF m 132 #[va o0, vl q5, ss, vl 9223372036854775806, ss, vi 1, vi 1, uu, uu, uu, uu, uu] [(.ref o0)])) rfl rfl (hb hby d17_132)
  obtain ⟨T9, X9, e9, st9⟩ := getF X8 hx hZ hown (host := "") (Or.inl (ww hw 39 rfl)) Via.refl e8 F_ranges_o0 (g := (mkF m 125 #[va o0, vl q5, ss, vl 9223372036854775806, ss, vi 1, vi 2, uu, uu, uu, uu, uu] [(.ref o0), (.int 2)])) rfl rfl (hb hby d17_125)
  obtain ⟨T10, X10, e10, st10⟩ := getF X9 hx hZ hown (host := "") (Or.inl (ww hw 28 rfl)) Via.refl e9 F_firsts_o0 (g := (mkF m 161 #[va o0, vl q5, ss, vl 9223372036854775806, ss, vi 1, vi 2, vi 1, vi 2, vl 0, ss, uu] [(.ref o0)])) rfl rfl (hb hby d17_161)
  obtain ⟨T11, X11, e11, st11⟩ := getF X10 hx hZ hown (host := "") (Or.inl (ww hw 30 rfl)) Via.refl e10 F_lasts_o0 (g := (mkF m 209 #[va o0, vl q5, ss, vl 9223372036854775806, ss, vi 1, vi 2, vi 1, vi 2, vl 0, ss, uu] [(.ref o0)])) rfl rfl (hb hby d17_209)
  obtain ⟨cl12, Ar12, qk12, Sz12, Ng12, Hh12, Gg12⟩ := id V_o2
  have hin12_1 : ¬ ((1 : Int32) < 0 ∨ cl12.slots.size ≤ ((1 : Int32)).toNatClampNeg) := inb_of Sz12 ⟨by decide, by decide⟩
  obtain ⟨T13, X13, e13, st13⟩ := getF X11 hx hZ hown (host := "") (Or.inl (ww hw 30 rfl)) Via.refl e11 F_lasts_o0 (g := (mkF m 269 #[va o0, vl q5, ss, vl 9223372036854775806, ss, vi 1, vi 2, vi 1, vi 2, vl 0, ss, vi 1] [(.ref o0), (.long 0)])) rfl rfl (hb hby d17_269)
  obtain ⟨T14, X14, e14, st14⟩ := getF X13 hx hZ hown (host := "") (Or.inl (ww hw 28 rfl)) Via.refl e13 F_firsts_o0 (g := (mkF m 276 #[va o0, vl q5, ss, vl 9223372036854775806, ss, vi 1, vi 2, vi 1, vi 2, vl 0, ss, vi 1] [(.ref o0), (.long q4), (.long 0)])) rfl rfl (hb hby d17_276)
  obtain ⟨cq15, qa15, qb15⟩ := E_o0.cell
  obtain ⟨_, _, ⟨T15, L15, k15, n15⟩, -, X15, ⟨Lc15, hQ15, l15, y15, z15⟩, st15⟩ := X14.privateBack hx (y := My16) hown (mvT hZ (ww hw 80 rfl)) (mvT hZ (ww hw 81 rfl)) (own_selp (by decide) (mvT hZ (ww hw 14 rfl)) (mvP hZ (ww hw 82 rfl)) (mvT hZ (ww hw 81 rfl))) (Cond.privateMethod_at (mvP hZ (ww hw 82 rfl) (args := #[]))) (mvT hZ (ww hw 83 rfl)) (by decide) (backOf (W := 0) (rm16_2 l Z a0 hw [] w_NONE o0 o1 o2 kk_o1 kk_o2 q0 q1 q2 q3 q4 h0 n0 O0 S E_o0 F_count_o0 F_firsts_o0 F_lasts_o0 F_maxRanges_o0 F_ranges_o0 V_o1 V_o2 ne_o0_o1 ne_o0_o2 ne_o1_o2 g_o0 g_o1 g_o2) hZ (ww hw 83 rfl) (ww hw 15 rfl) (by decide) (by decide)) (g := (mkF m 302 #[va o0, vl q5, ss, vl 9223372036854775806, ss, vi 1, vi 2, vi 1, vi 2, vl ((0 : Int64) + ((q4 - q2) + (1 : Int64))), ss, vi 2] [(.int 1), (.int 1), (.ref o0)])) rfl (by rw [hml]; rfl) (Steps.refl _) (a := o0) (by rw [e14]; exact qa15) qb15 (argsL := [(.int 1), (.int 1)]) (rest := []) (lenOf pd_11 rfl) rfl (by show 2 * 0 + _ ≤ _; exact Nat.le_of_eq rfl) (hb hby d17_302) (fun _ _ => ⟨rfl, e14, (by decide : 0 + 0 ≤ _), (by decide : 0 + 0 ≤ _)⟩)
  dsimp only [Pt.U, Pt.locs, Pt.cells, Pt.slots] at X15 l15 y15 z15 st15 hQ15
  subst l15 y15 z15
  obtain ⟨rfl, Nq15, Kc15, P0_15, P1_15, P2_15, P3_15, P4_15, P5_15, P6_15, P7_15⟩ := hQ15
  have N15 := Fr.app N2 Nq15
  have O15 := O0.keep Kc15 (allS g_o1 (allS g_o2 (allS g_o0 all0)))
  have K15 : Keep h0 T15.heap [o0, o2, o1] := K0.trans Kc15 (allS (Or.inl (List.mem_of_getElem? (i := 2) rfl)) (allS (Or.inl (List.mem_of_getElem? (i := 1) rfl)) (allS (Or.inl (List.mem_of_getElem? (i := 0) rfl)) all0)))
  obtain ⟨T16, X16, e16, st16⟩ := getF X15 hx hZ hown (host := "") (Or.inl (ww hw 73 rfl)) Via.refl rfl P1_15 (g := (mkF m 307 #[va o0, vl q5, ss, vl 9223372036854775806, ss, vi 1, vi 2, vi 1, vi 2, vl ((0 : Int64) + ((q4 - q2) + (1 : Int64))), ss, vi 2] [(.ref o0), (.ref o0)])) rfl rfl (hb hby d17_307)
  obtain ⟨T17, h17, X17, e17, W17, st17⟩ := putF X16 hx hZ hown (host := "") (Or.inl (ww hw 73 rfl)) Via.refl e16 P1_15 P0_15 (Or.inl (ww hw 74 rfl)) (ww hw 14 rfl) (ty := .long) (by decide) rfl rfl (g := (mkF m 313 #[va o0, vl q5, ss, vl 9223372036854775806, ss, vi 1, vi 2, vi 1, vi 2, vl ((0 : Int64) + ((q4 - q2) + (1 : Int64))), ss, vi 2] [(.long (q0 - ((0 : Int64) + ((q4 - q2) + (1 : Int64))))), (.ref o0)])) rfl rfl (hb hby d17_313)
  have Fw17 := P1_15.same W17
  have O17 := O15.wr W17 g_o0
  have K17 : Keep h0 h17 [o0, o2, o1] := K15.wr W17 (Or.inl (List.mem_of_getElem? (i := 0) rfl))
  have N17 := Fr.snoc X17 N15 g_o0
  obtain ⟨fs, hr, hrun, hended, hW, hsame⟩ := X17.leave (v := none) (fun _ => rfl)
  have fc18 := (P0_15.wr W17)
  have fc19 := (P2_15.other W17 (Or.inr (slot_ne (Or.inl (ww hw 29 rfl)) (Or.inl (ww hw 74 rfl)) (by decide) (t := (.array .long)) (t' := .long) (by decide) (by decide))))
  have fc20 := (P3_15.other W17 (Or.inr (slot_ne (Or.inl (ww hw 31 rfl)) (Or.inl (ww hw 74 rfl)) (by decide) (t := (.array .long)) (t' := .long) (by decide) (by decide))))
  have fc21 := (P4_15.other W17 (Or.inr (slot_ne (Or.inr (ww hw 33 rfl)) (Or.inl (ww hw 74 rfl)) (by decide) (t := .int) (t' := .long) (by decide) (by decide))))
  have fc22 := (P5_15.other W17 (Or.inr (slot_ne (Or.inl (ww hw 40 rfl)) (Or.inl (ww hw 74 rfl)) (by decide) (t := .int) (t' := .long) (by decide) (by decide))))
  have fc23 := (P6_15.other W17 (Ne.symm ne_o0_o1))
  have fc24 := (P7_15.other W17 (Ne.symm ne_o0_o2))
  refine ⟨_, _, ?_, hrun, hended, _, _, rfl, ?_, ⟨_, rfl⟩, hW, hsame.mono (by decide) (by decide)⟩
  · show Steps p.tables e below (s₁.setTop (mkF m 0 #[va o0, vl q5, ss, vl 9223372036854775806, ss, uu, uu, uu, uu, uu, uu, uu] [])) _
    refine XS.lloadN X0.here hx rfl (hb hby d17_0) rfl ?_
    refine XS.lloadN X0.here hx rfl (hb hby d17_1) rfl ?_
    refine st1 _ ?_
    refine XS.aloadN X1.here hx rfl (hb hby d17_5) rfl rfl ?_
    refine XS.lloadN X1.here hx rfl (hb hby d17_6) rfl ?_
    refine st2.trans ?_
    refine XS.istore X2.here hx rfl (hb hby d17_10) rfl (l' := #[va o0, vl q5, ss, vl 9223372036854775806, ss, vi 1, uu, uu, uu, uu, uu, uu]) rfl ?_
    refine XS.iload X2.here hx rfl (hb hby d17_12) rfl ?_
    show Steps p.tables e below (T2.setTop (mkF m 14 #[va o0, vl q5, ss, vl 9223372036854775806, ss, vi 1, uu, uu, uu, uu, uu, uu] [(.int 1)])) _
    refine XS.aloadN X2.here hx rfl (hb hby d17_14) rfl rfl ?_
    refine st3 _ ?_
    refine XS.icmpNo X3.here hx rfl (hb hby d17_18) rfl (feq (by decide : ¬ ((1 : Int32) = (2 : Int32)))).1 ?_
    refine XS.aloadN X3.here hx rfl (hb hby d17_21) rfl rfl ?_
    refine st4 _ ?_
    refine XS.iload X4.here hx rfl (hb hby d17_25) rfl ?_
    refine X4.laload hx (j := (1 : Int32)) (v := (.long q2)) (by rw [e4]; exact Ar5.1) (State.isArrayOf_alike hZ.alike Ar5.2.1) Ar5.2.2 hin5_1 (Has.at Hh5 hin5_1 rfl) (g := (mkF m 27 #[va o0, vl q5, ss, vl 9223372036854775806, ss, vi 1, uu, uu, uu, uu, uu, uu] [(.int 1), (.ref o1)])) rfl rfl (hb hby d17_27) _ ?_
    refine XS.lloadN X4.here hx rfl (hb hby d17_28) rfl ?_
    show Steps p.tables e below (T4.setTop (mkF m 29 #[va o0, vl q5, ss, vl 9223372036854775806, ss, vi 1, uu, uu, uu, uu, uu, uu] [(.long 9223372036854775806), (.long q2)])) _
    refine XS.lcmp X4.here hx rfl (hb hby d17_29) rfl ?_
    refine XS.ifYes X4.here hx rfl (pc0 := 30) (pc' := 34) rfl (hb hby d17_30) rfl (own_lc_gtF hc4).2 (by decide) (by decide) ?_
    refine XS.aloadN X4.here hx rfl (hb hby d17_34) rfl rfl ?_
    refine st6 _ ?_
    refine XS.iload X6.here hx rfl (hb hby d17_38) rfl ?_
    refine X6.laload hx (j := (1 : Int32)) (v := (.long q2)) (by rw [e6]; exact Ar5.1) (State.isArrayOf_alike hZ.alike Ar5.2.1) Ar5.2.2 hin5_1 (Has.at Hh5 hin5_1 rfl) (g := (mkF m 40 #[va o0, vl q5, ss, vl 9223372036854775806, ss, vi 1, uu, uu, uu, uu, uu, uu] [(.int 1), (.ref o1)])) rfl rfl (hb hby d17_40) _ ?_
    refine XS.lloadN X6.here hx rfl (hb hby d17_41) rfl ?_
    refine XS.lcmp X6.here hx rfl (hb hby d17_42) rfl ?_
    show Steps p.tables e below (T6.setTop (mkF m 43 #[va o0, vl q5, ss, vl 9223372036854775806, ss, vi 1, uu, uu, uu, uu, uu, uu] [(.int (lcmpW q2 q5))])) _
    refine XS.ifYes X6.here hx rfl (pc0 := 43) (pc' := 118) rfl (hb hby d17_43) rfl (own_lc_ltF hc5).2 (by decide) (by decide) ?_
    refine XS.iload X6.here hx rfl (hb hby d17_118) rfl ?_
    refine XS.istore X6.here hx rfl (hb hby d17_120) rfl (l' := #[va o0, vl q5, ss, vl 9223372036854775806, ss, vi 1, vi 1, uu, uu, uu, uu, uu]) rfl ?_
    refine XS.iload X6.here hx rfl (hb hby d17_122) rfl ?_
    refine XS.aloadN X6.here hx rfl (hb hby d17_124) rfl rfl ?_
    refine st7 _ ?_
    refine XS.icmpNo X7.here hx rfl (hb hby d17_128) rfl (tlt (by decide : (1 : Int32) < (2 : Int32))).2.1 ?_
    refine XS.aloadN X7.here hx rfl (hb hby d17_131) rfl rfl ?_
    show Steps p.tables e below (T7.setTop (mkF m 132 #[va o0, vl q5, ss, vl 9223372036854775806, ss, vi 1, vi 1, uu, uu, uu, uu, uu] [(.ref o0)])) _
    refine st8 _ ?_
    refine XS.iload X8.here hx rfl (hb hby d17_135) rfl ?_
    refine X8.laload hx (j := (1 : Int32)) (v := (.long q2)) (by rw [e8]; exact Ar5.1) (State.isArrayOf_alike hZ.alike Ar5.2.1) Ar5.2.2 hin5_1 (Has.at Hh5 hin5_1 rfl) (g := (mkF m 137 #[va o0, vl q5, ss, vl 9223372036854775806, ss, vi 1, vi 1, uu, uu, uu, uu, uu] [(.int 1), (.ref o1)])) rfl rfl (hb hby d17_137) _ ?_
    refine XS.lloadN X8.here hx rfl (hb hby d17_138) rfl ?_
    refine XS.lcmp X8.here hx rfl (hb hby d17_139) rfl ?_
    refine XS.ifNo X8.here hx rfl (hb hby d17_140) rfl (own_lc_gtF hc4).1 ?_
    refine XS.iinc X8.here hx rfl (hb hby d17_143) rfl (l' := #[va o0, vl q5, ss, vl 9223372036854775806, ss, vi 1, vi ((1 : Int32) + (1 : Int32)), uu, uu, uu, uu, uu]) rfl ?_
    show Steps p.tables e below (T8.setTop (mkF m 146 #[va o0, vl q5, ss, vl 9223372036854775806, ss, vi 1, vi ((1 : Int32) + (1 : Int32)), uu, uu, uu, uu, uu] [])) _
    rw [show (((1 : Int32) + (1 : Int32)) : Int32) = (2 : Int32) from by decide]
    refine XS.goto X8.here hx rfl (pc0 := 146) (pc' := 122) rfl (hb hby d17_146) (by decide) (by decide) ?_
    refine XS.iload X8.here hx rfl (hb hby d17_122) rfl ?_
    refine XS.aloadN X8.here hx rfl (hb hby d17_124) rfl rfl ?_
    refine st9 _ ?_
    refine XS.icmpYes X9.here hx rfl (pc0 := 128) (pc' := 149) rfl (hb hby d17_128) rfl (flt (by decide : ¬ ((2 : Int32) < (2 : Int32)))).2.1 (by decide) (by decide) ?_
    refine XS.iload X9.here hx rfl (hb hby d17_149) rfl ?_
    refine XS.istore X9.here hx rfl (hb hby d17_151) rfl (l' := #[va o0, vl q5, ss, vl 9223372036854775806, ss, vi 1, vi 2, vi 1, uu, uu, uu, uu]) rfl ?_
    show Steps p.tables e below (T9.setTop (mkF m 153 #[va o0, vl q5, ss, vl 9223372036854775806, ss, vi 1, vi 2, vi 1, uu, uu, uu, uu] [])) _
    refine XS.iload X9.here hx rfl (hb hby d17_153) rfl ?_
    refine XS.istore X9.here hx rfl (hb hby d17_155) rfl (l' := #[va o0, vl q5, ss, vl 9223372036854775806, ss, vi 1, vi 2, vi 1, vi 2, uu, uu, uu]) rfl ?_
    refine XS.lconst X9.here hx rfl (hb hby d17_157) ?_
    refine XS.lstore X9.here hx rfl (hb hby d17_158) rfl (l' := #[va o0, vl q5, ss, vl 9223372036854775806, ss, vi 1, vi 2, vi 1, vi 2, vl 0, ss, uu]) rfl ?_
    refine XS.aloadN X9.here hx rfl (hb hby d17_160) rfl rfl ?_
    refine st10 _ ?_
    refine XS.iload X10.here hx rfl (hb hby d17_164) rfl ?_
    refine X10.laload hx (j := (1 : Int32)) (v := (.long q2)) (by rw [e10]; exact Ar5.1) (State.isArrayOf_alike hZ.alike Ar5.2.1) Ar5.2.2 hin5_1 (Has.at Hh5 hin5_1 rfl) (g := (mkF m 166 #[va o0, vl q5, ss, vl 9223372036854775806, ss, vi 1, vi 2, vi 1, vi 2, vl 0, ss, uu] [(.int 1), (.ref o1)])) rfl rfl (hb hby d17_166) _ ?_
    show Steps p.tables e below (T10.setTop (mkF m 167 #[va o0, vl q5, ss, vl 9223372036854775806, ss, vi 1, vi 2, vi 1, vi 2, vl 0, ss, uu] [(.long q2)])) _
    refine XS.lloadN X10.here hx rfl (hb hby d17_167) rfl ?_
    refine XS.lcmp X10.here hx rfl (hb hby d17_168) rfl ?_
    refine XS.ifYes X10.here hx rfl (pc0 := 169) (pc' := 201) rfl (hb hby d17_169) rfl (own_lc_ltF hc5).2 (by decide) (by decide) ?_
    refine XS.iload X10.here hx rfl (hb hby d17_201) rfl ?_
    refine XS.iload X10.here hx rfl (hb hby d17_203) rfl ?_
    refine XS.icmpNo X10.here hx rfl (hb hby d17_205) rfl (tlt (by decide : (1 : Int32) < (2 : Int32))).2.1 ?_
    refine XS.aloadN X10.here hx rfl (hb hby d17_208) rfl rfl ?_
    refine st11 _ ?_
    show Steps p.tables e below (T11.setTop (mkF m 212 #[va o0, vl q5, ss, vl 9223372036854775806, ss, vi 1, vi 2, vi 1, vi 2, vl 0, ss, uu] [(.ref o2)])) _
    refine XS.iload X11.here hx rfl (hb hby d17_212) rfl ?_
    refine XS.iconst X11.here hx rfl (hb hby d17_214) ?_
    refine XS.isub X11.here hx rfl (hb hby d17_215) rfl ?_
    show Steps p.tables e below (T11.setTop (mkF m 216 #[va o0, vl q5, ss, vl 9223372036854775806, ss, vi 1, vi 2, vi 1, vi 2, vl 0, ss, uu] [(.int ((2 : Int32) - (1 : Int32))), (.ref o2)])) _
    rw [show (((2 : Int32) - (1 : Int32)) : Int32) = (1 : Int32) from by decide]
    refine X11.laload hx (j := (1 : Int32)) (v := (.long q4)) (by rw [e11]; exact Ar12.1) (State.isArrayOf_alike hZ.alike Ar12.2.1) Ar12.2.2 hin12_1 (Has.at Hh12 hin12_1 rfl) (g := (mkF m 216 #[va o0, vl q5, ss, vl 9223372036854775806, ss, vi 1, vi 2, vi 1, vi 2, vl 0, ss, uu] [(.int 1), (.ref o2)])) rfl rfl (hb hby d17_216) _ ?_
    refine XS.lloadN X11.here hx rfl (hb hby d17_217) rfl ?_
    refine XS.lcmp X11.here hx rfl (hb hby d17_218) rfl ?_
    refine XS.ifYes X11.here hx rfl (pc0 := 219) (pc' := 255) rfl (hb hby d17_219) rfl (own_lc_gtF hc6).2 (by decide) (by decide) ?_
    refine XS.iload X11.here hx rfl (hb hby d17_255) rfl ?_
    refine XS.istore X11.here hx rfl (hb hby d17_257) rfl (l' := #[va o0, vl q5, ss, vl 9223372036854775806, ss, vi 1, vi 2, vi 1, vi 2, vl 0, ss, vi 1]) rfl ?_
    refine XS.iload X11.here hx rfl (hb hby d17_259) rfl ?_
    show Steps p.tables e below (T11.setTop (mkF m 261 #[va o0, vl q5, ss, vl 9223372036854775806, ss, vi 1, vi 2, vi 1, vi 2, vl 0, ss, vi 1] [(.int 1)])) _
    refine XS.iload X11.here hx rfl (hb hby d17_261) rfl ?_
    refine XS.icmpNo X11.here hx rfl (hb hby d17_263) rfl (tlt (by decide : (1 : Int32) < (2 : Int32))).2.1 ?_
    refine XS.lload X11.here hx rfl (hb hby d17_266) rfl ?_
    refine XS.aloadN X11.here hx rfl (hb hby d17_268) rfl rfl ?_
    refine st13 _ ?_
    refine XS.iload X13.here hx rfl (hb hby d17_272) rfl ?_
    refine X13.laload hx (j := (1 : Int32)) (v := (.long q4)) (by rw [e13]; exact Ar12.1) (State.isArrayOf_alike hZ.alike Ar12.2.1) Ar12.2.2 hin12_1 (Has.at Hh12 hin12_1 rfl) (g := (mkF m 274 #[va o0, vl q5, ss, vl 9223372036854775806, ss, vi 1, vi 2, vi 1, vi 2, vl 0, ss, vi 1] [(.int 1), (.ref o2), (.long 0)])) rfl rfl (hb hby d17_274) _ ?_
    refine XS.aloadN X13.here hx rfl (hb hby d17_275) rfl rfl ?_
    show Steps p.tables e below (T13.setTop (mkF m 276 #[va o0, vl q5, ss, vl 9223372036854775806, ss, vi 1, vi 2, vi 1, vi 2, vl 0, ss, vi 1] [(.ref o0), (.long q4), (.long 0)])) _
    refine st14 _ ?_
    refine XS.iload X14.here hx rfl (hb hby d17_279) rfl ?_
    refine X14.laload hx (j := (1 : Int32)) (v := (.long q2)) (by rw [e14]; exact Ar5.1) (State.isArrayOf_alike hZ.alike Ar5.2.1) Ar5.2.2 hin5_1 (Has.at Hh5 hin5_1 rfl) (g := (mkF m 281 #[va o0, vl q5, ss, vl 9223372036854775806, ss, vi 1, vi 2, vi 1, vi 2, vl 0, ss, vi 1] [(.int 1), (.ref o1), (.long q4), (.long 0)])) rfl rfl (hb hby d17_281) _ ?_
    refine XS.lsub X14.here hx rfl (hb hby d17_282) rfl ?_
    refine XS.lconst X14.here hx rfl (hb hby d17_283) ?_
    refine XS.ladd X14.here hx rfl (hb hby d17_284) rfl ?_
    refine XS.ladd X14.here hx rfl (hb hby d17_285) rfl ?_
    refine XS.lstore X14.here hx rfl (hb hby d17_286) rfl (l' := #[va o0, vl q5, ss, vl 9223372036854775806, ss, vi 1, vi 2, vi 1, vi 2, vl ((0 : Int64) + ((q4 - q2) + (1 : Int64))), ss, vi 1]) rfl ?_
    show Steps p.tables e below (T14.setTop (mkF m 288 #[va o0, vl q5, ss, vl 9223372036854775806, ss, vi 1, vi 2, vi 1, vi 2, vl ((0 : Int64) + ((q4 - q2) + (1 : Int64))), ss, vi 1] [])) _
    refine XS.iinc X14.here hx rfl (hb hby d17_288) rfl (l' := #[va o0, vl q5, ss, vl 9223372036854775806, ss, vi 1, vi 2, vi 1, vi 2, vl ((0 : Int64) + ((q4 - q2) + (1 : Int64))), ss, vi ((1 : Int32) + (1 : Int32))]) rfl ?_
    show Steps p.tables e below (T14.setTop (mkF m 291 #[va o0, vl q5, ss, vl 9223372036854775806, ss, vi 1, vi 2, vi 1, vi 2, vl ((0 : Int64) + ((q4 - q2) + (1 : Int64))), ss, vi ((1 : Int32) + (1 : Int32))] [])) _
    rw [show (((1 : Int32) + (1 : Int32)) : Int32) = (2 : Int32) from by decide]
    refine XS.goto X14.here hx rfl (pc0 := 291) (pc' := 259) rfl (hb hby d17_291) (by decide) (by decide) ?_
    refine XS.iload X14.here hx rfl (hb hby d17_259) rfl ?_
    refine XS.iload X14.here hx rfl (hb hby d17_261) rfl ?_
    refine XS.icmpYes X14.here hx rfl (pc0 := 263) (pc' := 294) rfl (hb hby d17_263) rfl (flt (by decide : ¬ ((2 : Int32) < (2 : Int32)))).2.1 (by decide) (by decide) ?_
    refine XS.aloadN X14.here hx rfl (hb hby d17_294) rfl rfl ?_
    refine XS.iload X14.here hx rfl (hb hby d17_295) rfl ?_
    refine XS.iload X14.here hx rfl (hb hby d17_297) rfl ?_
    show Steps p.tables e below (T14.setTop (mkF m 299 #[va o0, vl q5, ss, vl 9223372036854775806, ss, vi 1, vi 2, vi 1, vi 2, vl ((0 : Int64) + ((q4 - q2) + (1 : Int64))), ss, vi 2] [(.int 2), (.int 1), (.ref o0)])) _
    refine XS.iload X14.here hx rfl (hb hby d17_299) rfl ?_
    refine XS.isub X14.here hx rfl (hb hby d17_301) rfl ?_
    show Steps p.tables e below (T14.setTop (mkF m 302 #[va o0, vl q5, ss, vl 9223372036854775806, ss, vi 1, vi 2, vi 1, vi 2, vl ((0 : Int64) + ((q4 - q2) + (1 : Int64))), ss, vi 2] [(.int ((2 : Int32) - (1 : Int32))), (.int 1), (.ref o0)])) _
    rw [show (((2 : Int32) - (1 : Int32)) : Int32) = (1 : Int32) from by decide]
    refine st15.trans ?_
    refine XS.aloadN X15.here hx rfl (hb hby d17_305) rfl rfl ?_
    refine XS.dup X15.here hx rfl (hb hby d17_306) rfl rfl ?_
    refine st16 _ ?_
    refine XS.lload X16.here hx rfl (hb hby d17_310) rfl ?_
    refine XS.lsub X16.here hx rfl (hb hby d17_312) rfl ?_
    refine st17 _ ?_
    show Steps p.tables e below (T17.setTop (mkF m 316 #[va o0, vl q5, ss, vl 9223372036854775806, ss, vi 1, vi 2, vi 1, vi 2, vl ((0 : Int64) + ((q4 - q2) + (1 : Int64))), ss, vi 2] [])) _
    exact X17.returnOut hx hrt (hb hby d17_316) hr
  · show Q17_2 Z w_NONE o0 o1 o2 kk_o1 kk_o2 q5 q0 q1 q2 q3 q4 h0 n0 none T17.heap _
    rw [e17]; exact ⟨rfl, N17, K17, fc18, Fw17, fc19, fc20, fc21, fc22, fc23, fc24⟩
theorem d17_46 : decode prog_55_method_10_code 46 = .ok (.aload_n 0, 1) := by decide +kernel
theorem d17_47 : decode prog_55_method_10_code 47 = .ok (.getfield 22, 3) := by decide +kernel
theorem d17_50 : decode prog_55_method_10_code 50 = .ok (.iload 5, 2) := by decide +kernel
theorem d17_52 : decode prog_55_method_10_code 52 = .ok (.laload, 1) := by decide +kernel
theorem d17_53 : decode prog_55_method_10_code 53 = .ok (.lload_n 3, 1) := by decide +kernel
theorem d17_54 : decode prog_55_method_10_code 54 = .ok (.lcmp, 1) := by decide +kernel
theorem d17_55 : decode prog_55_method_10_code 55 = .ok (.ifCond .le 63, 3) := by decide +kernel
theorem d17_172 : decode prog_55_method_10_code 172 = .ok (.lload 9, 2) := by decide +kernel
theorem d17_174 : decode prog_55_method_10_code 174 = .ok (.aload_n 0, 1) := by decide +kernel
theorem d17_175 : decode prog_55_method_10_code 175 = .ok (.getfield 22, 3) := by decide +kernel
theorem d17_178 : decode prog_55_method_10_code 178 = .ok (.iload 5, 2) := by decide +kernel
theorem d17_180 : decode prog_55_method_10_code 180 = .ok (.laload, 1) := by decide +kernel
theorem d17_181 : decode prog_55_method_10_code 181 = .ok (.lload_n 1, 1) := by decide +kernel
theorem d17_182 : decode prog_55_method_10_code 182 = .ok (.lsub, 1) := by decide +kernel
theorem d17_183 : decode prog_55_method_10_code 183 = .ok (.lconst 1, 1) := by decide +kernel
theorem d17_184 : decode prog_55_method_10_code 184 = .ok (.ladd, 1) := by decide +kernel
theorem d17_185 : decode prog_55_method_10_code 185 = .ok (.ladd, 1) := by decide +kernel
theorem d17_186 : decode prog_55_method_10_code 186 = .ok (.lstore 9, 2) := by decide +kernel
theorem d17_188 : decode prog_55_method_10_code 188 = .ok (.aload_n 0, 1) := by decide +kernel
theorem d17_189 : decode prog_55_method_10_code 189 = .ok (.getfield 22, 3) := by decide +kernel
theorem d17_192 : decode prog_55_method_10_code 192 = .ok (.iload 5, 2) := by decide +kernel
theorem d17_194 : decode prog_55_method_10_code 194 = .ok (.lload_n 1, 1) := by decide +kernel
theorem d17_195 : decode prog_55_method_10_code 195 = .ok (.lconst 1, 1) := by decide +kernel
theorem d17_196 : decode prog_55_method_10_code 196 = .ok (.lsub, 1) := by decide +kernel
theorem d17_197 : decode prog_55_method_10_code 197 = .ok (.lastore, 1) := by decide +kernel
theorem d17_198 : decode prog_55_method_10_code 198 = .ok (.iinc 7 1, 3) := by decide +kernel
def Q16_3 (Z : State) (w_NONE : Addr) (o0 : Addr) (o1 : Addr) (o2 : Addr) (kk_o1 : ClassId) (kk_o2 : ClassId) (q0 : Int64) (q1 : Int64) (q2 : Int64) (q3 : Int64) (q4 : Int64) (h0 : Heap) (n0 : Nat) (v : Option Value) (h : Heap) (L : List Loc) : Prop := v = none ∧ Fr n0 L ∧ Keep h0 h [o1, o2, o0] ∧ Exa Z h o0 sC0 ∧ Fld Z h o0 sC0 "count" "J" (.long q0) ∧ Fld Z h o0 sC0 "firsts" "[J" (.ref o1) ∧ Fld Z h o0 sC0 "lasts" "[J" (.ref o2) ∧ Fld Z h o0 sC0 "maxRanges" "I" (.int 2147483647) ∧ Fld Z h o0 sC0 "ranges" "I" (.int 2) ∧ Arv Z h o1 kk_o1 .long (4 : Int32) [(.long q1), (.long q2), (.long 0), (.long 0)] (.long 0) ∧ Arv Z h o2 kk_o2 .long (4 : Int32) [(.long q3), (.long q4), (.long 0), (.long 0)] (.long 0)
theorem rm16_3 (l : Launch) (Z : State) (a0 : Array Value) (hw : HW Z a0) (ws : List Jvm.Cond) (w_NONE : Addr) (o0 : Addr) (o1 : Addr) (o2 : Addr) (kk_o1 : ClassId) (kk_o2 : ClassId) (q0 : Int64) (q1 : Int64) (q2 : Int64) (q3 : Int64) (q4 : Int64) (h0 : Heap) (n0 : Nat) (O0 : Old Z n0 h0) (S : SF Z w_NONE) (E_o0 : Exa Z h0 o0 sC0) (F_count_o0 : Fld Z h0 o0 sC0 "count" "J" (.long q0)) (F_firsts_o0 : Fld Z h0 o0 sC0 "firsts" "[J" (.ref o1)) (F_lasts_o0 : Fld Z h0 o0 sC0 "lasts" "[J" (.ref o2)) (F_maxRanges_o0 : Fld Z h0 o0 sC0 "maxRanges" "I" (.int 2147483647)) (F_ranges_o0 : Fld Z h0 o0 sC0 "ranges" "I" (.int 2)) (V_o1 : Arv Z h0 o1 kk_o1 .long (4 : Int32) [(.long q1), (.long q2), (.long 0), (.long 0)] (.long 0)) (V_o2 : Arv Z h0 o2 kk_o2 .long (4 : Int32) [(.long q3), (.long q4), (.long 0), (.long 0)] (.long 0)) (ne_o0_o1 : o0 ≠ o1) (ne_o0_o2 : o0 ≠ o2) (ne_o1_o2 : o1 ≠ o2) (g_o0 : n0 ≤ o0) (g_o1 : n0 ≤ o1) (g_o2 : n0 ≤ o2) :
    Pay l Z My16 ws prog_55_method_22_code 3 none #[(.ref o0), (.int 2), (.int 0)] h0 ({ frames := 1, cells := 0, slots := 0, locals := 18 } : Room) (Q16_3 Z w_NONE o0 o1 o2 kk_o1 kk_o2 q0 q1 q2 q3 q4 h0 n0) := by
  refine own_body (plainFor_of_name pn_1) (L0 := #[va o0, vi 2, vi 0]) (fun _ => by first | rfl | (simp [entryFrame, mkF, argsToLocals, Value.category]; done)) ?_
  intro p e s m below meth c s₁ hrt hlk hx hby hml hZ hown0 hnm X0 e0
  have hown : s.vm.findClass sC0 = some m.cls := hown0
  have N0 := Fr.nil n0
  have K0 : Keep h0 h0 [o1, o2, o0] := Keep.refl _ _
  obtain ⟨T1, X1, e1, st1⟩ := getF X0 hx hZ hown (host := "") (Or.inl (ww hw 28 rfl)) Via.refl e0 F_firsts_o0 (g := (mkF m 1 #[va o0, vi 2, vi 0] [(.ref o0)])) rfl rfl (hb hby d16_1)
  obtain ⟨T2, X2, e2, st2⟩ := getF X1 hx hZ hown (host := "") (Or.inl (ww hw 28 rfl)) Via.refl e1 F_firsts_o0 (g := (mkF m 8 #[va o0, vi 2, vi 0] [(.ref o0), (.int 2), (.ref o1)])) rfl rfl (hb hby d16_8)
  obtain ⟨T3, X3, e3, st3⟩ := getF X2 hx hZ hown (host := "") (Or.inl (ww hw 39 rfl)) Via.refl e2 F_ranges_o0 (g := (mkF m 13 #[va o0, vi 2, vi 0] [(.ref o0), (.int 2), (.ref o1), (.int 2), (.ref o1)])) rfl rfl (hb hby d16_13)
  obtain ⟨T4, h4, L4, X4, e4, N4, Kc4, Vc4, st4⟩ := cpA X3 hx hZ hown (ww hw 72 rfl) (ww hw 71 rfl) (ww hw 69 rfl) (ww hw 70 rfl) e3 V_o1 V_o1 (us := []) (Or.inl ⟨rfl, rfl⟩) (sp := (2 : Int32)) (dp := (2 : Int32)) (nn := (0 : Int32)) (by decide) (by decide) (by decide) (by decide) (by decide) rfl (Nat.le_of_ble_eq_true rfl) N0 g_o1 (g := (mkF m 20 #[va o0, vi 2, vi 0] [(.int 0), (.int 2), (.ref o1), (.int 2), (.ref o1)])) rfl (by rw [hml]; rfl) (rest := []) rfl (hb hby d16_20) (by decide) (W := 0) (by show 2 * 0 + _ ≤ _; exact Nat.le_of_eq rfl) (by decide)
  have V4 : Arv Z h4 o1 kk_o1 .long (4 : Int32) [(.long q1), (.long q2), (.long 0), (.long 0)] (.long 0) := Vc4
  have O4 := O0.keep Kc4 (allS g_o1 all0)
  have K4 : Keep h0 h4 [o1, o2, o0] := K0.trans Kc4 (allS (Or.inl (List.mem_of_getElem? (i := 0) rfl)) all0)
  have fc5 := (F_lasts_o0.keep Kc4 (ninS ne_o0_o1 nin0))
  obtain ⟨T6, X6, e6, st6⟩ := getF X4 hx hZ hown (host := "") (Or.inl (ww hw 30 rfl)) Via.refl e4 fc5 (g := (mkF m 24 #[va o0, vi 2, vi 0] [(.ref o0)])) rfl rfl (hb hby d16_24)
  obtain ⟨T7, X7, e7, st7⟩ := getF X6 hx hZ hown (host := "") (Or.inl (ww hw 30 rfl)) Via.refl e6 fc5 (g := (mkF m 31 #[va o0, vi 2, vi 0] [(.ref o0), (.int 2), (.ref o2)])) rfl rfl (hb hby d16_31)
  have fc8 := (F_ranges_o0.keep Kc4 (ninS ne_o0_o1 nin0))
  obtain ⟨T9, X9, e9, st9⟩ := getF X7 hx hZ hown (host := "") (Or.inl (ww hw 39 rfl)) Via.refl e7 fc8 (g := (mkF m 36 #[va o0, vi 2, vi 0] [(.ref o0), (.int 2), (.ref o2), (.int 2), (.ref o2)])) rfl rfl (hb hby d16_36)
  have fc10 := (V_o2.keep Kc4 (ninS (Ne.symm ne_o1_o2) nin0))
  obtain ⟨T11, h11, L11, X11, e11, N11, Kc11, Vc11, st11⟩ := cpA X9 hx hZ hown (ww hw 72 rfl) (ww hw 71 rfl) (ww hw 69 rfl) (ww hw 70 rfl) e9 fc10 fc10 (us := []) (Or.inl ⟨rfl, rfl⟩) (sp := (2 : Int32)) (dp := (2 : Int32)) (nn := (0 : Int32)) (by decide) (by decide) (by decide) (by decide) (by decide) rfl (Nat.le_of_ble_eq_true rfl) N4 g_o2 (g := (mkF m 43 #[va o0, vi 2, vi 0] [(.int 0), (.int 2), (.ref o2), (.int 2), (.ref o2)])) rfl (by rw [hml]; rfl) (rest := []) rfl (hb hby d16_43) (by decide) (W := 0) (by show 2 * 0 + _ ≤ _; exact Nat.le_of_eq rfl) (by decide)
  have V11 : Arv Z h11 o2 kk_o2 .long (4 : Int32) [(.long q3), (.long q4), (.long 0), (.long 0)] (.long 0) := Vc11
  have O11 := O4.keep Kc11 (allS g_o2 all0)
  have K11 : Keep h0 h11 [o1, o2, o0] := K4.trans Kc11 (allS (Or.inl (List.mem_of_getElem? (i := 1) rfl)) all0)
  have fc12 := (fc8.keep Kc11 (ninS ne_o0_o2 nin0))
  obtain ⟨T13, X13, e13, st13⟩ := getF X11 hx hZ hown (host := "") (Or.inl (ww hw 39 rfl)) Via.refl e11 fc12 (g := (mkF m 48 #[va o0, vi 2, vi 0] [(.ref o0), (.ref o0)])) rfl rfl (hb hby d16_48)
  have fc14 := ((E_o0.keep Kc4).keep Kc11)
  obtain ⟨T15, h15, X15, e15, W15, st15⟩ := putF X13 hx hZ hown (host := "") (Or.inl (ww hw 39 rfl)) Via.refl e13 fc12 fc14 (Or.inl (ww hw 40 rfl)) (ww hw 14 rfl) (ty := .int) (by decide) rfl rfl (g := (mkF m 53 #[va o0, vi 2, vi 0] [(.int 2), (.ref o0)])) rfl rfl (hb hby d16_53)
  have Fw15 := fc12.same W15
  have O15 := O11.wr W15 g_o0
  have K15 : Keep h0 h15 [o1, o2, o0] := K11.wr W15 (Or.inl (List.mem_of_getElem? (i := 2) rfl))
  have N15 := Fr.snoc X15 N11 g_o0
  obtain ⟨fs, hr, hrun, hended, hW, hsame⟩ := X15.leave (v := none) (fun _ => rfl)
  have fc16 := (fc14.wr W15)
  have fc17 := (((F_count_o0.keep Kc4 (ninS ne_o0_o1 nin0)).keep Kc11 (ninS ne_o0_o2 nin0)).other W15 (Or.inr (slot_ne (Or.inl (ww hw 74 rfl)) (Or.inl (ww hw 40 rfl)) (by decide) (t := .long) (t' := .int) (by decide) (by decide))))
  have fc18 := (((F_firsts_o0.keep Kc4 (ninS ne_o0_o1 nin0)).keep Kc11 (ninS ne_o0_o2 nin0)).other W15 (Or.inr (slot_ne (Or.inl (ww hw 29 rfl)) (Or.inl (ww hw 40 rfl)) (by decide) (t := (.array .long)) (t' := .int) (by decide) (by decide))))
  have fc19 := ((fc5.keep Kc11 (ninS ne_o0_o2 nin0)).other W15 (Or.inr (slot_ne (Or.inl (ww hw 31 rfl)) (Or.inl (ww hw 40 rfl)) (by decide) (t := (.array .long)) (t' := .int) (by decide) (by decide))))
  have fc20 := (((F_maxRanges_o0.keep Kc4 (ninS ne_o0_o1 nin0)).keep Kc11 (ninS ne_o0_o2 nin0)).other W15 (Or.inr (slot_ne (Or.inr (ww hw 33 rfl)) (Or.inl (ww hw 40 rfl)) (by decide) (t := .int) (t' := .int) (by decide) (by decide))))
  have fc21 := ((V4.keep Kc11 (ninS ne_o1_o2 nin0)).other W15 (Ne.symm ne_o0_o1))
  have fc22 := (V11.other W15 (Ne.symm ne_o0_o2))
  refine ⟨_, _, ?_, hrun, hended, _, _, rfl, ?_, ⟨_, rfl⟩, hW, hsame.mono (by decide) (by decide)⟩
  · show Steps p.tables e below (s₁.setTop (mkF m 0 #[va o0, vi 2, vi 0] [])) _
    refine XS.aloadN X0.here hx rfl (hb hby d16_0) rfl rfl ?_
    refine st1 _ ?_
    refine XS.iloadN X1.here hx rfl (hb hby d16_4) rfl ?_
    refine XS.iloadN X1.here hx rfl (hb hby d16_5) rfl ?_
    refine XS.iadd X1.here hx rfl (hb hby d16_6) rfl ?_
    show Steps p.tables e below (T1.setTop (mkF m 7 #[va o0, vi 2, vi 0] [(.int ((2 : Int32) + (0 : Int32))), (.ref o1)])) _
    rw [show (((2 : Int32) + (0 : Int32)) : Int32) = (2 : Int32) from by decide]
    refine XS.aloadN X1.here hx rfl (hb hby d16_7) rfl rfl ?_
    refine st2 _ ?_
    refine XS.iloadN X2.here hx rfl (hb hby d16_11) rfl ?_
    refine XS.aloadN X2.here hx rfl (hb hby d16_12) rfl rfl ?_
    refine st3 _ ?_
    refine XS.iloadN X3.here hx rfl (hb hby d16_16) rfl ?_
    refine XS.isub X3.here hx rfl (hb hby d16_17) rfl ?_
    show Steps p.tables e below (T3.setTop (mkF m 18 #[va o0, vi 2, vi 0] [(.int ((2 : Int32) - (2 : Int32))), (.int 2), (.ref o1), (.int 2), (.ref o1)])) _
    rw [show (((2 : Int32) - (2 : Int32)) : Int32) = (0 : Int32) from by decide]
    refine XS.iloadN X3.here hx rfl (hb hby d16_18) rfl ?_
    refine XS.isub X3.here hx rfl (hb hby d16_19) rfl ?_
    show Steps p.tables e below (T3.setTop (mkF m 20 #[va o0, vi 2, vi 0] [(.int ((0 : Int32) - (0 : Int32))), (.int 2), (.ref o1), (.int 2), (.ref o1)])) _
    rw [show (((0 : Int32) - (0 : Int32)) : Int32) = (0 : Int32) from by decide]
    refine st4 _ ?_
    refine XS.aloadN X4.here hx rfl (hb hby d16_23) rfl rfl ?_
    refine st6 _ ?_
    refine XS.iloadN X6.here hx rfl (hb hby d16_27) rfl ?_
    refine XS.iloadN X6.here hx rfl (hb hby d16_28) rfl ?_
    refine XS.iadd X6.here hx rfl (hb hby d16_29) rfl ?_
    show Steps p.tables e below (T6.setTop (mkF m 30 #[va o0, vi 2, vi 0] [(.int ((2 : Int32) + (0 : Int32))), (.ref o2)])) _
    rw [show (((2 : Int32) + (0 : Int32)) : Int32) = (2 : Int32) from by decide]
    refine XS.aloadN X6.here hx rfl (hb hby d16_30) rfl rfl ?_
    refine st7 _ ?_
    refine XS.iloadN X7.here hx rfl (hb hby d16_34) rfl ?_
    refine XS.aloadN X7.here hx rfl (hb hby d16_35) rfl rfl ?_
    refine st9 _ ?_
    refine XS.iloadN X9.here hx rfl (hb hby d16_39) rfl ?_
    refine XS.isub X9.here hx rfl (hb hby d16_40) rfl ?_
    show Steps p.tables e below (T9.setTop (mkF m 41 #[va o0, vi 2, vi 0] [(.int ((2 : Int32) - (2 : Int32))), (.int 2), (.ref o2), (.int 2), (.ref o2)])) _
    rw [show (((2 : Int32) - (2 : Int32)) : Int32) = (0 : Int32) from by decide]
    refine XS.iloadN X9.here hx rfl (hb hby d16_41) rfl ?_
    refine XS.isub X9.here hx rfl (hb hby d16_42) rfl ?_
    show Steps p.tables e below (T9.setTop (mkF m 43 #[va o0, vi 2, vi 0] [(.int ((0 : Int32) - (0 : Int32))), (.int 2), (.ref o2), (.int 2), (.ref o2)])) _
    rw [show (((0 : Int32) - (0 : Int32)) : Int32) = (0 : Int32) from by decide]
    refine st11 _ ?_
    refine XS.aloadN X11.here hx rfl (hb hby d16_46) rfl rfl ?_
    refine XS.dup X11.here hx rfl (hb hby d16_47) rfl rfl ?_
    refine st13 _ ?_
    refine XS.iloadN X13.here hx rfl (hb hby d16_51) rfl ?_
    refine XS.isub X13.here hx rfl (hb hby d16_52) rfl ?_
    show Steps p.tables e below (T13.setTop (mkF m 53 #[va o0, vi 2, vi 0] [(.int ((2 : Int32) - (0 : Int32))), (.ref o0)])) _
    rw [show (((2 : Int32) - (0 : Int32)) : Int32) = (2 : Int32) from by decide]
    refine st15 _ ?_
    exact X15.returnOut hx hrt (hb hby d16_56) hr
  · show Q16_3 Z w_NONE o0 o1 o2 kk_o1 kk_o2 q0 q1 q2 q3 q4 h0 n0 none T15.heap _
    rw [e15]; exact ⟨rfl, N15, K15, fc16, fc17, fc18, fc19, fc20, Fw15, fc21, fc22⟩
def Q17_3 (Z : State) (w_NONE : Addr) (o0 : Addr) (o1 : Addr) (o2 : Addr) (kk_o1 : ClassId) (kk_o2 : ClassId) (q5 : Int64) (q0 : Int64) (q1 : Int64) (q2 : Int64) (q3 : Int64) (q4 : Int64) (h0 : Heap) (n0 : Nat) (v : Option Value) (h : Heap) (L : List Loc) : Prop := v = none ∧ Fr n0 L ∧ Keep h0 h [o2, o0, o1] ∧ Exa Z h o0 sC0 ∧ Fld Z h o0 sC0 "count" "J" (.long (q0 - ((0 : Int64) + ((q4 - q5) + (1 : Int64))))) ∧ Fld Z h o0 sC0 "firsts" "[J" (.ref o1) ∧ Fld Z h o0 sC0 "lasts" "[J" (.ref o2) ∧ Fld Z h o0 sC0 "maxRanges" "I" (.int 2147483647) ∧ Fld Z h o0 sC0 "ranges" "I" (.int 2) ∧ Arv Z h o1 kk_o1 .long (4 : Int32) [(.long q1), (.long q2), (.long 0), (.long 0)] (.long 0) ∧ Arv Z h o2 kk_o2 .long (4 : Int32) [(.long q3), (.long (q5 - (1 : Int64))), (.long 0), (.long 0)] (.long 0)
theorem rm17_3 (l : Launch) (Z : State) (a0 : Array Value) (hw : HW Z a0) (ws : List Jvm.Cond) (w_NONE : Addr) (o0 : Addr) (o1 : Addr) (o2 : Addr) (kk_o1 : ClassId) (kk_o2 : ClassId) (q5 : Int64) (q0 : Int64) (q1 : Int64) (q2 : Int64) (q3 : Int64) (q4 : Int64) (h0 : Heap) (n0 : Nat) (O0 : Old Z n0 h0) (S : SF Z w_NONE) (E_o0 : Exa Z h0 o0 sC0) (F_count_o0 : Fld Z h0 o0 sC0 "count" "J" (.long q0)) (F_firsts_o0 : Fld Z h0 o0 sC0 "firsts" "[J" (.ref o1)) (F_lasts_o0 : Fld Z h0 o0 sC0 "lasts" "[J" (.ref o2)) (F_maxRanges_o0 : Fld Z h0 o0 sC0 "maxRanges" "I" (.int 2147483647)) (F_ranges_o0 : Fld Z h0 o0 sC0 "ranges" "I" (.int 2)) (V_o1 : Arv Z h0 o1 kk_o1 .long (4 : Int32) [(.long q1), (.long q2), (.long 0), (.long 0)] (.long 0)) (V_o2 : Arv Z h0 o2 kk_o2 .long (4 : Int32) [(.long q3), (.long q4), (.long 0), (.long 0)] (.long 0)) (ne_o0_o1 : o0 ≠ o1) (ne_o0_o2 : o0 ≠ o2) (ne_o1_o2 : o1 ≠ o2) (g_o0 : n0 ≤ o0) (g_o1 : n0 ≤ o1) (g_o2 : n0 ≤ o2) (hc0 : ¬ (q5 < (0 : Int64))) (hc1 : ¬ ((9223372036854775806 : Int64) < q5)) (hc2 : ¬ (q4 < q5)) (hc3 : q3 < q5) (hc4 : ¬ ((9223372036854775806 : Int64) < q2)) (hc5 : q2 < q5) (hc6 : ¬ ((9223372036854775806 : Int64) < q4)) :
    Pay l Z My17 ws prog_55_method_10_code 12 none #[(.ref o0), (.long q5), (.long 9223372036854775806)] h0 ({ frames := 2, cells := 0, slots := 0, locals := 32 } : Room) (Q17_3 Z w_NONE o0 o1 o2 kk_o1 kk_o2 q5 q0 q1 q2 q3 q4 h0 n0) := by
  refine own_body (plainFor_of_name pn_1) (L0 := #[va o0, vl q5, ss, vl 9223372036854775806, ss, uu, uu, uu, uu, uu, uu, uu]) (fun _ => by first | rfl | (simp [entryFrame, mkF, argsToLocals, Value.category]; done)) ?_
  intro p e s m below meth c s₁ hrt hlk hx hby hml hZ hown0 hnm X0 e0
  have hown : s.vm.findClass sC0 = some m.cls := hown0
  have N0 := Fr.nil n0
  have K0 : Keep h0 h0 [o2, o0, o1] := Keep.refl _ _
  obtain ⟨_, _, ⟨T1, L1, k1, n1⟩, -, X1, ⟨Lc1, hQ1, l1, y1, z1⟩, st1⟩ := Jvm.LawKit.callS X0 hx (y := My9) hown (mvT hZ (ww hw 46 rfl)) (mvT hZ (ww hw 47 rfl)) (mvT hZ (ww hw 15 rfl)) (mvT hZ (ww hw 48 rfl)) (by decide) (backOf (W := 0) (rm9_1 l Z a0 hw [] w_NONE q5 h0 n0 O0 S hc0 hc1) hZ (ww hw 48 rfl) (ww hw 15 rfl) (by decide) (by decide)) (g := (mkF m 2 #[va o0, vl q5, ss, vl 9223372036854775806, ss, uu, uu, uu, uu, uu, uu, uu] [(.long 9223372036854775806), (.long q5)])) rfl (by rw [hml]; rfl) (argsL := [(.long q5), (.long 9223372036854775806)]) (rest := []) (lenOf pd_4 rfl) rfl (by show 2 * 0 + _ ≤ _; exact Nat.le_of_eq rfl) (hb hby d17_2) (fun _ _ => ⟨rfl, e0, (by decide : 0 + 0 ≤ _), (by decide : 0 + 0 ≤ _)⟩)
  dsimp only [Pt.U, Pt.locs, Pt.cells, Pt.slots] at X1 l1 y1 z1 st1 hQ1
  subst l1 y1 z1
  obtain ⟨rfl, Nq1, e1⟩ := hQ1
  have N1 := Fr.app N0 Nq1
  obtain ⟨cq2, qa2, qb2⟩ := E_o0.cell
  obtain ⟨_, _, ⟨T2, L2, k2, n2⟩, -, X2, ⟨Lc2, hQ2, l2, y2, z2⟩, st2⟩ := X1.privateBack hx (y := My10) hown (mvT hZ (ww hw 49 rfl)) (mvT hZ (ww hw 50 rfl)) (own_selp (by decide) (mvT hZ (ww hw 14 rfl)) (mvP hZ (ww hw 51 rfl)) (mvT hZ (ww hw 50 rfl))) (Cond.privateMethod_at (mvP hZ (ww hw 51 rfl) (args := #[]))) (mvT hZ (ww hw 52 rfl)) (by decide) (backOf (W := 0) (rm10_7 l Z a0 hw [] w_NONE o0 o1 o2 kk_o1 kk_o2 q5 q0 q1 q2 q3 q4 h0 n0 O0 S F_lasts_o0 F_ranges_o0 V_o2 hc2 hc3) hZ (ww hw 52 rfl) (ww hw 15 rfl) (by decide) (by decide)) (g := (mkF m 7 #[va o0, vl q5, ss, vl 9223372036854775806, ss, uu, uu, uu, uu, uu, uu, uu] [(.long q5), (.ref o0)])) rfl (by rw [hml]; rfl) (Steps.refl _) (a := o0) (by rw [e1]; exact qa2) qb2 (argsL := [(.long q5)]) (rest := []) (lenOf pd_5 rfl) rfl (by show 2 * 0 + _ ≤ _; exact Nat.le_of_eq rfl) (hb hby d17_7) (fun _ _ => ⟨rfl, e1, (by decide : 0 + 0 ≤ _), (by decide : 0 + 0 ≤ _)⟩)
  dsimp only [Pt.U, Pt.locs, Pt.cells, Pt.slots] at X2 l2 y2 z2 st2 hQ2
  subst l2 y2 z2
  obtain ⟨rfl, Nq2, e2⟩ := hQ2
  have N2 := Fr.app N1 Nq2
  obtain ⟨T3, X3, e3, st3⟩ := getF X2 hx hZ hown (host := "") (Or.inl (ww hw 39 rfl)) Via.refl e2 F_ranges_o0 (g := (mkF m 15 #[va o0, vl q5, ss, vl 9223372036854775806, ss, vi 1, uu, uu, uu, uu, uu, uu] [(.ref o0), (.int 1)])) rfl rfl (hb hby d17_15)
  obtain ⟨T4, X4, e4, st4⟩ := getF X3 hx hZ hown (host := "") (Or.inl (ww hw 28 rfl)) Via.refl e3 F_firsts_o0 (g := (mkF m 22 #[va o0, vl q5, ss, vl 9223372036854775806, ss, vi 1, uu, uu, uu, uu, uu, uu] [(.ref o0)])) rfl rfl (hb hby d17_22)
  obtain ⟨cl5, Ar5, qk5, Sz5, Ng5, Hh5, Gg5⟩ := id V_o1
  have hin5_1 : ¬ ((1 : Int32) < 0 ∨ cl5.slots.size ≤ ((1 : Int32)).toNatClampNeg) := inb_of Sz5 ⟨by decide, by decide⟩
  obtain ⟨T6, X6, e6, st6⟩ := getF X4 hx hZ hown (host := "") (Or.inl (ww hw 28 rfl)) Via.refl e4 F_firsts_o0 (g := (mkF m 35 #[va o0, vl q5, ss, vl 9223372036854775806, ss, vi 1, uu, uu, uu, uu, uu, uu] [(.ref o0)])) rfl rfl (hb hby d17_35)
  obtain ⟨T7, X7, e7, st7⟩ := getF X6 hx hZ hown (host := "") (Or.inl (ww hw 30 rfl)) Via.refl e6 F_lasts_o0 (g := (mkF m 47 #[va o0, vl q5, ss, vl 9223372036854775806, ss, vi 1, uu, uu, uu, uu, uu, uu] [(.ref o0)])) rfl rfl (hb hby d17_47)
  obtain ⟨cl8, Ar8, qk8, Sz8, Ng8, Hh8, Gg8⟩ := id V_o2
  have hin8_1 : ¬ ((1 : Int32) < 0 ∨ cl8.slots.size ≤ ((1 : Int32)).toNatClampNeg) := inb_of Sz8 ⟨by decide, by decide⟩
  obtain ⟨T9, X9, e9, st9⟩ := getF X7 hx hZ hown (host := "") (Or.inl (ww hw 39 rfl)) Via.refl e7 F_ranges_o0 (g := (mkF m 125 #[va o0, vl q5, ss, vl 9223372036854775806, ss, vi 1, vi 1, uu, uu, uu, uu, uu] [(.ref o0), (.int 1)])) rfl rfl (hb hby d17_125)
  obtain ⟨T10, X10, e10, st10⟩ := getF X9 hx hZ hown (host := "") (Or.inl (ww hw 28 rfl)) Via.refl e9 F_firsts_o0 (g := (mkF m 132 #[va o0, vl q5, ss, vl 9223372036854775806, ss, vi 1, vi 1, uu, uu, uu, uu, uu] [(.ref o0)])) rfl rfl (hb hby d17_132)
  obtain ⟨T11, X11, e11, st11⟩ := getF X10 hx hZ hown (host := "") (Or.inl (ww hw 39 rfl)) Via.refl e10 F_ranges_o0 (g := (mkF m 125 #[va o0, vl q5, ss, vl 9223372036854775806, ss, vi 1, vi 2, uu, uu, uu, uu, uu] [(.ref o0), (.int 2)])) rfl rfl (hb hby d17_125)
  obtain ⟨T12, X12, e12, st12⟩ := getF X11 hx hZ hown (host := "") (Or.inl (ww hw 28 rfl)) Via.refl e11 F_firsts_o0 (g := (mkF m 161 #[va o0, vl q5, ss, vl 9223372036854775806, ss, vi 1, vi 2, vi 1, vi 2, vl 0, ss, uu] [(.ref o0)])) rfl rfl (hb hby d17_161)
  obtain ⟨T13, X13, e13, st13⟩ := getF X12 hx hZ hown (host := "") (Or.inl (ww hw 30 rfl)) Via.refl e12 F_lasts_o0 (g := (mkF m 175 #[va o0, vl q5, ss, vl 9223372036854775806, ss, vi 1, vi 2, vi 1, vi 2, vl 0, ss, uu] [(.ref o0), (.long 0)])) rfl rfl (hb hby d17_175)
  obtain ⟨T14, X14, e14, st14⟩ := getF X13 hx hZ hown (host := "") (Or.inl (ww hw 30 rfl)) Via.refl e13 F_lasts_o0 (g := (mkF m 189 #[va o0, vl q5, ss, vl 9223372036854775806, ss, vi 1, vi 2, vi 1, vi 2, vl ((0 : Int64) + ((q4 - q5) + (1 : Int64))), ss, uu] [(.ref o0)])) rfl rfl (hb hby d17_189)
  obtain ⟨T15, h15, X15, e15, W15, st15⟩ := stJ X14 hx hZ e14 Ar8 (j := (1 : Int32)) hin8_1 (g := (mkF m 197 #[va o0, vl q5, ss, vl 9223372036854775806, ss, vi 1, vi 2, vi 1, vi 2, vl ((0 : Int64) + ((q4 - q5) + (1 : Int64))), ss, uu] [(.long (q5 - (1 : Int64))), (.int 1), (.ref o2)])) rfl rfl (hb hby d17_197)
  have V15 : Arv Z h15 o2 kk_o2 .long (4 : Int32) [(.long q3), (.long (q5 - (1 : Int64))), (.long 0), (.long 0)] (.long 0) := Arv.set Ar8 qk8 Sz8 Ng8 Hh8 Gg8 rfl W15 1 rfl (Nat.le_of_ble_eq_true rfl)
  have O15 := O0.wr W15 g_o2
  have K15 : Keep h0 h15 [o2, o0, o1] := K0.wr W15 (Or.inl (List.mem_of_getElem? (i := 0) rfl))
  have N15 := Fr.snoc X15 N2 g_o2
  have fc16 := (E_o0.wr W15)
  have fc17 := (F_count_o0.other W15 (Or.inl ne_o0_o2))
  have fc18 := (F_firsts_o0.other W15 (Or.inl ne_o0_o2))
  have fc19 := (F_lasts_o0.other W15 (Or.inl ne_o0_o2))
  have fc20 := (F_maxRanges_o0.other W15 (Or.inl ne_o0_o2))
  have fc21 := (F_ranges_o0.other W15 (Or.inl ne_o0_o2))
  have fc22 := (V_o1.other W15 ne_o1_o2)
  obtain ⟨cq23, qa23, qb23⟩ := fc16.cell
  obtain ⟨_, _, ⟨T23, L23, k23, n23⟩, -, X23, ⟨Lc23, hQ23, l23, y23, z23⟩, st23⟩ := X15.privateBack hx (y := My16) hown (mvT hZ (ww hw 80 rfl)) (mvT hZ (ww hw 81 rfl)) (own_selp (by decide) (mvT hZ (ww hw 14 rfl)) (mvP hZ (ww hw 82 rfl)) (mvT hZ (ww hw 81 rfl))) (Cond.privateMethod_at (mvP hZ (ww hw 82 rfl) (args := #[]))) (mvT hZ (ww hw 83 rfl)) (by decide) (backOf (W := 0) (rm16_3 l Z a0 hw [] w_NONE o0 o1 o2 kk_o1 kk_o2 q0 q1 q2 q3 (q5 - (1 : Int64)) h15 n0 O15 S fc16 fc17 fc18 fc19 fc20 fc21 fc22 V15 ne_o0_o1 ne_o0_o2 ne_o1_o2 g_o0 g_o1 g_o2) hZ (ww hw 83 rfl) (ww hw 15 rfl) (by decide) (by decide)) (g := (mkF m 302 #[va o0, vl q5, ss, vl 9223372036854775806, ss, vi 1, vi 2, vi 2, vi 2, vl ((0 : Int64) + ((q4 - q5) + (1 : Int64))), ss, vi 2] [(.int 0), (.int 2), (.ref o0)])) rfl (by rw [hml]; rfl) (Steps.refl _) (a := o0) (by rw [e15]; exact qa23) qb23 (argsL := [(.int 2), (.int 0)]) (rest := []) (lenOf pd_11 rfl) rfl (by show 2 * 0 + _ ≤ _; exact Nat.le_of_eq rfl) (hb hby d17_302) (fun _ _ => ⟨rfl, e15, (by decide : 0 + 0 ≤ _), (by decide : 0 + 0 ≤ _)⟩)
  dsimp only [Pt.U, Pt.locs, Pt.cells, Pt.slots] at X23 l23 y23 z23 st23 hQ23
  subst l23 y23 z23
  obtain ⟨rfl, Nq23, Kc23, P0_23, P1_23, P2_23, P3_23, P4_23, P5_23, P6_23, P7_23⟩ := hQ23
  have N23 := Fr.app N15 Nq23
  have O23 := O15.keep Kc23 (allS g_o1 (allS g_o2 (allS g_o0 all0)))
  have K23 : Keep h0 T23.heap [o2, o0, o1] := K15.trans Kc23 (allS (Or.inl (List.mem_of_getElem? (i := 2) rfl)) (allS (Or.inl (List.mem_of_getElem? (i := 0) rfl)) (allS (Or.inl (List.mem_of_getElem? (i := 1) rfl)) all0)))
  obtain ⟨T24, X24, e24, st24⟩ := getF X23 hx hZ hown (host := "") (Or.inl (ww hw 73 rfl)) Via.refl rfl P1_23 (g := (mkF m 307 #[va o0, vl q5, ss, vl 9223372036854775806, ss, vi 1, vi 2, vi 2, vi 2, vl ((0 : Int64) + ((q4 - q5) + (1 : Int64))), ss, vi 2] [(.ref o0), (.ref o0)])) rfl rfl (hb hby d17_307)
  obtain ⟨T25, h25, X25, e25, W25, st25⟩ := putF X24 hx hZ hown (host := "") (Or.inl (ww hw 73 rfl)) Via.refl e24 P1_23 P0_23 (Or.inl (ww hw 74 rfl)) (ww hw 14 rfl) (ty := .long) (by decide) rfl rfl (g := (mkF m 313 #[va o0, vl q5, ss, vl 9223372036854775806, ss, vi 1, vi 2, vi 2, vi 2, vl ((0 : Int64) + ((q4 - q5) + (1 : Int64))), ss, vi 2] [(.long (q0 - ((0 : Int64) + ((q4 - q5) + (1 : Int64))))), (.ref o0)])) rfl rfl (hb hby d17_313)
  have Fw25 := P1_23.same W25
  have O25 := O23.wr W25 g_o0
  have K25 : Keep h0 h25 [o2, o0, o1] := K23.wr W25 (Or.inl (List.mem_of_getElem? (i := 1) rfl))
  have N25 := Fr.snoc X25 N23 g_o0
  obtain ⟨fs, hr, hrun, hended, hW, hsame⟩ := X25.leave (v := none) (fun _ => rfl)
  have fc26 := (P0_23.wr W25)
  have fc27 := (P2_23.other W25 (Or.inr (slot_ne (Or.inl (ww hw 29 rfl)) (Or.inl (ww hw 74 rfl)) (by decide) (t := (.array .long)) (t' := .long) (by decide) (by decide))))
  have fc28 := (P3_23.other W25 (Or.inr (slot_ne (Or.inl (ww hw 31 rfl)) (Or.inl (ww hw 74 rfl)) (by decide) (t := (.array .long)) (t' := .long) (by decide) (by decide))))
  have fc29 := (P4_23.other W25 (Or.inr (slot_ne (Or.inr (ww hw 33 rfl)) (Or.inl (ww hw 74 rfl)) (by decide) (t := .int) (t' := .long) (by decide) (by decide))))
  have fc30 := (P5_23.other W25 (Or.inr (slot_ne (Or.inl (ww hw 40 rfl)) (Or.inl (ww hw 74 rfl)) (by decide) (t := .int) (t' := .long) (by decide) (by decide))))
  have fc31 := (P6_23.other W25 (Ne.symm ne_o0_o1))
  have fc32 := (P7_23.other W25 (Ne.symm ne_o0_o2))
  refine ⟨_, _, ?_, hrun, hended, _, _, rfl, ?_, ⟨_, rfl⟩, hW, hsame.mono (by decide) (by decide)⟩
  · show Steps p.tables e below (s₁.setTop (mkF m 0 #[va o0, vl q5, ss, vl 9223372036854775806, ss, uu, uu, uu, uu, uu, uu, uu] [])) _
    refine XS.lloadN X0.here hx rfl (hb hby d17_0) rfl ?_
    refine XS.lloadN X0.here hx rfl (hb hby d17_1) rfl ?_
    refine st1 _ ?_
    refine XS.aloadN X1.here hx rfl (hb hby d17_5) rfl rfl ?_
    refine XS.lloadN X1.here hx rfl (hb hby d17_6) rfl ?_
    refine st2.trans ?_
    refine XS.istore X2.here hx rfl (hb hby d17_10) rfl (l' := #[va o0, vl q5, ss, vl 9223372036854775806, ss, vi 1, uu, uu, uu, uu, uu, uu]) rfl ?_
    refine XS.iload X2.here hx rfl (hb hby d17_12) rfl ?_
    show Steps p.tables e below (T2.setTop (mkF m 14 #[va o0, vl q5, ss, vl 9223372036854775806, ss, vi 1, uu, uu, uu, uu, uu, uu] [(.int 1)])) _
    refine XS.aloadN X2.here hx rfl (hb hby d17_14) rfl rfl ?_
    refine st3 _ ?_
    refine XS.icmpNo X3.here hx rfl (hb hby d17_18) rfl (feq (by decide : ¬ ((1 : Int32) = (2 : Int32)))).1 ?_
    refine XS.aloadN X3.here hx rfl (hb hby d17_21) rfl rfl ?_
    refine st4 _ ?_
    refine XS.iload X4.here hx rfl (hb hby d17_25) rfl ?_
    refine X4.laload hx (j := (1 : Int32)) (v := (.long q2)) (by rw [e4]; exact Ar5.1) (State.isArrayOf_alike hZ.alike Ar5.2.1) Ar5.2.2 hin5_1 (Has.at Hh5 hin5_1 rfl) (g := (mkF m 27 #[va o0, vl q5, ss, vl 9223372036854775806, ss, vi 1, uu, uu, uu, uu, uu, uu] [(.int 1), (.ref o1)])) rfl rfl (hb hby d17_27) _ ?_
    refine XS.lloadN X4.here hx rfl (hb hby d17_28) rfl ?_
    show Steps p.tables e below (T4.setTop (mkF m 29 #[va o0, vl q5, ss, vl 9223372036854775806, ss, vi 1, uu, uu, uu, uu, uu, uu] [(.long 9223372036854775806), (.long q2)])) _
    refine XS.lcmp X4.here hx rfl (hb hby d17_29) rfl ?_
    refine XS.ifYes X4.here hx rfl (pc0 := 30) (pc' := 34) rfl (hb hby d17_30) rfl (own_lc_gtF hc4).2 (by decide) (by decide) ?_
    refine XS.aloadN X4.here hx rfl (hb hby d17_34) rfl rfl ?_
    refine st6 _ ?_
    refine XS.iload X6.here hx rfl (hb hby d17_38) rfl ?_
    refine X6.laload hx (j := (1 : Int32)) (v := (.long q2)) (by rw [e6]; exact Ar5.1) (State.isArrayOf_alike hZ.alike Ar5.2.1) Ar5.2.2 hin5_1 (Has.at Hh5 hin5_1 rfl) (g := (mkF m 40 #[va o0, vl q5, ss, vl 9223372036854775806, ss, vi 1, uu, uu, uu, uu, uu, uu] [(.int 1), (.ref o1)])) rfl rfl (hb hby d17_40) _ ?_
    refine XS.lloadN X6.here hx rfl (hb hby d17_41) rfl ?_
    refine XS.lcmp X6.here hx rfl (hb hby d17_42) rfl ?_
    show Steps p.tables e below (T6.setTop (mkF m 43 #[va o0, vl q5, ss, vl 9223372036854775806, ss, vi 1, uu, uu, uu, uu, uu, uu] [(.int (lcmpW q2 q5))])) _
    refine XS.ifNo X6.here hx rfl (hb hby d17_43) rfl (own_lc_ltT hc5).2 ?_
    refine XS.aloadN X6.here hx rfl (hb hby d17_46) rfl rfl ?_
    refine st7 _ ?_
    refine XS.iload X7.here hx rfl (hb hby d17_50) rfl ?_
    refine X7.laload hx (j := (1 : Int32)) (v := (.long q4)) (by rw [e7]; exact Ar8.1) (State.isArrayOf_alike hZ.alike Ar8.2.1) Ar8.2.2 hin8_1 (Has.at Hh8 hin8_1 rfl) (g := (mkF m 52 #[va o0, vl q5, ss, vl 9223372036854775806, ss, vi 1, uu, uu, uu, uu, uu, uu] [(.int 1), (.ref o2)])) rfl rfl (hb hby d17_52) _ ?_
    refine XS.lloadN X7.here hx rfl (hb hby d17_53) rfl ?_
    refine XS.lcmp X7.here hx rfl (hb hby d17_54) rfl ?_
    refine XS.ifYes X7.here hx rfl (pc0 := 55) (pc' := 118) rfl (hb hby d17_55) rfl (own_lc_gtF hc6).2 (by decide) (by decide) ?_
    show Steps p.tables e below (T7.setTop (mkF m 118 #[va o0, vl q5, ss, vl 9223372036854775806, ss, vi 1, uu, uu, uu, uu, uu, uu] [])) _
    refine XS.iload X7.here hx rfl (hb hby d17_118) rfl ?_
    refine XS.istore X7.here hx rfl (hb hby d17_120) rfl (l' := #[va o0, vl q5, ss, vl 9223372036854775806, ss, vi 1, vi 1, uu, uu, uu, uu, uu]) rfl ?_
    refine XS.iload X7.here hx rfl (hb hby d17_122) rfl ?_
    refine XS.aloadN X7.here hx rfl (hb hby d17_124) rfl rfl ?_
    refine st9 _ ?_
    refine XS.icmpNo X9.here hx rfl (hb hby d17_128) rfl (tlt (by decide : (1 : Int32) < (2 : Int32))).2.1 ?_
    refine XS.aloadN X9.here hx rfl (hb hby d17_131) rfl rfl ?_
    refine st10 _ ?_
    show Steps p.tables e below (T10.setTop (mkF m 135 #[va o0, vl q5, ss, vl 9223372036854775806, ss, vi 1, vi 1, uu, uu, uu, uu, uu] [(.ref o1)])) _
    refine XS.iload X10.here hx rfl (hb hby d17_135) rfl ?_
    refine X10.laload hx (j := (1 : Int32)) (v := (.long q2)) (by rw [e10]; exact Ar5.1) (State.isArrayOf_alike hZ.alike Ar5.2.1) Ar5.2.2 hin5_1 (Has.at Hh5 hin5_1 rfl) (g := (mkF m 137 #[va o0, vl q5, ss, vl 9223372036854775806, ss, vi 1, vi 1, uu, uu, uu, uu, uu] [(.int 1), (.ref o1)])) rfl rfl (hb hby d17_137) _ ?_
    refine XS.lloadN X10.here hx rfl (hb hby d17_138) rfl ?_
    refine XS.lcmp X10.here hx rfl (hb hby d17_139) rfl ?_
    refine XS.ifNo X10.here hx rfl (hb hby d17_140) rfl (own_lc_gtF hc4).1 ?_
    refine XS.iinc X10.here hx rfl (hb hby d17_143) rfl (l' := #[va o0, vl q5, ss, vl 9223372036854775806, ss, vi 1, vi ((1 : Int32) + (1 : Int32)), uu, uu, uu, uu, uu]) rfl ?_
    show Steps p.tables e below (T10.setTop (mkF m 146 #[va o0, vl q5, ss, vl 9223372036854775806, ss, vi 1, vi ((1 : Int32) + (1 : Int32)), uu, uu, uu, uu, uu] [])) _
    rw [show (((1 : Int32) + (1 : Int32)) : Int32) = (2 : Int32) from by decide]
    refine XS.goto X10.here hx rfl (pc0 := 146) (pc' := 122) rfl (hb hby d17_146) (by decide) (by decide) ?_
    refine XS.iload X10.here hx rfl (hb hby d17_122) rfl ?_
    refine XS.aloadN X10.here hx rfl (hb hby d17_124) rfl rfl ?_
    refine st11 _ ?_
    refine XS.icmpYes X11.here hx rfl (pc0 := 128) (pc' := 149) rfl (hb hby d17_128) rfl (flt (by decide : ¬ ((2 : Int32) < (2 : Int32)))).2.1 (by decide) (by decide) ?_
    refine XS.iload X11.here hx rfl (hb hby d17_149) rfl ?_
    refine XS.istore X11.here hx rfl (hb hby d17_151) rfl (l' := #[va o0, vl q5, ss, vl 9223372036854775806, ss, vi 1, vi 2, vi 1, uu, uu, uu, uu]) rfl ?_
    show Steps p.tables e below (T11.setTop (mkF m 153 #[va o0, vl q5, ss, vl 9223372036854775806, ss, vi 1, vi 2, vi 1, uu, uu, uu, uu] [])) _
    refine XS.iload X11.here hx rfl (hb hby d17_153) rfl ?_
    refine XS.istore X11.here hx rfl (hb hby d17_155) rfl (l' := #[va o0, vl q5, ss, vl 9223372036854775806, ss, vi 1, vi 2, vi 1, vi 2, uu, uu, uu]) rfl ?_
    refine XS.lconst X11.here hx rfl (hb hby d17_157) ?_
    refine XS.lstore X11.here hx rfl (hb hby d17_158) rfl (l' := #[va o0, vl q5, ss, vl 9223372036854775806, ss, vi 1, vi 2, vi 1, vi 2, vl 0, ss, uu]) rfl ?_
    refine XS.aloadN X11.here hx rfl (hb hby d17_160) rfl rfl ?_
    refine st12 _ ?_
    refine XS.iload X12.here hx rfl (hb hby d17_164) rfl ?_
    refine X12.laload hx (j := (1 : Int32)) (v := (.long q2)) (by rw [e12]; exact Ar5.1) (State.isArrayOf_alike hZ.alike Ar5.2.1) Ar5.2.2 hin5_1 (Has.at Hh5 hin5_1 rfl) (g := (mkF m 166 #[va o0, vl q5, ss, vl 9223372036854775806, ss, vi 1, vi 2, vi 1, vi 2, vl 0, ss, uu] [(.int 1), (.ref o1)])) rfl rfl (hb hby d17_166) _ ?_
    show Steps p.tables e below (T12.setTop (mkF m 167 #[va o0, vl q5, ss, vl 9223372036854775806, ss, vi 1, vi 2, vi 1, vi 2, vl 0, ss, uu] [(.long q2)])) _
    refine XS.lloadN X12.here hx rfl (hb hby d17_167) rfl ?_
    refine XS.lcmp X12.here hx rfl (hb hby d17_168) rfl ?_
    refine XS.ifNo X12.here hx rfl (hb hby d17_169) rfl (own_lc_ltT hc5).2 ?_
    refine XS.lload X12.here hx rfl (hb hby d17_172) rfl ?_
    refine XS.aloadN X12.here hx rfl (hb hby d17_174) rfl rfl ?_
    refine st13 _ ?_
    refine XS.iload X13.here hx rfl (hb hby d17_178) rfl ?_
    refine X13.laload hx (j := (1 : Int32)) (v := (.long q4)) (by rw [e13]; exact Ar8.1) (State.isArrayOf_alike hZ.alike Ar8.2.1) Ar8.2.2 hin8_1 (Has.at Hh8 hin8_1 rfl) (g := (mkF m 180 #[va o0, vl q5, ss, vl 9223372036854775806, ss, vi 1, vi 2, vi 1, vi 2, vl 0, ss, uu] [(.int 1), (.ref o2), (.long 0)])) rfl rfl (hb hby d17_180) _ ?_
    show Steps p.tables e below (T13.setTop (mkF m 181 #[va o0, vl q5, ss, vl 9223372036854775806, ss, vi 1, vi 2, vi 1, vi 2, vl 0, ss, uu] [(.long q4), (.long 0)])) _
    refine XS.lloadN X13.here hx rfl (hb hby d17_181) rfl ?_
    refine XS.lsub X13.here hx rfl (hb hby d17_182) rfl ?_
    refine XS.lconst X13.here hx rfl (hb hby d17_183) ?_
    refine XS.ladd X13.here hx rfl (hb hby d17_184) rfl ?_
    refine XS.ladd X13.here hx rfl (hb hby d17_185) rfl ?_
    refine XS.lstore X13.here hx rfl (hb hby d17_186) rfl (l' := #[va o0, vl q5, ss, vl 9223372036854775806, ss, vi 1, vi 2, vi 1, vi 2, vl ((0 : Int64) + ((q4 - q5) + (1 : Int64))), ss, uu]) rfl ?_
    refine XS.aloadN X13.here hx rfl (hb hby d17_188) rfl rfl ?_
    refine st14 _ ?_
    show Steps p.tables e below (T14.setTop (mkF m 192 #[va o0, vl q5, ss, vl 9223372036854775806, ss, vi 1, vi 2, vi 1, vi 2, vl ((0 : Int64) + ((q4 - q5) + (1 : Int64))), ss, uu] [(.ref o2)])) _
    refine XS.iload X14.here hx rfl (hb hby d17_192) rfl ?_
    refine XS.lloadN X14.here hx rfl (hb hby d17_194) rfl ?_
    refine XS.lconst X14.here hx rfl (hb hby d17_195) ?_
    refine XS.lsub X14.here hx rfl (hb hby d17_196) rfl ?_
    refine st15 _ ?_
    refine XS.iinc X15.here hx rfl (hb hby d17_198) rfl (l' := #[va o0, vl q5, ss, vl 9223372036854775806, ss, vi 1, vi 2, vi ((1 : Int32) + (1 : Int32)), vi 2, vl ((0 : Int64) + ((q4 - q5) + (1 : Int64))), ss, uu]) rfl ?_
    show Steps p.tables e below (T15.setTop (mkF m 201 #[va o0, vl q5, ss, vl 9223372036854775806, ss, vi 1, vi 2, vi ((1 : Int32) + (1 : Int32)), vi 2, vl ((0 : Int64) + ((q4 - q5) + (1 : Int64))), ss, uu] [])) _
    rw [show (((1 : Int32) + (1 : Int32)) : Int32) = (2 : Int32) from by decide]
    refine XS.iload X15.here hx rfl (hb hby d17_201) rfl ?_
    refine XS.iload X15.here hx rfl (hb hby d17_203) rfl ?_
    refine XS.icmpYes X15.here hx rfl (pc0 := 205) (pc' := 255) rfl (hb hby d17_205) rfl (flt (by decide : ¬ ((2 : Int32) < (2 : Int32)))).2.1 (by decide) (by decide) ?_
    refine XS.iload X15.here hx rfl (hb hby d17_255) rfl ?_
    refine XS.istore X15.here hx rfl (hb hby d17_257) rfl (l' := #[va o0, vl q5, ss, vl 9223372036854775806, ss, vi 1, vi 2, vi 2, vi 2, vl ((0 : Int64) + ((q4 - q5) + (1 : Int64))), ss, vi 2]) rfl ?_
    refine XS.iload X15.here hx rfl (hb hby d17_259) rfl ?_
    refine XS.iload X15.here hx rfl (hb hby d17_261) rfl ?_
    show Steps p.tables e below (T15.setTop (mkF m 263 #[va o0, vl q5, ss, vl 9223372036854775806, ss, vi 1, vi 2, vi 2, vi 2, vl ((0 : Int64) + ((q4 - q5) + (1 : Int64))), ss, vi 2] [(.int 2), (.int 2)])) _
    refine XS.icmpYes X15.here hx rfl (pc0 := 263) (pc' := 294) rfl (hb hby d17_263) rfl (flt (by decide : ¬ ((2 : Int32) < (2 : Int32)))).2.1 (by decide) (by decide) ?_
    refine XS.aloadN X15.here hx rfl (hb hby d17_294) rfl rfl ?_
    refine XS.iload X15.here hx rfl (hb hby d17_295) rfl ?_
    refine XS.iload X15.here hx rfl (hb hby d17_297) rfl ?_
    refine XS.iload X15.here hx rfl (hb hby d17_299) rfl ?_
    refine XS.isub X15.here hx rfl (hb hby d17_301) rfl ?_
    show Steps p.tables e below (T15.setTop (mkF m 302 #[va o0, vl q5, ss, vl 9223372036854775806, ss, vi 1, vi 2, vi 2, vi 2, vl ((0 : Int64) + ((q4 - q5) + (1 : Int64))), ss, vi 2] [(.int ((2 : Int32) - (2 : Int32))), (.int 2), (.ref o0)])) _
    rw [show (((2 : Int32) - (2 : Int32)) : Int32) = (0 : Int32) from by decide]
    refine st23.trans ?_
    refine XS.aloadN X23.here hx rfl (hb hby d17_305) rfl rfl ?_
    refine XS.dup X23.here hx rfl (hb hby d17_306) rfl rfl ?_
    refine st24 _ ?_
    refine XS.lload X24.here hx rfl (hb hby d17_310) rfl ?_
    refine XS.lsub X24.here hx rfl (hb hby d17_312) rfl ?_
    refine st25 _ ?_
    show Steps p.tables e below (T25.setTop (mkF m 316 #[va o0, vl q5, ss, vl 9223372036854775806, ss, vi 1, vi 2, vi 2, vi 2, vl ((0 : Int64) + ((q4 - q5) + (1 : Int64))), ss, vi 2] [])) _
    exact X25.returnOut hx hrt (hb hby d17_316) hr
  · show Q17_3 Z w_NONE o0 o1 o2 kk_o1 kk_o2 q5 q0 q1 q2 q3 q4 h0 n0 none T25.heap _
    rw [e25]; exact ⟨rfl, N25, K25, fc26, Fw25, fc27, fc28, fc29, fc30, fc31, fc32⟩
def Q7_2 (Z : State) (w_NONE : Addr) (o0 : Addr) (o1 : Addr) (o2 : Addr) (kk_o1 : ClassId) (kk_o2 : ClassId) (q0 : Int64) (q1 : Int64) (q2 : Int64) (q3 : Int64) (q4 : Int64) (h0 : Heap) (n0 : Nat) (v : Option Value) (h : Heap) (L : List Loc) : Prop := v = (some (.long (q3 + (1 : Int64)))) ∧ Fr n0 L ∧ h = h0
theorem rm7_2 (l : Launch) (Z : State) (a0 : Array Value) (hw : HW Z a0) (ws : List Jvm.Cond) (w_NONE : Addr) (o0 : Addr) (o1 : Addr) (o2 : Addr) (kk_o1 : ClassId) (kk_o2 : ClassId) (q0 : Int64) (q1 : Int64) (q2 : Int64) (q3 : Int64) (q4 : Int64) (h0 : Heap) (n0 : Nat) (O0 : Old Z n0 h0) (S : SF Z w_NONE) (F_lasts_o0 : Fld Z h0 o0 sC0 "lasts" "[J" (.ref o2)) (F_ranges_o0 : Fld Z h0 o0 sC0 "ranges" "I" (.int 1)) (V_o2 : Arv Z h0 o2 kk_o2 .long (4 : Int32) [(.long q3), (.long q4), (.long 0), (.long 0)] (.long 0)) :
    Pay l Z My7 ws prog_55_method_17_code 1 (some .long) #[(.ref o0)] h0 ({ frames := 0, cells := 0, slots := 0, locals := 0 } : Room) (Q7_2 Z w_NONE o0 o1 o2 kk_o1 kk_o2 q0 q1 q2 q3 q4 h0 n0) := by
  refine own_body (plainFor_of_name pn_1) (L0 := #[va o0]) (fun _ => by first | rfl | (simp [entryFrame, mkF, argsToLocals, Value.category]; done)) ?_
  intro p e s m below meth c s₁ hrt hlk hx hby hml hZ hown0 hnm X0 e0
  have hown : s.vm.findClass sC0 = some m.cls := hown0
  have N0 := Fr.nil n0
  have K0 : Keep h0 h0 [] := Keep.refl _ _
  obtain ⟨T1, X1, e1, st1⟩ := getF X0 hx hZ hown (host := "") (Or.inl (ww hw 39 rfl)) Via.refl e0 F_ranges_o0 (g := (mkF m 1 #[va o0] [(.ref o0)])) rfl rfl (hb hby d7_1)
  obtain ⟨T2, X2, e2, st2⟩ := getF X1 hx hZ hown (host := "") (Or.inl (ww hw 30 rfl)) Via.refl e1 F_lasts_o0 (g := (mkF m 12 #[va o0] [(.ref o0)])) rfl rfl (hb hby d7_12)
  obtain ⟨T3, X3, e3, st3⟩ := getF X2 hx hZ hown (host := "") (Or.inl (ww hw 39 rfl)) Via.refl e2 F_ranges_o0 (g := (mkF m 16 #[va o0] [(.ref o0), (.ref o2)])) rfl rfl (hb hby d7_16)
  obtain ⟨cl4, Ar4, qk4, Sz4, Ng4, Hh4, Gg4⟩ := id V_o2
  have hin4_0 : ¬ ((0 : Int32) < 0 ∨ cl4.slots.size ≤ ((0 : Int32)).toNatClampNeg) := inb_of Sz4 ⟨by decide, by decide⟩
  obtain ⟨fs, hr, hrun, hended, hW, hsame⟩ := X3.leave (v := (some (.long (q3 + (1 : Int64))))) (fun h => by rw [hrt] at h; cases h)
  refine ⟨_, _, ?_, hrun, hended, _, _, rfl, ?_, ⟨_, rfl⟩, hW, hsame.mono (by decide) (by decide)⟩
  · show Steps p.tables e below (s₁.setTop (mkF m 0 #[va o0] [])) _
    refine XS.aloadN X0.here hx rfl (hb hby d7_0) rfl rfl ?_
    refine st1 _ ?_
    refine XS.ifYes X1.here hx rfl (pc0 := 4) (pc' := 11) rfl (hb hby d7_4) rfl ((if0 _ _).trans (feq (by decide : ¬ ((1 : Int32) = (0 : Int32)))).2) (by decide) (by decide) ?_
    refine XS.aloadN X1.here hx rfl (hb hby d7_11) rfl rfl ?_
    refine st2 _ ?_
    refine XS.aloadN X2.here hx rfl (hb hby d7_15) rfl rfl ?_
    refine st3 _ ?_
    refine XS.iconst X3.here hx rfl (hb hby d7_19) ?_
    show Steps p.tables e below (T3.setTop (mkF m 20 #[va o0] [(.int 1), (.int 1), (.ref o2)])) _
    refine XS.isub X3.here hx rfl (hb hby d7_20) rfl ?_
    show Steps p.tables e below (T3.setTop (mkF m 21 #[va o0] [(.int ((1 : Int32) - (1 : Int32))), (.ref o2)])) _
    rw [show (((1 : Int32) - (1 : Int32)) : Int32) = (0 : Int32) from by decide]
    refine X3.laload hx (j := (0 : Int32)) (v := (.long q3)) (by rw [e3]; exact Ar4.1) (State.isArrayOf_alike hZ.alike Ar4.2.1) Ar4.2.2 hin4_0 (Has.at Hh4 hin4_0 rfl) (g := (mkF m 21 #[va o0] [(.int 0), (.ref o2)])) rfl rfl (hb hby d7_21) _ ?_
    refine XS.lconst X3.here hx rfl (hb hby d7_22) ?_
    refine XS.ladd X3.here hx rfl (hb hby d7_23) rfl ?_
    exact retOut X3 hx (t := .long) (i := .lreturn) hrt rfl (Or.inr (Or.inl ⟨rfl, rfl, _, rfl⟩)) (hb hby d7_24) hr
  · show Q7_2 Z w_NONE o0 o1 o2 kk_o1 kk_o2 q0 q1 q2 q3 q4 h0 n0 (some (.long (q3 + (1 : Int64)))) T3.heap _
    exact (⟨rfl, N0, e3⟩)
def Q17_4 (Z : State) (w_NONE : Addr) (o0 : Addr) (o1 : Addr) (o2 : Addr) (kk_o1 : ClassId) (kk_o2 : ClassId) (q5 : Int64) (q0 : Int64) (q1 : Int64) (q2 : Int64) (q3 : Int64) (q4 : Int64) (h0 : Heap) (n0 : Nat) (v : Option Value) (h : Heap) (L : List Loc) : Prop := v = none ∧ Fr n0 L ∧ Keep h0 h [o2, o0, o1] ∧ Exa Z h o0 sC0 ∧ Fld Z h o0 sC0 "count" "J" (.long (q0 - (((0 : Int64) + ((q3 - q5) + (1 : Int64))) + ((q4 - q2) + (1 : Int64))))) ∧ Fld Z h o0 sC0 "firsts" "[J" (.ref o1) ∧ Fld Z h o0 sC0 "lasts" "[J" (.ref o2) ∧ Fld Z h o0 sC0 "maxRanges" "I" (.int 2147483647) ∧ Fld Z h o0 sC0 "ranges" "I" (.int 1) ∧ Arv Z h o1 kk_o1 .long (4 : Int32) [(.long q1), (.long q2), (.long 0), (.long 0)] (.long 0) ∧ Arv Z h o2 kk_o2 .long (4 : Int32) [(.long (q5 - (1 : Int64))), (.long q4), (.long 0), (.long 0)] (.long 0)
theorem rm17_4 (l : Launch) (Z : State) (a0 : Array Value) (hw : HW Z a0) (ws : List Jvm.Cond) (w_NONE : Addr) (o0 : Addr) (o1 : Addr) (o2 : Addr) (kk_o1 : ClassId) (kk_o2 : ClassId) (q5 : Int64) (q0 : Int64) (q1 : Int64) (q2 : Int64) (q3 : Int64) (q4 : Int64) (h0 : Heap) (n0 : Nat) (O0 : Old Z n0 h0) (S : SF Z w_NONE) (E_o0 : Exa Z h0 o0 sC0) (F_count_o0 : Fld Z h0 o0 sC0 "count" "J" (.long q0)) (F_firsts_o0 : Fld Z h0 o0 sC0 "firsts" "[J" (.ref o1)) (F_lasts_o0 : Fld Z h0 o0 sC0 "lasts" "[J" (.ref o2)) (F_maxRanges_o0 : Fld Z h0 o0 sC0 "maxRanges" "I" (.int 2147483647)) (F_ranges_o0 : Fld Z h0 o0 sC0 "ranges" "I" (.int 2)) (V_o1 : Arv Z h0 o1 kk_o1 .long (4 : Int32) [(.long q1), (.long q2), (.long 0), (.long 0)] (.long 0)) (V_o2 : Arv Z h0 o2 kk_o2 .long (4 : Int32) [(.long q3), (.long q4), (.long 0), (.long 0)] (.long 0)) (ne_o0_o1 : o0 ≠ o1) (ne_o0_o2 : o0 ≠ o2) (ne_o1_o2 : o1 ≠ o2) (g_o0 : n0 ≤ o0) (g_o1 : n0 ≤ o1) (g_o2 : n0 ≤ o2) (hc0 : ¬ (q5 < (0 : Int64))) (hc1 : ¬ ((9223372036854775806 : Int64) < q5)) (hc2 : ¬ (q4 < q5)) (hc3 : ¬ (q3 < q5)) (hc4 : ¬ ((9223372036854775806 : Int64) < q1)) (hc5 : q1 < q5) (hc6 : ¬ ((9223372036854775806 : Int64) < q3)) (hc7 : ¬ ((9223372036854775806 : Int64) < q2)) (hc8 : ¬ ((9223372036854775806 : Int64) < q4)) :
    Pay l Z My17 ws prog_55_method_10_code 12 none #[(.ref o0), (.long q5), (.long 9223372036854775806)] h0 ({ frames := 2, cells := 0, slots := 0, locals := 32 } : Room) (Q17_4 Z w_NONE o0 o1 o2 kk_o1 kk_o2 q5 q0 q1 q2 q3 q4 h0 n0) := by
  refine own_body (plainFor_of_name pn_1) (L0 := #[va o0, vl q5, ss, vl 9223372036854775806, ss, uu, uu, uu, uu, uu, uu, uu]) (fun _ => by first | rfl | (simp [entryFrame, mkF, argsToLocals, Value.category]; done)) ?_
  intro p e s m below meth c s₁ hrt hlk hx hby hml hZ hown0 hnm X0 e0
  have hown : s.vm.findClass sC0 = some m.cls := hown0
  have N0 := Fr.nil n0
  have K0 : Keep h0 h0 [o2, o0, o1] := Keep.refl _ _
  obtain ⟨_, _, ⟨T1, L1, k1, n1⟩, -, X1, ⟨Lc1, hQ1, l1, y1, z1⟩, st1⟩ := Jvm.LawKit.callS X0 hx (y := My9) hown (mvT hZ (ww hw 46 rfl)) (mvT hZ (ww hw 47 rfl)) (mvT hZ (ww hw 15 rfl)) (mvT hZ (ww hw 48 rfl)) (by decide) (backOf (W := 0) (rm9_1 l Z a0 hw [] w_NONE q5 h0 n0 O0 S hc0 hc1) hZ (ww hw 48 rfl) (ww hw 15 rfl) (by decide) (by decide)) (g := (mkF m 2 #[va o0, vl q5, ss, vl 9223372036854775806, ss, uu, uu, uu, uu, uu, uu, uu] [(.long 9223372036854775806), (.long q5)])) rfl (by rw [hml]; rfl) (argsL := [(.long q5), (.long 9223372036854775806)]) (rest := []) (lenOf pd_4 rfl) rfl (by show 2 * 0 + _ ≤ _; exact Nat.le_of_eq rfl) (hb hby d17_2) (fun _ _ => ⟨rfl, e0, (by decide : 0 + 0 ≤ _), (by decide : 0 + 0 ≤ _)⟩)
  dsimp only [Pt.U, Pt.locs, Pt.cells, Pt.slots] at X1 l1 y1 z1 st1 hQ1
  subst l1 y1 z1
  obtain ⟨rfl, Nq1, e1⟩ := hQ1
  have N1 := Fr.app N0 Nq1
  obtain ⟨cq2, qa2, qb2⟩ := E_o0.cell
  obtain ⟨_, _, ⟨T2, L2, k2, n2⟩, -, X2, ⟨Lc2, hQ2, l2, y2, z2⟩, st2⟩ := X1.privateBack hx (y := My10) hown (mvT hZ (ww hw 49 rfl)) (mvT hZ (ww hw 50 rfl)) (own_selp (by decide) (mvT hZ (ww hw 14 rfl)) (mvP hZ (ww hw 51 rfl)) (mvT hZ (ww hw 50 rfl))) (Cond.privateMethod_at (mvP hZ (ww hw 51 rfl) (args := #[]))) (mvT hZ (ww hw 52 rfl)) (by decide) (backOf (W := 0) (rm10_6 l Z a0 hw [] w_NONE o0 o1 o2 kk_o1 kk_o2 q5 q0 q1 q2 q3 q4 h0 n0 O0 S F_lasts_o0 F_ranges_o0 V_o2 hc2 hc3) hZ (ww hw 52 rfl) (ww hw 15 rfl) (by decide) (by decide)) (g := (mkF m 7 #[va o0, vl q5, ss, vl 9223372036854775806, ss, uu, uu, uu, uu, uu, uu, uu] [(.long q5), (.ref o0)])) rfl (by rw [hml]; rfl) (Steps.refl _) (a := o0) (by rw [e1]; exact qa2) qb2 (argsL := [(.long q5)]) (rest := []) (lenOf pd_5 rfl) rfl (by show 2 * 0 + _ ≤ _; exact Nat.le_of_eq rfl) (hb hby d17_7) (fun _ _ => ⟨rfl, e1, (by decide : 0 + 0 ≤ _), (by decide : 0 + 0 ≤ _)⟩)
  dsimp only [Pt.U, Pt.locs, Pt.cells, Pt.slots] at X2 l2 y2 z2 st2 hQ2
  subst l2 y2 z2
  obtain ⟨rfl, Nq2, e2⟩ := hQ2
  have N2 := Fr.app N1 Nq2
  obtain ⟨T3, X3, e3, st3⟩ := getF X2 hx hZ hown (host := "") (Or.inl (ww hw 39 rfl)) Via.refl e2 F_ranges_o0 (g := (mkF m 15 #[va o0, vl q5, ss, vl 9223372036854775806, ss, vi 0, uu, uu, uu, uu, uu, uu] [(.ref o0), (.int 0)])) rfl rfl (hb hby d17_15)
  obtain ⟨T4, X4, e4, st4⟩ := getF X3 hx hZ hown (host := "") (Or.inl (ww hw 28 rfl)) Via.refl e3 F_firsts_o0 (g := (mkF m 22 #[va o0, vl q5, ss, vl 9223372036854775806, ss, vi 0, uu, uu, uu, uu, uu, uu] [(.ref o0)])) rfl rfl (hb hby d17_22)
  obtain ⟨cl5, Ar5, qk5, Sz5, Ng5, Hh5, Gg5⟩ := id V_o1
  have hin5_0 : ¬ ((0 : Int32) < 0 ∨ cl5.slots.size ≤ ((0 : Int32)).toNatClampNeg) := inb_of Sz5 ⟨by decide, by decide⟩
  obtain ⟨T6, X6, e6, st6⟩ := getF X4 hx hZ hown (host := "") (Or.inl (ww hw 28 rfl)) Via.refl e4 F_firsts_o0 (g := (mkF m 35 #[va o0, vl q5, ss, vl 9223372036854775806, ss, vi 0, uu, uu, uu, uu, uu, uu] [(.ref o0)])) rfl rfl (hb hby d17_35)
  obtain ⟨T7, X7, e7, st7⟩ := getF X6 hx hZ hown (host := "") (Or.inl (ww hw 30 rfl)) Via.refl e6 F_lasts_o0 (g := (mkF m 47 #[va o0, vl q5, ss, vl 9223372036854775806, ss, vi 0, uu, uu, uu, uu, uu, uu] [(.ref o0)])) rfl rfl (hb hby d17_47)
  obtain ⟨cl8, Ar8, qk8, Sz8, Ng8, Hh8, Gg8⟩ := id V_o2
  have hin8_0 : ¬ ((0 : Int32) < 0 ∨ cl8.slots.size ≤ ((0 : Int32)).toNatClampNeg) := inb_of Sz8 ⟨by decide, by decide⟩
  obtain ⟨T9, X9, e9, st9⟩ := getF X7 hx hZ hown (host := "") (Or.inl (ww hw 39 rfl)) Via.refl e7 F_ranges_o0 (g := (mkF m 125 #[va o0, vl q5, ss, vl 9223372036854775806, ss, vi 0, vi 0, uu, uu, uu, uu, uu] [(.ref o0), (.int 0)])) rfl rfl (hb hby d17_125)
  obtain ⟨T10, X10, e10, st10⟩ := getF X9 hx hZ hown (host := "") (Or.inl (ww hw 28 rfl)) Via.refl e9 F_firsts_o0 (g := (mkF m 132 #[va o0, vl q5, ss, vl 9223372036854775806, ss, vi 0, vi 0, uu, uu, uu, uu, uu] [(.ref o0)])) rfl rfl (hb hby d17_132)
  obtain ⟨T11, X11, e11, st11⟩ := getF X10 hx hZ hown (host := "") (Or.inl (ww hw 39 rfl)) Via.refl e10 F_ranges_o0 (g := (mkF m 125 #[va o0, vl q5, ss, vl 9223372036854775806, ss, vi 0, vi 1, uu, uu, uu, uu, uu] [(.ref o0), (.int 1)])) rfl rfl (hb hby d17_125)
  obtain ⟨T12, X12, e12, st12⟩ := getF X11 hx hZ hown (host := "") (Or.inl (ww hw 28 rfl)) Via.refl e11 F_firsts_o0 (g := (mkF m 132 #[va o0, vl q5, ss, vl 9223372036854775806, ss, vi 0, vi 1, uu, uu, uu, uu, uu] [(.ref o0)])) rfl rfl (hb hby d17_132)
  have hin5_1 : ¬ ((1 : Int32) < 0 ∨ cl5.slots.size ≤ ((1 : Int32)).toNatClampNeg) := inb_of Sz5 ⟨by decide, by decide⟩
  obtain ⟨T13, X13, e13, st13⟩ := getF X12 hx hZ hown (host := "") (Or.inl (ww hw 39 rfl)) Via.refl e12 F_ranges_o0 (g := (mkF m 125 #[va o0, vl q5, ss, vl 9223372036854775806, ss, vi 0, vi 2, uu, uu, uu, uu, uu] [(.ref o0), (.int 2)])) rfl rfl (hb hby d17_125)
  obtain ⟨T14, X14, e14, st14⟩ := getF X13 hx hZ hown (host := "") (Or.inl (ww hw 28 rfl)) Via.refl e13 F_firsts_o0 (g := (mkF m 161 #[va o0, vl q5, ss, vl 9223372036854775806, ss, vi 0, vi 2, vi 0, vi 2, vl 0, ss, uu] [(.ref o0)])) rfl rfl (hb hby d17_161)
  obtain ⟨T15, X15, e15, st15⟩ := getF X14 hx hZ hown (host := "") (Or.inl (ww hw 30 rfl)) Via.refl e14 F_lasts_o0 (g := (mkF m 175 #[va o0, vl q5, ss, vl 9223372036854775806, ss, vi 0, vi 2, vi 0, vi 2, vl 0, ss, uu] [(.ref o0), (.long 0)])) rfl rfl (hb hby d17_175)
  obtain ⟨T16, X16, e16, st16⟩ := getF X15 hx hZ hown (host := "") (Or.inl (ww hw 30 rfl)) Via.refl e15 F_lasts_o0 (g := (mkF m 189 #[va o0, vl q5, ss, vl 9223372036854775806, ss, vi 0, vi 2, vi 0, vi 2, vl ((0 : Int64) + ((q3 - q5) + (1 : Int64))), ss, uu] [(.ref o0)])) rfl rfl (hb hby d17_189)
  obtain ⟨T17, h17, X17, e17, W17, st17⟩ := stJ X16 hx hZ e16 Ar8 (j := (0 : Int32)) hin8_0 (g := (mkF m 197 #[va o0, vl q5, ss, vl 9223372036854775806, ss, vi 0, vi 2, vi 0, vi 2, vl ((0 : Int64) + ((q3 - q5) + (1 : Int64))), ss, uu] [(.long (q5 - (1 : Int64))), (.int 0), (.ref o2)])) rfl rfl (hb hby d17_197)
  have V17 : Arv Z h17 o2 kk_o2 .long (4 : Int32) [(.long (q5 - (1 : Int64))), (.long q4), (.long 0), (.long 0)] (.long 0) := Arv.set Ar8 qk8 Sz8 Ng8 Hh8 Gg8 rfl W17 0 rfl (Nat.le_of_ble_eq_true rfl)
  have O17 := O0.wr W17 g_o2
  have K17 : Keep h0 h17 [o2, o0, o1] := K0.wr W17 (Or.inl (List.mem_of_getElem? (i := 0) rfl))
  have N17 := Fr.snoc X17 N2 g_o2
  have fc18 := (F_lasts_o0.other W17 (Or.inl ne_o0_o2))
  obtain ⟨T19, X19, e19, st19⟩ := getF X17 hx hZ hown (host := "") (Or.inl (ww hw 30 rfl)) Via.refl e17 fc18 (g := (mkF m 209 #[va o0, vl q5, ss, vl 9223372036854775806, ss, vi 0, vi 2, vi 1, vi 2, vl ((0 : Int64) + ((q3 - q5) + (1 : Int64))), ss, uu] [(.ref o0)])) rfl rfl (hb hby d17_209)
  obtain ⟨cl20, Ar20, qk20, Sz20, Ng20, Hh20, Gg20⟩ := id V17
  have hin20_1 : ¬ ((1 : Int32) < 0 ∨ cl20.slots.size ≤ ((1 : Int32)).toNatClampNeg) := inb_of Sz20 ⟨by decide, by decide⟩
  obtain ⟨T21, X21, e21, st21⟩ := getF X19 hx hZ hown (host := "") (Or.inl (ww hw 30 rfl)) Via.refl e19 fc18 (g := (mkF m 269 #[va o0, vl q5, ss, vl 9223372036854775806, ss, vi 0, vi 2, vi 1, vi 2, vl ((0 : Int64) + ((q3 - q5) + (1 : Int64))), ss, vi 1] [(.ref o0), (.long ((0 : Int64) + ((q3 - q5) + (1 : Int64))))])) rfl rfl (hb hby d17_269)
  have fc22 := (F_firsts_o0.other W17 (Or.inl ne_o0_o2))
  obtain ⟨T23, X23, e23, st23⟩ := getF X21 hx hZ hown (host := "") (Or.inl (ww hw 28 rfl)) Via.refl e21 fc22 (g := (mkF m 276 #[va o0, vl q5, ss, vl 9223372036854775806, ss, vi 0, vi 2, vi 1, vi 2, vl ((0 : Int64) + ((q3 - q5) + (1 : Int64))), ss, vi 1] [(.ref o0), (.long q4), (.long ((0 : Int64) + ((q3 - q5) + (1 : Int64))))])) rfl rfl (hb hby d17_276)
  have fc24 := (V_o1.other W17 ne_o1_o2)
  obtain ⟨cl25, Ar25, qk25, Sz25, Ng25, Hh25, Gg25⟩ := id fc24
  have hin25_1 : ¬ ((1 : Int32) < 0 ∨ cl25.slots.size ≤ ((1 : Int32)).toNatClampNeg) := inb_of Sz25 ⟨by decide, by decide⟩
  have fc26 := (E_o0.wr W17)
  have fc27 := (F_count_o0.other W17 (Or.inl ne_o0_o2))
  have fc28 := (F_maxRanges_o0.other W17 (Or.inl ne_o0_o2))
  have fc29 := (F_ranges_o0.other W17 (Or.inl ne_o0_o2))
  obtain ⟨cq30, qa30, qb30⟩ := fc26.cell
  obtain ⟨_, _, ⟨T30, L30, k30, n30⟩, -, X30, ⟨Lc30, hQ30, l30, y30, z30⟩, st30⟩ := X23.privateBack hx (y := My16) hown (mvT hZ (ww hw 80 rfl)) (mvT hZ (ww hw 81 rfl)) (own_selp (by decide) (mvT hZ (ww hw 14 rfl)) (mvP hZ (ww hw 82 rfl)) (mvT hZ (ww hw 81 rfl))) (Cond.privateMethod_at (mvP hZ (ww hw 82 rfl) (args := #[]))) (mvT hZ (ww hw 83 rfl)) (by decide) (backOf (W := 0) (rm16_2 l Z a0 hw [] w_NONE o0 o1 o2 kk_o1 kk_o2 q0 q1 q2 (q5 - (1 : Int64)) q4 h17 n0 O17 S fc26 fc27 fc22 fc18 fc28 fc29 fc24 V17 ne_o0_o1 ne_o0_o2 ne_o1_o2 g_o0 g_o1 g_o2) hZ (ww hw 83 rfl) (ww hw 15 rfl) (by decide) (by decide)) (g := (mkF m 302 #[va o0, vl q5, ss, vl 9223372036854775806, ss, vi 0, vi 2, vi 1, vi 2, vl (((0 : Int64) + ((q3 - q5) + (1 : Int64))) + ((q4 - q2) + (1 : Int64))), ss, vi 2] [(.int 1), (.int 1), (.ref o0)])) rfl (by rw [hml]; rfl) (Steps.refl _) (a := o0) (by rw [e23]; exact qa30) qb30 (argsL := [(.int 1), (.int 1)]) (rest := []) (lenOf pd_11 rfl) rfl (by show 2 * 0 + _ ≤ _; exact Nat.le_of_eq rfl) (hb hby d17_302) (fun _ _ => ⟨rfl, e23, (by decide : 0 + 0 ≤ _), (by decide : 0 + 0 ≤ _)⟩)
  dsimp only [Pt.U, Pt.locs, Pt.cells, Pt.slots] at X30 l30 y30 z30 st30 hQ30
  subst l30 y30 z30
  obtain ⟨rfl, Nq30, Kc30, P0_30, P1_30, P2_30, P3_30, P4_30, P5_30, P6_30, P7_30⟩ := hQ30
  have N30 := Fr.app N17 Nq30
  have O30 := O17.keep Kc30 (allS g_o1 (allS g_o2 (allS g_o0 all0)))
  have K30 : Keep h0 T30.heap [o2, o0, o1] := K17.trans Kc30 (allS (Or.inl (List.mem_of_getElem? (i := 2) rfl)) (allS (Or.inl (List.mem_of_getElem? (i := 0) rfl)) (allS (Or.inl (List.mem_of_getElem? (i := 1) rfl)) all0)))
  obtain ⟨T31, X31, e31, st31⟩ := getF X30 hx hZ hown (host := "") (Or.inl (ww hw 73 rfl)) Via.refl rfl P1_30 (g := (mkF m 307 #[va o0, vl q5, ss, vl 9223372036854775806, ss, vi 0, vi 2, vi 1, vi 2, vl (((0 : Int64) + ((q3 - q5) + (1 : Int64))) + ((q4 - q2) + (1 : Int64))), ss, vi 2] [(.ref o0), (.ref o0)])) rfl rfl (hb hby d17_307)
  obtain ⟨T32, h32, X32, e32, W32, st32⟩ := putF X31 hx hZ hown (host := "") (Or.inl (ww hw 73 rfl)) Via.refl e31 P1_30 P0_30 (Or.inl (ww hw 74 rfl)) (ww hw 14 rfl) (ty := .long) (by decide) rfl rfl (g := (mkF m 313 #[va o0, vl q5, ss, vl 9223372036854775806, ss, vi 0, vi 2, vi 1, vi 2, vl (((0 : Int64) + ((q3 - q5) + (1 : Int64))) + ((q4 - q2) + (1 : Int64))), ss, vi 2] [(.long (q0 - (((0 : Int64) + ((q3 - q5) + (1 : Int64))) + ((q4 - q2) + (1 : Int64))))), (.ref o0)])) rfl rfl (hb hby d17_313)
  have Fw32 := P1_30.same W32
  have O32 := O30.wr W32 g_o0
  have K32 : Keep h0 h32 [o2, o0, o1] := K30.wr W32 (Or.inl (List.mem_of_getElem? (i := 1) rfl))
  have N32 := Fr.snoc X32 N30 g_o0
  obtain ⟨fs, hr, hrun, hended, hW, hsame⟩ := X32.leave (v := none) (fun _ => rfl)
  have fc33 := (P0_30.wr W32)
  have fc34 := (P2_30.other W32 (Or.inr (slot_ne (Or.inl (ww hw 29 rfl)) (Or.inl (ww hw 74 rfl)) (by decide) (t := (.array .long)) (t' := .long) (by decide) (by decide))))
  have fc35 := (P3_30.other W32 (Or.inr (slot_ne (Or.inl (ww hw 31 rfl)) (Or.inl (ww hw 74 rfl)) (by decide) (t := (.array .long)) (t' := .long) (by decide) (by decide))))
  have fc36 := (P4_30.other W32 (Or.inr (slot_ne (Or.inr (ww hw 33 rfl)) (Or.inl (ww hw 74 rfl)) (by decide) (t := .int) (t' := .long) (by decide) (by decide))))
  have fc37 := (P5_30.other W32 (Or.inr (slot_ne (Or.inl (ww hw 40 rfl)) (Or.inl (ww hw 74 rfl)) (by decide) (t := .int) (t' := .long) (by decide) (by decide))))
  have fc38 := (P6_30.other W32 (Ne.symm ne_o0_o1))
  have fc39 := (P7_30.other W32 (Ne.symm ne_o0_o2))
  refine ⟨_, _, ?_, hrun, hended, _, _, rfl, ?_, ⟨_, rfl⟩, hW, hsame.mono (by decide) (by decide)⟩
  · show Steps p.tables e below (s₁.setTop (mkF m 0 #[va o0, vl q5, ss, vl 9223372036854775806, ss, uu, uu, uu, uu, uu, uu, uu] [])) _
    refine XS.lloadN X0.here hx rfl (hb hby d17_0) rfl ?_
    refine XS.lloadN X0.here hx rfl (hb hby d17_1) rfl ?_
    refine st1 _ ?_
    refine XS.aloadN X1.here hx rfl (hb hby d17_5) rfl rfl ?_
    refine XS.lloadN X1.here hx rfl (hb hby d17_6) rfl ?_
    refine st2.trans ?_
    refine XS.istore X2.here hx rfl (hb hby d17_10) rfl (l' := #[va o0, vl q5, ss, vl 9223372036854775806, ss, vi 0, uu, uu, uu, uu, uu, uu]) rfl ?_
    refine XS.iload X2.here hx rfl (hb hby d17_12) rfl ?_
    show Steps p.tables e below (T2.setTop (mkF m 14 #[va o0, vl q5, ss, vl 9223372036854775806, ss, vi 0, uu, uu, uu, uu, uu, uu] [(.int 0)])) _
    refine XS.aloadN X2.here hx rfl (hb hby d17_14) rfl rfl ?_
    refine st3 _ ?_
    refine XS.icmpNo X3.here hx rfl (hb hby d17_18) rfl (feq (by decide : ¬ ((0 : Int32) = (2 : Int32)))).1 ?_
    refine XS.aloadN X3.here hx rfl (hb hby d17_21) rfl rfl ?_
    refine st4 _ ?_
    refine XS.iload X4.here hx rfl (hb hby d17_25) rfl ?_
    refine X4.laload hx (j := (0 : Int32)) (v := (.long q1)) (by rw [e4]; exact Ar5.1) (State.isArrayOf_alike hZ.alike Ar5.2.1) Ar5.2.2 hin5_0 (Has.at Hh5 hin5_0 rfl) (g := (mkF m 27 #[va o0, vl q5, ss, vl 9223372036854775806, ss, vi 0, uu, uu, uu, uu, uu, uu] [(.int 0), (.ref o1)])) rfl rfl (hb hby d17_27) _ ?_
    refine XS.lloadN X4.here hx rfl (hb hby d17_28) rfl ?_
    show Steps p.tables e below (T4.setTop (mkF m 29 #[va o0, vl q5, ss, vl 9223372036854775806, ss, vi 0, uu, uu, uu, uu, uu, uu] [(.long 9223372036854775806), (.long q1)])) _
    refine XS.lcmp X4.here hx rfl (hb hby d17_29) rfl ?_
    refine XS.ifYes X4.here hx rfl (pc0 := 30) (pc' := 34) rfl (hb hby d17_30) rfl (own_lc_gtF hc4).2 (by decide) (by decide) ?_
    refine XS.aloadN X4.here hx rfl (hb hby d17_34) rfl rfl ?_
    refine st6 _ ?_
    refine XS.iload X6.here hx rfl (hb hby d17_38) rfl ?_
    refine X6.laload hx (j := (0 : Int32)) (v := (.long q1)) (by rw [e6]; exact Ar5.1) (State.isArrayOf_alike hZ.alike Ar5.2.1) Ar5.2.2 hin5_0 (Has.at Hh5 hin5_0 rfl) (g := (mkF m 40 #[va o0, vl q5, ss, vl 9223372036854775806, ss, vi 0, uu, uu, uu, uu, uu, uu] [(.int 0), (.ref o1)])) rfl rfl (hb hby d17_40) _ ?_
    refine XS.lloadN X6.here hx rfl (hb hby d17_41) rfl ?_
    refine XS.lcmp X6.here hx rfl (hb hby d17_42) rfl ?_
    show Steps p.tables e below (T6.setTop (mkF m 43 #[va o0, vl q5, ss, vl 9223372036854775806, ss, vi 0, uu, uu, uu, uu, uu, uu] [(.int (lcmpW q1 q5))])) _
    refine XS.ifNo X6.here hx rfl (hb hby d17_43) rfl (own_lc_ltT hc5).2 ?_
    refine XS.aloadN X6.here hx rfl (hb hby d17_46) rfl rfl ?_
    refine st7 _ ?_
    refine XS.iload X7.here hx rfl (hb hby d17_50) rfl ?_
    refine X7.laload hx (j := (0 : Int32)) (v := (.long q3)) (by rw [e7]; exact Ar8.1) (State.isArrayOf_alike hZ.alike Ar8.2.1) Ar8.2.2 hin8_0 (Has.at Hh8 hin8_0 rfl) (g := (mkF m 52 #[va o0, vl q5, ss, vl 9223372036854775806, ss, vi 0, uu, uu, uu, uu, uu, uu] [(.int 0), (.ref o2)])) rfl rfl (hb hby d17_52) _ ?_
    refine XS.lloadN X7.here hx rfl (hb hby d17_53) rfl ?_
    refine XS.lcmp X7.here hx rfl (hb hby d17_54) rfl ?_
    refine XS.ifYes X7.here hx rfl (pc0 := 55) (pc' := 118) rfl (hb hby d17_55) rfl (own_lc_gtF hc6).2 (by decide) (by decide) ?_
    show Steps p.tables e below (T7.setTop (mkF m 118 #[va o0, vl q5, ss, vl 9223372036854775806, ss, vi 0, uu, uu, uu, uu, uu, uu] [])) _
    refine XS.iload X7.here hx rfl (hb hby d17_118) rfl ?_
    refine XS.istore X7.here hx rfl (hb hby d17_120) rfl (l' := #[va o0, vl q5, ss, vl 9223372036854775806, ss, vi 0, vi 0, uu, uu, uu, uu, uu]) rfl ?_
    refine XS.iload X7.here hx rfl (hb hby d17_122) rfl ?_
    refine XS.aloadN X7.here hx rfl (hb hby d17_124) rfl rfl ?_
    refine st9 _ ?_
    refine XS.icmpNo X9.here hx rfl (hb hby d17_128) rfl (tlt (by decide : (0 : Int32) < (2 : Int32))).2.1 ?_
    refine XS.aloadN X9.here hx rfl (hb hby d17_131) rfl rfl ?_
    refine st10 _ ?_
    show Steps p.tables e below (T10.setTop (mkF m 135 #[va o0, vl q5, ss, vl 9223372036854775806, ss, vi 0, vi 0, uu, uu, uu, uu, uu] [(.ref o1)])) _
    refine XS.iload X10.here hx rfl (hb hby d17_135) rfl ?_
    refine X10.laload hx (j := (0 : Int32)) (v := (.long q1)) (by rw [e10]; exact Ar5.1) (State.isArrayOf_alike hZ.alike Ar5.2.1) Ar5.2.2 hin5_0 (Has.at Hh5 hin5_0 rfl) (g := (mkF m 137 #[va o0, vl q5, ss, vl 9223372036854775806, ss, vi 0, vi 0, uu, uu, uu, uu, uu] [(.int 0), (.ref o1)])) rfl rfl (hb hby d17_137) _ ?_
    refine XS.lloadN X10.here hx rfl (hb hby d17_138) rfl ?_
    refine XS.lcmp X10.here hx rfl (hb hby d17_139) rfl ?_
    refine XS.ifNo X10.here hx rfl (hb hby d17_140) rfl (own_lc_gtF hc4).1 ?_
    refine XS.iinc X10.here hx rfl (hb hby d17_143) rfl (l' := #[va o0, vl q5, ss, vl 9223372036854775806, ss, vi 0, vi ((0 : Int32) + (1 : Int32)), uu, uu, uu, uu, uu]) rfl ?_
    show Steps p.tables e below (T10.setTop (mkF m 146 #[va o0, vl q5, ss, vl 9223372036854775806, ss, vi 0, vi ((0 : Int32) + (1 : Int32)), uu, uu, uu, uu, uu] [])) _
    rw [show (((0 : Int32) + (1 : Int32)) : Int32) = (1 : Int32) from by decide]
    refine XS.goto X10.here hx rfl (pc0 := 146) (pc' := 122) rfl (hb hby d17_146) (by decide) (by decide) ?_
    refine XS.iload X10.here hx rfl (hb hby d17_122) rfl ?_
    refine XS.aloadN X10.here hx rfl (hb hby d17_124) rfl rfl ?_
    refine st11 _ ?_
    refine XS.icmpNo X11.here hx rfl (hb hby d17_128) rfl (tlt (by decide : (1 : Int32) < (2 : Int32))).2.1 ?_
    refine XS.aloadN X11.here hx rfl (hb hby d17_131) rfl rfl ?_
    refine st12 _ ?_
    show Steps p.tables e below (T12.setTop (mkF m 135 #[va o0, vl q5, ss, vl 9223372036854775806, ss, vi 0, vi 1, uu, uu, uu, uu, uu] [(.ref o1)])) _
    refine XS.iload X12.here hx rfl (hb hby d17_135) rfl ?_
    refine X12.laload hx (j := (1 : Int32)) (v := (.long q2)) (by rw [e12]; exact Ar5.1) (State.isArrayOf_alike hZ.alike Ar5.2.1) Ar5.2.2 hin5_1 (Has.at Hh5 hin5_1 rfl) (g := (mkF m 137 #[va o0, vl q5, ss, vl 9223372036854775806, ss, vi 0, vi 1, uu, uu, uu, uu, uu] [(.int 1), (.ref o1)])) rfl rfl (hb hby d17_137) _ ?_
    refine XS.lloadN X12.here hx rfl (hb hby d17_138) rfl ?_
    refine XS.lcmp X12.here hx rfl (hb hby d17_139) rfl ?_
    refine XS.ifNo X12.here hx rfl (hb hby d17_140) rfl (own_lc_gtF hc7).1 ?_
    refine XS.iinc X12.here hx rfl (hb hby d17_143) rfl (l' := #[va o0, vl q5, ss, vl 9223372036854775806, ss, vi 0, vi ((1 : Int32) + (1 : Int32)), uu, uu, uu, uu, uu]) rfl ?_
    show Steps p.tables e below (T12.setTop (mkF m 146 #[va o0, vl q5, ss, vl 9223372036854775806, ss, vi 0, vi ((1 : Int32) + (1 : Int32)), uu, uu, uu, uu, uu] [])) _
    rw [show (((1 : Int32) + (1 : Int32)) : Int32) = (2 : Int32) from by decide]
    refine XS.goto X12.here hx rfl (pc0 := 146) (pc' := 122) rfl (hb hby d17_146) (by decide) (by decide) ?_
    refine XS.iload X12.here hx rfl (hb hby d17_122) rfl ?_
    refine XS.aloadN X12.here hx rfl (hb hby d17_124) rfl rfl ?_
    refine st13 _ ?_
    refine XS.icmpYes X13.here hx rfl (pc0 := 128) (pc' := 149) rfl (hb hby d17_128) rfl (flt (by decide : ¬ ((2 : Int32) < (2 : Int32)))).2.1 (by decide) (by decide) ?_
    refine XS.iload X13.here hx rfl (hb hby d17_149) rfl ?_
    refine XS.istore X13.here hx rfl (hb hby d17_151) rfl (l' := #[va o0, vl q5, ss, vl 9223372036854775806, ss, vi 0, vi 2, vi 0, uu, uu, uu, uu]) rfl ?_
    show Steps p.tables e below (T13.setTop (mkF m 153 #[va o0, vl q5, ss, vl 9223372036854775806, ss, vi 0, vi 2, vi 0, uu, uu, uu, uu] [])) _
    refine XS.iload X13.here hx rfl (hb hby d17_153) rfl ?_
    refine XS.istore X13.here hx rfl (hb hby d17_155) rfl (l' := #[va o0, vl q5, ss, vl 9223372036854775806, ss, vi 0, vi 2, vi 0, vi 2, uu, uu, uu]) rfl ?_
    refine XS.lconst X13.here hx rfl (hb hby d17_157) ?_
    refine XS.lstore X13.here hx rfl (hb hby d17_158) rfl (l' := #[va o0, vl q5, ss, vl 9223372036854775806, ss, vi 0, vi 2, vi 0, vi 2, vl 0, ss, uu]) rfl ?_
    refine XS.aloadN X13.here hx rfl (hb hby d17_160) rfl rfl ?_
    refine st14 _ ?_
    refine XS.iload X14.here hx rfl (hb hby d17_164) rfl ?_
    refine X14.laload hx (j := (0 : Int32)) (v := (.long q1)) (by rw [e14]; exact Ar5.1) (State.isArrayOf_alike hZ.alike Ar5.2.1) Ar5.2.2 hin5_0 (Has.at Hh5 hin5_0 rfl) (g := (mkF m 166 #[va o0, vl q5, ss, vl 9223372036854775806, ss, vi 0, vi 2, vi 0, vi 2, vl 0, ss, uu] [(.int 0), (.ref o1)])) rfl rfl (hb hby d17_166) _ ?_
    show Steps p.tables e below (T14.setTop (mkF m 167 #[va o0, vl q5, ss, vl 9223372036854775806, ss, vi 0, vi 2, vi 0, vi 2, vl 0, ss, uu] [(.long q1)])) _
    refine XS.lloadN X14.here hx rfl (hb hby d17_167) rfl ?_
    refine XS.lcmp X14.here hx rfl (hb hby d17_168) rfl ?_
    refine XS.ifNo X14.here hx rfl (hb hby d17_169) rfl (own_lc_ltT hc5).2 ?_
    refine XS.lload X14.here hx rfl (hb hby d17_172) rfl ?_
    refine XS.aloadN X14.here hx rfl (hb hby d17_174) rfl rfl ?_
    refine st15 _ ?_
    refine XS.iload X15.here hx rfl (hb hby d17_178) rfl ?_
    refine X15.laload hx (j := (0 : Int32)) (v := (.long q3)) (by rw [e15]; exact Ar8.1) (State.isArrayOf_alike hZ.alike Ar8.2.1) Ar8.2.2 hin8_0 (Has.at Hh8 hin8_0 rfl) (g := (mkF m 180 #[va o0, vl q5, ss, vl 9223372036854775806, ss, vi 0, vi 2, vi 0, vi 2, vl 0, ss, uu] [(.int 0), (.ref o2), (.long 0)])) rfl rfl (hb hby d17_180) _ ?_
    show Steps p.tables e below (T15.setTop (mkF m 181 #[va o0, vl q5, ss, vl 9223372036854775806, ss, vi 0, vi 2, vi 0, vi 2, vl 0, ss, uu] [(.long q3), (.long 0)])) _
    refine XS.lloadN X15.here hx rfl (hb hby d17_181) rfl ?_
    refine XS.lsub X15.here hx rfl (hb hby d17_182) rfl ?_
    refine XS.lconst X15.here hx rfl (hb hby d17_183) ?_
    refine XS.ladd X15.here hx rfl (hb hby d17_184) rfl ?_
    refine XS.ladd X15.here hx rfl (hb hby d17_185) rfl ?_
    refine XS.lstore X15.here hx rfl (hb hby d17_186) rfl (l' := #[va o0, vl q5, ss, vl 9223372036854775806, ss, vi 0, vi 2, vi 0, vi 2, vl ((0 : Int64) + ((q3 - q5) + (1 : Int64))), ss, uu]) rfl ?_
    refine XS.aloadN X15.here hx rfl (hb hby d17_188) rfl rfl ?_
    refine st16 _ ?_
    show Steps p.tables e below (T16.setTop (mkF m 192 #[va o0, vl q5, ss, vl 9223372036854775806, ss, vi 0, vi 2, vi 0, vi 2, vl ((0 : Int64) + ((q3 - q5) + (1 : Int64))), ss, uu] [(.ref o2)])) _
    refine XS.iload X16.here hx rfl (hb hby d17_192) rfl ?_
    refine XS.lloadN X16.here hx rfl (hb hby d17_194) rfl ?_
    refine XS.lconst X16.here hx rfl (hb hby d17_195) ?_
    refine XS.lsub X16.here hx rfl (hb hby d17_196) rfl ?_
    refine st17 _ ?_
    refine XS.iinc X17.here hx rfl (hb hby d17_198) rfl (l' := #[va o0, vl q5, ss, vl 9223372036854775806, ss, vi 0, vi 2, vi ((0 : Int32) + (1 : Int32)), vi 2, vl ((0 : Int64) + ((q3 - q5) + (1 : Int64))), ss, uu]) rfl ?_
    show Steps p.tables e below (T17.setTop (mkF m 201 #[va o0, vl q5, ss, vl 9223372036854775806, ss, vi 0, vi 2, vi ((0 : Int32) + (1 : Int32)), vi 2, vl ((0 : Int64) + ((q3 - q5) + (1 : Int64))), ss, uu] [])) _
    rw [show (((0 : Int32) + (1 : Int32)) : Int32) = (1 : Int32) from by decide]
    refine XS.iload X17.here hx rfl (hb hby d17_201) rfl ?_
    refine XS.iload X17.here hx rfl (hb hby d17_203) rfl ?_
    refine XS.icmpNo X17.here hx rfl (hb hby d17_205) rfl (tlt (by decide : (1 : Int32) < (2 : Int32))).2.1 ?_
    refine XS.aloadN X17.here hx rfl (hb hby d17_208) rfl rfl ?_
    refine st19 _ ?_
    refine XS.iload X19.here hx rfl (hb hby d17_212) rfl ?_
    refine XS.iconst X19.here hx rfl (hb hby d17_214) ?_
    show Steps p.tables e below (T19.setTop (mkF m 215 #[va o0, vl q5, ss, vl 9223372036854775806, ss, vi 0, vi 2, vi 1, vi 2, vl ((0 : Int64) + ((q3 - q5) + (1 : Int64))), ss, uu] [(.int 1), (.int 2), (.ref o2)])) _
    refine XS.isub X19.here hx rfl (hb hby d17_215) rfl ?_
    show Steps p.tables e below (T19.setTop (mkF m 216 #[va o0, vl q5, ss, vl 9223372036854775806, ss, vi 0, vi 2, vi 1, vi 2, vl ((0 : Int64) + ((q3 - q5) + (1 : Int64))), ss, uu] [(.int ((2 : Int32) - (1 : Int32))), (.ref o2)])) _
    rw [show (((2 : Int32) - (1 : Int32)) : Int32) = (1 : Int32) from by decide]
    refine X19.laload hx (j := (1 : Int32)) (v := (.long q4)) (by rw [e19]; exact Ar20.1) (State.isArrayOf_alike hZ.alike Ar20.2.1) Ar20.2.2 hin20_1 (Has.at Hh20 hin20_1 rfl) (g := (mkF m 216 #[va o0, vl q5, ss, vl 9223372036854775806, ss, vi 0, vi 2, vi 1, vi 2, vl ((0 : Int64) + ((q3 - q5) + (1 : Int64))), ss, uu] [(.int 1), (.ref o2)])) rfl rfl (hb hby d17_216) _ ?_
    refine XS.lloadN X19.here hx rfl (hb hby d17_217) rfl ?_
    refine XS.lcmp X19.here hx rfl (hb hby d17_218) rfl ?_
    refine XS.ifYes X19.here hx rfl (pc0 := 219) (pc' := 255) rfl (hb hby d17_219) rfl (own_lc_gtF hc8).2 (by decide) (by decide) ?_
    refine XS.iload X19.here hx rfl (hb hby d17_255) rfl ?_
    refine XS.istore X19.here hx rfl (hb hby d17_257) rfl (l' := #[va o0, vl q5, ss, vl 9223372036854775806, ss, vi 0, vi 2, vi 1, vi 2, vl ((0 : Int64) + ((q3 - q5) + (1 : Int64))), ss, vi 1]) rfl ?_
    refine XS.iload X19.here hx rfl (hb hby d17_259) rfl ?_
    show Steps p.tables e below (T19.setTop (mkF m 261 #[va o0, vl q5, ss, vl 9223372036854775806, ss, vi 0, vi 2, vi 1, vi 2, vl ((0 : Int64) + ((q3 - q5) + (1 : Int64))), ss, vi 1] [(.int 1)])) _
    refine XS.iload X19.here hx rfl (hb hby d17_261) rfl ?_
    refine XS.icmpNo X19.here hx rfl (hb hby d17_263) rfl (tlt (by decide : (1 : Int32) < (2 : Int32))).2.1 ?_
    refine XS.lload X19.here hx rfl (hb hby d17_266) rfl ?_
    refine XS.aloadN X19.here hx rfl (hb hby d17_268) rfl rfl ?_
    refine st21 _ ?_
    refine XS.iload X21.here hx rfl (hb hby d17_272) rfl ?_
    refine X21.laload hx (j := (1 : Int32)) (v := (.long q4)) (by rw [e21]; exact Ar20.1) (State.isArrayOf_alike hZ.alike Ar20.2.1) Ar20.2.2 hin20_1 (Has.at Hh20 hin20_1 rfl) (g := (mkF m 274 #[va o0, vl q5, ss, vl 9223372036854775806, ss, vi 0, vi 2, vi 1, vi 2, vl ((0 : Int64) + ((q3 - q5) + (1 : Int64))), ss, vi 1] [(.int 1), (.ref o2), (.long ((0 : Int64) + ((q3 - q5) + (1 : Int64))))])) rfl rfl (hb hby d17_274) _ ?_
    refine XS.aloadN X21.here hx rfl (hb hby d17_275) rfl rfl ?_
    show Steps p.tables e below (T21.setTop (mkF m 276 #[va o0, vl q5, ss, vl 9223372036854775806, ss, vi 0, vi 2, vi 1, vi 2, vl ((0 : Int64) + ((q3 - q5) + (1 : Int64))), ss, vi 1] [(.ref o0), (.long q4), (.long ((0 : Int64) + ((q3 - q5) + (1 : Int64))))])) _
    refine st23 _ ?_
    refine XS.iload X23.here hx rfl (hb hby d17_279) rfl ?_
    refine X23.laload hx (j := (1 : Int32)) (v := (.long q2)) (by rw [e23]; exact Ar25.1) (State.isArrayOf_alike hZ.alike Ar25.2.1) Ar25.2.2 hin25_1 (Has.at Hh25 hin25_1 rfl) (g := (mkF m 281 #[va o0, vl q5, ss, vl 9223372036854775806, ss, vi 0, vi 2, vi 1, vi 2, vl ((0 : Int64) + ((q3 - q5) + (1 : Int64))), ss, vi 1] [(.int 1), (.ref o1), (.long q4), (.long ((0 : Int64) + ((q3 - q5) + (1 : Int64))))])) rfl rfl (hb hby d17_281) _ ?_
    refine XS.lsub X23.here hx rfl (hb hby d17_282) rfl ?_
    refine XS.lconst X23.here hx rfl (hb hby d17_283) ?_
    refine XS.ladd X23.here hx rfl (hb hby d17_284) rfl ?_
    refine XS.ladd X23.here hx rfl (hb hby d17_285) rfl ?_
    refine XS.lstore X23.here hx rfl (hb hby d17_286) rfl (l' := #[va o0, vl q5, ss, vl 9223372036854775806, ss, vi 0, vi 2, vi 1, vi 2, vl (((0 : Int64) + ((q3 - q5) + (1 : Int64))) + ((q4 - q2) + (1 : Int64))), ss, vi 1]) rfl ?_
    show Steps p.tables e below (T23.setTop (mkF m 288 #[va o0, vl q5, ss, vl 9223372036854775806, ss, vi 0, vi 2, vi 1, vi 2, vl (((0 : Int64) + ((q3 - q5) + (1 : Int64))) + ((q4 - q2) + (1 : Int64))), ss, vi 1] [])) _
    refine XS.iinc X23.here hx rfl (hb hby d17_288) rfl (l' := #[va o0, vl q5, ss, vl 9223372036854775806, ss, vi 0, vi 2, vi 1, vi 2, vl (((0 : Int64) + ((q3 - q5) + (1 : Int64))) + ((q4 - q2) + (1 : Int64))), ss, vi ((1 : Int32) + (1 : Int32))]) rfl ?_
    show Steps p.tables e below (T23.setTop (mkF m 291 #[va o0, vl q5, ss, vl 9223372036854775806, ss, vi 0, vi 2, vi 1, vi 2, vl (((0 : Int64) + ((q3 - q5) + (1 : Int64))) + ((q4 - q2) + (1 : Int64))), ss, vi ((1 : Int32) + (1 : Int32))] [])) _
    rw [show (((1 : Int32) + (1 : Int32)) : Int32) = (2 : Int32) from by decide]
    refine XS.goto X23.here hx rfl (pc0 := 291) (pc' := 259) rfl (hb hby d17_291) (by decide) (by decide) ?_
    refine XS.iload X23.here hx rfl (hb hby d17_259) rfl ?_
    refine XS.iload X23.here hx rfl (hb hby d17_261) rfl ?_
    refine XS.icmpYes X23.here hx rfl (pc0 := 263) (pc' := 294) rfl (hb hby d17_263) rfl (flt (by decide : ¬ ((2 : Int32) < (2 : Int32)))).2.1 (by decide) (by decide) ?_
    refine XS.aloadN X23.here hx rfl (hb hby d17_294) rfl rfl ?_
    refine XS.iload X23.here hx rfl (hb hby d17_295) rfl ?_
    refine XS.iload X23.here hx rfl (hb hby d17_297) rfl ?_
    show Steps p.tables e below (T23.setTop (mkF m 299 #[va o0, vl q5, ss, vl 9223372036854775806, ss, vi 0, vi 2, vi 1, vi 2, vl (((0 : Int64) + ((q3 - q5) + (1 : Int64))) + ((q4 - q2) + (1 : Int64))), ss, vi 2] [(.int 2), (.int 1), (.ref o0)])) _
    refine XS.iload X23.here hx rfl (hb hby d17_299) rfl ?_
    refine XS.isub X23.here hx rfl (hb hby d17_301) rfl ?_
    show Steps p.tables e below (T23.setTop (mkF m 302 #[va o0, vl q5, ss, vl 9223372036854775806, ss, vi 0, vi 2, vi 1, vi 2, vl (((0 : Int64) + ((q3 - q5) + (1 : Int64))) + ((q4 - q2) + (1 : Int64))), ss, vi 2] [(.int ((2 : Int32) - (1 : Int32))), (.int 1), (.ref o0)])) _
    rw [show (((2 : Int32) - (1 : Int32)) : Int32) = (1 : Int32) from by decide]
    refine st30.trans ?_
    refine XS.aloadN X30.here hx rfl (hb hby d17_305) rfl rfl ?_
    refine XS.dup X30.here hx rfl (hb hby d17_306) rfl rfl ?_
    refine st31 _ ?_
    refine XS.lload X31.here hx rfl (hb hby d17_310) rfl ?_
    refine XS.lsub X31.here hx rfl (hb hby d17_312) rfl ?_
    refine st32 _ ?_
    show Steps p.tables e below (T32.setTop (mkF m 316 #[va o0, vl q5, ss, vl 9223372036854775806, ss, vi 0, vi 2, vi 1, vi 2, vl (((0 : Int64) + ((q3 - q5) + (1 : Int64))) + ((q4 - q2) + (1 : Int64))), ss, vi 2] [])) _
    exact X32.returnOut hx hrt (hb hby d17_316) hr
  · show Q17_4 Z w_NONE o0 o1 o2 kk_o1 kk_o2 q5 q0 q1 q2 q3 q4 h0 n0 none T32.heap _
    rw [e32]; exact ⟨rfl, N32, K32, fc33, Fw32, fc34, fc35, fc36, fc37, fc38, fc39⟩
theorem d7_7 : decode prog_55_method_17_code 7 = .ok (.lconst 0, 1) := by decide +kernel
theorem d7_8 : decode prog_55_method_17_code 8 = .ok (.goto 16, 3) := by decide +kernel
def Q7_3 (Z : State) (w_NONE : Addr) (o0 : Addr) (o1 : Addr) (o2 : Addr) (kk_o1 : ClassId) (kk_o2 : ClassId) (q0 : Int64) (q1 : Int64) (q2 : Int64) (q3 : Int64) (q4 : Int64) (h0 : Heap) (n0 : Nat) (v : Option Value) (h : Heap) (L : List Loc) : Prop := v = (some (.long 0)) ∧ Fr n0 L ∧ h = h0
theorem rm7_3 (l : Launch) (Z : State) (a0 : Array Value) (hw : HW Z a0) (ws : List Jvm.Cond) (w_NONE : Addr) (o0 : Addr) (o1 : Addr) (o2 : Addr) (kk_o1 : ClassId) (kk_o2 : ClassId) (q0 : Int64) (q1 : Int64) (q2 : Int64) (q3 : Int64) (q4 : Int64) (h0 : Heap) (n0 : Nat) (O0 : Old Z n0 h0) (S : SF Z w_NONE) (F_ranges_o0 : Fld Z h0 o0 sC0 "ranges" "I" (.int 0)) :
    Pay l Z My7 ws prog_55_method_17_code 1 (some .long) #[(.ref o0)] h0 ({ frames := 0, cells := 0, slots := 0, locals := 0 } : Room) (Q7_3 Z w_NONE o0 o1 o2 kk_o1 kk_o2 q0 q1 q2 q3 q4 h0 n0) := by
  refine own_body (plainFor_of_name pn_1) (L0 := #[va o0]) (fun _ => by first | rfl | (simp [entryFrame, mkF, argsToLocals, Value.category]; done)) ?_
  intro p e s m below meth c s₁ hrt hlk hx hby hml hZ hown0 hnm X0 e0
  have hown : s.vm.findClass sC0 = some m.cls := hown0
  have N0 := Fr.nil n0
  have K0 : Keep h0 h0 [] := Keep.refl _ _
  obtain ⟨T1, X1, e1, st1⟩ := getF X0 hx hZ hown (host := "") (Or.inl (ww hw 39 rfl)) Via.refl e0 F_ranges_o0 (g := (mkF m 1 #[va o0] [(.ref o0)])) rfl rfl (hb hby d7_1)
  obtain ⟨fs, hr, hrun, hended, hW, hsame⟩ := X1.leave (v := (some (.long 0))) (fun h => by rw [hrt] at h; cases h)
  refine ⟨_, _, ?_, hrun, hended, _, _, rfl, ?_, ⟨_, rfl⟩, hW, hsame.mono (by decide) (by decide)⟩
  · show Steps p.tables e below (s₁.setTop (mkF m 0 #[va o0] [])) _
    refine XS.aloadN X0.here hx rfl (hb hby d7_0) rfl rfl ?_
    refine st1 _ ?_
    refine XS.ifNo X1.here hx rfl (hb hby d7_4) rfl ((if0 _ _).trans (teq (by decide : (0 : Int32) = (0 : Int32))).2) ?_
    refine XS.lconst X1.here hx rfl (hb hby d7_7) ?_
    refine XS.goto X1.here hx rfl (pc0 := 8) (pc' := 24) rfl (hb hby d7_8) (by decide) (by decide) ?_
    exact retOut X1 hx (t := .long) (i := .lreturn) hrt rfl (Or.inr (Or.inl ⟨rfl, rfl, _, rfl⟩)) (hb hby d7_24) hr
  · show Q7_3 Z w_NONE o0 o1 o2 kk_o1 kk_o2 q0 q1 q2 q3 q4 h0 n0 (some (.long 0)) T1.heap _
    exact (⟨rfl, N0, e1⟩)
theorem ow14 (m167_4 : Int64) (nf2 : 0 ≤ m167_4.toInt ∧ m167_4.toInt ≤ 9223372036854775806) : ¬ (m167_4 < (0 : Int64)) := by
  rw [Int64.lt_iff_toInt_lt]
  have t2 : ((0 : Int64) : Int64).toInt = 0 := by decide
  omega
theorem ow15 (m167_4 : Int64) (nf2 : 0 ≤ m167_4.toInt ∧ m167_4.toInt ≤ 9223372036854775806) (hc1 : ¬ (m167_4 < (0 : Int64))) : ¬ ((9223372036854775806 : Int64) < m167_4) := by
  rw [Int64.lt_iff_toInt_lt] at hc1
  rw [Int64.lt_iff_toInt_lt]
  have t2 : ((0 : Int64) : Int64).toInt = 0 := by decide
  have t3 : ((9223372036854775806 : Int64) : Int64).toInt = 9223372036854775806 := by decide
  omega
theorem ow16 (m167_0 : Int64) (m167_1 : Int64) (m167_2 : Int64) (m167_3 : Int64) (m167_4 : Int64) (nf0 : 0 ≤ m167_0.toInt ∧ m167_0.toInt ≤ m167_1.toInt ∧ m167_1.toInt ≤ 9223372036854775806) (nf1 : 0 ≤ m167_2.toInt ∧ m167_2.toInt ≤ m167_3.toInt ∧ m167_3.toInt ≤ 9223372036854775806) (nf2 : 0 ≤ m167_4.toInt ∧ m167_4.toInt ≤ 9223372036854775806) (hj0 : m167_3 < m167_0) (hc1 : ¬ (m167_4 < (0 : Int64))) (hc2 : ¬ ((9223372036854775806 : Int64) < m167_4)) (hc3 : m167_1 < m167_4) : (m167_1 + (1 : Int64)) = (own_maxL (own_part1 m167_0 m167_1 m167_4) (own_part1 m167_2 m167_3 m167_4)) := by
  rw [Int64.lt_iff_toInt_lt] at hj0 hc1 hc2 hc3
  rw [← Int64.toInt_inj]
  have t4 : ((0 : Int64) : Int64).toInt = 0 := by decide
  have t5 : ((9223372036854775806 : Int64) : Int64).toInt = 9223372036854775806 := by decide
  have t7 : ((1 : Int64) : Int64).toInt = 1 := by decide
  have t8 := Jvm.Kit.i64_add (x := m167_1) (y := (1 : Int64)) (by omega) (by omega)
  have t9 := own_part1_toInt m167_0 m167_1 m167_4
  have t11 := own_part1_toInt m167_2 m167_3 m167_4
  have t12 := own_maxL_toInt (own_part1 m167_0 m167_1 m167_4) (own_part1 m167_2 m167_3 m167_4)
  omega
theorem ow17 (m167_0 : Int64) (m167_1 : Int64) (m167_2 : Int64) (m167_3 : Int64) (m167_4 : Int64) (nf0 : 0 ≤ m167_0.toInt ∧ m167_0.toInt ≤ m167_1.toInt ∧ m167_1.toInt ≤ 9223372036854775806) (nf1 : 0 ≤ m167_2.toInt ∧ m167_2.toInt ≤ m167_3.toInt ∧ m167_3.toInt ≤ 9223372036854775806) (nf2 : 0 ≤ m167_4.toInt ∧ m167_4.toInt ≤ 9223372036854775806) (hj0 : m167_3 < m167_0) (hc1 : ¬ (m167_4 < (0 : Int64))) (hc2 : ¬ ((9223372036854775806 : Int64) < m167_4)) (hc3 : ¬ (m167_1 < m167_4)) (hc5 : m167_3 < m167_4) : ¬ ((9223372036854775806 : Int64) < m167_0) := by
  rw [Int64.lt_iff_toInt_lt] at hj0 hc1 hc2 hc3 hc5
  rw [Int64.lt_iff_toInt_lt]
  have t4 : ((0 : Int64) : Int64).toInt = 0 := by decide
  have t5 : ((9223372036854775806 : Int64) : Int64).toInt = 9223372036854775806 := by decide
  omega
theorem ow18 (m167_0 : Int64) (m167_1 : Int64) (m167_2 : Int64) (m167_3 : Int64) (m167_4 : Int64) (nf0 : 0 ≤ m167_0.toInt ∧ m167_0.toInt ≤ m167_1.toInt ∧ m167_1.toInt ≤ 9223372036854775806) (nf1 : 0 ≤ m167_2.toInt ∧ m167_2.toInt ≤ m167_3.toInt ∧ m167_3.toInt ≤ 9223372036854775806) (nf2 : 0 ≤ m167_4.toInt ∧ m167_4.toInt ≤ 9223372036854775806) (hj0 : m167_3 < m167_0) (hc1 : ¬ (m167_4 < (0 : Int64))) (hc2 : ¬ ((9223372036854775806 : Int64) < m167_4)) (hc3 : ¬ (m167_1 < m167_4)) (hc5 : m167_3 < m167_4) (hc6 : ¬ ((9223372036854775806 : Int64) < m167_0)) (hc7 : m167_0 < m167_4) : ¬ ((9223372036854775806 : Int64) < m167_1) := by
  rw [Int64.lt_iff_toInt_lt] at hj0 hc1 hc2 hc3 hc5 hc6 hc7
  rw [Int64.lt_iff_toInt_lt]
  have t4 : ((0 : Int64) : Int64).toInt = 0 := by decide
  have t5 : ((9223372036854775806 : Int64) : Int64).toInt = 9223372036854775806 := by decide
  omega
theorem ow19 (m167_0 : Int64) (m167_1 : Int64) (m167_2 : Int64) (m167_3 : Int64) (m167_4 : Int64) (nf0 : 0 ≤ m167_0.toInt ∧ m167_0.toInt ≤ m167_1.toInt ∧ m167_1.toInt ≤ 9223372036854775806) (nf1 : 0 ≤ m167_2.toInt ∧ m167_2.toInt ≤ m167_3.toInt ∧ m167_3.toInt ≤ 9223372036854775806) (nf2 : 0 ≤ m167_4.toInt ∧ m167_4.toInt ≤ 9223372036854775806) (hj0 : m167_3 < m167_0) (hc1 : ¬ (m167_4 < (0 : Int64))) (hc2 : ¬ ((9223372036854775806 : Int64) < m167_4)) (hc3 : ¬ (m167_1 < m167_4)) (hc5 : m167_3 < m167_4) (hc6 : ¬ ((9223372036854775806 : Int64) < m167_0)) (hc7 : m167_0 < m167_4) (hc8 : ¬ ((9223372036854775806 : Int64) < m167_1)) : ((m167_4 - (1 : Int64)) + (1 : Int64)) = (own_maxL (own_part1 m167_0 m167_1 m167_4) (own_part1 m167_2 m167_3 m167_4)) := by
  rw [Int64.lt_iff_toInt_lt] at hj0 hc1 hc2 hc3 hc5 hc6 hc7 hc8
  rw [← Int64.toInt_inj]
  have t4 : ((0 : Int64) : Int64).toInt = 0 := by decide
  have t5 : ((9223372036854775806 : Int64) : Int64).toInt = 9223372036854775806 := by decide
  have t7 : ((1 : Int64) : Int64).toInt = 1 := by decide
  have t8 := Jvm.Kit.i64_sub (x := m167_4) (y := (1 : Int64)) (by omega) (by omega)
  have t9 := Jvm.Kit.i64_add (x := (m167_4 - (1 : Int64))) (y := (1 : Int64)) (by omega) (by omega)
  have t10 := own_part1_toInt m167_0 m167_1 m167_4
  have t12 := own_part1_toInt m167_2 m167_3 m167_4
  have t13 := own_maxL_toInt (own_part1 m167_0 m167_1 m167_4) (own_part1 m167_2 m167_3 m167_4)
  omega
theorem ow20 (m167_0 : Int64) (m167_1 : Int64) (m167_2 : Int64) (m167_3 : Int64) (m167_4 : Int64) (nf0 : 0 ≤ m167_0.toInt ∧ m167_0.toInt ≤ m167_1.toInt ∧ m167_1.toInt ≤ 9223372036854775806) (nf1 : 0 ≤ m167_2.toInt ∧ m167_2.toInt ≤ m167_3.toInt ∧ m167_3.toInt ≤ 9223372036854775806) (nf2 : 0 ≤ m167_4.toInt ∧ m167_4.toInt ≤ 9223372036854775806) (hj0 : m167_3 < m167_0) (hc1 : ¬ (m167_4 < (0 : Int64))) (hc2 : ¬ ((9223372036854775806 : Int64) < m167_4)) (hc3 : ¬ (m167_1 < m167_4)) (hc5 : m167_3 < m167_4) (hc6 : ¬ ((9223372036854775806 : Int64) < m167_0)) (hc7 : ¬ (m167_0 < m167_4)) : ¬ ((9223372036854775806 : Int64) < m167_1) := by
  rw [Int64.lt_iff_toInt_lt] at hj0 hc1 hc2 hc3 hc5 hc6 hc7
  rw [Int64.lt_iff_toInt_lt]
  have t4 : ((0 : Int64) : Int64).toInt = 0 := by decide
  have t5 : ((9223372036854775806 : Int64) : Int64).toInt = 9223372036854775806 := by decide
  omega
theorem ow21 (m167_0 : Int64) (m167_1 : Int64) (m167_2 : Int64) (m167_3 : Int64) (m167_4 : Int64) (nf0 : 0 ≤ m167_0.toInt ∧ m167_0.toInt ≤ m167_1.toInt ∧ m167_1.toInt ≤ 9223372036854775806) (nf1 : 0 ≤ m167_2.toInt ∧ m167_2.toInt ≤ m167_3.toInt ∧ m167_3.toInt ≤ 9223372036854775806) (nf2 : 0 ≤ m167_4.toInt ∧ m167_4.toInt ≤ 9223372036854775806) (hj0 : m167_3 < m167_0) (hc1 : ¬ (m167_4 < (0 : Int64))) (hc2 : ¬ ((9223372036854775806 : Int64) < m167_4)) (hc3 : ¬ (m167_1 < m167_4)) (hc5 : m167_3 < m167_4) (hc6 : ¬ ((9223372036854775806 : Int64) < m167_0)) (hc7 : ¬ (m167_0 < m167_4)) (hc8 : ¬ ((9223372036854775806 : Int64) < m167_1)) : (m167_3 + (1 : Int64)) = (own_maxL (own_part1 m167_0 m167_1 m167_4) (own_part1 m167_2 m167_3 m167_4)) := by
  rw [Int64.lt_iff_toInt_lt] at hj0 hc1 hc2 hc3 hc5 hc6 hc7 hc8
  rw [← Int64.toInt_inj]
  have t4 : ((0 : Int64) : Int64).toInt = 0 := by decide
  have t5 : ((9223372036854775806 : Int64) : Int64).toInt = 9223372036854775806 := by decide
  have t7 : ((1 : Int64) : Int64).toInt = 1 := by decide
  have t8 := Jvm.Kit.i64_add (x := m167_3) (y := (1 : Int64)) (by omega) (by omega)
  have t9 := own_part1_toInt m167_0 m167_1 m167_4
  have t11 := own_part1_toInt m167_2 m167_3 m167_4
  have t12 := own_maxL_toInt (own_part1 m167_0 m167_1 m167_4) (own_part1 m167_2 m167_3 m167_4)
  omega
theorem ow22 (m167_0 : Int64) (m167_1 : Int64) (m167_2 : Int64) (m167_3 : Int64) (m167_4 : Int64) (nf0 : 0 ≤ m167_0.toInt ∧ m167_0.toInt ≤ m167_1.toInt ∧ m167_1.toInt ≤ 9223372036854775806) (nf1 : 0 ≤ m167_2.toInt ∧ m167_2.toInt ≤ m167_3.toInt ∧ m167_3.toInt ≤ 9223372036854775806) (nf2 : 0 ≤ m167_4.toInt ∧ m167_4.toInt ≤ 9223372036854775806) (hj0 : m167_3 < m167_0) (hc1 : ¬ (m167_4 < (0 : Int64))) (hc2 : ¬ ((9223372036854775806 : Int64) < m167_4)) (hc3 : ¬ (m167_1 < m167_4)) (hc5 : ¬ (m167_3 < m167_4)) : ¬ ((9223372036854775806 : Int64) < m167_2) := by
  rw [Int64.lt_iff_toInt_lt] at hj0 hc1 hc2 hc3 hc5
  rw [Int64.lt_iff_toInt_lt]
  have t4 : ((0 : Int64) : Int64).toInt = 0 := by decide
  have t5 : ((9223372036854775806 : Int64) : Int64).toInt = 9223372036854775806 := by decide
  omega
theorem ow23 (m167_0 : Int64) (m167_1 : Int64) (m167_2 : Int64) (m167_3 : Int64) (m167_4 : Int64) (nf0 : 0 ≤ m167_0.toInt ∧ m167_0.toInt ≤ m167_1.toInt ∧ m167_1.toInt ≤ 9223372036854775806) (nf1 : 0 ≤ m167_2.toInt ∧ m167_2.toInt ≤ m167_3.toInt ∧ m167_3.toInt ≤ 9223372036854775806) (nf2 : 0 ≤ m167_4.toInt ∧ m167_4.toInt ≤ 9223372036854775806) (hj0 : m167_3 < m167_0) (hc1 : ¬ (m167_4 < (0 : Int64))) (hc2 : ¬ ((9223372036854775806 : Int64) < m167_4)) (hc3 : ¬ (m167_1 < m167_4)) (hc5 : ¬ (m167_3 < m167_4)) (hc6 : ¬ ((9223372036854775806 : Int64) < m167_2)) (hc7 : m167_2 < m167_4) : ¬ ((9223372036854775806 : Int64) < m167_3) := by
  rw [Int64.lt_iff_toInt_lt] at hj0 hc1 hc2 hc3 hc5 hc6 hc7
  rw [Int64.lt_iff_toInt_lt]
  have t4 : ((0 : Int64) : Int64).toInt = 0 := by decide
  have t5 : ((9223372036854775806 : Int64) : Int64).toInt = 9223372036854775806 := by decide
  omega
theorem ow24 (m167_0 : Int64) (m167_1 : Int64) (m167_2 : Int64) (m167_3 : Int64) (m167_4 : Int64) (nf0 : 0 ≤ m167_0.toInt ∧ m167_0.toInt ≤ m167_1.toInt ∧ m167_1.toInt ≤ 9223372036854775806) (nf1 : 0 ≤ m167_2.toInt ∧ m167_2.toInt ≤ m167_3.toInt ∧ m167_3.toInt ≤ 9223372036854775806) (nf2 : 0 ≤ m167_4.toInt ∧ m167_4.toInt ≤ 9223372036854775806) (hj0 : m167_3 < m167_0) (hc1 : ¬ (m167_4 < (0 : Int64))) (hc2 : ¬ ((9223372036854775806 : Int64) < m167_4)) (hc3 : ¬ (m167_1 < m167_4)) (hc5 : ¬ (m167_3 < m167_4)) (hc6 : ¬ ((9223372036854775806 : Int64) < m167_2)) (hc7 : m167_2 < m167_4) (hc8 : ¬ ((9223372036854775806 : Int64) < m167_3)) : ¬ ((9223372036854775806 : Int64) < m167_0) := by
  rw [Int64.lt_iff_toInt_lt] at hj0 hc1 hc2 hc3 hc5 hc6 hc7 hc8
  rw [Int64.lt_iff_toInt_lt]
  have t4 : ((0 : Int64) : Int64).toInt = 0 := by decide
  have t5 : ((9223372036854775806 : Int64) : Int64).toInt = 9223372036854775806 := by decide
  omega
theorem ow25 (m167_0 : Int64) (m167_1 : Int64) (m167_2 : Int64) (m167_3 : Int64) (m167_4 : Int64) (nf0 : 0 ≤ m167_0.toInt ∧ m167_0.toInt ≤ m167_1.toInt ∧ m167_1.toInt ≤ 9223372036854775806) (nf1 : 0 ≤ m167_2.toInt ∧ m167_2.toInt ≤ m167_3.toInt ∧ m167_3.toInt ≤ 9223372036854775806) (nf2 : 0 ≤ m167_4.toInt ∧ m167_4.toInt ≤ 9223372036854775806) (hj0 : m167_3 < m167_0) (hc1 : ¬ (m167_4 < (0 : Int64))) (hc2 : ¬ ((9223372036854775806 : Int64) < m167_4)) (hc3 : ¬ (m167_1 < m167_4)) (hc5 : ¬ (m167_3 < m167_4)) (hc6 : ¬ ((9223372036854775806 : Int64) < m167_2)) (hc7 : m167_2 < m167_4) (hc8 : ¬ ((9223372036854775806 : Int64) < m167_3)) (hc9 : ¬ ((9223372036854775806 : Int64) < m167_0)) : ¬ ((9223372036854775806 : Int64) < m167_1) := by
  rw [Int64.lt_iff_toInt_lt] at hj0 hc1 hc2 hc3 hc5 hc6 hc7 hc8 hc9
  rw [Int64.lt_iff_toInt_lt]
  have t4 : ((0 : Int64) : Int64).toInt = 0 := by decide
  have t5 : ((9223372036854775806 : Int64) : Int64).toInt = 9223372036854775806 := by decide
  omega
theorem ow26 (m167_0 : Int64) (m167_1 : Int64) (m167_2 : Int64) (m167_3 : Int64) (m167_4 : Int64) (nf0 : 0 ≤ m167_0.toInt ∧ m167_0.toInt ≤ m167_1.toInt ∧ m167_1.toInt ≤ 9223372036854775806) (nf1 : 0 ≤ m167_2.toInt ∧ m167_2.toInt ≤ m167_3.toInt ∧ m167_3.toInt ≤ 9223372036854775806) (nf2 : 0 ≤ m167_4.toInt ∧ m167_4.toInt ≤ 9223372036854775806) (hj0 : m167_3 < m167_0) (hc1 : ¬ (m167_4 < (0 : Int64))) (hc2 : ¬ ((9223372036854775806 : Int64) < m167_4)) (hc3 : ¬ (m167_1 < m167_4)) (hc5 : ¬ (m167_3 < m167_4)) (hc6 : ¬ ((9223372036854775806 : Int64) < m167_2)) (hc7 : m167_2 < m167_4) (hc8 : ¬ ((9223372036854775806 : Int64) < m167_3)) (hc9 : ¬ ((9223372036854775806 : Int64) < m167_0)) (hc10 : ¬ ((9223372036854775806 : Int64) < m167_1)) : ((m167_4 - (1 : Int64)) + (1 : Int64)) = (own_maxL (own_part1 m167_0 m167_1 m167_4) (own_part1 m167_2 m167_3 m167_4)) := by
  rw [Int64.lt_iff_toInt_lt] at hj0 hc1 hc2 hc3 hc5 hc6 hc7 hc8 hc9 hc10
  rw [← Int64.toInt_inj]
  have t4 : ((0 : Int64) : Int64).toInt = 0 := by decide
  have t5 : ((9223372036854775806 : Int64) : Int64).toInt = 9223372036854775806 := by decide
  have t8 : ((1 : Int64) : Int64).toInt = 1 := by decide
  have t9 := Jvm.Kit.i64_sub (x := m167_4) (y := (1 : Int64)) (by omega) (by omega)
  have t10 := Jvm.Kit.i64_add (x := (m167_4 - (1 : Int64))) (y := (1 : Int64)) (by omega) (by omega)
  have t11 := own_part1_toInt m167_0 m167_1 m167_4
  have t12 := own_part1_toInt m167_2 m167_3 m167_4
  have t13 := own_maxL_toInt (own_part1 m167_0 m167_1 m167_4) (own_part1 m167_2 m167_3 m167_4)
  omega
theorem ow27 (m167_0 : Int64) (m167_1 : Int64) (m167_2 : Int64) (m167_3 : Int64) (m167_4 : Int64) (nf0 : 0 ≤ m167_0.toInt ∧ m167_0.toInt ≤ m167_1.toInt ∧ m167_1.toInt ≤ 9223372036854775806) (nf1 : 0 ≤ m167_2.toInt ∧ m167_2.toInt ≤ m167_3.toInt ∧ m167_3.toInt ≤ 9223372036854775806) (nf2 : 0 ≤ m167_4.toInt ∧ m167_4.toInt ≤ 9223372036854775806) (hj0 : m167_3 < m167_0) (hc1 : ¬ (m167_4 < (0 : Int64))) (hc2 : ¬ ((9223372036854775806 : Int64) < m167_4)) (hc3 : ¬ (m167_1 < m167_4)) (hc5 : ¬ (m167_3 < m167_4)) (hc6 : ¬ ((9223372036854775806 : Int64) < m167_2)) (hc7 : ¬ (m167_2 < m167_4)) : ¬ ((9223372036854775806 : Int64) < m167_0) := by
  rw [Int64.lt_iff_toInt_lt] at hj0 hc1 hc2 hc3 hc5 hc6 hc7
  rw [Int64.lt_iff_toInt_lt]
  have t4 : ((0 : Int64) : Int64).toInt = 0 := by decide
  have t5 : ((9223372036854775806 : Int64) : Int64).toInt = 9223372036854775806 := by decide
  omega
theorem ow28 (m167_0 : Int64) (m167_1 : Int64) (m167_2 : Int64) (m167_3 : Int64) (m167_4 : Int64) (nf0 : 0 ≤ m167_0.toInt ∧ m167_0.toInt ≤ m167_1.toInt ∧ m167_1.toInt ≤ 9223372036854775806) (nf1 : 0 ≤ m167_2.toInt ∧ m167_2.toInt ≤ m167_3.toInt ∧ m167_3.toInt ≤ 9223372036854775806) (nf2 : 0 ≤ m167_4.toInt ∧ m167_4.toInt ≤ 9223372036854775806) (hj0 : m167_3 < m167_0) (hc1 : ¬ (m167_4 < (0 : Int64))) (hc2 : ¬ ((9223372036854775806 : Int64) < m167_4)) (hc3 : ¬ (m167_1 < m167_4)) (hc5 : ¬ (m167_3 < m167_4)) (hc6 : ¬ ((9223372036854775806 : Int64) < m167_2)) (hc7 : ¬ (m167_2 < m167_4)) (hc8 : ¬ ((9223372036854775806 : Int64) < m167_0)) : ¬ ((9223372036854775806 : Int64) < m167_1) := by
  rw [Int64.lt_iff_toInt_lt] at hj0 hc1 hc2 hc3 hc5 hc6 hc7 hc8
  rw [Int64.lt_iff_toInt_lt]
  have t4 : ((0 : Int64) : Int64).toInt = 0 := by decide
  have t5 : ((9223372036854775806 : Int64) : Int64).toInt = 9223372036854775806 := by decide
  omega
theorem ow29 (m167_0 : Int64) (m167_1 : Int64) (m167_2 : Int64) (m167_3 : Int64) (m167_4 : Int64) (nf0 : 0 ≤ m167_0.toInt ∧ m167_0.toInt ≤ m167_1.toInt ∧ m167_1.toInt ≤ 9223372036854775806) (nf1 : 0 ≤ m167_2.toInt ∧ m167_2.toInt ≤ m167_3.toInt ∧ m167_3.toInt ≤ 9223372036854775806) (nf2 : 0 ≤ m167_4.toInt ∧ m167_4.toInt ≤ 9223372036854775806) (hj0 : m167_3 < m167_0) (hc1 : ¬ (m167_4 < (0 : Int64))) (hc2 : ¬ ((9223372036854775806 : Int64) < m167_4)) (hc3 : ¬ (m167_1 < m167_4)) (hc5 : ¬ (m167_3 < m167_4)) (hc6 : ¬ ((9223372036854775806 : Int64) < m167_2)) (hc7 : ¬ (m167_2 < m167_4)) (hc8 : ¬ ((9223372036854775806 : Int64) < m167_0)) (hc9 : ¬ ((9223372036854775806 : Int64) < m167_1)) : (0 : Int64) = (own_maxL (own_part1 m167_0 m167_1 m167_4) (own_part1 m167_2 m167_3 m167_4)) := by
  rw [Int64.lt_iff_toInt_lt] at hj0 hc1 hc2 hc3 hc5 hc6 hc7 hc8 hc9
  rw [← Int64.toInt_inj]
  have t4 : ((0 : Int64) : Int64).toInt = 0 := by decide
  have t5 : ((9223372036854775806 : Int64) : Int64).toInt = 9223372036854775806 := by decide
  have t8 := own_part1_toInt m167_0 m167_1 m167_4
  have t9 := own_part1_toInt m167_2 m167_3 m167_4
  have t10 := own_maxL_toInt (own_part1 m167_0 m167_1 m167_4) (own_part1 m167_2 m167_3 m167_4)
  omega
theorem jn6 {p : Program} {l : Launch} {e : Env} {s : State} {m : MethodId} {below : List Frame} {meth : Method} {c : Code} {T0 : State} {locs : List Loc} {Z : State} {a0 : Array Value} {h0 : Heap} {n0 : Nat} (hx : p.tables.exec = Jvm.exec) (hZ : Z.Warmed39 s.vm) (hby : c.code = code) (hml : c.maxLocals = 26) (hown : s.vm.findClass sC1 = some m.cls) (hrt : meth.sig.returnType = ret) (hlk : meth.locks = false) (hw : HW Z a0) (w_NONE : Addr) (o0 : Addr) (o1 : Addr) (o2 : Addr) (kk_o1 : ClassId) (kk_o2 : ClassId) (p0 : Int32) (p1 : Int64) (p2 : Int64) (p3 : Int64) (p4 : Int64) (p5 : Int64) (m167_0 : Int64) (m167_1 : Int64) (m167_2 : Int64) (m167_3 : Int64) (m167_4 : Int64) (f0 : Int32) (f19 : Int32) (X0 : Stand p l e room_1 s m #[(.int p0), (.long p1), (.long p2), (.long p3), (.long p4), (.long p5)] below meth c T0 locs 10 60) (e0 : T0.heap = h0) (N0 : Fr n0 locs) (O0 : Old Z n0 h0) (S : SF Z w_NONE) (E_o0 : Exa Z h0 o0 sC0) (F_count_o0 : Fld Z h0 o0 sC0 "count" "J" (.long (((0 : Int64) + ((m167_1 - m167_0) + (1 : Int64))) + ((m167_3 - m167_2) + (1 : Int64))))) (F_firsts_o0 : Fld Z h0 o0 sC0 "firsts" "[J" (.ref o1)) (F_lasts_o0 : Fld Z h0 o0 sC0 "lasts" "[J" (.ref o2)) (F_maxRanges_o0 : Fld Z h0 o0 sC0 "maxRanges" "I" (.int 2147483647)) (F_ranges_o0 : Fld Z h0 o0 sC0 "ranges" "I" (.int 2)) (V_o1 : Arv Z h0 o1 kk_o1 .long (4 : Int32) [(.long m167_2), (.long m167_0), (.long 0), (.long 0)] (.long 0)) (V_o2 : Arv Z h0 o2 kk_o2 .long (4 : Int32) [(.long m167_3), (.long m167_1), (.long 0), (.long 0)] (.long 0)) (ne_o0_o1 : o0 ≠ o1) (ne_o0_o2 : o0 ≠ o2) (ne_o1_o2 : o1 ≠ o2) (g_o0 : n0 ≤ o0) (g_o1 : n0 ≤ o1) (g_o2 : n0 ≤ o2) (nf0 : 0 ≤ m167_0.toInt ∧ m167_0.toInt ≤ m167_1.toInt ∧ m167_1.toInt ≤ 9223372036854775806) (nf1 : 0 ≤ m167_2.toInt ∧ m167_2.toInt ≤ m167_3.toInt ∧ m167_3.toInt ≤ 9223372036854775806) (nf2 : 0 ≤ m167_4.toInt ∧ m167_4.toInt ≤ 9223372036854775806) (hj0 : m167_3 < m167_0) :
    ∃ s₂ o, Steps p.tables e below (T0.setTop (mkF m 167 #[vi f0, vl p1, ss, vl p2, ss, vl p3, ss, vl p4, ss, vl p5, ss, vl m167_0, ss, vl m167_1, ss, vl m167_2, ss, vl m167_3, ss, vi f19, vi 1, vl m167_4, ss, va o0, vl (own_maxL (own_part1 m167_0 m167_1 m167_4) (own_part1 m167_2 m167_3 m167_4)), ss] [])) s₂ ∧ s₂.status = .running ∧ Ended s₂ below o ∧ ∃ v L, o = .returned v ∧ Q0 n0 v s₂.heap L ∧ FrameEnd s o s₂ L room_1.cells room_1.slots := by
  have K0 : Keep h0 h0 [o1, o0, o2] := Keep.refl _ _
  have hc1 : ¬ (m167_4 < (0 : Int64)) := ow14 m167_4 nf2
  have hc2 : ¬ ((9223372036854775806 : Int64) < m167_4) := ow15 m167_4 nf2 hc1
  have pre_4 : ∀ t, Steps p.tables e below (T0.setTop (mkF m 179 #[vi f0, vl p1, ss, vl p2, ss, vl p3, ss, vl p4, ss, vl p5, ss, vl m167_0, ss, vl m167_1, ss, vl m167_2, ss, vl m167_3, ss, vi f19, vi 1, vl m167_4, ss, va o0, vl (own_maxL (own_part1 m167_0 m167_1 m167_4) (own_part1 m167_2 m167_3 m167_4)), ss] [(.long 9223372036854775806), (.long m167_4), (.ref o0)])) t → Steps p.tables e below (T0.setTop (mkF m 167 #[vi f0, vl p1, ss, vl p2, ss, vl p3, ss, vl p4, ss, vl p5, ss, vl m167_0, ss, vl m167_1, ss, vl m167_2, ss, vl m167_3, ss, vi f19, vi 1, vl m167_4, ss, va o0, vl (own_maxL (own_part1 m167_0 m167_1 m167_4) (own_part1 m167_2 m167_3 m167_4)), ss] [])) t := fun t k => (by
    show Steps p.tables e below (T0.setTop (mkF m 167 #[vi f0, vl p1, ss, vl p2, ss, vl p3, ss, vl p4, ss, vl p5, ss, vl m167_0, ss, vl m167_1, ss, vl m167_2, ss, vl m167_3, ss, vi f19, vi 1, vl m167_4, ss, va o0, vl (own_maxL (own_part1 m167_0 m167_1 m167_4) (own_part1 m167_2 m167_3 m167_4)), ss] [])) _
    refine XS.iload X0.here hx rfl (hb hby at_167) rfl ?_
    refine XS.ifNo X0.here hx rfl (hb hby at_169) rfl ((if0 _ _).trans (feq (by decide : ¬ ((1 : Int32) = (0 : Int32)))).1) ?_
    refine XS.aload X0.here hx rfl (hb hby at_172) rfl rfl ?_
    refine XS.lload X0.here hx rfl (hb hby at_174) rfl ?_
    refine X0.ldc2Long hx hown (mvT hZ (ww hw 5 rfl)) (g := (mkF m 176 #[vi f0, vl p1, ss, vl p2, ss, vl p3, ss, vl p4, ss, vl p5, ss, vl m167_0, ss, vl m167_1, ss, vl m167_2, ss, vl m167_3, ss, vi f19, vi 1, vl m167_4, ss, va o0, vl (own_maxL (own_part1 m167_0 m167_1 m167_4) (own_part1 m167_2 m167_3 m167_4)), ss] [(.long m167_4), (.ref o0)])) rfl (hb hby at_176) _ ?_
    exact k)
  by_cases hc3 : m167_1 < m167_4
  · obtain ⟨cq5, kq5, q5a, q5b, q5c⟩ := isOf hZ e0 E_o0
    obtain ⟨_, _, ⟨T5, L5, k5, n5⟩, -, X5, ⟨Lc5, hQ5, l5, y5, z5⟩, st5⟩ := X0.virtualBack hx (y := My17) (z := My17) hown (mvT hZ (ww hw 84 rfl)) (mvT hZ (ww hw 85 rfl)) (notFace_of_selects (args := #[]) (mvT hZ (ww hw 87 rfl))) (mvT hZ (ww hw 87 rfl)) (mvT hZ (ww hw 86 rfl)) (by decide) (backOf (W := 0) (rm17_0 l Z a0 hw [] w_NONE o0 o1 o2 kk_o1 kk_o2 m167_4 (((0 : Int64) + ((m167_1 - m167_0) + (1 : Int64))) + ((m167_3 - m167_2) + (1 : Int64))) m167_2 m167_0 m167_3 m167_1 h0 n0 O0 S E_o0 F_lasts_o0 F_ranges_o0 V_o2 hc1 hc2 hc3) hZ (ww hw 88 rfl) (ww hw 15 rfl) (by decide) (by decide)) q5a q5c (g := (mkF m 179 #[vi f0, vl p1, ss, vl p2, ss, vl p3, ss, vl p4, ss, vl p5, ss, vl m167_0, ss, vl m167_1, ss, vl m167_2, ss, vl m167_3, ss, vi f19, vi 1, vl m167_4, ss, va o0, vl (own_maxL (own_part1 m167_0 m167_1 m167_4) (own_part1 m167_2 m167_3 m167_4)), ss] [(.long 9223372036854775806), (.long m167_4), (.ref o0)])) rfl (by rw [hml]; rfl) (Steps.refl _) (argsL := [(.long m167_4), (.long 9223372036854775806)]) (rest := []) (lenOf pd_4 rfl) rfl (by show 2 * 0 + _ ≤ _; exact Nat.le_of_eq rfl) (hb hby at_179) (fun _ _ => ⟨rfl, e0, (by decide : 10 + 0 ≤ _), (by decide : 60 + 0 ≤ _)⟩)
    dsimp only [Pt.U, Pt.locs, Pt.cells, Pt.slots] at X5 l5 y5 z5 st5 hQ5
    subst l5 y5 z5
    obtain ⟨rfl, Nq5, e5⟩ := hQ5
    have N5 := Fr.app N0 Nq5
    obtain ⟨cq6, kq6, q6a, q6b, q6c⟩ := isOf hZ e5 E_o0
    obtain ⟨_, _, ⟨T6, L6, k6, n6⟩, -, X6, ⟨Lc6, hQ6, l6, y6, z6⟩, st6⟩ := X5.virtualBack hx (y := My7) (z := My7) hown (mvT hZ (ww hw 34 rfl)) (mvT hZ (ww hw 35 rfl)) (notFace_of_selects (args := #[]) (mvT hZ (ww hw 37 rfl))) (mvT hZ (ww hw 37 rfl)) (mvT hZ (ww hw 36 rfl)) (by decide) (backOf (W := 0) (rm7_0 l Z a0 hw [] w_NONE o0 o1 o2 kk_o1 kk_o2 (((0 : Int64) + ((m167_1 - m167_0) + (1 : Int64))) + ((m167_3 - m167_2) + (1 : Int64))) m167_2 m167_0 m167_3 m167_1 h0 n0 O0 S F_lasts_o0 F_ranges_o0 V_o2) hZ (ww hw 38 rfl) (ww hw 15 rfl) (by decide) (by decide)) q6a q6c (g := (mkF m 184 #[vi f0, vl p1, ss, vl p2, ss, vl p3, ss, vl p4, ss, vl p5, ss, vl m167_0, ss, vl m167_1, ss, vl m167_2, ss, vl m167_3, ss, vi f19, vi 1, vl m167_4, ss, va o0, vl (own_maxL (own_part1 m167_0 m167_1 m167_4) (own_part1 m167_2 m167_3 m167_4)), ss] [(.ref o0)])) rfl (by rw [hml]; rfl) (Steps.refl _) (argsL := []) (rest := []) (lenOf pd_12 rfl) rfl (by show 2 * 0 + _ ≤ _; exact Nat.le_of_eq rfl) (hb hby at_184) (fun _ _ => ⟨rfl, e5, (by decide : 10 + 0 ≤ _), (by decide : 60 + 0 ≤ _)⟩)
    dsimp only [Pt.U, Pt.locs, Pt.cells, Pt.slots] at X6 l6 y6 z6 st6 hQ6
    subst l6 y6 z6
    obtain ⟨rfl, Nq6, e6⟩ := hQ6
    have N6 := Fr.app N5 Nq6
    have hc7 : (m167_1 + (1 : Int64)) = (own_maxL (own_part1 m167_0 m167_1 m167_4) (own_part1 m167_2 m167_3 m167_4)) := ow16 m167_0 m167_1 m167_2 m167_3 m167_4 nf0 nf1 nf2 hj0 hc1 hc2 hc3
    obtain ⟨fs, hr, hrun, hended, hW, hsame⟩ := X6.leave (v := (some (.int 1))) (fun h => by rw [hrt] at h; cases h)
    refine ⟨_, _, pre_4 _ ?_, hrun, hended, _, _, rfl, ?_, ⟨_, rfl⟩, hW, hsame.mono (by decide) (by decide)⟩
    · show Steps p.tables e below (T0.setTop (mkF m 179 #[vi f0, vl p1, ss, vl p2, ss, vl p3, ss, vl p4, ss, vl p5, ss, vl m167_0, ss, vl m167_1, ss, vl m167_2, ss, vl m167_3, ss, vi f19, vi 1, vl m167_4, ss, va o0, vl (own_maxL (own_part1 m167_0 m167_1 m167_4) (own_part1 m167_2 m167_3 m167_4)), ss] [(.long 9223372036854775806), (.long m167_4), (.ref o0)])) _
      refine st5.trans ?_
      refine XS.aload X5.here hx rfl (hb hby at_182) rfl rfl ?_
      refine st6.trans ?_
      refine XS.lload X6.here hx rfl (hb hby at_187) rfl ?_
      refine XS.lcmp X6.here hx rfl (hb hby at_189) rfl ?_
      refine XS.ifNo X6.here hx rfl (hb hby at_190) rfl (own_lc_eqT hc7).2 ?_
      refine XS.iconst X6.here hx rfl (hb hby at_193) ?_
      refine XS.goto X6.here hx rfl (pc0 := 194) (pc' := 198) rfl (hb hby at_194) (by decide) (by decide) ?_
      show Steps p.tables e below (T6.setTop (mkF m 198 #[vi f0, vl p1, ss, vl p2, ss, vl p3, ss, vl p4, ss, vl p5, ss, vl m167_0, ss, vl m167_1, ss, vl m167_2, ss, vl m167_3, ss, vi f19, vi 1, vl m167_4, ss, va o0, vl (own_maxL (own_part1 m167_0 m167_1 m167_4) (own_part1 m167_2 m167_3 m167_4)), ss] [(.int 1)])) _
      exact retN X6 hx (t := .boolean) hrt (by simp) (hb hby at_198) hr
    · show Q0 n0 (some (.int 1)) T6.heap _
      exact (⟨rfl, N6⟩)
  · by_cases hc5 : m167_3 < m167_4
    · have hc6 : ¬ ((9223372036854775806 : Int64) < m167_0) := ow17 m167_0 m167_1 m167_2 m167_3 m167_4 nf0 nf1 nf2 hj0 hc1 hc2 hc3 hc5
      by_cases hc7 : m167_0 < m167_4
      · have hc8 : ¬ ((9223372036854775806 : Int64) < m167_1) := ow18 m167_0 m167_1 m167_2 m167_3 m167_4 nf0 nf1 nf2 hj0 hc1 hc2 hc3 hc5 hc6 hc7
        obtain ⟨cq9, kq9, q9a, q9b, q9c⟩ := isOf hZ e0 E_o0
        obtain ⟨_, _, ⟨T9, L9, k9, n9⟩, -, X9, ⟨Lc9, hQ9, l9, y9, z9⟩, st9⟩ := X0.virtualBack hx (y := My17) (z := My17) hown (mvT hZ (ww hw 84 rfl)) (mvT hZ (ww hw 85 rfl)) (notFace_of_selects (args := #[]) (mvT hZ (ww hw 87 rfl))) (mvT hZ (ww hw 87 rfl)) (mvT hZ (ww hw 86 rfl)) (by decide) (backOf (W := 0) (rm17_3 l Z a0 hw [] w_NONE o0 o1 o2 kk_o1 kk_o2 m167_4 (((0 : Int64) + ((m167_1 - m167_0) + (1 : Int64))) + ((m167_3 - m167_2) + (1 : Int64))) m167_2 m167_0 m167_3 m167_1 h0 n0 O0 S E_o0 F_count_o0 F_firsts_o0 F_lasts_o0 F_maxRanges_o0 F_ranges_o0 V_o1 V_o2 ne_o0_o1 ne_o0_o2 ne_o1_o2 g_o0 g_o1 g_o2 hc1 hc2 hc3 hc5 hc6 hc7 hc8) hZ (ww hw 88 rfl) (ww hw 15 rfl) (by decide) (by decide)) q9a q9c (g := (mkF m 179 #[vi f0, vl p1, ss, vl p2, ss, vl p3, ss, vl p4, ss, vl p5, ss, vl m167_0, ss, vl m167_1, ss, vl m167_2, ss, vl m167_3, ss, vi f19, vi 1, vl m167_4, ss, va o0, vl (own_maxL (own_part1 m167_0 m167_1 m167_4) (own_part1 m167_2 m167_3 m167_4)), ss] [(.long 9223372036854775806), (.long m167_4), (.ref o0)])) rfl (by rw [hml]; rfl) (Steps.refl _) (argsL := [(.long m167_4), (.long 9223372036854775806)]) (rest := []) (lenOf pd_4 rfl) rfl (by show 2 * 0 + _ ≤ _; exact Nat.le_of_eq rfl) (hb hby at_179) (fun _ _ => ⟨rfl, e0, (by decide : 10 + 0 ≤ _), (by decide : 60 + 0 ≤ _)⟩)
        dsimp only [Pt.U, Pt.locs, Pt.cells, Pt.slots] at X9 l9 y9 z9 st9 hQ9
        subst l9 y9 z9
        obtain ⟨rfl, Nq9, Kc9, P0_9, P1_9, P2_9, P3_9, P4_9, P5_9, P6_9, P7_9⟩ := hQ9
        have N9 := Fr.app N0 Nq9
        have O9 := O0.keep Kc9 (allS g_o2 (allS g_o0 (allS g_o1 all0)))
        have K9 : Keep h0 T9.heap [o1, o0, o2] := K0.trans Kc9 (allS (Or.inl (List.mem_of_getElem? (i := 2) rfl)) (allS (Or.inl (List.mem_of_getElem? (i := 1) rfl)) (allS (Or.inl (List.mem_of_getElem? (i := 0) rfl)) all0)))
        obtain ⟨cq10, kq10, q10a, q10b, q10c⟩ := isOf hZ rfl P0_9
        obtain ⟨_, _, ⟨T10, L10, k10, n10⟩, -, X10, ⟨Lc10, hQ10, l10, y10, z10⟩, st10⟩ := X9.virtualBack hx (y := My7) (z := My7) hown (mvT hZ (ww hw 34 rfl)) (mvT hZ (ww hw 35 rfl)) (notFace_of_selects (args := #[]) (mvT hZ (ww hw 37 rfl))) (mvT hZ (ww hw 37 rfl)) (mvT hZ (ww hw 36 rfl)) (by decide) (backOf (W := 0) (rm7_0 l Z a0 hw [] w_NONE o0 o1 o2 kk_o1 kk_o2 ((((0 : Int64) + ((m167_1 - m167_0) + (1 : Int64))) + ((m167_3 - m167_2) + (1 : Int64))) - ((0 : Int64) + ((m167_1 - m167_4) + (1 : Int64)))) m167_2 m167_0 m167_3 (m167_4 - (1 : Int64)) T9.heap n0 O9 S P3_9 P5_9 P7_9) hZ (ww hw 38 rfl) (ww hw 15 rfl) (by decide) (by decide)) q10a q10c (g := (mkF m 184 #[vi f0, vl p1, ss, vl p2, ss, vl p3, ss, vl p4, ss, vl p5, ss, vl m167_0, ss, vl m167_1, ss, vl m167_2, ss, vl m167_3, ss, vi f19, vi 1, vl m167_4, ss, va o0, vl (own_maxL (own_part1 m167_0 m167_1 m167_4) (own_part1 m167_2 m167_3 m167_4)), ss] [(.ref o0)])) rfl (by rw [hml]; rfl) (Steps.refl _) (argsL := []) (rest := []) (lenOf pd_12 rfl) rfl (by show 2 * 0 + _ ≤ _; exact Nat.le_of_eq rfl) (hb hby at_184) (fun _ _ => ⟨rfl, rfl, (by decide : 10 + 0 ≤ _), (by decide : 60 + 0 ≤ _)⟩)
        dsimp only [Pt.U, Pt.locs, Pt.cells, Pt.slots] at X10 l10 y10 z10 st10 hQ10
        subst l10 y10 z10
        obtain ⟨rfl, Nq10, e10⟩ := hQ10
        have N10 := Fr.app N9 Nq10
        have hc11 : ((m167_4 - (1 : Int64)) + (1 : Int64)) = (own_maxL (own_part1 m167_0 m167_1 m167_4) (own_part1 m167_2 m167_3 m167_4)) := ow19 m167_0 m167_1 m167_2 m167_3 m167_4 nf0 nf1 nf2 hj0 hc1 hc2 hc3 hc5 hc6 hc7 hc8
        obtain ⟨fs, hr, hrun, hended, hW, hsame⟩ := X10.leave (v := (some (.int 1))) (fun h => by rw [hrt] at h; cases h)
        refine ⟨_, _, pre_4 _ ?_, hrun, hended, _, _, rfl, ?_, ⟨_, rfl⟩, hW, hsame.mono (by decide) (by decide)⟩
        · show Steps p.tables e below (T0.setTop (mkF m 179 #[vi f0, vl p1, ss, vl p2, ss, vl p3, ss, vl p4, ss, vl p5, ss, vl m167_0, ss, vl m167_1, ss, vl m167_2, ss, vl m167_3, ss, vi f19, vi 1, vl m167_4, ss, va o0, vl (own_maxL (own_part1 m167_0 m167_1 m167_4) (own_part1 m167_2 m167_3 m167_4)), ss] [(.long 9223372036854775806), (.long m167_4), (.ref o0)])) _
          refine st9.trans ?_
          refine XS.aload X9.here hx rfl (hb hby at_182) rfl rfl ?_
          refine st10.trans ?_
          refine XS.lload X10.here hx rfl (hb hby at_187) rfl ?_
          refine XS.lcmp X10.here hx rfl (hb hby at_189) rfl ?_
          refine XS.ifNo X10.here hx rfl (hb hby at_190) rfl (own_lc_eqT hc11).2 ?_
          refine XS.iconst X10.here hx rfl (hb hby at_193) ?_
          refine XS.goto X10.here hx rfl (pc0 := 194) (pc' := 198) rfl (hb hby at_194) (by decide) (by decide) ?_
          show Steps p.tables e below (T10.setTop (mkF m 198 #[vi f0, vl p1, ss, vl p2, ss, vl p3, ss, vl p4, ss, vl p5, ss, vl m167_0, ss, vl m167_1, ss, vl m167_2, ss, vl m167_3, ss, vi f19, vi 1, vl m167_4, ss, va o0, vl (own_maxL (own_part1 m167_0 m167_1 m167_4) (own_part1 m167_2 m167_3 m167_4)), ss] [(.int 1)])) _
          exact retN X10 hx (t := .boolean) hrt (by simp) (hb hby at_198) hr
        · show Q0 n0 (some (.int 1)) T10.heap _
          exact (⟨rfl, N10⟩)
      · have hc8 : ¬ ((9223372036854775806 : Int64) < m167_1) := ow20 m167_0 m167_1 m167_2 m167_3 m167_4 nf0 nf1 nf2 hj0 hc1 hc2 hc3 hc5 hc6 hc7
        obtain ⟨cq9, kq9, q9a, q9b, q9c⟩ := isOf hZ e0 E_o0
        obtain ⟨_, _, ⟨T9, L9, k9, n9⟩, -, X9, ⟨Lc9, hQ9, l9, y9, z9⟩, st9⟩ := X0.virtualBack hx (y := My17) (z := My17) hown (mvT hZ (ww hw 84 rfl)) (mvT hZ (ww hw 85 rfl)) (notFace_of_selects (args := #[]) (mvT hZ (ww hw 87 rfl))) (mvT hZ (ww hw 87 rfl)) (mvT hZ (ww hw 86 rfl)) (by decide) (backOf (W := 0) (rm17_2 l Z a0 hw [] w_NONE o0 o1 o2 kk_o1 kk_o2 m167_4 (((0 : Int64) + ((m167_1 - m167_0) + (1 : Int64))) + ((m167_3 - m167_2) + (1 : Int64))) m167_2 m167_0 m167_3 m167_1 h0 n0 O0 S E_o0 F_count_o0 F_firsts_o0 F_lasts_o0 F_maxRanges_o0 F_ranges_o0 V_o1 V_o2 ne_o0_o1 ne_o0_o2 ne_o1_o2 g_o0 g_o1 g_o2 hc1 hc2 hc3 hc5 hc6 hc7 hc8) hZ (ww hw 88 rfl) (ww hw 15 rfl) (by decide) (by decide)) q9a q9c (g := (mkF m 179 #[vi f0, vl p1, ss, vl p2, ss, vl p3, ss, vl p4, ss, vl p5, ss, vl m167_0, ss, vl m167_1, ss, vl m167_2, ss, vl m167_3, ss, vi f19, vi 1, vl m167_4, ss, va o0, vl (own_maxL (own_part1 m167_0 m167_1 m167_4) (own_part1 m167_2 m167_3 m167_4)), ss] [(.long 9223372036854775806), (.long m167_4), (.ref o0)])) rfl (by rw [hml]; rfl) (Steps.refl _) (argsL := [(.long m167_4), (.long 9223372036854775806)]) (rest := []) (lenOf pd_4 rfl) rfl (by show 2 * 0 + _ ≤ _; exact Nat.le_of_eq rfl) (hb hby at_179) (fun _ _ => ⟨rfl, e0, (by decide : 10 + 0 ≤ _), (by decide : 60 + 0 ≤ _)⟩)
        dsimp only [Pt.U, Pt.locs, Pt.cells, Pt.slots] at X9 l9 y9 z9 st9 hQ9
        subst l9 y9 z9
        obtain ⟨rfl, Nq9, Kc9, P0_9, P1_9, P2_9, P3_9, P4_9, P5_9, P6_9, P7_9⟩ := hQ9
        have N9 := Fr.app N0 Nq9
        have O9 := O0.keep Kc9 (allS g_o0 (allS g_o2 (allS g_o1 all0)))
        have K9 : Keep h0 T9.heap [o1, o0, o2] := K0.trans Kc9 (allS (Or.inl (List.mem_of_getElem? (i := 1) rfl)) (allS (Or.inl (List.mem_of_getElem? (i := 2) rfl)) (allS (Or.inl (List.mem_of_getElem? (i := 0) rfl)) all0)))
        obtain ⟨cq10, kq10, q10a, q10b, q10c⟩ := isOf hZ rfl P0_9
        obtain ⟨_, _, ⟨T10, L10, k10, n10⟩, -, X10, ⟨Lc10, hQ10, l10, y10, z10⟩, st10⟩ := X9.virtualBack hx (y := My7) (z := My7) hown (mvT hZ (ww hw 34 rfl)) (mvT hZ (ww hw 35 rfl)) (notFace_of_selects (args := #[]) (mvT hZ (ww hw 37 rfl))) (mvT hZ (ww hw 37 rfl)) (mvT hZ (ww hw 36 rfl)) (by decide) (backOf (W := 0) (rm7_2 l Z a0 hw [] w_NONE o0 o1 o2 kk_o1 kk_o2 ((((0 : Int64) + ((m167_1 - m167_0) + (1 : Int64))) + ((m167_3 - m167_2) + (1 : Int64))) - ((0 : Int64) + ((m167_1 - m167_0) + (1 : Int64)))) m167_2 m167_0 m167_3 m167_1 T9.heap n0 O9 S P3_9 P5_9 P7_9) hZ (ww hw 38 rfl) (ww hw 15 rfl) (by decide) (by decide)) q10a q10c (g := (mkF m 184 #[vi f0, vl p1, ss, vl p2, ss, vl p3, ss, vl p4, ss, vl p5, ss, vl m167_0, ss, vl m167_1, ss, vl m167_2, ss, vl m167_3, ss, vi f19, vi 1, vl m167_4, ss, va o0, vl (own_maxL (own_part1 m167_0 m167_1 m167_4) (own_part1 m167_2 m167_3 m167_4)), ss] [(.ref o0)])) rfl (by rw [hml]; rfl) (Steps.refl _) (argsL := []) (rest := []) (lenOf pd_12 rfl) rfl (by show 2 * 0 + _ ≤ _; exact Nat.le_of_eq rfl) (hb hby at_184) (fun _ _ => ⟨rfl, rfl, (by decide : 10 + 0 ≤ _), (by decide : 60 + 0 ≤ _)⟩)
        dsimp only [Pt.U, Pt.locs, Pt.cells, Pt.slots] at X10 l10 y10 z10 st10 hQ10
        subst l10 y10 z10
        obtain ⟨rfl, Nq10, e10⟩ := hQ10
        have N10 := Fr.app N9 Nq10
        have hc11 : (m167_3 + (1 : Int64)) = (own_maxL (own_part1 m167_0 m167_1 m167_4) (own_part1 m167_2 m167_3 m167_4)) := ow21 m167_0 m167_1 m167_2 m167_3 m167_4 nf0 nf1 nf2 hj0 hc1 hc2 hc3 hc5 hc6 hc7 hc8
        obtain ⟨fs, hr, hrun, hended, hW, hsame⟩ := X10.leave (v := (some (.int 1))) (fun h => by rw [hrt] at h; cases h)
        refine ⟨_, _, pre_4 _ ?_, hrun, hended, _, _, rfl, ?_, ⟨_, rfl⟩, hW, hsame.mono (by decide) (by decide)⟩
        · show Steps p.tables e below (T0.setTop (mkF m 179 #[vi f0, vl p1, ss, vl p2, ss, vl p3, ss, vl p4, ss, vl p5, ss, vl m167_0, ss, vl m167_1, ss, vl m167_2, ss, vl m167_3, ss, vi f19, vi 1, vl m167_4, ss, va o0, vl (own_maxL (own_part1 m167_0 m167_1 m167_4) (own_part1 m167_2 m167_3 m167_4)), ss] [(.long 9223372036854775806), (.long m167_4), (.ref o0)])) _
          refine st9.trans ?_
          refine XS.aload X9.here hx rfl (hb hby at_182) rfl rfl ?_
          refine st10.trans ?_
          refine XS.lload X10.here hx rfl (hb hby at_187) rfl ?_
          refine XS.lcmp X10.here hx rfl (hb hby at_189) rfl ?_
          refine XS.ifNo X10.here hx rfl (hb hby at_190) rfl (own_lc_eqT hc11).2 ?_
          refine XS.iconst X10.here hx rfl (hb hby at_193) ?_
          refine XS.goto X10.here hx rfl (pc0 := 194) (pc' := 198) rfl (hb hby at_194) (by decide) (by decide) ?_
          show Steps p.tables e below (T10.setTop (mkF m 198 #[vi f0, vl p1, ss, vl p2, ss, vl p3, ss, vl p4, ss, vl p5, ss, vl m167_0, ss, vl m167_1, ss, vl m167_2, ss, vl m167_3, ss, vi f19, vi 1, vl m167_4, ss, va o0, vl (own_maxL (own_part1 m167_0 m167_1 m167_4) (own_part1 m167_2 m167_3 m167_4)), ss] [(.int 1)])) _
          exact retN X10 hx (t := .boolean) hrt (by simp) (hb hby at_198) hr
        · show Q0 n0 (some (.int 1)) T10.heap _
          exact (⟨rfl, N10⟩)
    · have hc6 : ¬ ((9223372036854775806 : Int64) < m167_2) := ow22 m167_0 m167_1 m167_2 m167_3 m167_4 nf0 nf1 nf2 hj0 hc1 hc2 hc3 hc5
      by_cases hc7 : m167_2 < m167_4
      · have hc8 : ¬ ((9223372036854775806 : Int64) < m167_3) := ow23 m167_0 m167_1 m167_2 m167_3 m167_4 nf0 nf1 nf2 hj0 hc1 hc2 hc3 hc5 hc6 hc7
        have hc9 : ¬ ((9223372036854775806 : Int64) < m167_0) := ow24 m167_0 m167_1 m167_2 m167_3 m167_4 nf0 nf1 nf2 hj0 hc1 hc2 hc3 hc5 hc6 hc7 hc8
        have hc10 : ¬ ((9223372036854775806 : Int64) < m167_1) := ow25 m167_0 m167_1 m167_2 m167_3 m167_4 nf0 nf1 nf2 hj0 hc1 hc2 hc3 hc5 hc6 hc7 hc8 hc9
        obtain ⟨cq11, kq11, q11a, q11b, q11c⟩ := isOf hZ e0 E_o0
        obtain ⟨_, _, ⟨T11, L11, k11, n11⟩, -, X11, ⟨Lc11, hQ11, l11, y11, z11⟩, st11⟩ := X0.virtualBack hx (y := My17) (z := My17) hown (mvT hZ (ww hw 84 rfl)) (mvT hZ (ww hw 85 rfl)) (notFace_of_selects (args := #[]) (mvT hZ (ww hw 87 rfl))) (mvT hZ (ww hw 87 rfl)) (mvT hZ (ww hw 86 rfl)) (by decide) (backOf (W := 0) (rm17_4 l Z a0 hw [] w_NONE o0 o1 o2 kk_o1 kk_o2 m167_4 (((0 : Int64) + ((m167_1 - m167_0) + (1 : Int64))) + ((m167_3 - m167_2) + (1 : Int64))) m167_2 m167_0 m167_3 m167_1 h0 n0 O0 S E_o0 F_count_o0 F_firsts_o0 F_lasts_o0 F_maxRanges_o0 F_ranges_o0 V_o1 V_o2 ne_o0_o1 ne_o0_o2 ne_o1_o2 g_o0 g_o1 g_o2 hc1 hc2 hc3 hc5 hc6 hc7 hc8 hc9 hc10) hZ (ww hw 88 rfl) (ww hw 15 rfl) (by decide) (by decide)) q11a q11c (g := (mkF m 179 #[vi f0, vl p1, ss, vl p2, ss, vl p3, ss, vl p4, ss, vl p5, ss, vl m167_0, ss, vl m167_1, ss, vl m167_2, ss, vl m167_3, ss, vi f19, vi 1, vl m167_4, ss, va o0, vl (own_maxL (own_part1 m167_0 m167_1 m167_4) (own_part1 m167_2 m167_3 m167_4)), ss] [(.long 9223372036854775806), (.long m167_4), (.ref o0)])) rfl (by rw [hml]; rfl) (Steps.refl _) (argsL := [(.long m167_4), (.long 9223372036854775806)]) (rest := []) (lenOf pd_4 rfl) rfl (by show 2 * 0 + _ ≤ _; exact Nat.le_of_eq rfl) (hb hby at_179) (fun _ _ => ⟨rfl, e0, (by decide : 10 + 0 ≤ _), (by decide : 60 + 0 ≤ _)⟩)
        dsimp only [Pt.U, Pt.locs, Pt.cells, Pt.slots] at X11 l11 y11 z11 st11 hQ11
        subst l11 y11 z11
        obtain ⟨rfl, Nq11, Kc11, P0_11, P1_11, P2_11, P3_11, P4_11, P5_11, P6_11, P7_11⟩ := hQ11
        have N11 := Fr.app N0 Nq11
        have O11 := O0.keep Kc11 (allS g_o2 (allS g_o0 (allS g_o1 all0)))
        have K11 : Keep h0 T11.heap [o1, o0, o2] := K0.trans Kc11 (allS (Or.inl (List.mem_of_getElem? (i := 2) rfl)) (allS (Or.inl (List.mem_of_getElem? (i := 1) rfl)) (allS (Or.inl (List.mem_of_getElem? (i := 0) rfl)) all0)))
        obtain ⟨cq12, kq12, q12a, q12b, q12c⟩ := isOf hZ rfl P0_11
        obtain ⟨_, _, ⟨T12, L12, k12, n12⟩, -, X12, ⟨Lc12, hQ12, l12, y12, z12⟩, st12⟩ := X11.virtualBack hx (y := My7) (z := My7) hown (mvT hZ (ww hw 34 rfl)) (mvT hZ (ww hw 35 rfl)) (notFace_of_selects (args := #[]) (mvT hZ (ww hw 37 rfl))) (mvT hZ (ww hw 37 rfl)) (mvT hZ (ww hw 36 rfl)) (by decide) (backOf (W := 0) (rm7_2 l Z a0 hw [] w_NONE o0 o1 o2 kk_o1 kk_o2 ((((0 : Int64) + ((m167_1 - m167_0) + (1 : Int64))) + ((m167_3 - m167_2) + (1 : Int64))) - (((0 : Int64) + ((m167_3 - m167_4) + (1 : Int64))) + ((m167_1 - m167_0) + (1 : Int64)))) m167_2 m167_0 (m167_4 - (1 : Int64)) m167_1 T11.heap n0 O11 S P3_11 P5_11 P7_11) hZ (ww hw 38 rfl) (ww hw 15 rfl) (by decide) (by decide)) q12a q12c (g := (mkF m 184 #[vi f0, vl p1, ss, vl p2, ss, vl p3, ss, vl p4, ss, vl p5, ss, vl m167_0, ss, vl m167_1, ss, vl m167_2, ss, vl m167_3, ss, vi f19, vi 1, vl m167_4, ss, va o0, vl (own_maxL (own_part1 m167_0 m167_1 m167_4) (own_part1 m167_2 m167_3 m167_4)), ss] [(.ref o0)])) rfl (by rw [hml]; rfl) (Steps.refl _) (argsL := []) (rest := []) (lenOf pd_12 rfl) rfl (by show 2 * 0 + _ ≤ _; exact Nat.le_of_eq rfl) (hb hby at_184) (fun _ _ => ⟨rfl, rfl, (by decide : 10 + 0 ≤ _), (by decide : 60 + 0 ≤ _)⟩)
        dsimp only [Pt.U, Pt.locs, Pt.cells, Pt.slots] at X12 l12 y12 z12 st12 hQ12
        subst l12 y12 z12
        obtain ⟨rfl, Nq12, e12⟩ := hQ12
        have N12 := Fr.app N11 Nq12
        have hc13 : ((m167_4 - (1 : Int64)) + (1 : Int64)) = (own_maxL (own_part1 m167_0 m167_1 m167_4) (own_part1 m167_2 m167_3 m167_4)) := ow26 m167_0 m167_1 m167_2 m167_3 m167_4 nf0 nf1 nf2 hj0 hc1 hc2 hc3 hc5 hc6 hc7 hc8 hc9 hc10
        obtain ⟨fs, hr, hrun, hended, hW, hsame⟩ := X12.leave (v := (some (.int 1))) (fun h => by rw [hrt] at h; cases h)
        refine ⟨_, _, pre_4 _ ?_, hrun, hended, _, _, rfl, ?_, ⟨_, rfl⟩, hW, hsame.mono (by decide) (by decide)⟩
        · show Steps p.tables e below (T0.setTop (mkF m 179 #[vi f0, vl p1, ss, vl p2, ss, vl p3, ss, vl p4, ss, vl p5, ss, vl m167_0, ss, vl m167_1, ss, vl m167_2, ss, vl m167_3, ss, vi f19, vi 1, vl m167_4, ss, va o0, vl (own_maxL (own_part1 m167_0 m167_1 m167_4) (own_part1 m167_2 m167_3 m167_4)), ss] [(.long 9223372036854775806), (.long m167_4), (.ref o0)])) _
          refine st11.trans ?_
          refine XS.aload X11.here hx rfl (hb hby at_182) rfl rfl ?_
          refine st12.trans ?_
          refine XS.lload X12.here hx rfl (hb hby at_187) rfl ?_
          refine XS.lcmp X12.here hx rfl (hb hby at_189) rfl ?_
          refine XS.ifNo X12.here hx rfl (hb hby at_190) rfl (own_lc_eqT hc13).2 ?_
          refine XS.iconst X12.here hx rfl (hb hby at_193) ?_
          refine XS.goto X12.here hx rfl (pc0 := 194) (pc' := 198) rfl (hb hby at_194) (by decide) (by decide) ?_
          show Steps p.tables e below (T12.setTop (mkF m 198 #[vi f0, vl p1, ss, vl p2, ss, vl p3, ss, vl p4, ss, vl p5, ss, vl m167_0, ss, vl m167_1, ss, vl m167_2, ss, vl m167_3, ss, vi f19, vi 1, vl m167_4, ss, va o0, vl (own_maxL (own_part1 m167_0 m167_1 m167_4) (own_part1 m167_2 m167_3 m167_4)), ss] [(.int 1)])) _
          exact retN X12 hx (t := .boolean) hrt (by simp) (hb hby at_198) hr
        · show Q0 n0 (some (.int 1)) T12.heap _
          exact (⟨rfl, N12⟩)
      · have hc8 : ¬ ((9223372036854775806 : Int64) < m167_0) := ow27 m167_0 m167_1 m167_2 m167_3 m167_4 nf0 nf1 nf2 hj0 hc1 hc2 hc3 hc5 hc6 hc7
        have hc9 : ¬ ((9223372036854775806 : Int64) < m167_1) := ow28 m167_0 m167_1 m167_2 m167_3 m167_4 nf0 nf1 nf2 hj0 hc1 hc2 hc3 hc5 hc6 hc7 hc8
        obtain ⟨cq10, kq10, q10a, q10b, q10c⟩ := isOf hZ e0 E_o0
        obtain ⟨_, _, ⟨T10, L10, k10, n10⟩, -, X10, ⟨Lc10, hQ10, l10, y10, z10⟩, st10⟩ := X0.virtualBack hx (y := My17) (z := My17) hown (mvT hZ (ww hw 84 rfl)) (mvT hZ (ww hw 85 rfl)) (notFace_of_selects (args := #[]) (mvT hZ (ww hw 87 rfl))) (mvT hZ (ww hw 87 rfl)) (mvT hZ (ww hw 86 rfl)) (by decide) (backOf (W := 0) (rm17_1 l Z a0 hw [] w_NONE o0 o1 o2 kk_o1 kk_o2 m167_4 (((0 : Int64) + ((m167_1 - m167_0) + (1 : Int64))) + ((m167_3 - m167_2) + (1 : Int64))) m167_2 m167_0 m167_3 m167_1 h0 n0 O0 S E_o0 F_count_o0 F_firsts_o0 F_lasts_o0 F_maxRanges_o0 F_ranges_o0 V_o1 V_o2 ne_o0_o1 ne_o0_o2 ne_o1_o2 g_o0 g_o1 g_o2 hc1 hc2 hc3 hc5 hc6 hc7 hc8 hc9) hZ (ww hw 88 rfl) (ww hw 15 rfl) (by decide) (by decide)) q10a q10c (g := (mkF m 179 #[vi f0, vl p1, ss, vl p2, ss, vl p3, ss, vl p4, ss, vl p5, ss, vl m167_0, ss, vl m167_1, ss, vl m167_2, ss, vl m167_3, ss, vi f19, vi 1, vl m167_4, ss, va o0, vl (own_maxL (own_part1 m167_0 m167_1 m167_4) (own_part1 m167_2 m167_3 m167_4)), ss] [(.long 9223372036854775806), (.long m167_4), (.ref o0)])) rfl (by rw [hml]; rfl) (Steps.refl _) (argsL := [(.long m167_4), (.long 9223372036854775806)]) (rest := []) (lenOf pd_4 rfl) rfl (by show 2 * 0 + _ ≤ _; exact Nat.le_of_eq rfl) (hb hby at_179) (fun _ _ => ⟨rfl, e0, (by decide : 10 + 0 ≤ _), (by decide : 60 + 0 ≤ _)⟩)
        dsimp only [Pt.U, Pt.locs, Pt.cells, Pt.slots] at X10 l10 y10 z10 st10 hQ10
        subst l10 y10 z10
        obtain ⟨rfl, Nq10, Kc10, P0_10, P1_10, P2_10, P3_10, P4_10, P5_10, P6_10, P7_10⟩ := hQ10
        have N10 := Fr.app N0 Nq10
        have O10 := O0.keep Kc10 (allS g_o0 (allS g_o2 (allS g_o1 all0)))
        have K10 : Keep h0 T10.heap [o1, o0, o2] := K0.trans Kc10 (allS (Or.inl (List.mem_of_getElem? (i := 1) rfl)) (allS (Or.inl (List.mem_of_getElem? (i := 2) rfl)) (allS (Or.inl (List.mem_of_getElem? (i := 0) rfl)) all0)))
        obtain ⟨cq11, kq11, q11a, q11b, q11c⟩ := isOf hZ rfl P0_10
        obtain ⟨_, _, ⟨T11, L11, k11, n11⟩, -, X11, ⟨Lc11, hQ11, l11, y11, z11⟩, st11⟩ := X10.virtualBack hx (y := My7) (z := My7) hown (mvT hZ (ww hw 34 rfl)) (mvT hZ (ww hw 35 rfl)) (notFace_of_selects (args := #[]) (mvT hZ (ww hw 37 rfl))) (mvT hZ (ww hw 37 rfl)) (mvT hZ (ww hw 36 rfl)) (by decide) (backOf (W := 0) (rm7_3 l Z a0 hw [] w_NONE o0 o1 o2 kk_o1 kk_o2 ((((0 : Int64) + ((m167_1 - m167_0) + (1 : Int64))) + ((m167_3 - m167_2) + (1 : Int64))) - (((0 : Int64) + ((m167_3 - m167_2) + (1 : Int64))) + ((m167_1 - m167_0) + (1 : Int64)))) m167_2 m167_0 m167_3 m167_1 T10.heap n0 O10 S P5_10) hZ (ww hw 38 rfl) (ww hw 15 rfl) (by decide) (by decide)) q11a q11c (g := (mkF m 184 #[vi f0, vl p1, ss, vl p2, ss, vl p3, ss, vl p4, ss, vl p5, ss, vl m167_0, ss, vl m167_1, ss, vl m167_2, ss, vl m167_3, ss, vi f19, vi 1, vl m167_4, ss, va o0, vl (own_maxL (own_part1 m167_0 m167_1 m167_4) (own_part1 m167_2 m167_3 m167_4)), ss] [(.ref o0)])) rfl (by rw [hml]; rfl) (Steps.refl _) (argsL := []) (rest := []) (lenOf pd_12 rfl) rfl (by show 2 * 0 + _ ≤ _; exact Nat.le_of_eq rfl) (hb hby at_184) (fun _ _ => ⟨rfl, rfl, (by decide : 10 + 0 ≤ _), (by decide : 60 + 0 ≤ _)⟩)
        dsimp only [Pt.U, Pt.locs, Pt.cells, Pt.slots] at X11 l11 y11 z11 st11 hQ11
        subst l11 y11 z11
        obtain ⟨rfl, Nq11, e11⟩ := hQ11
        have N11 := Fr.app N10 Nq11
        have hc12 : (0 : Int64) = (own_maxL (own_part1 m167_0 m167_1 m167_4) (own_part1 m167_2 m167_3 m167_4)) := ow29 m167_0 m167_1 m167_2 m167_3 m167_4 nf0 nf1 nf2 hj0 hc1 hc2 hc3 hc5 hc6 hc7 hc8 hc9
        obtain ⟨fs, hr, hrun, hended, hW, hsame⟩ := X11.leave (v := (some (.int 1))) (fun h => by rw [hrt] at h; cases h)
        refine ⟨_, _, pre_4 _ ?_, hrun, hended, _, _, rfl, ?_, ⟨_, rfl⟩, hW, hsame.mono (by decide) (by decide)⟩
        · show Steps p.tables e below (T0.setTop (mkF m 179 #[vi f0, vl p1, ss, vl p2, ss, vl p3, ss, vl p4, ss, vl p5, ss, vl m167_0, ss, vl m167_1, ss, vl m167_2, ss, vl m167_3, ss, vi f19, vi 1, vl m167_4, ss, va o0, vl (own_maxL (own_part1 m167_0 m167_1 m167_4) (own_part1 m167_2 m167_3 m167_4)), ss] [(.long 9223372036854775806), (.long m167_4), (.ref o0)])) _
          refine st10.trans ?_
          refine XS.aload X10.here hx rfl (hb hby at_182) rfl rfl ?_
          refine st11.trans ?_
          refine XS.lload X11.here hx rfl (hb hby at_187) rfl ?_
          refine XS.lcmp X11.here hx rfl (hb hby at_189) rfl ?_
          refine XS.ifNo X11.here hx rfl (hb hby at_190) rfl (own_lc_eqT hc12).2 ?_
          refine XS.iconst X11.here hx rfl (hb hby at_193) ?_
          refine XS.goto X11.here hx rfl (pc0 := 194) (pc' := 198) rfl (hb hby at_194) (by decide) (by decide) ?_
          show Steps p.tables e below (T11.setTop (mkF m 198 #[vi f0, vl p1, ss, vl p2, ss, vl p3, ss, vl p4, ss, vl p5, ss, vl m167_0, ss, vl m167_1, ss, vl m167_2, ss, vl m167_3, ss, vi f19, vi 1, vl m167_4, ss, va o0, vl (own_maxL (own_part1 m167_0 m167_1 m167_4) (own_part1 m167_2 m167_3 m167_4)), ss] [(.int 1)])) _
          exact retN X11 hx (t := .boolean) hrt (by simp) (hb hby at_198) hr
        · show Q0 n0 (some (.int 1)) T11.heap _
          exact (⟨rfl, N11⟩)
def Q17_5 (Z : State) (w_NONE : Addr) (o0 : Addr) (o1 : Addr) (o2 : Addr) (kk_o1 : ClassId) (kk_o2 : ClassId) (q3 : Int64) (q0 : Int64) (q1 : Int64) (q2 : Int64) (h0 : Heap) (n0 : Nat) (v : Option Value) (h : Heap) (L : List Loc) : Prop := v = none ∧ Fr n0 L ∧ Keep h0 h [o2, o0, o1] ∧ Exa Z h o0 sC0 ∧ Fld Z h o0 sC0 "count" "J" (.long (q0 - ((0 : Int64) + ((q2 - q3) + (1 : Int64))))) ∧ Fld Z h o0 sC0 "firsts" "[J" (.ref o1) ∧ Fld Z h o0 sC0 "lasts" "[J" (.ref o2) ∧ Fld Z h o0 sC0 "maxRanges" "I" (.int 2147483647) ∧ Fld Z h o0 sC0 "ranges" "I" (.int 1) ∧ Arv Z h o1 kk_o1 .long (4 : Int32) [(.long q1), (.long 0), (.long 0), (.long 0)] (.long 0) ∧ Arv Z h o2 kk_o2 .long (4 : Int32) [(.long (q3 - (1 : Int64))), (.long 0), (.long 0), (.long 0)] (.long 0)
theorem rm17_5 (l : Launch) (Z : State) (a0 : Array Value) (hw : HW Z a0) (ws : List Jvm.Cond) (w_NONE : Addr) (o0 : Addr) (o1 : Addr) (o2 : Addr) (kk_o1 : ClassId) (kk_o2 : ClassId) (q3 : Int64) (q0 : Int64) (q1 : Int64) (q2 : Int64) (h0 : Heap) (n0 : Nat) (O0 : Old Z n0 h0) (S : SF Z w_NONE) (E_o0 : Exa Z h0 o0 sC0) (F_count_o0 : Fld Z h0 o0 sC0 "count" "J" (.long q0)) (F_firsts_o0 : Fld Z h0 o0 sC0 "firsts" "[J" (.ref o1)) (F_lasts_o0 : Fld Z h0 o0 sC0 "lasts" "[J" (.ref o2)) (F_maxRanges_o0 : Fld Z h0 o0 sC0 "maxRanges" "I" (.int 2147483647)) (F_ranges_o0 : Fld Z h0 o0 sC0 "ranges" "I" (.int 1)) (V_o1 : Arv Z h0 o1 kk_o1 .long (4 : Int32) [(.long q1), (.long 0), (.long 0), (.long 0)] (.long 0)) (V_o2 : Arv Z h0 o2 kk_o2 .long (4 : Int32) [(.long q2), (.long 0), (.long 0), (.long 0)] (.long 0)) (ne_o0_o1 : o0 ≠ o1) (ne_o0_o2 : o0 ≠ o2) (ne_o1_o2 : o1 ≠ o2) (g_o0 : n0 ≤ o0) (g_o1 : n0 ≤ o1) (g_o2 : n0 ≤ o2) (hc0 : ¬ (q3 < (0 : Int64))) (hc1 : ¬ ((9223372036854775806 : Int64) < q3)) (hc2 : ¬ (q2 < q3)) (hc3 : ¬ ((9223372036854775806 : Int64) < q1)) (hc4 : q1 < q3) (hc5 : ¬ ((9223372036854775806 : Int64) < q2)) :
    Pay l Z My17 ws prog_55_method_10_code 12 none #[(.ref o0), (.long q3), (.long 9223372036854775806)] h0 ({ frames := 2, cells := 0, slots := 0, locals := 32 } : Room) (Q17_5 Z w_NONE o0 o1 o2 kk_o1 kk_o2 q3 q0 q1 q2 h0 n0) := by
  refine own_body (plainFor_of_name pn_1) (L0 := #[va o0, vl q3, ss, vl 9223372036854775806, ss, uu, uu, uu, uu, uu, uu, uu]) (fun _ => by first | rfl | (simp [entryFrame, mkF, argsToLocals, Value.category]; done)) ?_
  intro p e s m below meth c s₁ hrt hlk hx hby hml hZ hown0 hnm X0 e0
  have hown : s.vm.findClass sC0 = some m.cls := hown0
  have N0 := Fr.nil n0
  have K0 : Keep h0 h0 [o2, o0, o1] := Keep.refl _ _
  obtain ⟨_, _, ⟨T1, L1, k1, n1⟩, -, X1, ⟨Lc1, hQ1, l1, y1, z1⟩, st1⟩ := Jvm.LawKit.callS X0 hx (y := My9) hown (mvT hZ (ww hw 46 rfl)) (mvT hZ (ww hw 47 rfl)) (mvT hZ (ww hw 15 rfl)) (mvT hZ (ww hw 48 rfl)) (by decide) (backOf (W := 0) (rm9_1 l Z a0 hw [] w_NONE q3 h0 n0 O0 S hc0 hc1) hZ (ww hw 48 rfl) (ww hw 15 rfl) (by decide) (by decide)) (g := (mkF m 2 #[va o0, vl q3, ss, vl 9223372036854775806, ss, uu, uu, uu, uu, uu, uu, uu] [(.long 9223372036854775806), (.long q3)])) rfl (by rw [hml]; rfl) (argsL := [(.long q3), (.long 9223372036854775806)]) (rest := []) (lenOf pd_4 rfl) rfl (by show 2 * 0 + _ ≤ _; exact Nat.le_of_eq rfl) (hb hby d17_2) (fun _ _ => ⟨rfl, e0, (by decide : 0 + 0 ≤ _), (by decide : 0 + 0 ≤ _)⟩)
  dsimp only [Pt.U, Pt.locs, Pt.cells, Pt.slots] at X1 l1 y1 z1 st1 hQ1
  subst l1 y1 z1
  obtain ⟨rfl, Nq1, e1⟩ := hQ1
  have N1 := Fr.app N0 Nq1
  obtain ⟨cq2, qa2, qb2⟩ := E_o0.cell
  obtain ⟨_, _, ⟨T2, L2, k2, n2⟩, -, X2, ⟨Lc2, hQ2, l2, y2, z2⟩, st2⟩ := X1.privateBack hx (y := My10) hown (mvT hZ (ww hw 49 rfl)) (mvT hZ (ww hw 50 rfl)) (own_selp (by decide) (mvT hZ (ww hw 14 rfl)) (mvP hZ (ww hw 51 rfl)) (mvT hZ (ww hw 50 rfl))) (Cond.privateMethod_at (mvP hZ (ww hw 51 rfl) (args := #[]))) (mvT hZ (ww hw 52 rfl)) (by decide) (backOf (W := 0) (rm10_2 l Z a0 hw [] w_NONE o0 o1 o2 kk_o1 kk_o2 q3 q0 q1 q2 h0 n0 O0 S F_lasts_o0 F_ranges_o0 V_o2 hc2) hZ (ww hw 52 rfl) (ww hw 15 rfl) (by decide) (by decide)) (g := (mkF m 7 #[va o0, vl q3, ss, vl 9223372036854775806, ss, uu, uu, uu, uu, uu, uu, uu] [(.long q3), (.ref o0)])) rfl (by rw [hml]; rfl) (Steps.refl _) (a := o0) (by rw [e1]; exact qa2) qb2 (argsL := [(.long q3)]) (rest := []) (lenOf pd_5 rfl) rfl (by show 2 * 0 + _ ≤ _; exact Nat.le_of_eq rfl) (hb hby d17_7) (fun _ _ => ⟨rfl, e1, (by decide : 0 + 0 ≤ _), (by decide : 0 + 0 ≤ _)⟩)
  dsimp only [Pt.U, Pt.locs, Pt.cells, Pt.slots] at X2 l2 y2 z2 st2 hQ2
  subst l2 y2 z2
  obtain ⟨rfl, Nq2, e2⟩ := hQ2
  have N2 := Fr.app N1 Nq2
  obtain ⟨T3, X3, e3, st3⟩ := getF X2 hx hZ hown (host := "") (Or.inl (ww hw 39 rfl)) Via.refl e2 F_ranges_o0 (g := (mkF m 15 #[va o0, vl q3, ss, vl 9223372036854775806, ss, vi 0, uu, uu, uu, uu, uu, uu] [(.ref o0), (.int 0)])) rfl rfl (hb hby d17_15)
  obtain ⟨T4, X4, e4, st4⟩ := getF X3 hx hZ hown (host := "") (Or.inl (ww hw 28 rfl)) Via.refl e3 F_firsts_o0 (g := (mkF m 22 #[va o0, vl q3, ss, vl 9223372036854775806, ss, vi 0, uu, uu, uu, uu, uu, uu] [(.ref o0)])) rfl rfl (hb hby d17_22)
  obtain ⟨cl5, Ar5, qk5, Sz5, Ng5, Hh5, Gg5⟩ := id V_o1
  have hin5_0 : ¬ ((0 : Int32) < 0 ∨ cl5.slots.size ≤ ((0 : Int32)).toNatClampNeg) := inb_of Sz5 ⟨by decide, by decide⟩
  obtain ⟨T6, X6, e6, st6⟩ := getF X4 hx hZ hown (host := "") (Or.inl (ww hw 28 rfl)) Via.refl e4 F_firsts_o0 (g := (mkF m 35 #[va o0, vl q3, ss, vl 9223372036854775806, ss, vi 0, uu, uu, uu, uu, uu, uu] [(.ref o0)])) rfl rfl (hb hby d17_35)
  obtain ⟨T7, X7, e7, st7⟩ := getF X6 hx hZ hown (host := "") (Or.inl (ww hw 30 rfl)) Via.refl e6 F_lasts_o0 (g := (mkF m 47 #[va o0, vl q3, ss, vl 9223372036854775806, ss, vi 0, uu, uu, uu, uu, uu, uu] [(.ref o0)])) rfl rfl (hb hby d17_47)
  obtain ⟨cl8, Ar8, qk8, Sz8, Ng8, Hh8, Gg8⟩ := id V_o2
  have hin8_0 : ¬ ((0 : Int32) < 0 ∨ cl8.slots.size ≤ ((0 : Int32)).toNatClampNeg) := inb_of Sz8 ⟨by decide, by decide⟩
  obtain ⟨T9, X9, e9, st9⟩ := getF X7 hx hZ hown (host := "") (Or.inl (ww hw 39 rfl)) Via.refl e7 F_ranges_o0 (g := (mkF m 125 #[va o0, vl q3, ss, vl 9223372036854775806, ss, vi 0, vi 0, uu, uu, uu, uu, uu] [(.ref o0), (.int 0)])) rfl rfl (hb hby d17_125)
  obtain ⟨T10, X10, e10, st10⟩ := getF X9 hx hZ hown (host := "") (Or.inl (ww hw 28 rfl)) Via.refl e9 F_firsts_o0 (g := (mkF m 132 #[va o0, vl q3, ss, vl 9223372036854775806, ss, vi 0, vi 0, uu, uu, uu, uu, uu] [(.ref o0)])) rfl rfl (hb hby d17_132)
  obtain ⟨T11, X11, e11, st11⟩ := getF X10 hx hZ hown (host := "") (Or.inl (ww hw 39 rfl)) Via.refl e10 F_ranges_o0 (g := (mkF m 125 #[va o0, vl q3, ss, vl 9223372036854775806, ss, vi 0, vi 1, uu, uu, uu, uu, uu] [(.ref o0), (.int 1)])) rfl rfl (hb hby d17_125)
  obtain ⟨T12, X12, e12, st12⟩ := getF X11 hx hZ hown (host := "") (Or.inl (ww hw 28 rfl)) Via.refl e11 F_firsts_o0 (g := (mkF m 161 #[va o0, vl q3, ss, vl 9223372036854775806, ss, vi 0, vi 1, vi 0, vi 1, vl 0, ss, uu] [(.ref o0)])) rfl rfl (hb hby d17_161)
  obtain ⟨T13, X13, e13, st13⟩ := getF X12 hx hZ hown (host := "") (Or.inl (ww hw 30 rfl)) Via.refl e12 F_lasts_o0 (g := (mkF m 175 #[va o0, vl q3, ss, vl 9223372036854775806, ss, vi 0, vi 1, vi 0, vi 1, vl 0, ss, uu] [(.ref o0), (.long 0)])) rfl rfl (hb hby d17_175)
  obtain ⟨T14, X14, e14, st14⟩ := getF X13 hx hZ hown (host := "") (Or.inl (ww hw 30 rfl)) Via.refl e13 F_lasts_o0 (g := (mkF m 189 #[va o0, vl q3, ss, vl 9223372036854775806, ss, vi 0, vi 1, vi 0, vi 1, vl ((0 : Int64) + ((q2 - q3) + (1 : Int64))), ss, uu] [(.ref o0)])) rfl rfl (hb hby d17_189)
  obtain ⟨T15, h15, X15, e15, W15, st15⟩ := stJ X14 hx hZ e14 Ar8 (j := (0 : Int32)) hin8_0 (g := (mkF m 197 #[va o0, vl q3, ss, vl 9223372036854775806, ss, vi 0, vi 1, vi 0, vi 1, vl ((0 : Int64) + ((q2 - q3) + (1 : Int64))), ss, uu] [(.long (q3 - (1 : Int64))), (.int 0), (.ref o2)])) rfl rfl (hb hby d17_197)
  have V15 : Arv Z h15 o2 kk_o2 .long (4 : Int32) [(.long (q3 - (1 : Int64))), (.long 0), (.long 0), (.long 0)] (.long 0) := Arv.set Ar8 qk8 Sz8 Ng8 Hh8 Gg8 rfl W15 0 rfl (Nat.le_of_ble_eq_true rfl)
  have O15 := O0.wr W15 g_o2
  have K15 : Keep h0 h15 [o2, o0, o1] := K0.wr W15 (Or.inl (List.mem_of_getElem? (i := 0) rfl))
  have N15 := Fr.snoc X15 N2 g_o2
  have fc16 := (E_o0.wr W15)
  have fc17 := (F_count_o0.other W15 (Or.inl ne_o0_o2))
  have fc18 := (F_firsts_o0.other W15 (Or.inl ne_o0_o2))
  have fc19 := (F_lasts_o0.other W15 (Or.inl ne_o0_o2))
  have fc20 := (F_maxRanges_o0.other W15 (Or.inl ne_o0_o2))
  have fc21 := (F_ranges_o0.other W15 (Or.inl ne_o0_o2))
  have fc22 := (V_o1.other W15 ne_o1_o2)
  obtain ⟨cq23, qa23, qb23⟩ := fc16.cell
  obtain ⟨_, _, ⟨T23, L23, k23, n23⟩, -, X23, ⟨Lc23, hQ23, l23, y23, z23⟩, st23⟩ := X15.privateBack hx (y := My16) hown (mvT hZ (ww hw 80 rfl)) (mvT hZ (ww hw 81 rfl)) (own_selp (by decide) (mvT hZ (ww hw 14 rfl)) (mvP hZ (ww hw 82 rfl)) (mvT hZ (ww hw 81 rfl))) (Cond.privateMethod_at (mvP hZ (ww hw 82 rfl) (args := #[]))) (mvT hZ (ww hw 83 rfl)) (by decide) (backOf (W := 0) (rm16_0 l Z a0 hw [] w_NONE o0 o1 o2 kk_o1 kk_o2 q0 q1 (q3 - (1 : Int64)) h15 n0 O15 S fc16 fc17 fc18 fc19 fc20 fc21 fc22 V15 ne_o0_o1 ne_o0_o2 ne_o1_o2 g_o0 g_o1 g_o2) hZ (ww hw 83 rfl) (ww hw 15 rfl) (by decide) (by decide)) (g := (mkF m 302 #[va o0, vl q3, ss, vl 9223372036854775806, ss, vi 0, vi 1, vi 1, vi 1, vl ((0 : Int64) + ((q2 - q3) + (1 : Int64))), ss, vi 1] [(.int 0), (.int 1), (.ref o0)])) rfl (by rw [hml]; rfl) (Steps.refl _) (a := o0) (by rw [e15]; exact qa23) qb23 (argsL := [(.int 1), (.int 0)]) (rest := []) (lenOf pd_11 rfl) rfl (by show 2 * 0 + _ ≤ _; exact Nat.le_of_eq rfl) (hb hby d17_302) (fun _ _ => ⟨rfl, e15, (by decide : 0 + 0 ≤ _), (by decide : 0 + 0 ≤ _)⟩)
  dsimp only [Pt.U, Pt.locs, Pt.cells, Pt.slots] at X23 l23 y23 z23 st23 hQ23
  subst l23 y23 z23
  obtain ⟨rfl, Nq23, Kc23, P0_23, P1_23, P2_23, P3_23, P4_23, P5_23, P6_23, P7_23⟩ := hQ23
  have N23 := Fr.app N15 Nq23
  have O23 := O15.keep Kc23 (allS g_o1 (allS g_o2 (allS g_o0 all0)))
  have K23 : Keep h0 T23.heap [o2, o0, o1] := K15.trans Kc23 (allS (Or.inl (List.mem_of_getElem? (i := 2) rfl)) (allS (Or.inl (List.mem_of_getElem? (i := 0) rfl)) (allS (Or.inl (List.mem_of_getElem? (i := 1) rfl)) all0)))
  obtain ⟨T24, X24, e24, st24⟩ := getF X23 hx hZ hown (host := "") (Or.inl (ww hw 73 rfl)) Via.refl rfl P1_23 (g := (mkF m 307 #[va o0, vl q3, ss, vl 9223372036854775806, ss, vi 0, vi 1, vi 1, vi 1, vl ((0 : Int64) + ((q2 - q3) + (1 : Int64))), ss, vi 1] [(.ref o0), (.ref o0)])) rfl rfl (hb hby d17_307)
  obtain ⟨T25, h25, X25, e25, W25, st25⟩ := putF X24 hx hZ hown (host := "") (Or.inl (ww hw 73 rfl)) Via.refl e24 P1_23 P0_23 (Or.inl (ww hw 74 rfl)) (ww hw 14 rfl) (ty := .long) (by decide) rfl rfl (g := (mkF m 313 #[va o0, vl q3, ss, vl 9223372036854775806, ss, vi 0, vi 1, vi 1, vi 1, vl ((0 : Int64) + ((q2 - q3) + (1 : Int64))), ss, vi 1] [(.long (q0 - ((0 : Int64) + ((q2 - q3) + (1 : Int64))))), (.ref o0)])) rfl rfl (hb hby d17_313)
  have Fw25 := P1_23.same W25
  have O25 := O23.wr W25 g_o0
  have K25 : Keep h0 h25 [o2, o0, o1] := K23.wr W25 (Or.inl (List.mem_of_getElem? (i := 1) rfl))
  have N25 := Fr.snoc X25 N23 g_o0
  obtain ⟨fs, hr, hrun, hended, hW, hsame⟩ := X25.leave (v := none) (fun _ => rfl)
  have fc26 := (P0_23.wr W25)
  have fc27 := (P2_23.other W25 (Or.inr (slot_ne (Or.inl (ww hw 29 rfl)) (Or.inl (ww hw 74 rfl)) (by decide) (t := (.array .long)) (t' := .long) (by decide) (by decide))))
  have fc28 := (P3_23.other W25 (Or.inr (slot_ne (Or.inl (ww hw 31 rfl)) (Or.inl (ww hw 74 rfl)) (by decide) (t := (.array .long)) (t' := .long) (by decide) (by decide))))
  have fc29 := (P4_23.other W25 (Or.inr (slot_ne (Or.inr (ww hw 33 rfl)) (Or.inl (ww hw 74 rfl)) (by decide) (t := .int) (t' := .long) (by decide) (by decide))))
  have fc30 := (P5_23.other W25 (Or.inr (slot_ne (Or.inl (ww hw 40 rfl)) (Or.inl (ww hw 74 rfl)) (by decide) (t := .int) (t' := .long) (by decide) (by decide))))
  have fc31 := (P6_23.other W25 (Ne.symm ne_o0_o1))
  have fc32 := (P7_23.other W25 (Ne.symm ne_o0_o2))
  refine ⟨_, _, ?_, hrun, hended, _, _, rfl, ?_, ⟨_, rfl⟩, hW, hsame.mono (by decide) (by decide)⟩
  · show Steps p.tables e below (s₁.setTop (mkF m 0 #[va o0, vl q3, ss, vl 9223372036854775806, ss, uu, uu, uu, uu, uu, uu, uu] [])) _
    refine XS.lloadN X0.here hx rfl (hb hby d17_0) rfl ?_
    refine XS.lloadN X0.here hx rfl (hb hby d17_1) rfl ?_
    refine st1 _ ?_
    refine XS.aloadN X1.here hx rfl (hb hby d17_5) rfl rfl ?_
    refine XS.lloadN X1.here hx rfl (hb hby d17_6) rfl ?_
    refine st2.trans ?_
    refine XS.istore X2.here hx rfl (hb hby d17_10) rfl (l' := #[va o0, vl q3, ss, vl 9223372036854775806, ss, vi 0, uu, uu, uu, uu, uu, uu]) rfl ?_
    refine XS.iload X2.here hx rfl (hb hby d17_12) rfl ?_
    show Steps p.tables e below (T2.setTop (mkF m 14 #[va o0, vl q3, ss, vl 9223372036854775806, ss, vi 0, uu, uu, uu, uu, uu, uu] [(.int 0)])) _
    refine XS.aloadN X2.here hx rfl (hb hby d17_14) rfl rfl ?_
    refine st3 _ ?_
    refine XS.icmpNo X3.here hx rfl (hb hby d17_18) rfl (feq (by decide : ¬ ((0 : Int32) = (1 : Int32)))).1 ?_
    refine XS.aloadN X3.here hx rfl (hb hby d17_21) rfl rfl ?_
    refine st4 _ ?_
    refine XS.iload X4.here hx rfl (hb hby d17_25) rfl ?_
    refine X4.laload hx (j := (0 : Int32)) (v := (.long q1)) (by rw [e4]; exact Ar5.1) (State.isArrayOf_alike hZ.alike Ar5.2.1) Ar5.2.2 hin5_0 (Has.at Hh5 hin5_0 rfl) (g := (mkF m 27 #[va o0, vl q3, ss, vl 9223372036854775806, ss, vi 0, uu, uu, uu, uu, uu, uu] [(.int 0), (.ref o1)])) rfl rfl (hb hby d17_27) _ ?_
    refine XS.lloadN X4.here hx rfl (hb hby d17_28) rfl ?_
    show Steps p.tables e below (T4.setTop (mkF m 29 #[va o0, vl q3, ss, vl 9223372036854775806, ss, vi 0, uu, uu, uu, uu, uu, uu] [(.long 9223372036854775806), (.long q1)])) _
    refine XS.lcmp X4.here hx rfl (hb hby d17_29) rfl ?_
    refine XS.ifYes X4.here hx rfl (pc0 := 30) (pc' := 34) rfl (hb hby d17_30) rfl (own_lc_gtF hc3).2 (by decide) (by decide) ?_
    refine XS.aloadN X4.here hx rfl (hb hby d17_34) rfl rfl ?_
    refine st6 _ ?_
    refine XS.iload X6.here hx rfl (hb hby d17_38) rfl ?_
    refine X6.laload hx (j := (0 : Int32)) (v := (.long q1)) (by rw [e6]; exact Ar5.1) (State.isArrayOf_alike hZ.alike Ar5.2.1) Ar5.2.2 hin5_0 (Has.at Hh5 hin5_0 rfl) (g := (mkF m 40 #[va o0, vl q3, ss, vl 9223372036854775806, ss, vi 0, uu, uu, uu, uu, uu, uu] [(.int 0), (.ref o1)])) rfl rfl (hb hby d17_40) _ ?_
    refine XS.lloadN X6.here hx rfl (hb hby d17_41) rfl ?_
    refine XS.lcmp X6.here hx rfl (hb hby d17_42) rfl ?_
    show Steps p.tables e below (T6.setTop (mkF m 43 #[va o0, vl q3, ss, vl 9223372036854775806, ss, vi 0, uu, uu, uu, uu, uu, uu] [(.int (lcmpW q1 q3))])) _
    refine XS.ifNo X6.here hx rfl (hb hby d17_43) rfl (own_lc_ltT hc4).2 ?_
    refine XS.aloadN X6.here hx rfl (hb hby d17_46) rfl rfl ?_
    refine st7 _ ?_
    refine XS.iload X7.here hx rfl (hb hby d17_50) rfl ?_
    refine X7.laload hx (j := (0 : Int32)) (v := (.long q2)) (by rw [e7]; exact Ar8.1) (State.isArrayOf_alike hZ.alike Ar8.2.1) Ar8.2.2 hin8_0 (Has.at Hh8 hin8_0 rfl) (g := (mkF m 52 #[va o0, vl q3, ss, vl 9223372036854775806, ss, vi 0, uu, uu, uu, uu, uu, uu] [(.int 0), (.ref o2)])) rfl rfl (hb hby d17_52) _ ?_
    refine XS.lloadN X7.here hx rfl (hb hby d17_53) rfl ?_
    refine XS.lcmp X7.here hx rfl (hb hby d17_54) rfl ?_
    refine XS.ifYes X7.here hx rfl (pc0 := 55) (pc' := 118) rfl (hb hby d17_55) rfl (own_lc_gtF hc5).2 (by decide) (by decide) ?_
    show Steps p.tables e below (T7.setTop (mkF m 118 #[va o0, vl q3, ss, vl 9223372036854775806, ss, vi 0, uu, uu, uu, uu, uu, uu] [])) _
    refine XS.iload X7.here hx rfl (hb hby d17_118) rfl ?_
    refine XS.istore X7.here hx rfl (hb hby d17_120) rfl (l' := #[va o0, vl q3, ss, vl 9223372036854775806, ss, vi 0, vi 0, uu, uu, uu, uu, uu]) rfl ?_
    refine XS.iload X7.here hx rfl (hb hby d17_122) rfl ?_
    refine XS.aloadN X7.here hx rfl (hb hby d17_124) rfl rfl ?_
    refine st9 _ ?_
    refine XS.icmpNo X9.here hx rfl (hb hby d17_128) rfl (tlt (by decide : (0 : Int32) < (1 : Int32))).2.1 ?_
    refine XS.aloadN X9.here hx rfl (hb hby d17_131) rfl rfl ?_
    refine st10 _ ?_
    show Steps p.tables e below (T10.setTop (mkF m 135 #[va o0, vl q3, ss, vl 9223372036854775806, ss, vi 0, vi 0, uu, uu, uu, uu, uu] [(.ref o1)])) _
    refine XS.iload X10.here hx rfl (hb hby d17_135) rfl ?_
    refine X10.laload hx (j := (0 : Int32)) (v := (.long q1)) (by rw [e10]; exact Ar5.1) (State.isArrayOf_alike hZ.alike Ar5.2.1) Ar5.2.2 hin5_0 (Has.at Hh5 hin5_0 rfl) (g := (mkF m 137 #[va o0, vl q3, ss, vl 9223372036854775806, ss, vi 0, vi 0, uu, uu, uu, uu, uu] [(.int 0), (.ref o1)])) rfl rfl (hb hby d17_137) _ ?_
    refine XS.lloadN X10.here hx rfl (hb hby d17_138) rfl ?_
    refine XS.lcmp X10.here hx rfl (hb hby d17_139) rfl ?_
    refine XS.ifNo X10.here hx rfl (hb hby d17_140) rfl (own_lc_gtF hc3).1 ?_
    refine XS.iinc X10.here hx rfl (hb hby d17_143) rfl (l' := #[va o0, vl q3, ss, vl 9223372036854775806, ss, vi 0, vi ((0 : Int32) + (1 : Int32)), uu, uu, uu, uu, uu]) rfl ?_
    show Steps p.tables e below (T10.setTop (mkF m 146 #[va o0, vl q3, ss, vl 9223372036854775806, ss, vi 0, vi ((0 : Int32) + (1 : Int32)), uu, uu, uu, uu, uu] [])) _
    rw [show (((0 : Int32) + (1 : Int32)) : Int32) = (1 : Int32) from by decide]
    refine XS.goto X10.here hx rfl (pc0 := 146) (pc' := 122) rfl (hb hby d17_146) (by decide) (by decide) ?_
    refine XS.iload X10.here hx rfl (hb hby d17_122) rfl ?_
    refine XS.aloadN X10.here hx rfl (hb hby d17_124) rfl rfl ?_
    refine st11 _ ?_
    refine XS.icmpYes X11.here hx rfl (pc0 := 128) (pc' := 149) rfl (hb hby d17_128) rfl (flt (by decide : ¬ ((1 : Int32) < (1 : Int32)))).2.1 (by decide) (by decide) ?_
    refine XS.iload X11.here hx rfl (hb hby d17_149) rfl ?_
    refine XS.istore X11.here hx rfl (hb hby d17_151) rfl (l' := #[va o0, vl q3, ss, vl 9223372036854775806, ss, vi 0, vi 1, vi 0, uu, uu, uu, uu]) rfl ?_
    show Steps p.tables e below (T11.setTop (mkF m 153 #[va o0, vl q3, ss, vl 9223372036854775806, ss, vi 0, vi 1, vi 0, uu, uu, uu, uu] [])) _
    refine XS.iload X11.here hx rfl (hb hby d17_153) rfl ?_
    refine XS.istore X11.here hx rfl (hb hby d17_155) rfl (l' := #[va o0, vl q3, ss, vl 9223372036854775806, ss, vi 0, vi 1, vi 0, vi 1, uu, uu, uu]) rfl ?_
    refine XS.lconst X11.here hx rfl (hb hby d17_157) ?_
    refine XS.lstore X11.here hx rfl (hb hby d17_158) rfl (l' := #[va o0, vl q3, ss, vl 9223372036854775806, ss, vi 0, vi 1, vi 0, vi 1, vl 0, ss, uu]) rfl ?_
    refine XS.aloadN X11.here hx rfl (hb hby d17_160) rfl rfl ?_
    refine st12 _ ?_
    refine XS.iload X12.here hx rfl (hb hby d17_164) rfl ?_
    refine X12.laload hx (j := (0 : Int32)) (v := (.long q1)) (by rw [e12]; exact Ar5.1) (State.isArrayOf_alike hZ.alike Ar5.2.1) Ar5.2.2 hin5_0 (Has.at Hh5 hin5_0 rfl) (g := (mkF m 166 #[va o0, vl q3, ss, vl 9223372036854775806, ss, vi 0, vi 1, vi 0, vi 1, vl 0, ss, uu] [(.int 0), (.ref o1)])) rfl rfl (hb hby d17_166) _ ?_
    show Steps p.tables e below (T12.setTop (mkF m 167 #[va o0, vl q3, ss, vl 9223372036854775806, ss, vi 0, vi 1, vi 0, vi 1, vl 0, ss, uu] [(.long q1)])) _
    refine XS.lloadN X12.here hx rfl (hb hby d17_167) rfl ?_
    refine XS.lcmp X12.here hx rfl (hb hby d17_168) rfl ?_
    refine XS.ifNo X12.here hx rfl (hb hby d17_169) rfl (own_lc_ltT hc4).2 ?_
    refine XS.lload X12.here hx rfl (hb hby d17_172) rfl ?_
    refine XS.aloadN X12.here hx rfl (hb hby d17_174) rfl rfl ?_
    refine st13 _ ?_
    refine XS.iload X13.here hx rfl (hb hby d17_178) rfl ?_
    refine X13.laload hx (j := (0 : Int32)) (v := (.long q2)) (by rw [e13]; exact Ar8.1) (State.isArrayOf_alike hZ.alike Ar8.2.1) Ar8.2.2 hin8_0 (Has.at Hh8 hin8_0 rfl) (g := (mkF m 180 #[va o0, vl q3, ss, vl 9223372036854775806, ss, vi 0, vi 1, vi 0, vi 1, vl 0, ss, uu] [(.int 0), (.ref o2), (.long 0)])) rfl rfl (hb hby d17_180) _ ?_
    show Steps p.tables e below (T13.setTop (mkF m 181 #[va o0, vl q3, ss, vl 9223372036854775806, ss, vi 0, vi 1, vi 0, vi 1, vl 0, ss, uu] [(.long q2), (.long 0)])) _
    refine XS.lloadN X13.here hx rfl (hb hby d17_181) rfl ?_
    refine XS.lsub X13.here hx rfl (hb hby d17_182) rfl ?_
    refine XS.lconst X13.here hx rfl (hb hby d17_183) ?_
    refine XS.ladd X13.here hx rfl (hb hby d17_184) rfl ?_
    refine XS.ladd X13.here hx rfl (hb hby d17_185) rfl ?_
    refine XS.lstore X13.here hx rfl (hb hby d17_186) rfl (l' := #[va o0, vl q3, ss, vl 9223372036854775806, ss, vi 0, vi 1, vi 0, vi 1, vl ((0 : Int64) + ((q2 - q3) + (1 : Int64))), ss, uu]) rfl ?_
    refine XS.aloadN X13.here hx rfl (hb hby d17_188) rfl rfl ?_
    refine st14 _ ?_
    show Steps p.tables e below (T14.setTop (mkF m 192 #[va o0, vl q3, ss, vl 9223372036854775806, ss, vi 0, vi 1, vi 0, vi 1, vl ((0 : Int64) + ((q2 - q3) + (1 : Int64))), ss, uu] [(.ref o2)])) _
    refine XS.iload X14.here hx rfl (hb hby d17_192) rfl ?_
    refine XS.lloadN X14.here hx rfl (hb hby d17_194) rfl ?_
    refine XS.lconst X14.here hx rfl (hb hby d17_195) ?_
    refine XS.lsub X14.here hx rfl (hb hby d17_196) rfl ?_
    refine st15 _ ?_
    refine XS.iinc X15.here hx rfl (hb hby d17_198) rfl (l' := #[va o0, vl q3, ss, vl 9223372036854775806, ss, vi 0, vi 1, vi ((0 : Int32) + (1 : Int32)), vi 1, vl ((0 : Int64) + ((q2 - q3) + (1 : Int64))), ss, uu]) rfl ?_
    show Steps p.tables e below (T15.setTop (mkF m 201 #[va o0, vl q3, ss, vl 9223372036854775806, ss, vi 0, vi 1, vi ((0 : Int32) + (1 : Int32)), vi 1, vl ((0 : Int64) + ((q2 - q3) + (1 : Int64))), ss, uu] [])) _
    rw [show (((0 : Int32) + (1 : Int32)) : Int32) = (1 : Int32) from by decide]
    refine XS.iload X15.here hx rfl (hb hby d17_201) rfl ?_
    refine XS.iload X15.here hx rfl (hb hby d17_203) rfl ?_
    refine XS.icmpYes X15.here hx rfl (pc0 := 205) (pc' := 255) rfl (hb hby d17_205) rfl (flt (by decide : ¬ ((1 : Int32) < (1 : Int32)))).2.1 (by decide) (by decide) ?_
    refine XS.iload X15.here hx rfl (hb hby d17_255) rfl ?_
    refine XS.istore X15.here hx rfl (hb hby d17_257) rfl (l' := #[va o0, vl q3, ss, vl 9223372036854775806, ss, vi 0, vi 1, vi 1, vi 1, vl ((0 : Int64) + ((q2 - q3) + (1 : Int64))), ss, vi 1]) rfl ?_
    refine XS.iload X15.here hx rfl (hb hby d17_259) rfl ?_
    refine XS.iload X15.here hx rfl (hb hby d17_261) rfl ?_
    show Steps p.tables e below (T15.setTop (mkF m 263 #[va o0, vl q3, ss, vl 9223372036854775806, ss, vi 0, vi 1, vi 1, vi 1, vl ((0 : Int64) + ((q2 - q3) + (1 : Int64))), ss, vi 1] [(.int 1), (.int 1)])) _
    refine XS.icmpYes X15.here hx rfl (pc0 := 263) (pc' := 294) rfl (hb hby d17_263) rfl (flt (by decide : ¬ ((1 : Int32) < (1 : Int32)))).2.1 (by decide) (by decide) ?_
    refine XS.aloadN X15.here hx rfl (hb hby d17_294) rfl rfl ?_
    refine XS.iload X15.here hx rfl (hb hby d17_295) rfl ?_
    refine XS.iload X15.here hx rfl (hb hby d17_297) rfl ?_
    refine XS.iload X15.here hx rfl (hb hby d17_299) rfl ?_
    refine XS.isub X15.here hx rfl (hb hby d17_301) rfl ?_
    show Steps p.tables e below (T15.setTop (mkF m 302 #[va o0, vl q3, ss, vl 9223372036854775806, ss, vi 0, vi 1, vi 1, vi 1, vl ((0 : Int64) + ((q2 - q3) + (1 : Int64))), ss, vi 1] [(.int ((1 : Int32) - (1 : Int32))), (.int 1), (.ref o0)])) _
    rw [show (((1 : Int32) - (1 : Int32)) : Int32) = (0 : Int32) from by decide]
    refine st23.trans ?_
    refine XS.aloadN X23.here hx rfl (hb hby d17_305) rfl rfl ?_
    refine XS.dup X23.here hx rfl (hb hby d17_306) rfl rfl ?_
    refine st24 _ ?_
    refine XS.lload X24.here hx rfl (hb hby d17_310) rfl ?_
    refine XS.lsub X24.here hx rfl (hb hby d17_312) rfl ?_
    refine st25 _ ?_
    show Steps p.tables e below (T25.setTop (mkF m 316 #[va o0, vl q3, ss, vl 9223372036854775806, ss, vi 0, vi 1, vi 1, vi 1, vl ((0 : Int64) + ((q2 - q3) + (1 : Int64))), ss, vi 1] [])) _
    exact X25.returnOut hx hrt (hb hby d17_316) hr
  · show Q17_5 Z w_NONE o0 o1 o2 kk_o1 kk_o2 q3 q0 q1 q2 h0 n0 none T25.heap _
    rw [e25]; exact ⟨rfl, N25, K25, fc26, Fw25, fc27, fc28, fc29, fc30, fc31, fc32⟩
def Q17_6 (Z : State) (w_NONE : Addr) (o0 : Addr) (o1 : Addr) (o2 : Addr) (kk_o1 : ClassId) (kk_o2 : ClassId) (q3 : Int64) (q0 : Int64) (q1 : Int64) (q2 : Int64) (h0 : Heap) (n0 : Nat) (v : Option Value) (h : Heap) (L : List Loc) : Prop := v = none ∧ Fr n0 L ∧ h = h0
theorem rm17_6 (l : Launch) (Z : State) (a0 : Array Value) (hw : HW Z a0) (ws : List Jvm.Cond) (w_NONE : Addr) (o0 : Addr) (o1 : Addr) (o2 : Addr) (kk_o1 : ClassId) (kk_o2 : ClassId) (q3 : Int64) (q0 : Int64) (q1 : Int64) (q2 : Int64) (h0 : Heap) (n0 : Nat) (O0 : Old Z n0 h0) (S : SF Z w_NONE) (E_o0 : Exa Z h0 o0 sC0) (F_lasts_o0 : Fld Z h0 o0 sC0 "lasts" "[J" (.ref o2)) (F_ranges_o0 : Fld Z h0 o0 sC0 "ranges" "I" (.int 1)) (V_o2 : Arv Z h0 o2 kk_o2 .long (4 : Int32) [(.long q2), (.long 0), (.long 0), (.long 0)] (.long 0)) (hc0 : ¬ (q3 < (0 : Int64))) (hc1 : ¬ ((9223372036854775806 : Int64) < q3)) (hc2 : q2 < q3) :
    Pay l Z My17 ws prog_55_method_10_code 12 none #[(.ref o0), (.long q3), (.long 9223372036854775806)] h0 ({ frames := 1, cells := 0, slots := 0, locals := 17 } : Room) (Q17_6 Z w_NONE o0 o1 o2 kk_o1 kk_o2 q3 q0 q1 q2 h0 n0) := by
  refine own_body (plainFor_of_name pn_1) (L0 := #[va o0, vl q3, ss, vl 9223372036854775806, ss, uu, uu, uu, uu, uu, uu, uu]) (fun _ => by first | rfl | (simp [entryFrame, mkF, argsToLocals, Value.category]; done)) ?_
  intro p e s m below meth c s₁ hrt hlk hx hby hml hZ hown0 hnm X0 e0
  have hown : s.vm.findClass sC0 = some m.cls := hown0
  have N0 := Fr.nil n0
  have K0 : Keep h0 h0 [] := Keep.refl _ _
  obtain ⟨_, _, ⟨T1, L1, k1, n1⟩, -, X1, ⟨Lc1, hQ1, l1, y1, z1⟩, st1⟩ := Jvm.LawKit.callS X0 hx (y := My9) hown (mvT hZ (ww hw 46 rfl)) (mvT hZ (ww hw 47 rfl)) (mvT hZ (ww hw 15 rfl)) (mvT hZ (ww hw 48 rfl)) (by decide) (backOf (W := 0) (rm9_1 l Z a0 hw [] w_NONE q3 h0 n0 O0 S hc0 hc1) hZ (ww hw 48 rfl) (ww hw 15 rfl) (by decide) (by decide)) (g := (mkF m 2 #[va o0, vl q3, ss, vl 9223372036854775806, ss, uu, uu, uu, uu, uu, uu, uu] [(.long 9223372036854775806), (.long q3)])) rfl (by rw [hml]; rfl) (argsL := [(.long q3), (.long 9223372036854775806)]) (rest := []) (lenOf pd_4 rfl) rfl (by show 2 * 0 + _ ≤ _; exact Nat.le_of_eq rfl) (hb hby d17_2) (fun _ _ => ⟨rfl, e0, (by decide : 0 + 0 ≤ _), (by decide : 0 + 0 ≤ _)⟩)
  dsimp only [Pt.U, Pt.locs, Pt.cells, Pt.slots] at X1 l1 y1 z1 st1 hQ1
  subst l1 y1 z1
  obtain ⟨rfl, Nq1, e1⟩ := hQ1
  have N1 := Fr.app N0 Nq1
  obtain ⟨cq2, qa2, qb2⟩ := E_o0.cell
  obtain ⟨_, _, ⟨T2, L2, k2, n2⟩, -, X2, ⟨Lc2, hQ2, l2, y2, z2⟩, st2⟩ := X1.privateBack hx (y := My10) hown (mvT hZ (ww hw 49 rfl)) (mvT hZ (ww hw 50 rfl)) (own_selp (by decide) (mvT hZ (ww hw 14 rfl)) (mvP hZ (ww hw 51 rfl)) (mvT hZ (ww hw 50 rfl))) (Cond.privateMethod_at (mvP hZ (ww hw 51 rfl) (args := #[]))) (mvT hZ (ww hw 52 rfl)) (by decide) (backOf (W := 0) (rm10_4 l Z a0 hw [] w_NONE o0 o1 o2 kk_o1 kk_o2 q3 q0 q1 q2 h0 n0 O0 S F_lasts_o0 F_ranges_o0 V_o2 hc2) hZ (ww hw 52 rfl) (ww hw 15 rfl) (by decide) (by decide)) (g := (mkF m 7 #[va o0, vl q3, ss, vl 9223372036854775806, ss, uu, uu, uu, uu, uu, uu, uu] [(.long q3), (.ref o0)])) rfl (by rw [hml]; rfl) (Steps.refl _) (a := o0) (by rw [e1]; exact qa2) qb2 (argsL := [(.long q3)]) (rest := []) (lenOf pd_5 rfl) rfl (by show 2 * 0 + _ ≤ _; exact Nat.le_of_eq rfl) (hb hby d17_7) (fun _ _ => ⟨rfl, e1, (by decide : 0 + 0 ≤ _), (by decide : 0 + 0 ≤ _)⟩)
  dsimp only [Pt.U, Pt.locs, Pt.cells, Pt.slots] at X2 l2 y2 z2 st2 hQ2
  subst l2 y2 z2
  obtain ⟨rfl, Nq2, e2⟩ := hQ2
  have N2 := Fr.app N1 Nq2
  obtain ⟨T3, X3, e3, st3⟩ := getF X2 hx hZ hown (host := "") (Or.inl (ww hw 39 rfl)) Via.refl e2 F_ranges_o0 (g := (mkF m 15 #[va o0, vl q3, ss, vl 9223372036854775806, ss, vi 1, uu, uu, uu, uu, uu, uu] [(.ref o0), (.int 1)])) rfl rfl (hb hby d17_15)
  obtain ⟨fs, hr, hrun, hended, hW, hsame⟩ := X3.leave (v := none) (fun _ => rfl)
  refine ⟨_, _, ?_, hrun, hended, _, _, rfl, ?_, ⟨_, rfl⟩, hW, hsame.mono (by decide) (by decide)⟩
  · show Steps p.tables e below (s₁.setTop (mkF m 0 #[va o0, vl q3, ss, vl 9223372036854775806, ss, uu, uu, uu, uu, uu, uu, uu] [])) _
    refine XS.lloadN X0.here hx rfl (hb hby d17_0) rfl ?_
    refine XS.lloadN X0.here hx rfl (hb hby d17_1) rfl ?_
    refine st1 _ ?_
    refine XS.aloadN X1.here hx rfl (hb hby d17_5) rfl rfl ?_
    refine XS.lloadN X1.here hx rfl (hb hby d17_6) rfl ?_
    refine st2.trans ?_
    refine XS.istore X2.here hx rfl (hb hby d17_10) rfl (l' := #[va o0, vl q3, ss, vl 9223372036854775806, ss, vi 1, uu, uu, uu, uu, uu, uu]) rfl ?_
    refine XS.iload X2.here hx rfl (hb hby d17_12) rfl ?_
    show Steps p.tables e below (T2.setTop (mkF m 14 #[va o0, vl q3, ss, vl 9223372036854775806, ss, vi 1, uu, uu, uu, uu, uu, uu] [(.int 1)])) _
    refine XS.aloadN X2.here hx rfl (hb hby d17_14) rfl rfl ?_
    refine st3 _ ?_
    refine XS.icmpYes X3.here hx rfl (pc0 := 18) (pc' := 33) rfl (hb hby d17_18) rfl (teq (by decide : (1 : Int32) = (1 : Int32))).1 (by decide) (by decide) ?_
    exact X3.returnOut hx hrt (hb hby d17_33) hr
  · show Q17_6 Z w_NONE o0 o1 o2 kk_o1 kk_o2 q3 q0 q1 q2 h0 n0 none T3.heap _
    exact (⟨rfl, N2, e3⟩)
def Q16_4 (Z : State) (w_NONE : Addr) (o0 : Addr) (o1 : Addr) (o2 : Addr) (kk_o1 : ClassId) (kk_o2 : ClassId) (q0 : Int64) (q1 : Int64) (q2 : Int64) (h0 : Heap) (n0 : Nat) (v : Option Value) (h : Heap) (L : List Loc) : Prop := v = none ∧ Fr n0 L ∧ Keep h0 h [o1, o2, o0] ∧ Exa Z h o0 sC0 ∧ Fld Z h o0 sC0 "count" "J" (.long q0) ∧ Fld Z h o0 sC0 "firsts" "[J" (.ref o1) ∧ Fld Z h o0 sC0 "lasts" "[J" (.ref o2) ∧ Fld Z h o0 sC0 "maxRanges" "I" (.int 2147483647) ∧ Fld Z h o0 sC0 "ranges" "I" (.int 0) ∧ Arv Z h o1 kk_o1 .long (4 : Int32) [(.long q1), (.long 0), (.long 0), (.long 0)] (.long 0) ∧ Arv Z h o2 kk_o2 .long (4 : Int32) [(.long q2), (.long 0), (.long 0), (.long 0)] (.long 0)
theorem rm16_4 (l : Launch) (Z : State) (a0 : Array Value) (hw : HW Z a0) (ws : List Jvm.Cond) (w_NONE : Addr) (o0 : Addr) (o1 : Addr) (o2 : Addr) (kk_o1 : ClassId) (kk_o2 : ClassId) (q0 : Int64) (q1 : Int64) (q2 : Int64) (h0 : Heap) (n0 : Nat) (O0 : Old Z n0 h0) (S : SF Z w_NONE) (E_o0 : Exa Z h0 o0 sC0) (F_count_o0 : Fld Z h0 o0 sC0 "count" "J" (.long q0)) (F_firsts_o0 : Fld Z h0 o0 sC0 "firsts" "[J" (.ref o1)) (F_lasts_o0 : Fld Z h0 o0 sC0 "lasts" "[J" (.ref o2)) (F_maxRanges_o0 : Fld Z h0 o0 sC0 "maxRanges" "I" (.int 2147483647)) (F_ranges_o0 : Fld Z h0 o0 sC0 "ranges" "I" (.int 1)) (V_o1 : Arv Z h0 o1 kk_o1 .long (4 : Int32) [(.long q1), (.long 0), (.long 0), (.long 0)] (.long 0)) (V_o2 : Arv Z h0 o2 kk_o2 .long (4 : Int32) [(.long q2), (.long 0), (.long 0), (.long 0)] (.long 0)) (ne_o0_o1 : o0 ≠ o1) (ne_o0_o2 : o0 ≠ o2) (ne_o1_o2 : o1 ≠ o2) (g_o0 : n0 ≤ o0) (g_o1 : n0 ≤ o1) (g_o2 : n0 ≤ o2) :
    Pay l Z My16 ws prog_55_method_22_code 3 none #[(.ref o0), (.int 0), (.int 1)] h0 ({ frames := 1, cells := 0, slots := 0, locals := 18 } : Room) (Q16_4 Z w_NONE o0 o1 o2 kk_o1 kk_o2 q0 q1 q2 h0 n0) := by
  refine own_body (plainFor_of_name pn_1) (L0 := #[va o0, vi 0, vi 1]) (fun _ => by first | rfl | (simp [entryFrame, mkF, argsToLocals, Value.category]; done)) ?_
  intro p e s m below meth c s₁ hrt hlk hx hby hml hZ hown0 hnm X0 e0
  have hown : s.vm.findClass sC0 = some m.cls := hown0
  have N0 := Fr.nil n0
  have K0 : Keep h0 h0 [o1, o2, o0] := Keep.refl _ _
  obtain ⟨T1, X1, e1, st1⟩ := getF X0 hx hZ hown (host := "") (Or.inl (ww hw 28 rfl)) Via.refl e0 F_firsts_o0 (g := (mkF m 1 #[va o0, vi 0, vi 1] [(.ref o0)])) rfl rfl (hb hby d16_1)
  obtain ⟨T2, X2, e2, st2⟩ := getF X1 hx hZ hown (host := "") (Or.inl (ww hw 28 rfl)) Via.refl e1 F_firsts_o0 (g := (mkF m 8 #[va o0, vi 0, vi 1] [(.ref o0), (.int 1), (.ref o1)])) rfl rfl (hb hby d16_8)
  obtain ⟨T3, X3, e3, st3⟩ := getF X2 hx hZ hown (host := "") (Or.inl (ww hw 39 rfl)) Via.refl e2 F_ranges_o0 (g := (mkF m 13 #[va o0, vi 0, vi 1] [(.ref o0), (.int 0), (.ref o1), (.int 1), (.ref o1)])) rfl rfl (hb hby d16_13)
  obtain ⟨T4, h4, L4, X4, e4, N4, Kc4, Vc4, st4⟩ := cpA X3 hx hZ hown (ww hw 72 rfl) (ww hw 71 rfl) (ww hw 69 rfl) (ww hw 70 rfl) e3 V_o1 V_o1 (us := []) (Or.inl ⟨rfl, rfl⟩) (sp := (1 : Int32)) (dp := (0 : Int32)) (nn := (0 : Int32)) (by decide) (by decide) (by decide) (by decide) (by decide) rfl (Nat.le_of_ble_eq_true rfl) N0 g_o1 (g := (mkF m 20 #[va o0, vi 0, vi 1] [(.int 0), (.int 0), (.ref o1), (.int 1), (.ref o1)])) rfl (by rw [hml]; rfl) (rest := []) rfl (hb hby d16_20) (by decide) (W := 0) (by show 2 * 0 + _ ≤ _; exact Nat.le_of_eq rfl) (by decide)
  have V4 : Arv Z h4 o1 kk_o1 .long (4 : Int32) [(.long q1), (.long 0), (.long 0), (.long 0)] (.long 0) := Vc4
  have O4 := O0.keep Kc4 (allS g_o1 all0)
  have K4 : Keep h0 h4 [o1, o2, o0] := K0.trans Kc4 (allS (Or.inl (List.mem_of_getElem? (i := 0) rfl)) all0)
  have fc5 := (F_lasts_o0.keep Kc4 (ninS ne_o0_o1 nin0))
  obtain ⟨T6, X6, e6, st6⟩ := getF X4 hx hZ hown (host := "") (Or.inl (ww hw 30 rfl)) Via.refl e4 fc5 (g := (mkF m 24 #[va o0, vi 0, vi 1] [(.ref o0)])) rfl rfl (hb hby d16_24)
  obtain ⟨T7, X7, e7, st7⟩ := getF X6 hx hZ hown (host := "") (Or.inl (ww hw 30 rfl)) Via.refl e6 fc5 (g := (mkF m 31 #[va o0, vi 0, vi 1] [(.ref o0), (.int 1), (.ref o2)])) rfl rfl (hb hby d16_31)
  have fc8 := (F_ranges_o0.keep Kc4 (ninS ne_o0_o1 nin0))
  obtain ⟨T9, X9, e9, st9⟩ := getF X7 hx hZ hown (host := "") (Or.inl (ww hw 39 rfl)) Via.refl e7 fc8 (g := (mkF m 36 #[va o0, vi 0, vi 1] [(.ref o0), (.int 0), (.ref o2), (.int 1), (.ref o2)])) rfl rfl (hb hby d16_36)
  have fc10 := (V_o2.keep Kc4 (ninS (Ne.symm ne_o1_o2) nin0))
  obtain ⟨T11, h11, L11, X11, e11, N11, Kc11, Vc11, st11⟩ := cpA X9 hx hZ hown (ww hw 72 rfl) (ww hw 71 rfl) (ww hw 69 rfl) (ww hw 70 rfl) e9 fc10 fc10 (us := []) (Or.inl ⟨rfl, rfl⟩) (sp := (1 : Int32)) (dp := (0 : Int32)) (nn := (0 : Int32)) (by decide) (by decide) (by decide) (by decide) (by decide) rfl (Nat.le_of_ble_eq_true rfl) N4 g_o2 (g := (mkF m 43 #[va o0, vi 0, vi 1] [(.int 0), (.int 0), (.ref o2), (.int 1), (.ref o2)])) rfl (by rw [hml]; rfl) (rest := []) rfl (hb hby d16_43) (by decide) (W := 0) (by show 2 * 0 + _ ≤ _; exact Nat.le_of_eq rfl) (by decide)
  have V11 : Arv Z h11 o2 kk_o2 .long (4 : Int32) [(.long q2), (.long 0), (.long 0), (.long 0)] (.long 0) := Vc11
  have O11 := O4.keep Kc11 (allS g_o2 all0)
  have K11 : Keep h0 h11 [o1, o2, o0] := K4.trans Kc11 (allS (Or.inl (List.mem_of_getElem? (i := 1) rfl)) all0)
  have fc12 := (fc8.keep Kc11 (ninS ne_o0_o2 nin0))
  obtain ⟨T13, X13, e13, st13⟩ := getF X11 hx hZ hown (host := "") (Or.inl (ww hw 39 rfl)) Via.refl e11 fc12 (g := (mkF m 48 #[va o0, vi 0, vi 1] [(.ref o0), (.ref o0)])) rfl rfl (hb hby d16_48)
  have fc14 := ((E_o0.keep Kc4).keep Kc11)
  obtain ⟨T15, h15, X15, e15, W15, st15⟩ := putF X13 hx hZ hown (host := "") (Or.inl (ww hw 39 rfl)) Via.refl e13 fc12 fc14 (Or.inl (ww hw 40 rfl)) (ww hw 14 rfl) (ty := .int) (by decide) rfl rfl (g := (mkF m 53 #[va o0, vi 0, vi 1] [(.int 0), (.ref o0)])) rfl rfl (hb hby d16_53)
  have Fw15 := fc12.same W15
  have O15 := O11.wr W15 g_o0
  have K15 : Keep h0 h15 [o1, o2, o0] := K11.wr W15 (Or.inl (List.mem_of_getElem? (i := 2) rfl))
  have N15 := Fr.snoc X15 N11 g_o0
  obtain ⟨fs, hr, hrun, hended, hW, hsame⟩ := X15.leave (v := none) (fun _ => rfl)
  have fc16 := (fc14.wr W15)
  have fc17 := (((F_count_o0.keep Kc4 (ninS ne_o0_o1 nin0)).keep Kc11 (ninS ne_o0_o2 nin0)).other W15 (Or.inr (slot_ne (Or.inl (ww hw 74 rfl)) (Or.inl (ww hw 40 rfl)) (by decide) (t := .long) (t' := .int) (by decide) (by decide))))
  have fc18 := (((F_firsts_o0.keep Kc4 (ninS ne_o0_o1 nin0)).keep Kc11 (ninS ne_o0_o2 nin0)).other W15 (Or.inr (slot_ne (Or.inl (ww hw 29 rfl)) (Or.inl (ww hw 40 rfl)) (by decide) (t := (.array .long)) (t' := .int) (by decide) (by decide))))
  have fc19 := ((fc5.keep Kc11 (ninS ne_o0_o2 nin0)).other W15 (Or.inr (slot_ne (Or.inl (ww hw 31 rfl)) (Or.inl (ww hw 40 rfl)) (by decide) (t := (.array .long)) (t' := .int) (by decide) (by decide))))
  have fc20 := (((F_maxRanges_o0.keep Kc4 (ninS ne_o0_o1 nin0)).keep Kc11 (ninS ne_o0_o2 nin0)).other W15 (Or.inr (slot_ne (Or.inr (ww hw 33 rfl)) (Or.inl (ww hw 40 rfl)) (by decide) (t := .int) (t' := .int) (by decide) (by decide))))
  have fc21 := ((V4.keep Kc11 (ninS ne_o1_o2 nin0)).other W15 (Ne.symm ne_o0_o1))
  have fc22 := (V11.other W15 (Ne.symm ne_o0_o2))
  refine ⟨_, _, ?_, hrun, hended, _, _, rfl, ?_, ⟨_, rfl⟩, hW, hsame.mono (by decide) (by decide)⟩
  · show Steps p.tables e below (s₁.setTop (mkF m 0 #[va o0, vi 0, vi 1] [])) _
    refine XS.aloadN X0.here hx rfl (hb hby d16_0) rfl rfl ?_
    refine st1 _ ?_
    refine XS.iloadN X1.here hx rfl (hb hby d16_4) rfl ?_
    refine XS.iloadN X1.here hx rfl (hb hby d16_5) rfl ?_
    refine XS.iadd X1.here hx rfl (hb hby d16_6) rfl ?_
    show Steps p.tables e below (T1.setTop (mkF m 7 #[va o0, vi 0, vi 1] [(.int ((0 : Int32) + (1 : Int32))), (.ref o1)])) _
    rw [show (((0 : Int32) + (1 : Int32)) : Int32) = (1 : Int32) from by decide]
    refine XS.aloadN X1.here hx rfl (hb hby d16_7) rfl rfl ?_
    refine st2 _ ?_
    refine XS.iloadN X2.here hx rfl (hb hby d16_11) rfl ?_
    refine XS.aloadN X2.here hx rfl (hb hby d16_12) rfl rfl ?_
    refine st3 _ ?_
    refine XS.iloadN X3.here hx rfl (hb hby d16_16) rfl ?_
    refine XS.isub X3.here hx rfl (hb hby d16_17) rfl ?_
    show Steps p.tables e below (T3.setTop (mkF m 18 #[va o0, vi 0, vi 1] [(.int ((1 : Int32) - (0 : Int32))), (.int 0), (.ref o1), (.int 1), (.ref o1)])) _
    rw [show (((1 : Int32) - (0 : Int32)) : Int32) = (1 : Int32) from by decide]
    refine XS.iloadN X3.here hx rfl (hb hby d16_18) rfl ?_
    refine XS.isub X3.here hx rfl (hb hby d16_19) rfl ?_
    show Steps p.tables e below (T3.setTop (mkF m 20 #[va o0, vi 0, vi 1] [(.int ((1 : Int32) - (1 : Int32))), (.int 0), (.ref o1), (.int 1), (.ref o1)])) _
    rw [show (((1 : Int32) - (1 : Int32)) : Int32) = (0 : Int32) from by decide]
    refine st4 _ ?_
    refine XS.aloadN X4.here hx rfl (hb hby d16_23) rfl rfl ?_
    refine st6 _ ?_
    refine XS.iloadN X6.here hx rfl (hb hby d16_27) rfl ?_
    refine XS.iloadN X6.here hx rfl (hb hby d16_28) rfl ?_
    refine XS.iadd X6.here hx rfl (hb hby d16_29) rfl ?_
    show Steps p.tables e below (T6.setTop (mkF m 30 #[va o0, vi 0, vi 1] [(.int ((0 : Int32) + (1 : Int32))), (.ref o2)])) _
    rw [show (((0 : Int32) + (1 : Int32)) : Int32) = (1 : Int32) from by decide]
    refine XS.aloadN X6.here hx rfl (hb hby d16_30) rfl rfl ?_
    refine st7 _ ?_
    refine XS.iloadN X7.here hx rfl (hb hby d16_34) rfl ?_
    refine XS.aloadN X7.here hx rfl (hb hby d16_35) rfl rfl ?_
    refine st9 _ ?_
    refine XS.iloadN X9.here hx rfl (hb hby d16_39) rfl ?_
    refine XS.isub X9.here hx rfl (hb hby d16_40) rfl ?_
    show Steps p.tables e below (T9.setTop (mkF m 41 #[va o0, vi 0, vi 1] [(.int ((1 : Int32) - (0 : Int32))), (.int 0), (.ref o2), (.int 1), (.ref o2)])) _
    rw [show (((1 : Int32) - (0 : Int32)) : Int32) = (1 : Int32) from by decide]
    refine XS.iloadN X9.here hx rfl (hb hby d16_41) rfl ?_
    refine XS.isub X9.here hx rfl (hb hby d16_42) rfl ?_
    show Steps p.tables e below (T9.setTop (mkF m 43 #[va o0, vi 0, vi 1] [(.int ((1 : Int32) - (1 : Int32))), (.int 0), (.ref o2), (.int 1), (.ref o2)])) _
    rw [show (((1 : Int32) - (1 : Int32)) : Int32) = (0 : Int32) from by decide]
    refine st11 _ ?_
    refine XS.aloadN X11.here hx rfl (hb hby d16_46) rfl rfl ?_
    refine XS.dup X11.here hx rfl (hb hby d16_47) rfl rfl ?_
    refine st13 _ ?_
    refine XS.iloadN X13.here hx rfl (hb hby d16_51) rfl ?_
    refine XS.isub X13.here hx rfl (hb hby d16_52) rfl ?_
    show Steps p.tables e below (T13.setTop (mkF m 53 #[va o0, vi 0, vi 1] [(.int ((1 : Int32) - (1 : Int32))), (.ref o0)])) _
    rw [show (((1 : Int32) - (1 : Int32)) : Int32) = (0 : Int32) from by decide]
    refine st15 _ ?_
    exact X15.returnOut hx hrt (hb hby d16_56) hr
  · show Q16_4 Z w_NONE o0 o1 o2 kk_o1 kk_o2 q0 q1 q2 h0 n0 none T15.heap _
    rw [e15]; exact ⟨rfl, N15, K15, fc16, fc17, fc18, fc19, fc20, Fw15, fc21, fc22⟩
def Q17_7 (Z : State) (w_NONE : Addr) (o0 : Addr) (o1 : Addr) (o2 : Addr) (kk_o1 : ClassId) (kk_o2 : ClassId) (q3 : Int64) (q0 : Int64) (q1 : Int64) (q2 : Int64) (h0 : Heap) (n0 : Nat) (v : Option Value) (h : Heap) (L : List Loc) : Prop := v = none ∧ Fr n0 L ∧ Keep h0 h [o0, o2, o1] ∧ Exa Z h o0 sC0 ∧ Fld Z h o0 sC0 "count" "J" (.long (q0 - ((0 : Int64) + ((q2 - q1) + (1 : Int64))))) ∧ Fld Z h o0 sC0 "firsts" "[J" (.ref o1) ∧ Fld Z h o0 sC0 "lasts" "[J" (.ref o2) ∧ Fld Z h o0 sC0 "maxRanges" "I" (.int 2147483647) ∧ Fld Z h o0 sC0 "ranges" "I" (.int 0) ∧ Arv Z h o1 kk_o1 .long (4 : Int32) [(.long q1), (.long 0), (.long 0), (.long 0)] (.long 0) ∧ Arv Z h o2 kk_o2 .long (4 : Int32) [(.long q2), (.long 0), (.long 0), (.long 0)] (.long 0)
theorem rm17_7 (l : Launch) (Z : State) (a0 : Array Value) (hw : HW Z a0) (ws : List Jvm.Cond) (w_NONE : Addr) (o0 : Addr) (o1 : Addr) (o2 : Addr) (kk_o1 : ClassId) (kk_o2 : ClassId) (q3 : Int64) (q0 : Int64) (q1 : Int64) (q2 : Int64) (h0 : Heap) (n0 : Nat) (O0 : Old Z n0 h0) (S : SF Z w_NONE) (E_o0 : Exa Z h0 o0 sC0) (F_count_o0 : Fld Z h0 o0 sC0 "count" "J" (.long q0)) (F_firsts_o0 : Fld Z h0 o0 sC0 "firsts" "[J" (.ref o1)) (F_lasts_o0 : Fld Z h0 o0 sC0 "lasts" "[J" (.ref o2)) (F_maxRanges_o0 : Fld Z h0 o0 sC0 "maxRanges" "I" (.int 2147483647)) (F_ranges_o0 : Fld Z h0 o0 sC0 "ranges" "I" (.int 1)) (V_o1 : Arv Z h0 o1 kk_o1 .long (4 : Int32) [(.long q1), (.long 0), (.long 0), (.long 0)] (.long 0)) (V_o2 : Arv Z h0 o2 kk_o2 .long (4 : Int32) [(.long q2), (.long 0), (.long 0), (.long 0)] (.long 0)) (ne_o0_o1 : o0 ≠ o1) (ne_o0_o2 : o0 ≠ o2) (ne_o1_o2 : o1 ≠ o2) (g_o0 : n0 ≤ o0) (g_o1 : n0 ≤ o1) (g_o2 : n0 ≤ o2) (hc0 : ¬ (q3 < (0 : Int64))) (hc1 : ¬ ((9223372036854775806 : Int64) < q3)) (hc2 : ¬ (q2 < q3)) (hc3 : ¬ ((9223372036854775806 : Int64) < q1)) (hc4 : ¬ (q1 < q3)) (hc5 : ¬ ((9223372036854775806 : Int64) < q2)) :
    Pay l Z My17 ws prog_55_method_10_code 12 none #[(.ref o0), (.long q3), (.long 9223372036854775806)] h0 ({ frames := 2, cells := 0, slots := 0, locals := 32 } : Room) (Q17_7 Z w_NONE o0 o1 o2 kk_o1 kk_o2 q3 q0 q1 q2 h0 n0) := by
  refine own_body (plainFor_of_name pn_1) (L0 := #[va o0, vl q3, ss, vl 9223372036854775806, ss, uu, uu, uu, uu, uu, uu, uu]) (fun _ => by first | rfl | (simp [entryFrame, mkF, argsToLocals, Value.category]; done)) ?_
  intro p e s m below meth c s₁ hrt hlk hx hby hml hZ hown0 hnm X0 e0
  have hown : s.vm.findClass sC0 = some m.cls := hown0
  have N0 := Fr.nil n0
  have K0 : Keep h0 h0 [o0, o2, o1] := Keep.refl _ _
  obtain ⟨_, _, ⟨T1, L1, k1, n1⟩, -, X1, ⟨Lc1, hQ1, l1, y1, z1⟩, st1⟩ := Jvm.LawKit.callS X0 hx (y := My9) hown (mvT hZ (ww hw 46 rfl)) (mvT hZ (ww hw 47 rfl)) (mvT hZ (ww hw 15 rfl)) (mvT hZ (ww hw 48 rfl)) (by decide) (backOf (W := 0) (rm9_1 l Z a0 hw [] w_NONE q3 h0 n0 O0 S hc0 hc1) hZ (ww hw 48 rfl) (ww hw 15 rfl) (by decide) (by decide)) (g := (mkF m 2 #[va o0, vl q3, ss, vl 9223372036854775806, ss, uu, uu, uu, uu, uu, uu, uu] [(.long 9223372036854775806), (.long q3)])) rfl (by rw [hml]; rfl) (argsL := [(.long q3), (.long 9223372036854775806)]) (rest := []) (lenOf pd_4 rfl) rfl (by show 2 * 0 + _ ≤ _; exact Nat.le_of_eq rfl) (hb hby d17_2) (fun _ _ => ⟨rfl, e0, (by decide : 0 + 0 ≤ _), (by decide : 0 + 0 ≤ _)⟩)
  dsimp only [Pt.U, Pt.locs, Pt.cells, Pt.slots] at X1 l1 y1 z1 st1 hQ1
  subst l1 y1 z1
  obtain ⟨rfl, Nq1, e1⟩ := hQ1
  have N1 := Fr.app N0 Nq1
  obtain ⟨cq2, qa2, qb2⟩ := E_o0.cell
  obtain ⟨_, _, ⟨T2, L2, k2, n2⟩, -, X2, ⟨Lc2, hQ2, l2, y2, z2⟩, st2⟩ := X1.privateBack hx (y := My10) hown (mvT hZ (ww hw 49 rfl)) (mvT hZ (ww hw 50 rfl)) (own_selp (by decide) (mvT hZ (ww hw 14 rfl)) (mvP hZ (ww hw 51 rfl)) (mvT hZ (ww hw 50 rfl))) (Cond.privateMethod_at (mvP hZ (ww hw 51 rfl) (args := #[]))) (mvT hZ (ww hw 52 rfl)) (by decide) (backOf (W := 0) (rm10_2 l Z a0 hw [] w_NONE o0 o1 o2 kk_o1 kk_o2 q3 q0 q1 q2 h0 n0 O0 S F_lasts_o0 F_ranges_o0 V_o2 hc2) hZ (ww hw 52 rfl) (ww hw 15 rfl) (by decide) (by decide)) (g := (mkF m 7 #[va o0, vl q3, ss, vl 9223372036854775806, ss, uu, uu, uu, uu, uu, uu, uu] [(.long q3), (.ref o0)])) rfl (by rw [hml]; rfl) (Steps.refl _) (a := o0) (by rw [e1]; exact qa2) qb2 (argsL := [(.long q3)]) (rest := []) (lenOf pd_5 rfl) rfl (by show 2 * 0 + _ ≤ _; exact Nat.le_of_eq rfl) (hb hby d17_7) (fun _ _ => ⟨rfl, e1, (by decide : 0 + 0 ≤ _), (by decide : 0 + 0 ≤ _)⟩)
  dsimp only [Pt.U, Pt.locs, Pt.cells, Pt.slots] at X2 l2 y2 z2 st2 hQ2
  subst l2 y2 z2
  obtain ⟨rfl, Nq2, e2⟩ := hQ2
  have N2 := Fr.app N1 Nq2
  obtain ⟨T3, X3, e3, st3⟩ := getF X2 hx hZ hown (host := "") (Or.inl (ww hw 39 rfl)) Via.refl e2 F_ranges_o0 (g := (mkF m 15 #[va o0, vl q3, ss, vl 9223372036854775806, ss, vi 0, uu, uu, uu, uu, uu, uu] [(.ref o0), (.int 0)])) rfl rfl (hb hby d17_15)
  obtain ⟨T4, X4, e4, st4⟩ := getF X3 hx hZ hown (host := "") (Or.inl (ww hw 28 rfl)) Via.refl e3 F_firsts_o0 (g := (mkF m 22 #[va o0, vl q3, ss, vl 9223372036854775806, ss, vi 0, uu, uu, uu, uu, uu, uu] [(.ref o0)])) rfl rfl (hb hby d17_22)
  obtain ⟨cl5, Ar5, qk5, Sz5, Ng5, Hh5, Gg5⟩ := id V_o1
  have hin5_0 : ¬ ((0 : Int32) < 0 ∨ cl5.slots.size ≤ ((0 : Int32)).toNatClampNeg) := inb_of Sz5 ⟨by decide, by decide⟩
  obtain ⟨T6, X6, e6, st6⟩ := getF X4 hx hZ hown (host := "") (Or.inl (ww hw 28 rfl)) Via.refl e4 F_firsts_o0 (g := (mkF m 35 #[va o0, vl q3, ss, vl 9223372036854775806, ss, vi 0, uu, uu, uu, uu, uu, uu] [(.ref o0)])) rfl rfl (hb hby d17_35)
  obtain ⟨T7, X7, e7, st7⟩ := getF X6 hx hZ hown (host := "") (Or.inl (ww hw 39 rfl)) Via.refl e6 F_ranges_o0 (g := (mkF m 125 #[va o0, vl q3, ss, vl 9223372036854775806, ss, vi 0, vi 0, uu, uu, uu, uu, uu] [(.ref o0), (.int 0)])) rfl rfl (hb hby d17_125)
  obtain ⟨T8, X8, e8, st8⟩ := getF X7 hx hZ hown (host := "") (Or.inl (ww hw 28 rfl)) Via.refl e7 F_firsts_o0 (g := (mkF m 132 #[va o0, vl q3, ss, vl 9223372036854775806, ss, vi 0, vi 0, uu, uu, uu, uu, uu] [(.ref o0)])) rfl rfl (hb hby d17_132)
  obtain ⟨T9, X9, e9, st9⟩ := getF X8 hx hZ hown (host := "") (Or.inl (ww hw 39 rfl)) Via.refl e8 F_ranges_o0 (g := (mkF m 125 #[va o0, vl q3, ss, vl 9223372036854775806, ss, vi 0, vi 1, uu, uu, uu, uu, uu] [(.ref o0), (.int 1)])) rfl rfl (hb hby d17_125)
  obtain ⟨T10, X10, e10, st10⟩ := getF X9 hx hZ hown (host := "") (Or.inl (ww hw 28 rfl)) Via.refl e9 F_firsts_o0 (g := (mkF m 161 #[va o0, vl q3, ss, vl 9223372036854775806, ss, vi 0, vi 1, vi 0, vi 1, vl 0, ss, uu] [(.ref o0)])) rfl rfl (hb hby d17_161)
  obtain ⟨T11, X11, e11, st11⟩ := getF X10 hx hZ hown (host := "") (Or.inl (ww hw 30 rfl)) Via.refl e10 F_lasts_o0 (g := (mkF m 209 #[va o0, vl q3, ss, vl 9223372036854775806, ss, vi 0, vi 1, vi 0, vi 1, vl 0, ss, uu] [(.ref o0)])) rfl rfl (hb hby d17_209)
  obtain ⟨cl12, Ar12, qk12, Sz12, Ng12, Hh12, Gg12⟩ := id V_o2
  have hin12_0 : ¬ ((0 : Int32) < 0 ∨ cl12.slots.size ≤ ((0 : Int32)).toNatClampNeg) := inb_of Sz12 ⟨by decide, by decide⟩
  obtain ⟨T13, X13, e13, st13⟩ := getF X11 hx hZ hown (host := "") (Or.inl (ww hw 30 rfl)) Via.refl e11 F_lasts_o0 (g := (mkF m 269 #[va o0, vl q3, ss, vl 9223372036854775806, ss, vi 0, vi 1, vi 0, vi 1, vl 0, ss, vi 0] [(.ref o0), (.long 0)])) rfl rfl (hb hby d17_269)
  obtain ⟨T14, X14, e14, st14⟩ := getF X13 hx hZ hown (host := "") (Or.inl (ww hw 28 rfl)) Via.refl e13 F_firsts_o0 (g := (mkF m 276 #[va o0, vl q3, ss, vl 9223372036854775806, ss, vi 0, vi 1, vi 0, vi 1, vl 0, ss, vi 0] [(.ref o0), (.long q2), (.long 0)])) rfl rfl (hb hby d17_276)
  obtain ⟨cq15, qa15, qb15⟩ := E_o0.cell
  obtain ⟨_, _, ⟨T15, L15, k15, n15⟩, -, X15, ⟨Lc15, hQ15, l15, y15, z15⟩, st15⟩ := X14.privateBack hx (y := My16) hown (mvT hZ (ww hw 80 rfl)) (mvT hZ (ww hw 81 rfl)) (own_selp (by decide) (mvT hZ (ww hw 14 rfl)) (mvP hZ (ww hw 82 rfl)) (mvT hZ (ww hw 81 rfl))) (Cond.privateMethod_at (mvP hZ (ww hw 82 rfl) (args := #[]))) (mvT hZ (ww hw 83 rfl)) (by decide) (backOf (W := 0) (rm16_4 l Z a0 hw [] w_NONE o0 o1 o2 kk_o1 kk_o2 q0 q1 q2 h0 n0 O0 S E_o0 F_count_o0 F_firsts_o0 F_lasts_o0 F_maxRanges_o0 F_ranges_o0 V_o1 V_o2 ne_o0_o1 ne_o0_o2 ne_o1_o2 g_o0 g_o1 g_o2) hZ (ww hw 83 rfl) (ww hw 15 rfl) (by decide) (by decide)) (g := (mkF m 302 #[va o0, vl q3, ss, vl 9223372036854775806, ss, vi 0, vi 1, vi 0, vi 1, vl ((0 : Int64) + ((q2 - q1) + (1 : Int64))), ss, vi 1] [(.int 1), (.int 0), (.ref o0)])) rfl (by rw [hml]; rfl) (Steps.refl _) (a := o0) (by rw [e14]; exact qa15) qb15 (argsL := [(.int 0), (.int 1)]) (rest := []) (lenOf pd_11 rfl) rfl (by show 2 * 0 + _ ≤ _; exact Nat.le_of_eq rfl) (hb hby d17_302) (fun _ _ => ⟨rfl, e14, (by decide : 0 + 0 ≤ _), (by decide : 0 + 0 ≤ _)⟩)
  dsimp only [Pt.U, Pt.locs, Pt.cells, Pt.slots] at X15 l15 y15 z15 st15 hQ15
  subst l15 y15 z15
  obtain ⟨rfl, Nq15, Kc15, P0_15, P1_15, P2_15, P3_15, P4_15, P5_15, P6_15, P7_15⟩ := hQ15
  have N15 := Fr.app N2 Nq15
  have O15 := O0.keep Kc15 (allS g_o1 (allS g_o2 (allS g_o0 all0)))
  have K15 : Keep h0 T15.heap [o0, o2, o1] := K0.trans Kc15 (allS (Or.inl (List.mem_of_getElem? (i := 2) rfl)) (allS (Or.inl (List.mem_of_getElem? (i := 1) rfl)) (allS (Or.inl (List.mem_of_getElem? (i := 0) rfl)) all0)))
  obtain ⟨T16, X16, e16, st16⟩ := getF X15 hx hZ hown (host := "") (Or.inl (ww hw 73 rfl)) Via.refl rfl P1_15 (g := (mkF m 307 #[va o0, vl q3, ss, vl 9223372036854775806, ss, vi 0, vi 1, vi 0, vi 1, vl ((0 : Int64) + ((q2 - q1) + (1 : Int64))), ss, vi 1] [(.ref o0), (.ref o0)])) rfl rfl (hb hby d17_307)
  obtain ⟨T17, h17, X17, e17, W17, st17⟩ := putF X16 hx hZ hown (host := "") (Or.inl (ww hw 73 rfl)) Via.refl e16 P1_15 P0_15 (Or.inl (ww hw 74 rfl)) (ww hw 14 rfl) (ty := .long) (by decide) rfl rfl (g := (mkF m 313 #[va o0, vl q3, ss, vl 9223372036854775806, ss, vi 0, vi 1, vi 0, vi 1, vl ((0 : Int64) + ((q2 - q1) + (1 : Int64))), ss, vi 1] [(.long (q0 - ((0 : Int64) + ((q2 - q1) + (1 : Int64))))), (.ref o0)])) rfl rfl (hb hby d17_313)
  have Fw17 := P1_15.same W17
  have O17 := O15.wr W17 g_o0
  have K17 : Keep h0 h17 [o0, o2, o1] := K15.wr W17 (Or.inl (List.mem_of_getElem? (i := 0) rfl))
  have N17 := Fr.snoc X17 N15 g_o0
  obtain ⟨fs, hr, hrun, hended, hW, hsame⟩ := X17.leave (v := none) (fun _ => rfl)
  have fc18 := (P0_15.wr W17)
  have fc19 := (P2_15.other W17 (Or.inr (slot_ne (Or.inl (ww hw 29 rfl)) (Or.inl (ww hw 74 rfl)) (by decide) (t := (.array .long)) (t' := .long) (by decide) (by decide))))
  have fc20 := (P3_15.other W17 (Or.inr (slot_ne (Or.inl (ww hw 31 rfl)) (Or.inl (ww hw 74 rfl)) (by decide) (t := (.array .long)) (t' := .long) (by decide) (by decide))))
  have fc21 := (P4_15.other W17 (Or.inr (slot_ne (Or.inr (ww hw 33 rfl)) (Or.inl (ww hw 74 rfl)) (by decide) (t := .int) (t' := .long) (by decide) (by decide))))
  have fc22 := (P5_15.other W17 (Or.inr (slot_ne (Or.inl (ww hw 40 rfl)) (Or.inl (ww hw 74 rfl)) (by decide) (t := .int) (t' := .long) (by decide) (by decide))))
  have fc23 := (P6_15.other W17 (Ne.symm ne_o0_o1))
  have fc24 := (P7_15.other W17 (Ne.symm ne_o0_o2))
  refine ⟨_, _, ?_, hrun, hended, _, _, rfl, ?_, ⟨_, rfl⟩, hW, hsame.mono (by decide) (by decide)⟩
  · show Steps p.tables e below (s₁.setTop (mkF m 0 #[va o0, vl q3, ss, vl 9223372036854775806, ss, uu, uu, uu, uu, uu, uu, uu] [])) _
    refine XS.lloadN X0.here hx rfl (hb hby d17_0) rfl ?_
    refine XS.lloadN X0.here hx rfl (hb hby d17_1) rfl ?_
    refine st1 _ ?_
    refine XS.aloadN X1.here hx rfl (hb hby d17_5) rfl rfl ?_
    refine XS.lloadN X1.here hx rfl (hb hby d17_6) rfl ?_
    refine st2.trans ?_
    refine XS.istore X2.here hx rfl (hb hby d17_10) rfl (l' := #[va o0, vl q3, ss, vl 9223372036854775806, ss, vi 0, uu, uu, uu, uu, uu, uu]) rfl ?_
    refine XS.iload X2.here hx rfl (hb hby d17_12) rfl ?_
    show Steps p.tables e below (T2.setTop (mkF m 14 #[va o0, vl q3, ss, vl 9223372036854775806, ss, vi 0, uu, uu, uu, uu, uu, uu] [(.int 0)])) _
    refine XS.aloadN X2.here hx rfl (hb hby d17_14) rfl rfl ?_
    refine st3 _ ?_
    refine XS.icmpNo X3.here hx rfl (hb hby d17_18) rfl (feq (by decide : ¬ ((0 : Int32) = (1 : Int32)))).1 ?_
    refine XS.aloadN X3.here hx rfl (hb hby d17_21) rfl rfl ?_
    refine st4 _ ?_
    refine XS.iload X4.here hx rfl (hb hby d17_25) rfl ?_
    refine X4.laload hx (j := (0 : Int32)) (v := (.long q1)) (by rw [e4]; exact Ar5.1) (State.isArrayOf_alike hZ.alike Ar5.2.1) Ar5.2.2 hin5_0 (Has.at Hh5 hin5_0 rfl) (g := (mkF m 27 #[va o0, vl q3, ss, vl 9223372036854775806, ss, vi 0, uu, uu, uu, uu, uu, uu] [(.int 0), (.ref o1)])) rfl rfl (hb hby d17_27) _ ?_
    refine XS.lloadN X4.here hx rfl (hb hby d17_28) rfl ?_
    show Steps p.tables e below (T4.setTop (mkF m 29 #[va o0, vl q3, ss, vl 9223372036854775806, ss, vi 0, uu, uu, uu, uu, uu, uu] [(.long 9223372036854775806), (.long q1)])) _
    refine XS.lcmp X4.here hx rfl (hb hby d17_29) rfl ?_
    refine XS.ifYes X4.here hx rfl (pc0 := 30) (pc' := 34) rfl (hb hby d17_30) rfl (own_lc_gtF hc3).2 (by decide) (by decide) ?_
    refine XS.aloadN X4.here hx rfl (hb hby d17_34) rfl rfl ?_
    refine st6 _ ?_
    refine XS.iload X6.here hx rfl (hb hby d17_38) rfl ?_
    refine X6.laload hx (j := (0 : Int32)) (v := (.long q1)) (by rw [e6]; exact Ar5.1) (State.isArrayOf_alike hZ.alike Ar5.2.1) Ar5.2.2 hin5_0 (Has.at Hh5 hin5_0 rfl) (g := (mkF m 40 #[va o0, vl q3, ss, vl 9223372036854775806, ss, vi 0, uu, uu, uu, uu, uu, uu] [(.int 0), (.ref o1)])) rfl rfl (hb hby d17_40) _ ?_
    refine XS.lloadN X6.here hx rfl (hb hby d17_41) rfl ?_
    refine XS.lcmp X6.here hx rfl (hb hby d17_42) rfl ?_
    show Steps p.tables e below (T6.setTop (mkF m 43 #[va o0, vl q3, ss, vl 9223372036854775806, ss, vi 0, uu, uu, uu, uu, uu, uu] [(.int (lcmpW q1 q3))])) _
    refine XS.ifYes X6.here hx rfl (pc0 := 43) (pc' := 118) rfl (hb hby d17_43) rfl (own_lc_ltF hc4).2 (by decide) (by decide) ?_
    refine XS.iload X6.here hx rfl (hb hby d17_118) rfl ?_
    refine XS.istore X6.here hx rfl (hb hby d17_120) rfl (l' := #[va o0, vl q3, ss, vl 9223372036854775806, ss, vi 0, vi 0, uu, uu, uu, uu, uu]) rfl ?_
    refine XS.iload X6.here hx rfl (hb hby d17_122) rfl ?_
    refine XS.aloadN X6.here hx rfl (hb hby d17_124) rfl rfl ?_
    refine st7 _ ?_
    refine XS.icmpNo X7.here hx rfl (hb hby d17_128) rfl (tlt (by decide : (0 : Int32) < (1 : Int32))).2.1 ?_
    refine XS.aloadN X7.here hx rfl (hb hby d17_131) rfl rfl ?_
    show Steps p.tables e below (T7.setTop (mkF m 132 #[va o0, vl q3, ss, vl 9223372036854775806, ss, vi 0, vi 0, uu, uu, uu, uu, uu] [(.ref o0)])) _
    refine st8 _ ?_
    refine XS.iload X8.here hx rfl (hb hby d17_135) rfl ?_
    refine X8.laload hx (j := (0 : Int32)) (v := (.long q1)) (by rw [e8]; exact Ar5.1) (State.isArrayOf_alike hZ.alike Ar5.2.1) Ar5.2.2 hin5_0 (Has.at Hh5 hin5_0 rfl) (g := (mkF m 137 #[va o0, vl q3, ss, vl 9223372036854775806, ss, vi 0, vi 0, uu, uu, uu, uu, uu] [(.int 0), (.ref o1)])) rfl rfl (hb hby d17_137) _ ?_
    refine XS.lloadN X8.here hx rfl (hb hby d17_138) rfl ?_
    refine XS.lcmp X8.here hx rfl (hb hby d17_139) rfl ?_
    refine XS.ifNo X8.here hx rfl (hb hby d17_140) rfl (own_lc_gtF hc3).1 ?_
    refine XS.iinc X8.here hx rfl (hb hby d17_143) rfl (l' := #[va o0, vl q3, ss, vl 9223372036854775806, ss, vi 0, vi ((0 : Int32) + (1 : Int32)), uu, uu, uu, uu, uu]) rfl ?_
    show Steps p.tables e below (T8.setTop (mkF m 146 #[va o0, vl q3, ss, vl 9223372036854775806, ss, vi 0, vi ((0 : Int32) + (1 : Int32)), uu, uu, uu, uu, uu] [])) _
    rw [show (((0 : Int32) + (1 : Int32)) : Int32) = (1 : Int32) from by decide]
    refine XS.goto X8.here hx rfl (pc0 := 146) (pc' := 122) rfl (hb hby d17_146) (by decide) (by decide) ?_
    refine XS.iload X8.here hx rfl (hb hby d17_122) rfl ?_
    refine XS.aloadN X8.here hx rfl (hb hby d17_124) rfl rfl ?_
    refine st9 _ ?_
    refine XS.icmpYes X9.here hx rfl (pc0 := 128) (pc' := 149) rfl (hb hby d17_128) rfl (flt (by decide : ¬ ((1 : Int32) < (1 : Int32)))).2.1 (by decide) (by decide) ?_
    refine XS.iload X9.here hx rfl (hb hby d17_149) rfl ?_
    refine XS.istore X9.here hx rfl (hb hby d17_151) rfl (l' := #[va o0, vl q3, ss, vl 9223372036854775806, ss, vi 0, vi 1, vi 0, uu, uu, uu, uu]) rfl ?_
    show Steps p.tables e below (T9.setTop (mkF m 153 #[va o0, vl q3, ss, vl 9223372036854775806, ss, vi 0, vi 1, vi 0, uu, uu, uu, uu] [])) _
    refine XS.iload X9.here hx rfl (hb hby d17_153) rfl ?_
    refine XS.istore X9.here hx rfl (hb hby d17_155) rfl (l' := #[va o0, vl q3, ss, vl 9223372036854775806, ss, vi 0, vi 1, vi 0, vi 1, uu, uu, uu]) rfl ?_
    refine XS.lconst X9.here hx rfl (hb hby d17_157) ?_
    refine XS.lstore X9.here hx rfl (hb hby d17_158) rfl (l' := #[va o0, vl q3, ss, vl 9223372036854775806, ss, vi 0, vi 1, vi 0, vi 1, vl 0, ss, uu]) rfl ?_
    refine XS.aloadN X9.here hx rfl (hb hby d17_160) rfl rfl ?_
    refine st10 _ ?_
    refine XS.iload X10.here hx rfl (hb hby d17_164) rfl ?_
    refine X10.laload hx (j := (0 : Int32)) (v := (.long q1)) (by rw [e10]; exact Ar5.1) (State.isArrayOf_alike hZ.alike Ar5.2.1) Ar5.2.2 hin5_0 (Has.at Hh5 hin5_0 rfl) (g := (mkF m 166 #[va o0, vl q3, ss, vl 9223372036854775806, ss, vi 0, vi 1, vi 0, vi 1, vl 0, ss, uu] [(.int 0), (.ref o1)])) rfl rfl (hb hby d17_166) _ ?_
    show Steps p.tables e below (T10.setTop (mkF m 167 #[va o0, vl q3, ss, vl 9223372036854775806, ss, vi 0, vi 1, vi 0, vi 1, vl 0, ss, uu] [(.long q1)])) _
    refine XS.lloadN X10.here hx rfl (hb hby d17_167) rfl ?_
    refine XS.lcmp X10.here hx rfl (hb hby d17_168) rfl ?_
    refine XS.ifYes X10.here hx rfl (pc0 := 169) (pc' := 201) rfl (hb hby d17_169) rfl (own_lc_ltF hc4).2 (by decide) (by decide) ?_
    refine XS.iload X10.here hx rfl (hb hby d17_201) rfl ?_
    refine XS.iload X10.here hx rfl (hb hby d17_203) rfl ?_
    refine XS.icmpNo X10.here hx rfl (hb hby d17_205) rfl (tlt (by decide : (0 : Int32) < (1 : Int32))).2.1 ?_
    refine XS.aloadN X10.here hx rfl (hb hby d17_208) rfl rfl ?_
    refine st11 _ ?_
    show Steps p.tables e below (T11.setTop (mkF m 212 #[va o0, vl q3, ss, vl 9223372036854775806, ss, vi 0, vi 1, vi 0, vi 1, vl 0, ss, uu] [(.ref o2)])) _
    refine XS.iload X11.here hx rfl (hb hby d17_212) rfl ?_
    refine XS.iconst X11.here hx rfl (hb hby d17_214) ?_
    refine XS.isub X11.here hx rfl (hb hby d17_215) rfl ?_
    show Steps p.tables e below (T11.setTop (mkF m 216 #[va o0, vl q3, ss, vl 9223372036854775806, ss, vi 0, vi 1, vi 0, vi 1, vl 0, ss, uu] [(.int ((1 : Int32) - (1 : Int32))), (.ref o2)])) _
    rw [show (((1 : Int32) - (1 : Int32)) : Int32) = (0 : Int32) from by decide]
    refine X11.laload hx (j := (0 : Int32)) (v := (.long q2)) (by rw [e11]; exact Ar12.1) (State.isArrayOf_alike hZ.alike Ar12.2.1) Ar12.2.2 hin12_0 (Has.at Hh12 hin12_0 rfl) (g := (mkF m 216 #[va o0, vl q3, ss, vl 9223372036854775806, ss, vi 0, vi 1, vi 0, vi 1, vl 0, ss, uu] [(.int 0), (.ref o2)])) rfl rfl (hb hby d17_216) _ ?_
    refine XS.lloadN X11.here hx rfl (hb hby d17_217) rfl ?_
    refine XS.lcmp X11.here hx rfl (hb hby d17_218) rfl ?_
    refine XS.ifYes X11.here hx rfl (pc0 := 219) (pc' := 255) rfl (hb hby d17_219) rfl (own_lc_gtF hc5).2 (by decide) (by decide) ?_
    refine XS.iload X11.here hx rfl (hb hby d17_255) rfl ?_
    refine XS.istore X11.here hx rfl (hb hby d17_257) rfl (l' := #[va o0, vl q3, ss, vl 9223372036854775806, ss, vi 0, vi 1, vi 0, vi 1, vl 0, ss, vi 0]) rfl ?_
    refine XS.iload X11.here hx rfl (hb hby d17_259) rfl ?_
    show Steps p.tables e below (T11.setTop (mkF m 261 #[va o0, vl q3, ss, vl 9223372036854775806, ss, vi 0, vi 1, vi 0, vi 1, vl 0, ss, vi 0] [(.int 0)])) _
    refine XS.iload X11.here hx rfl (hb hby d17_261) rfl ?_
    refine XS.icmpNo X11.here hx rfl (hb hby d17_263) rfl (tlt (by decide : (0 : Int32) < (1 : Int32))).2.1 ?_
    refine XS.lload X11.here hx rfl (hb hby d17_266) rfl ?_
    refine XS.aloadN X11.here hx rfl (hb hby d17_268) rfl rfl ?_
    refine st13 _ ?_
    refine XS.iload X13.here hx rfl (hb hby d17_272) rfl ?_
    refine X13.laload hx (j := (0 : Int32)) (v := (.long q2)) (by rw [e13]; exact Ar12.1) (State.isArrayOf_alike hZ.alike Ar12.2.1) Ar12.2.2 hin12_0 (Has.at Hh12 hin12_0 rfl) (g := (mkF m 274 #[va o0, vl q3, ss, vl 9223372036854775806, ss, vi 0, vi 1, vi 0, vi 1, vl 0, ss, vi 0] [(.int 0), (.ref o2), (.long 0)])) rfl rfl (hb hby d17_274) _ ?_
    refine XS.aloadN X13.here hx rfl (hb hby d17_275) rfl rfl ?_
    show Steps p.tables e below (T13.setTop (mkF m 276 #[va o0, vl q3, ss, vl 9223372036854775806, ss, vi 0, vi 1, vi 0, vi 1, vl 0, ss, vi 0] [(.ref o0), (.long q2), (.long 0)])) _
    refine st14 _ ?_
    refine XS.iload X14.here hx rfl (hb hby d17_279) rfl ?_
    refine X14.laload hx (j := (0 : Int32)) (v := (.long q1)) (by rw [e14]; exact Ar5.1) (State.isArrayOf_alike hZ.alike Ar5.2.1) Ar5.2.2 hin5_0 (Has.at Hh5 hin5_0 rfl) (g := (mkF m 281 #[va o0, vl q3, ss, vl 9223372036854775806, ss, vi 0, vi 1, vi 0, vi 1, vl 0, ss, vi 0] [(.int 0), (.ref o1), (.long q2), (.long 0)])) rfl rfl (hb hby d17_281) _ ?_
    refine XS.lsub X14.here hx rfl (hb hby d17_282) rfl ?_
    refine XS.lconst X14.here hx rfl (hb hby d17_283) ?_
    refine XS.ladd X14.here hx rfl (hb hby d17_284) rfl ?_
    refine XS.ladd X14.here hx rfl (hb hby d17_285) rfl ?_
    refine XS.lstore X14.here hx rfl (hb hby d17_286) rfl (l' := #[va o0, vl q3, ss, vl 9223372036854775806, ss, vi 0, vi 1, vi 0, vi 1, vl ((0 : Int64) + ((q2 - q1) + (1 : Int64))), ss, vi 0]) rfl ?_
    show Steps p.tables e below (T14.setTop (mkF m 288 #[va o0, vl q3, ss, vl 9223372036854775806, ss, vi 0, vi 1, vi 0, vi 1, vl ((0 : Int64) + ((q2 - q1) + (1 : Int64))), ss, vi 0] [])) _
    refine XS.iinc X14.here hx rfl (hb hby d17_288) rfl (l' := #[va o0, vl q3, ss, vl 9223372036854775806, ss, vi 0, vi 1, vi 0, vi 1, vl ((0 : Int64) + ((q2 - q1) + (1 : Int64))), ss, vi ((0 : Int32) + (1 : Int32))]) rfl ?_
    show Steps p.tables e below (T14.setTop (mkF m 291 #[va o0, vl q3, ss, vl 9223372036854775806, ss, vi 0, vi 1, vi 0, vi 1, vl ((0 : Int64) + ((q2 - q1) + (1 : Int64))), ss, vi ((0 : Int32) + (1 : Int32))] [])) _
    rw [show (((0 : Int32) + (1 : Int32)) : Int32) = (1 : Int32) from by decide]
    refine XS.goto X14.here hx rfl (pc0 := 291) (pc' := 259) rfl (hb hby d17_291) (by decide) (by decide) ?_
    refine XS.iload X14.here hx rfl (hb hby d17_259) rfl ?_
    refine XS.iload X14.here hx rfl (hb hby d17_261) rfl ?_
    refine XS.icmpYes X14.here hx rfl (pc0 := 263) (pc' := 294) rfl (hb hby d17_263) rfl (flt (by decide : ¬ ((1 : Int32) < (1 : Int32)))).2.1 (by decide) (by decide) ?_
    refine XS.aloadN X14.here hx rfl (hb hby d17_294) rfl rfl ?_
    refine XS.iload X14.here hx rfl (hb hby d17_295) rfl ?_
    refine XS.iload X14.here hx rfl (hb hby d17_297) rfl ?_
    show Steps p.tables e below (T14.setTop (mkF m 299 #[va o0, vl q3, ss, vl 9223372036854775806, ss, vi 0, vi 1, vi 0, vi 1, vl ((0 : Int64) + ((q2 - q1) + (1 : Int64))), ss, vi 1] [(.int 1), (.int 0), (.ref o0)])) _
    refine XS.iload X14.here hx rfl (hb hby d17_299) rfl ?_
    refine XS.isub X14.here hx rfl (hb hby d17_301) rfl ?_
    show Steps p.tables e below (T14.setTop (mkF m 302 #[va o0, vl q3, ss, vl 9223372036854775806, ss, vi 0, vi 1, vi 0, vi 1, vl ((0 : Int64) + ((q2 - q1) + (1 : Int64))), ss, vi 1] [(.int ((1 : Int32) - (0 : Int32))), (.int 0), (.ref o0)])) _
    rw [show (((1 : Int32) - (0 : Int32)) : Int32) = (1 : Int32) from by decide]
    refine st15.trans ?_
    refine XS.aloadN X15.here hx rfl (hb hby d17_305) rfl rfl ?_
    refine XS.dup X15.here hx rfl (hb hby d17_306) rfl rfl ?_
    refine st16 _ ?_
    refine XS.lload X16.here hx rfl (hb hby d17_310) rfl ?_
    refine XS.lsub X16.here hx rfl (hb hby d17_312) rfl ?_
    refine st17 _ ?_
    show Steps p.tables e below (T17.setTop (mkF m 316 #[va o0, vl q3, ss, vl 9223372036854775806, ss, vi 0, vi 1, vi 0, vi 1, vl ((0 : Int64) + ((q2 - q1) + (1 : Int64))), ss, vi 1] [])) _
    exact X17.returnOut hx hrt (hb hby d17_316) hr
  · show Q17_7 Z w_NONE o0 o1 o2 kk_o1 kk_o2 q3 q0 q1 q2 h0 n0 none T17.heap _
    rw [e17]; exact ⟨rfl, N17, K17, fc18, Fw17, fc19, fc20, fc21, fc22, fc23, fc24⟩
def Q7_4 (Z : State) (w_NONE : Addr) (o0 : Addr) (o1 : Addr) (o2 : Addr) (kk_o1 : ClassId) (kk_o2 : ClassId) (q0 : Int64) (q1 : Int64) (q2 : Int64) (h0 : Heap) (n0 : Nat) (v : Option Value) (h : Heap) (L : List Loc) : Prop := v = (some (.long 0)) ∧ Fr n0 L ∧ h = h0
theorem rm7_4 (l : Launch) (Z : State) (a0 : Array Value) (hw : HW Z a0) (ws : List Jvm.Cond) (w_NONE : Addr) (o0 : Addr) (o1 : Addr) (o2 : Addr) (kk_o1 : ClassId) (kk_o2 : ClassId) (q0 : Int64) (q1 : Int64) (q2 : Int64) (h0 : Heap) (n0 : Nat) (O0 : Old Z n0 h0) (S : SF Z w_NONE) (F_ranges_o0 : Fld Z h0 o0 sC0 "ranges" "I" (.int 0)) :
    Pay l Z My7 ws prog_55_method_17_code 1 (some .long) #[(.ref o0)] h0 ({ frames := 0, cells := 0, slots := 0, locals := 0 } : Room) (Q7_4 Z w_NONE o0 o1 o2 kk_o1 kk_o2 q0 q1 q2 h0 n0) := by
  refine own_body (plainFor_of_name pn_1) (L0 := #[va o0]) (fun _ => by first | rfl | (simp [entryFrame, mkF, argsToLocals, Value.category]; done)) ?_
  intro p e s m below meth c s₁ hrt hlk hx hby hml hZ hown0 hnm X0 e0
  have hown : s.vm.findClass sC0 = some m.cls := hown0
  have N0 := Fr.nil n0
  have K0 : Keep h0 h0 [] := Keep.refl _ _
  obtain ⟨T1, X1, e1, st1⟩ := getF X0 hx hZ hown (host := "") (Or.inl (ww hw 39 rfl)) Via.refl e0 F_ranges_o0 (g := (mkF m 1 #[va o0] [(.ref o0)])) rfl rfl (hb hby d7_1)
  obtain ⟨fs, hr, hrun, hended, hW, hsame⟩ := X1.leave (v := (some (.long 0))) (fun h => by rw [hrt] at h; cases h)
  refine ⟨_, _, ?_, hrun, hended, _, _, rfl, ?_, ⟨_, rfl⟩, hW, hsame.mono (by decide) (by decide)⟩
  · show Steps p.tables e below (s₁.setTop (mkF m 0 #[va o0] [])) _
    refine XS.aloadN X0.here hx rfl (hb hby d7_0) rfl rfl ?_
    refine st1 _ ?_
    refine XS.ifNo X1.here hx rfl (hb hby d7_4) rfl ((if0 _ _).trans (teq (by decide : (0 : Int32) = (0 : Int32))).2) ?_
    refine XS.lconst X1.here hx rfl (hb hby d7_7) ?_
    refine XS.goto X1.here hx rfl (pc0 := 8) (pc' := 24) rfl (hb hby d7_8) (by decide) (by decide) ?_
    exact retOut X1 hx (t := .long) (i := .lreturn) hrt rfl (Or.inr (Or.inl ⟨rfl, rfl, _, rfl⟩)) (hb hby d7_24) hr
  · show Q7_4 Z w_NONE o0 o1 o2 kk_o1 kk_o2 q0 q1 q2 h0 n0 (some (.long 0)) T1.heap _
    exact (⟨rfl, N0, e1⟩)
theorem ow30 (m167_0 : Int64) (m167_1 : Int64) (m167_2 : Int64) (m167_3 : Int64) (m167_4 : Int64) (nf0 : 0 ≤ m167_0.toInt ∧ m167_0.toInt ≤ m167_1.toInt ∧ m167_1.toInt ≤ 9223372036854775806) (nf1 : 0 ≤ m167_2.toInt ∧ m167_2.toInt ≤ m167_3.toInt ∧ m167_3.toInt ≤ 9223372036854775806) (nf2 : 0 ≤ m167_4.toInt ∧ m167_4.toInt ≤ 9223372036854775806) (hj0 : ¬ ((m167_3 + (1 : Int64)) < m167_0)) (hj1 : ¬ ((m167_1 + (1 : Int64)) < m167_2)) (hc1 : ¬ (m167_4 < (0 : Int64))) (hc2 : ¬ ((9223372036854775806 : Int64) < m167_4)) (hc3 : (own_maxL m167_3 m167_1) < m167_4) : ((own_maxL m167_3 m167_1) + (1 : Int64)) = (own_maxL (own_part1 m167_0 m167_1 m167_4) (own_part1 m167_2 m167_3 m167_4)) := by
  rw [Int64.lt_iff_toInt_lt] at hj0 hj1 hc1 hc2 hc3
  rw [← Int64.toInt_inj]
  have t2 : ((1 : Int64) : Int64).toInt = 1 := by decide
  have t3 := Jvm.Kit.i64_add (x := m167_3) (y := (1 : Int64)) (by omega) (by omega)
  have t6 := Jvm.Kit.i64_add (x := m167_1) (y := (1 : Int64)) (by omega) (by omega)
  have t9 : ((0 : Int64) : Int64).toInt = 0 := by decide
  have t10 : ((9223372036854775806 : Int64) : Int64).toInt = 9223372036854775806 := by decide
  have t11 := own_maxL_toInt m167_3 m167_1
  have t12 := Jvm.Kit.i64_add (x := (own_maxL m167_3 m167_1)) (y := (1 : Int64)) (by omega) (by omega)
  have t13 := own_part1_toInt m167_0 m167_1 m167_4
  have t14 := own_part1_toInt m167_2 m167_3 m167_4
  have t15 := own_maxL_toInt (own_part1 m167_0 m167_1 m167_4) (own_part1 m167_2 m167_3 m167_4)
  omega
theorem ow31 (m167_0 : Int64) (m167_1 : Int64) (m167_2 : Int64) (m167_3 : Int64) (m167_4 : Int64) (nf0 : 0 ≤ m167_0.toInt ∧ m167_0.toInt ≤ m167_1.toInt ∧ m167_1.toInt ≤ 9223372036854775806) (nf1 : 0 ≤ m167_2.toInt ∧ m167_2.toInt ≤ m167_3.toInt ∧ m167_3.toInt ≤ 9223372036854775806) (nf2 : 0 ≤ m167_4.toInt ∧ m167_4.toInt ≤ 9223372036854775806) (hj0 : ¬ ((m167_3 + (1 : Int64)) < m167_0)) (hj1 : ¬ ((m167_1 + (1 : Int64)) < m167_2)) (hc1 : ¬ (m167_4 < (0 : Int64))) (hc2 : ¬ ((9223372036854775806 : Int64) < m167_4)) (hc3 : ¬ ((own_maxL m167_3 m167_1) < m167_4)) : ¬ ((9223372036854775806 : Int64) < (own_minL m167_2 m167_0)) := by
  rw [Int64.lt_iff_toInt_lt] at hj0 hj1 hc1 hc2 hc3
  rw [Int64.lt_iff_toInt_lt]
  have t2 : ((1 : Int64) : Int64).toInt = 1 := by decide
  have t3 := Jvm.Kit.i64_add (x := m167_3) (y := (1 : Int64)) (by omega) (by omega)
  have t6 := Jvm.Kit.i64_add (x := m167_1) (y := (1 : Int64)) (by omega) (by omega)
  have t9 : ((0 : Int64) : Int64).toInt = 0 := by decide
  have t10 : ((9223372036854775806 : Int64) : Int64).toInt = 9223372036854775806 := by decide
  have t11 := own_maxL_toInt m167_3 m167_1
  have t12 := own_minL_toInt m167_2 m167_0
  omega
theorem ow32 (m167_0 : Int64) (m167_1 : Int64) (m167_2 : Int64) (m167_3 : Int64) (m167_4 : Int64) (nf0 : 0 ≤ m167_0.toInt ∧ m167_0.toInt ≤ m167_1.toInt ∧ m167_1.toInt ≤ 9223372036854775806) (nf1 : 0 ≤ m167_2.toInt ∧ m167_2.toInt ≤ m167_3.toInt ∧ m167_3.toInt ≤ 9223372036854775806) (nf2 : 0 ≤ m167_4.toInt ∧ m167_4.toInt ≤ 9223372036854775806) (hj0 : ¬ ((m167_3 + (1 : Int64)) < m167_0)) (hj1 : ¬ ((m167_1 + (1 : Int64)) < m167_2)) (hc1 : ¬ (m167_4 < (0 : Int64))) (hc2 : ¬ ((9223372036854775806 : Int64) < m167_4)) (hc3 : ¬ ((own_maxL m167_3 m167_1) < m167_4)) (hc5 : ¬ ((9223372036854775806 : Int64) < (own_minL m167_2 m167_0))) (hc6 : (own_minL m167_2 m167_0) < m167_4) : ¬ ((9223372036854775806 : Int64) < (own_maxL m167_3 m167_1)) := by
  rw [Int64.lt_iff_toInt_lt] at hj0 hj1 hc1 hc2 hc3 hc5 hc6
  rw [Int64.lt_iff_toInt_lt]
  have t2 : ((1 : Int64) : Int64).toInt = 1 := by decide
  have t3 := Jvm.Kit.i64_add (x := m167_3) (y := (1 : Int64)) (by omega) (by omega)
  have t6 := Jvm.Kit.i64_add (x := m167_1) (y := (1 : Int64)) (by omega) (by omega)
  have t9 : ((0 : Int64) : Int64).toInt = 0 := by decide
  have t10 : ((9223372036854775806 : Int64) : Int64).toInt = 9223372036854775806 := by decide
  have t11 := own_maxL_toInt m167_3 m167_1
  have t12 := own_minL_toInt m167_2 m167_0
  omega
theorem ow33 (m167_0 : Int64) (m167_1 : Int64) (m167_2 : Int64) (m167_3 : Int64) (m167_4 : Int64) (nf0 : 0 ≤ m167_0.toInt ∧ m167_0.toInt ≤ m167_1.toInt ∧ m167_1.toInt ≤ 9223372036854775806) (nf1 : 0 ≤ m167_2.toInt ∧ m167_2.toInt ≤ m167_3.toInt ∧ m167_3.toInt ≤ 9223372036854775806) (nf2 : 0 ≤ m167_4.toInt ∧ m167_4.toInt ≤ 9223372036854775806) (hj0 : ¬ ((m167_3 + (1 : Int64)) < m167_0)) (hj1 : ¬ ((m167_1 + (1 : Int64)) < m167_2)) (hc1 : ¬ (m167_4 < (0 : Int64))) (hc2 : ¬ ((9223372036854775806 : Int64) < m167_4)) (hc3 : ¬ ((own_maxL m167_3 m167_1) < m167_4)) (hc5 : ¬ ((9223372036854775806 : Int64) < (own_minL m167_2 m167_0))) (hc6 : (own_minL m167_2 m167_0) < m167_4) (hc7 : ¬ ((9223372036854775806 : Int64) < (own_maxL m167_3 m167_1))) : ((m167_4 - (1 : Int64)) + (1 : Int64)) = (own_maxL (own_part1 m167_0 m167_1 m167_4) (own_part1 m167_2 m167_3 m167_4)) := by
  rw [Int64.lt_iff_toInt_lt] at hj0 hj1 hc1 hc2 hc3 hc5 hc6 hc7
  rw [← Int64.toInt_inj]
  have t2 : ((1 : Int64) : Int64).toInt = 1 := by decide
  have t3 := Jvm.Kit.i64_add (x := m167_3) (y := (1 : Int64)) (by omega) (by omega)
  have t6 := Jvm.Kit.i64_add (x := m167_1) (y := (1 : Int64)) (by omega) (by omega)
  have t9 : ((0 : Int64) : Int64).toInt = 0 := by decide
  have t10 : ((9223372036854775806 : Int64) : Int64).toInt = 9223372036854775806 := by decide
  have t11 := own_maxL_toInt m167_3 m167_1
  have t12 := own_minL_toInt m167_2 m167_0
  have t13 := Jvm.Kit.i64_sub (x := m167_4) (y := (1 : Int64)) (by omega) (by omega)
  have t14 := Jvm.Kit.i64_add (x := (m167_4 - (1 : Int64))) (y := (1 : Int64)) (by omega) (by omega)
  have t15 := own_part1_toInt m167_0 m167_1 m167_4
  have t16 := own_part1_toInt m167_2 m167_3 m167_4
  have t17 := own_maxL_toInt (own_part1 m167_0 m167_1 m167_4) (own_part1 m167_2 m167_3 m167_4)
  omega
theorem ow34 (m167_0 : Int64) (m167_1 : Int64) (m167_2 : Int64) (m167_3 : Int64) (m167_4 : Int64) (nf0 : 0 ≤ m167_0.toInt ∧ m167_0.toInt ≤ m167_1.toInt ∧ m167_1.toInt ≤ 9223372036854775806) (nf1 : 0 ≤ m167_2.toInt ∧ m167_2.toInt ≤ m167_3.toInt ∧ m167_3.toInt ≤ 9223372036854775806) (nf2 : 0 ≤ m167_4.toInt ∧ m167_4.toInt ≤ 9223372036854775806) (hj0 : ¬ ((m167_3 + (1 : Int64)) < m167_0)) (hj1 : ¬ ((m167_1 + (1 : Int64)) < m167_2)) (hc1 : ¬ (m167_4 < (0 : Int64))) (hc2 : ¬ ((9223372036854775806 : Int64) < m167_4)) (hc3 : ¬ ((own_maxL m167_3 m167_1) < m167_4)) (hc5 : ¬ ((9223372036854775806 : Int64) < (own_minL m167_2 m167_0))) (hc6 : ¬ ((own_minL m167_2 m167_0) < m167_4)) : ¬ ((9223372036854775806 : Int64) < (own_maxL m167_3 m167_1)) := by
  rw [Int64.lt_iff_toInt_lt] at hj0 hj1 hc1 hc2 hc3 hc5 hc6
  rw [Int64.lt_iff_toInt_lt]
  have t2 : ((1 : Int64) : Int64).toInt = 1 := by decide
  have t3 := Jvm.Kit.i64_add (x := m167_3) (y := (1 : Int64)) (by omega) (by omega)
  have t6 := Jvm.Kit.i64_add (x := m167_1) (y := (1 : Int64)) (by omega) (by omega)
  have t9 : ((0 : Int64) : Int64).toInt = 0 := by decide
  have t10 : ((9223372036854775806 : Int64) : Int64).toInt = 9223372036854775806 := by decide
  have t11 := own_maxL_toInt m167_3 m167_1
  have t12 := own_minL_toInt m167_2 m167_0
  omega
theorem ow35 (m167_0 : Int64) (m167_1 : Int64) (m167_2 : Int64) (m167_3 : Int64) (m167_4 : Int64) (nf0 : 0 ≤ m167_0.toInt ∧ m167_0.toInt ≤ m167_1.toInt ∧ m167_1.toInt ≤ 9223372036854775806) (nf1 : 0 ≤ m167_2.toInt ∧ m167_2.toInt ≤ m167_3.toInt ∧ m167_3.toInt ≤ 9223372036854775806) (nf2 : 0 ≤ m167_4.toInt ∧ m167_4.toInt ≤ 9223372036854775806) (hj0 : ¬ ((m167_3 + (1 : Int64)) < m167_0)) (hj1 : ¬ ((m167_1 + (1 : Int64)) < m167_2)) (hc1 : ¬ (m167_4 < (0 : Int64))) (hc2 : ¬ ((9223372036854775806 : Int64) < m167_4)) (hc3 : ¬ ((own_maxL m167_3 m167_1) < m167_4)) (hc5 : ¬ ((9223372036854775806 : Int64) < (own_minL m167_2 m167_0))) (hc6 : ¬ ((own_minL m167_2 m167_0) < m167_4)) (hc7 : ¬ ((9223372036854775806 : Int64) < (own_maxL m167_3 m167_1))) : (0 : Int64) = (own_maxL (own_part1 m167_0 m167_1 m167_4) (own_part1 m167_2 m167_3 m167_4)) := by
  rw [Int64.lt_iff_toInt_lt] at hj0 hj1 hc1 hc2 hc3 hc5 hc6 hc7
  rw [← Int64.toInt_inj]
  have t2 : ((1 : Int64) : Int64).toInt = 1 := by decide
  have t3 := Jvm.Kit.i64_add (x := m167_3) (y := (1 : Int64)) (by omega) (by omega)
  have t6 := Jvm.Kit.i64_add (x := m167_1) (y := (1 : Int64)) (by omega) (by omega)
  have t9 : ((0 : Int64) : Int64).toInt = 0 := by decide
  have t10 : ((9223372036854775806 : Int64) : Int64).toInt = 9223372036854775806 := by decide
  have t11 := own_maxL_toInt m167_3 m167_1
  have t12 := own_minL_toInt m167_2 m167_0
  have t13 := own_part1_toInt m167_0 m167_1 m167_4
  have t14 := own_part1_toInt m167_2 m167_3 m167_4
  have t15 := own_maxL_toInt (own_part1 m167_0 m167_1 m167_4) (own_part1 m167_2 m167_3 m167_4)
  omega
theorem jn7 {p : Program} {l : Launch} {e : Env} {s : State} {m : MethodId} {below : List Frame} {meth : Method} {c : Code} {T0 : State} {locs : List Loc} {Z : State} {a0 : Array Value} {h0 : Heap} {n0 : Nat} (hx : p.tables.exec = Jvm.exec) (hZ : Z.Warmed39 s.vm) (hby : c.code = code) (hml : c.maxLocals = 26) (hown : s.vm.findClass sC1 = some m.cls) (hrt : meth.sig.returnType = ret) (hlk : meth.locks = false) (hw : HW Z a0) (w_NONE : Addr) (o0 : Addr) (o1 : Addr) (o2 : Addr) (kk_o1 : ClassId) (kk_o2 : ClassId) (p0 : Int32) (p1 : Int64) (p2 : Int64) (p3 : Int64) (p4 : Int64) (p5 : Int64) (m167_0 : Int64) (m167_1 : Int64) (m167_2 : Int64) (m167_3 : Int64) (m167_4 : Int64) (f0 : Int32) (f19 : Int32) (X0 : Stand p l e room_1 s m #[(.int p0), (.long p1), (.long p2), (.long p3), (.long p4), (.long p5)] below meth c T0 locs 10 60) (e0 : T0.heap = h0) (N0 : Fr n0 locs) (O0 : Old Z n0 h0) (S : SF Z w_NONE) (E_o0 : Exa Z h0 o0 sC0) (F_count_o0 : Fld Z h0 o0 sC0 "count" "J" (.long (((0 : Int64) + ((m167_1 - m167_0) + (1 : Int64))) + ((((own_maxL m167_3 m167_1) - (own_minL m167_2 m167_0)) + (1 : Int64)) - ((0 : Int64) + ((m167_1 - m167_0) + (1 : Int64))))))) (F_firsts_o0 : Fld Z h0 o0 sC0 "firsts" "[J" (.ref o1)) (F_lasts_o0 : Fld Z h0 o0 sC0 "lasts" "[J" (.ref o2)) (F_maxRanges_o0 : Fld Z h0 o0 sC0 "maxRanges" "I" (.int 2147483647)) (F_ranges_o0 : Fld Z h0 o0 sC0 "ranges" "I" (.int 1)) (V_o1 : Arv Z h0 o1 kk_o1 .long (4 : Int32) [(.long (own_minL m167_2 m167_0)), (.long 0), (.long 0), (.long 0)] (.long 0)) (V_o2 : Arv Z h0 o2 kk_o2 .long (4 : Int32) [(.long (own_maxL m167_3 m167_1)), (.long 0), (.long 0), (.long 0)] (.long 0)) (ne_o0_o1 : o0 ≠ o1) (ne_o0_o2 : o0 ≠ o2) (ne_o1_o2 : o1 ≠ o2) (g_o0 : n0 ≤ o0) (g_o1 : n0 ≤ o1) (g_o2 : n0 ≤ o2) (nf0 : 0 ≤ m167_0.toInt ∧ m167_0.toInt ≤ m167_1.toInt ∧ m167_1.toInt ≤ 9223372036854775806) (nf1 : 0 ≤ m167_2.toInt ∧ m167_2.toInt ≤ m167_3.toInt ∧ m167_3.toInt ≤ 9223372036854775806) (nf2 : 0 ≤ m167_4.toInt ∧ m167_4.toInt ≤ 9223372036854775806) (hj0 : ¬ ((m167_3 + (1 : Int64)) < m167_0)) (hj1 : ¬ ((m167_1 + (1 : Int64)) < m167_2)) :
    ∃ s₂ o, Steps p.tables e below (T0.setTop (mkF m 167 #[vi f0, vl p1, ss, vl p2, ss, vl p3, ss, vl p4, ss, vl p5, ss, vl m167_0, ss, vl m167_1, ss, vl m167_2, ss, vl m167_3, ss, vi f19, vi 1, vl m167_4, ss, va o0, vl (own_maxL (own_part1 m167_0 m167_1 m167_4) (own_part1 m167_2 m167_3 m167_4)), ss] [])) s₂ ∧ s₂.status = .running ∧ Ended s₂ below o ∧ ∃ v L, o = .returned v ∧ Q0 n0 v s₂.heap L ∧ FrameEnd s o s₂ L room_1.cells room_1.slots := by
  have K0 : Keep h0 h0 [o1, o0, o2] := Keep.refl _ _
  have hc1 : ¬ (m167_4 < (0 : Int64)) := ow14 m167_4 nf2
  have hc2 : ¬ ((9223372036854775806 : Int64) < m167_4) := ow15 m167_4 nf2 hc1
  have pre_4 : ∀ t, Steps p.tables e below (T0.setTop (mkF m 179 #[vi f0, vl p1, ss, vl p2, ss, vl p3, ss, vl p4, ss, vl p5, ss, vl m167_0, ss, vl m167_1, ss, vl m167_2, ss, vl m167_3, ss, vi f19, vi 1, vl m167_4, ss, va o0, vl (own_maxL (own_part1 m167_0 m167_1 m167_4) (own_part1 m167_2 m167_3 m167_4)), ss] [(.long 9223372036854775806), (.long m167_4), (.ref o0)])) t → Steps p.tables e below (T0.setTop (mkF m 167 #[vi f0, vl p1, ss, vl p2, ss, vl p3, ss, vl p4, ss, vl p5, ss, vl m167_0, ss, vl m167_1, ss, vl m167_2, ss, vl m167_3, ss, vi f19, vi 1, vl m167_4, ss, va o0, vl (own_maxL (own_part1 m167_0 m167_1 m167_4) (own_part1 m167_2 m167_3 m167_4)), ss] [])) t := fun t k => (by
    show Steps p.tables e below (T0.setTop (mkF m 167 #[vi f0, vl p1, ss, vl p2, ss, vl p3, ss, vl p4, ss, vl p5, ss, vl m167_0, ss, vl m167_1, ss, vl m167_2, ss, vl m167_3, ss, vi f19, vi 1, vl m167_4, ss, va o0, vl (own_maxL (own_part1 m167_0 m167_1 m167_4) (own_part1 m167_2 m167_3 m167_4)), ss] [])) _
    refine XS.iload X0.here hx rfl (hb hby at_167) rfl ?_
    refine XS.ifNo X0.here hx rfl (hb hby at_169) rfl ((if0 _ _).trans (feq (by decide : ¬ ((1 : Int32) = (0 : Int32)))).1) ?_
    refine XS.aload X0.here hx rfl (hb hby at_172) rfl rfl ?_
    refine XS.lload X0.here hx rfl (hb hby at_174) rfl ?_
    refine X0.ldc2Long hx hown (mvT hZ (ww hw 5 rfl)) (g := (mkF m 176 #[vi f0, vl p1, ss, vl p2, ss, vl p3, ss, vl p4, ss, vl p5, ss, vl m167_0, ss, vl m167_1, ss, vl m167_2, ss, vl m167_3, ss, vi f19, vi 1, vl m167_4, ss, va o0, vl (own_maxL (own_part1 m167_0 m167_1 m167_4) (own_part1 m167_2 m167_3 m167_4)), ss] [(.long m167_4), (.ref o0)])) rfl (hb hby at_176) _ ?_
    exact k)
  by_cases hc3 : (own_maxL m167_3 m167_1) < m167_4
  · obtain ⟨cq5, kq5, q5a, q5b, q5c⟩ := isOf hZ e0 E_o0
    obtain ⟨_, _, ⟨T5, L5, k5, n5⟩, -, X5, ⟨Lc5, hQ5, l5, y5, z5⟩, st5⟩ := X0.virtualBack hx (y := My17) (z := My17) hown (mvT hZ (ww hw 84 rfl)) (mvT hZ (ww hw 85 rfl)) (notFace_of_selects (args := #[]) (mvT hZ (ww hw 87 rfl))) (mvT hZ (ww hw 87 rfl)) (mvT hZ (ww hw 86 rfl)) (by decide) (backOf (W := 0) (rm17_6 l Z a0 hw [] w_NONE o0 o1 o2 kk_o1 kk_o2 m167_4 (((0 : Int64) + ((m167_1 - m167_0) + (1 : Int64))) + ((((own_maxL m167_3 m167_1) - (own_minL m167_2 m167_0)) + (1 : Int64)) - ((0 : Int64) + ((m167_1 - m167_0) + (1 : Int64))))) (own_minL m167_2 m167_0) (own_maxL m167_3 m167_1) h0 n0 O0 S E_o0 F_lasts_o0 F_ranges_o0 V_o2 hc1 hc2 hc3) hZ (ww hw 88 rfl) (ww hw 15 rfl) (by decide) (by decide)) q5a q5c (g := (mkF m 179 #[vi f0, vl p1, ss, vl p2, ss, vl p3, ss, vl p4, ss, vl p5, ss, vl m167_0, ss, vl m167_1, ss, vl m167_2, ss, vl m167_3, ss, vi f19, vi 1, vl m167_4, ss, va o0, vl (own_maxL (own_part1 m167_0 m167_1 m167_4) (own_part1 m167_2 m167_3 m167_4)), ss] [(.long 9223372036854775806), (.long m167_4), (.ref o0)])) rfl (by rw [hml]; rfl) (Steps.refl _) (argsL := [(.long m167_4), (.long 9223372036854775806)]) (rest := []) (lenOf pd_4 rfl) rfl (by show 2 * 0 + _ ≤ _; exact Nat.le_of_eq rfl) (hb hby at_179) (fun _ _ => ⟨rfl, e0, (by decide : 10 + 0 ≤ _), (by decide : 60 + 0 ≤ _)⟩)
    dsimp only [Pt.U, Pt.locs, Pt.cells, Pt.slots] at X5 l5 y5 z5 st5 hQ5
    subst l5 y5 z5
    obtain ⟨rfl, Nq5, e5⟩ := hQ5
    have N5 := Fr.app N0 Nq5
    obtain ⟨cq6, kq6, q6a, q6b, q6c⟩ := isOf hZ e5 E_o0
    obtain ⟨_, _, ⟨T6, L6, k6, n6⟩, -, X6, ⟨Lc6, hQ6, l6, y6, z6⟩, st6⟩ := X5.virtualBack hx (y := My7) (z := My7) hown (mvT hZ (ww hw 34 rfl)) (mvT hZ (ww hw 35 rfl)) (notFace_of_selects (args := #[]) (mvT hZ (ww hw 37 rfl))) (mvT hZ (ww hw 37 rfl)) (mvT hZ (ww hw 36 rfl)) (by decide) (backOf (W := 0) (rm7_1 l Z a0 hw [] w_NONE o0 o1 o2 kk_o1 kk_o2 (((0 : Int64) + ((m167_1 - m167_0) + (1 : Int64))) + ((((own_maxL m167_3 m167_1) - (own_minL m167_2 m167_0)) + (1 : Int64)) - ((0 : Int64) + ((m167_1 - m167_0) + (1 : Int64))))) (own_minL m167_2 m167_0) (own_maxL m167_3 m167_1) h0 n0 O0 S F_lasts_o0 F_ranges_o0 V_o2) hZ (ww hw 38 rfl) (ww hw 15 rfl) (by decide) (by decide)) q6a q6c (g := (mkF m 184 #[vi f0, vl p1, ss, vl p2, ss, vl p3, ss, vl p4, ss, vl p5, ss, vl m167_0, ss, vl m167_1, ss, vl m167_2, ss, vl m167_3, ss, vi f19, vi 1, vl m167_4, ss, va o0, vl (own_maxL (own_part1 m167_0 m167_1 m167_4) (own_part1 m167_2 m167_3 m167_4)), ss] [(.ref o0)])) rfl (by rw [hml]; rfl) (Steps.refl _) (argsL := []) (rest := []) (lenOf pd_12 rfl) rfl (by show 2 * 0 + _ ≤ _; exact Nat.le_of_eq rfl) (hb hby at_184) (fun _ _ => ⟨rfl, e5, (by decide : 10 + 0 ≤ _), (by decide : 60 + 0 ≤ _)⟩)
    dsimp only [Pt.U, Pt.locs, Pt.cells, Pt.slots] at X6 l6 y6 z6 st6 hQ6
    subst l6 y6 z6
    obtain ⟨rfl, Nq6, e6⟩ := hQ6
    have N6 := Fr.app N5 Nq6
    have hc7 : ((own_maxL m167_3 m167_1) + (1 : Int64)) = (own_maxL (own_part1 m167_0 m167_1 m167_4) (own_part1 m167_2 m167_3 m167_4)) := ow30 m167_0 m167_1 m167_2 m167_3 m167_4 nf0 nf1 nf2 hj0 hj1 hc1 hc2 hc3
    obtain ⟨fs, hr, hrun, hended, hW, hsame⟩ := X6.leave (v := (some (.int 1))) (fun h => by rw [hrt] at h; cases h)
    refine ⟨_, _, pre_4 _ ?_, hrun, hended, _, _, rfl, ?_, ⟨_, rfl⟩, hW, hsame.mono (by decide) (by decide)⟩
    · show Steps p.tables e below (T0.setTop (mkF m 179 #[vi f0, vl p1, ss, vl p2, ss, vl p3, ss, vl p4, ss, vl p5, ss, vl m167_0, ss, vl m167_1, ss, vl m167_2, ss, vl m167_3, ss, vi f19, vi 1, vl m167_4, ss, va o0, vl (own_maxL (own_part1 m167_0 m167_1 m167_4) (own_part1 m167_2 m167_3 m167_4)), ss] [(.long 9223372036854775806), (.long m167_4), (.ref o0)])) _
      refine st5.trans ?_
      refine XS.aload X5.here hx rfl (hb hby at_182) rfl rfl ?_
      refine st6.trans ?_
      refine XS.lload X6.here hx rfl (hb hby at_187) rfl ?_
      refine XS.lcmp X6.here hx rfl (hb hby at_189) rfl ?_
      refine XS.ifNo X6.here hx rfl (hb hby at_190) rfl (own_lc_eqT hc7).2 ?_
      refine XS.iconst X6.here hx rfl (hb hby at_193) ?_
      refine XS.goto X6.here hx rfl (pc0 := 194) (pc' := 198) rfl (hb hby at_194) (by decide) (by decide) ?_
      show Steps p.tables e below (T6.setTop (mkF m 198 #[vi f0, vl p1, ss, vl p2, ss, vl p3, ss, vl p4, ss, vl p5, ss, vl m167_0, ss, vl m167_1, ss, vl m167_2, ss, vl m167_3, ss, vi f19, vi 1, vl m167_4, ss, va o0, vl (own_maxL (own_part1 m167_0 m167_1 m167_4) (own_part1 m167_2 m167_3 m167_4)), ss] [(.int 1)])) _
      exact retN X6 hx (t := .boolean) hrt (by simp) (hb hby at_198) hr
    · show Q0 n0 (some (.int 1)) T6.heap _
      exact (⟨rfl, N6⟩)
  · have hc5 : ¬ ((9223372036854775806 : Int64) < (own_minL m167_2 m167_0)) := ow31 m167_0 m167_1 m167_2 m167_3 m167_4 nf0 nf1 nf2 hj0 hj1 hc1 hc2 hc3
    by_cases hc6 : (own_minL m167_2 m167_0) < m167_4
    · have hc7 : ¬ ((9223372036854775806 : Int64) < (own_maxL m167_3 m167_1)) := ow32 m167_0 m167_1 m167_2 m167_3 m167_4 nf0 nf1 nf2 hj0 hj1 hc1 hc2 hc3 hc5 hc6
      obtain ⟨cq8, kq8, q8a, q8b, q8c⟩ := isOf hZ e0 E_o0
      obtain ⟨_, _, ⟨T8, L8, k8, n8⟩, -, X8, ⟨Lc8, hQ8, l8, y8, z8⟩, st8⟩ := X0.virtualBack hx (y := My17) (z := My17) hown (mvT hZ (ww hw 84 rfl)) (mvT hZ (ww hw 85 rfl)) (notFace_of_selects (args := #[]) (mvT hZ (ww hw 87 rfl))) (mvT hZ (ww hw 87 rfl)) (mvT hZ (ww hw 86 rfl)) (by decide) (backOf (W := 0) (rm17_5 l Z a0 hw [] w_NONE o0 o1 o2 kk_o1 kk_o2 m167_4 (((0 : Int64) + ((m167_1 - m167_0) + (1 : Int64))) + ((((own_maxL m167_3 m167_1) - (own_minL m167_2 m167_0)) + (1 : Int64)) - ((0 : Int64) + ((m167_1 - m167_0) + (1 : Int64))))) (own_minL m167_2 m167_0) (own_maxL m167_3 m167_1) h0 n0 O0 S E_o0 F_count_o0 F_firsts_o0 F_lasts_o0 F_maxRanges_o0 F_ranges_o0 V_o1 V_o2 ne_o0_o1 ne_o0_o2 ne_o1_o2 g_o0 g_o1 g_o2 hc1 hc2 hc3 hc5 hc6 hc7) hZ (ww hw 88 rfl) (ww hw 15 rfl) (by decide) (by decide)) q8a q8c (g := (mkF m 179 #[vi f0, vl p1, ss, vl p2, ss, vl p3, ss, vl p4, ss, vl p5, ss, vl m167_0, ss, vl m167_1, ss, vl m167_2, ss, vl m167_3, ss, vi f19, vi 1, vl m167_4, ss, va o0, vl (own_maxL (own_part1 m167_0 m167_1 m167_4) (own_part1 m167_2 m167_3 m167_4)), ss] [(.long 9223372036854775806), (.long m167_4), (.ref o0)])) rfl (by rw [hml]; rfl) (Steps.refl _) (argsL := [(.long m167_4), (.long 9223372036854775806)]) (rest := []) (lenOf pd_4 rfl) rfl (by show 2 * 0 + _ ≤ _; exact Nat.le_of_eq rfl) (hb hby at_179) (fun _ _ => ⟨rfl, e0, (by decide : 10 + 0 ≤ _), (by decide : 60 + 0 ≤ _)⟩)
      dsimp only [Pt.U, Pt.locs, Pt.cells, Pt.slots] at X8 l8 y8 z8 st8 hQ8
      subst l8 y8 z8
      obtain ⟨rfl, Nq8, Kc8, P0_8, P1_8, P2_8, P3_8, P4_8, P5_8, P6_8, P7_8⟩ := hQ8
      have N8 := Fr.app N0 Nq8
      have O8 := O0.keep Kc8 (allS g_o2 (allS g_o0 (allS g_o1 all0)))
      have K8 : Keep h0 T8.heap [o1, o0, o2] := K0.trans Kc8 (allS (Or.inl (List.mem_of_getElem? (i := 2) rfl)) (allS (Or.inl (List.mem_of_getElem? (i := 1) rfl)) (allS (Or.inl (List.mem_of_getElem? (i := 0) rfl)) all0)))
      obtain ⟨cq9, kq9, q9a, q9b, q9c⟩ := isOf hZ rfl P0_8
      obtain ⟨_, _, ⟨T9, L9, k9, n9⟩, -, X9, ⟨Lc9, hQ9, l9, y9, z9⟩, st9⟩ := X8.virtualBack hx (y := My7) (z := My7) hown (mvT hZ (ww hw 34 rfl)) (mvT hZ (ww hw 35 rfl)) (notFace_of_selects (args := #[]) (mvT hZ (ww hw 37 rfl))) (mvT hZ (ww hw 37 rfl)) (mvT hZ (ww hw 36 rfl)) (by decide) (backOf (W := 0) (rm7_1 l Z a0 hw [] w_NONE o0 o1 o2 kk_o1 kk_o2 ((((0 : Int64) + ((m167_1 - m167_0) + (1 : Int64))) + ((((own_maxL m167_3 m167_1) - (own_minL m167_2 m167_0)) + (1 : Int64)) - ((0 : Int64) + ((m167_1 - m167_0) + (1 : Int64))))) - ((0 : Int64) + (((own_maxL m167_3 m167_1) - m167_4) + (1 : Int64)))) (own_minL m167_2 m167_0) (m167_4 - (1 : Int64)) T8.heap n0 O8 S P3_8 P5_8 P7_8) hZ (ww hw 38 rfl) (ww hw 15 rfl) (by decide) (by decide)) q9a q9c (g := (mkF m 184 #[vi f0, vl p1, ss, vl p2, ss, vl p3, ss, vl p4, ss, vl p5, ss, vl m167_0, ss, vl m167_1, ss, vl m167_2, ss, vl m167_3, ss, vi f19, vi 1, vl m167_4, ss, va o0, vl (own_maxL (own_part1 m167_0 m167_1 m167_4) (own_part1 m167_2 m167_3 m167_4)), ss] [(.ref o0)])) rfl (by rw [hml]; rfl) (Steps.refl _) (argsL := []) (rest := []) (lenOf pd_12 rfl) rfl (by show 2 * 0 + _ ≤ _; exact Nat.le_of_eq rfl) (hb hby at_184) (fun _ _ => ⟨rfl, rfl, (by decide : 10 + 0 ≤ _), (by decide : 60 + 0 ≤ _)⟩)
      dsimp only [Pt.U, Pt.locs, Pt.cells, Pt.slots] at X9 l9 y9 z9 st9 hQ9
      subst l9 y9 z9
      obtain ⟨rfl, Nq9, e9⟩ := hQ9
      have N9 := Fr.app N8 Nq9
      have hc10 : ((m167_4 - (1 : Int64)) + (1 : Int64)) = (own_maxL (own_part1 m167_0 m167_1 m167_4) (own_part1 m167_2 m167_3 m167_4)) := ow33 m167_0 m167_1 m167_2 m167_3 m167_4 nf0 nf1 nf2 hj0 hj1 hc1 hc2 hc3 hc5 hc6 hc7
      obtain ⟨fs, hr, hrun, hended, hW, hsame⟩ := X9.leave (v := (some (.int 1))) (fun h => by rw [hrt] at h; cases h)
      refine ⟨_, _, pre_4 _ ?_, hrun, hended, _, _, rfl, ?_, ⟨_, rfl⟩, hW, hsame.mono (by decide) (by decide)⟩
      · show Steps p.tables e below (T0.setTop (mkF m 179 #[vi f0, vl p1, ss, vl p2, ss, vl p3, ss, vl p4, ss, vl p5, ss, vl m167_0, ss, vl m167_1, ss, vl m167_2, ss, vl m167_3, ss, vi f19, vi 1, vl m167_4, ss, va o0, vl (own_maxL (own_part1 m167_0 m167_1 m167_4) (own_part1 m167_2 m167_3 m167_4)), ss] [(.long 9223372036854775806), (.long m167_4), (.ref o0)])) _
        refine st8.trans ?_
        refine XS.aload X8.here hx rfl (hb hby at_182) rfl rfl ?_
        refine st9.trans ?_
        refine XS.lload X9.here hx rfl (hb hby at_187) rfl ?_
        refine XS.lcmp X9.here hx rfl (hb hby at_189) rfl ?_
        refine XS.ifNo X9.here hx rfl (hb hby at_190) rfl (own_lc_eqT hc10).2 ?_
        refine XS.iconst X9.here hx rfl (hb hby at_193) ?_
        refine XS.goto X9.here hx rfl (pc0 := 194) (pc' := 198) rfl (hb hby at_194) (by decide) (by decide) ?_
        show Steps p.tables e below (T9.setTop (mkF m 198 #[vi f0, vl p1, ss, vl p2, ss, vl p3, ss, vl p4, ss, vl p5, ss, vl m167_0, ss, vl m167_1, ss, vl m167_2, ss, vl m167_3, ss, vi f19, vi 1, vl m167_4, ss, va o0, vl (own_maxL (own_part1 m167_0 m167_1 m167_4) (own_part1 m167_2 m167_3 m167_4)), ss] [(.int 1)])) _
        exact retN X9 hx (t := .boolean) hrt (by simp) (hb hby at_198) hr
      · show Q0 n0 (some (.int 1)) T9.heap _
        exact (⟨rfl, N9⟩)
    · have hc7 : ¬ ((9223372036854775806 : Int64) < (own_maxL m167_3 m167_1)) := ow34 m167_0 m167_1 m167_2 m167_3 m167_4 nf0 nf1 nf2 hj0 hj1 hc1 hc2 hc3 hc5 hc6
      obtain ⟨cq8, kq8, q8a, q8b, q8c⟩ := isOf hZ e0 E_o0
      obtain ⟨_, _, ⟨T8, L8, k8, n8⟩, -, X8, ⟨Lc8, hQ8, l8, y8, z8⟩, st8⟩ := X0.virtualBack hx (y := My17) (z := My17) hown (mvT hZ (ww hw 84 rfl)) (mvT hZ (ww hw 85 rfl)) (notFace_of_selects (args := #[]) (mvT hZ (ww hw 87 rfl))) (mvT hZ (ww hw 87 rfl)) (mvT hZ (ww hw 86 rfl)) (by decide) (backOf (W := 0) (rm17_7 l Z a0 hw [] w_NONE o0 o1 o2 kk_o1 kk_o2 m167_4 (((0 : Int64) + ((m167_1 - m167_0) + (1 : Int64))) + ((((own_maxL m167_3 m167_1) - (own_minL m167_2 m167_0)) + (1 : Int64)) - ((0 : Int64) + ((m167_1 - m167_0) + (1 : Int64))))) (own_minL m167_2 m167_0) (own_maxL m167_3 m167_1) h0 n0 O0 S E_o0 F_count_o0 F_firsts_o0 F_lasts_o0 F_maxRanges_o0 F_ranges_o0 V_o1 V_o2 ne_o0_o1 ne_o0_o2 ne_o1_o2 g_o0 g_o1 g_o2 hc1 hc2 hc3 hc5 hc6 hc7) hZ (ww hw 88 rfl) (ww hw 15 rfl) (by decide) (by decide)) q8a q8c (g := (mkF m 179 #[vi f0, vl p1, ss, vl p2, ss, vl p3, ss, vl p4, ss, vl p5, ss, vl m167_0, ss, vl m167_1, ss, vl m167_2, ss, vl m167_3, ss, vi f19, vi 1, vl m167_4, ss, va o0, vl (own_maxL (own_part1 m167_0 m167_1 m167_4) (own_part1 m167_2 m167_3 m167_4)), ss] [(.long 9223372036854775806), (.long m167_4), (.ref o0)])) rfl (by rw [hml]; rfl) (Steps.refl _) (argsL := [(.long m167_4), (.long 9223372036854775806)]) (rest := []) (lenOf pd_4 rfl) rfl (by show 2 * 0 + _ ≤ _; exact Nat.le_of_eq rfl) (hb hby at_179) (fun _ _ => ⟨rfl, e0, (by decide : 10 + 0 ≤ _), (by decide : 60 + 0 ≤ _)⟩)
      dsimp only [Pt.U, Pt.locs, Pt.cells, Pt.slots] at X8 l8 y8 z8 st8 hQ8
      subst l8 y8 z8
      obtain ⟨rfl, Nq8, Kc8, P0_8, P1_8, P2_8, P3_8, P4_8, P5_8, P6_8, P7_8⟩ := hQ8
      have N8 := Fr.app N0 Nq8
      have O8 := O0.keep Kc8 (allS g_o0 (allS g_o2 (allS g_o1 all0)))
      have K8 : Keep h0 T8.heap [o1, o0, o2] := K0.trans Kc8 (allS (Or.inl (List.mem_of_getElem? (i := 1) rfl)) (allS (Or.inl (List.mem_of_getElem? (i := 2) rfl)) (allS (Or.inl (List.mem_of_getElem? (i := 0) rfl)) all0)))
      obtain ⟨cq9, kq9, q9a, q9b, q9c⟩ := isOf hZ rfl P0_8
      obtain ⟨_, _, ⟨T9, L9, k9, n9⟩, -, X9, ⟨Lc9, hQ9, l9, y9, z9⟩, st9⟩ := X8.virtualBack hx (y := My7) (z := My7) hown (mvT hZ (ww hw 34 rfl)) (mvT hZ (ww hw 35 rfl)) (notFace_of_selects (args := #[]) (mvT hZ (ww hw 37 rfl))) (mvT hZ (ww hw 37 rfl)) (mvT hZ (ww hw 36 rfl)) (by decide) (backOf (W := 0) (rm7_4 l Z a0 hw [] w_NONE o0 o1 o2 kk_o1 kk_o2 ((((0 : Int64) + ((m167_1 - m167_0) + (1 : Int64))) + ((((own_maxL m167_3 m167_1) - (own_minL m167_2 m167_0)) + (1 : Int64)) - ((0 : Int64) + ((m167_1 - m167_0) + (1 : Int64))))) - ((0 : Int64) + (((own_maxL m167_3 m167_1) - (own_minL m167_2 m167_0)) + (1 : Int64)))) (own_minL m167_2 m167_0) (own_maxL m167_3 m167_1) T8.heap n0 O8 S P5_8) hZ (ww hw 38 rfl) (ww hw 15 rfl) (by decide) (by decide)) q9a q9c (g := (mkF m 184 #[vi f0, vl p1, ss, vl p2, ss, vl p3, ss, vl p4, ss, vl p5, ss, vl m167_0, ss, vl m167_1, ss, vl m167_2, ss, vl m167_3, ss, vi f19, vi 1, vl m167_4, ss, va o0, vl (own_maxL (own_part1 m167_0 m167_1 m167_4) (own_part1 m167_2 m167_3 m167_4)), ss] [(.ref o0)])) rfl (by rw [hml]; rfl) (Steps.refl _) (argsL := []) (rest := []) (lenOf pd_12 rfl) rfl (by show 2 * 0 + _ ≤ _; exact Nat.le_of_eq rfl) (hb hby at_184) (fun _ _ => ⟨rfl, rfl, (by decide : 10 + 0 ≤ _), (by decide : 60 + 0 ≤ _)⟩)
      dsimp only [Pt.U, Pt.locs, Pt.cells, Pt.slots] at X9 l9 y9 z9 st9 hQ9
      subst l9 y9 z9
      obtain ⟨rfl, Nq9, e9⟩ := hQ9
      have N9 := Fr.app N8 Nq9
      have hc10 : (0 : Int64) = (own_maxL (own_part1 m167_0 m167_1 m167_4) (own_part1 m167_2 m167_3 m167_4)) := ow35 m167_0 m167_1 m167_2 m167_3 m167_4 nf0 nf1 nf2 hj0 hj1 hc1 hc2 hc3 hc5 hc6 hc7
      obtain ⟨fs, hr, hrun, hended, hW, hsame⟩ := X9.leave (v := (some (.int 1))) (fun h => by rw [hrt] at h; cases h)
      refine ⟨_, _, pre_4 _ ?_, hrun, hended, _, _, rfl, ?_, ⟨_, rfl⟩, hW, hsame.mono (by decide) (by decide)⟩
      · show Steps p.tables e below (T0.setTop (mkF m 179 #[vi f0, vl p1, ss, vl p2, ss, vl p3, ss, vl p4, ss, vl p5, ss, vl m167_0, ss, vl m167_1, ss, vl m167_2, ss, vl m167_3, ss, vi f19, vi 1, vl m167_4, ss, va o0, vl (own_maxL (own_part1 m167_0 m167_1 m167_4) (own_part1 m167_2 m167_3 m167_4)), ss] [(.long 9223372036854775806), (.long m167_4), (.ref o0)])) _
        refine st8.trans ?_
        refine XS.aload X8.here hx rfl (hb hby at_182) rfl rfl ?_
        refine st9.trans ?_
        refine XS.lload X9.here hx rfl (hb hby at_187) rfl ?_
        refine XS.lcmp X9.here hx rfl (hb hby at_189) rfl ?_
        refine XS.ifNo X9.here hx rfl (hb hby at_190) rfl (own_lc_eqT hc10).2 ?_
        refine XS.iconst X9.here hx rfl (hb hby at_193) ?_
        refine XS.goto X9.here hx rfl (pc0 := 194) (pc' := 198) rfl (hb hby at_194) (by decide) (by decide) ?_
        show Steps p.tables e below (T9.setTop (mkF m 198 #[vi f0, vl p1, ss, vl p2, ss, vl p3, ss, vl p4, ss, vl p5, ss, vl m167_0, ss, vl m167_1, ss, vl m167_2, ss, vl m167_3, ss, vi f19, vi 1, vl m167_4, ss, va o0, vl (own_maxL (own_part1 m167_0 m167_1 m167_4) (own_part1 m167_2 m167_3 m167_4)), ss] [(.int 1)])) _
        exact retN X9 hx (t := .boolean) hrt (by simp) (hb hby at_198) hr
      · show Q0 n0 (some (.int 1)) T9.heap _
        exact (⟨rfl, N9⟩)
theorem ow36 (m167_0 : Int64) (m167_1 : Int64) (m167_2 : Int64) (m167_3 : Int64) (m167_4 : Int64) (nf0 : 0 ≤ m167_0.toInt ∧ m167_0.toInt ≤ m167_1.toInt ∧ m167_1.toInt ≤ 9223372036854775806) (nf1 : 0 ≤ m167_2.toInt ∧ m167_2.toInt ≤ m167_3.toInt ∧ m167_3.toInt ≤ 9223372036854775806) (nf2 : 0 ≤ m167_4.toInt ∧ m167_4.toInt ≤ 9223372036854775806) (hj0 : m167_1 < m167_2) (hc1 : ¬ (m167_4 < (0 : Int64))) (hc2 : ¬ ((9223372036854775806 : Int64) < m167_4)) (hc3 : m167_3 < m167_4) : (m167_3 + (1 : Int64)) = (own_maxL (own_part1 m167_0 m167_1 m167_4) (own_part1 m167_2 m167_3 m167_4)) := by
  rw [Int64.lt_iff_toInt_lt] at hj0 hc1 hc2 hc3
  rw [← Int64.toInt_inj]
  have t4 : ((0 : Int64) : Int64).toInt = 0 := by decide
  have t5 : ((9223372036854775806 : Int64) : Int64).toInt = 9223372036854775806 := by decide
  have t7 : ((1 : Int64) : Int64).toInt = 1 := by decide
  have t8 := Jvm.Kit.i64_add (x := m167_3) (y := (1 : Int64)) (by omega) (by omega)
  have t10 := own_part1_toInt m167_0 m167_1 m167_4
  have t11 := own_part1_toInt m167_2 m167_3 m167_4
  have t12 := own_maxL_toInt (own_part1 m167_0 m167_1 m167_4) (own_part1 m167_2 m167_3 m167_4)
  omega
theorem ow37 (m167_0 : Int64) (m167_1 : Int64) (m167_2 : Int64) (m167_3 : Int64) (m167_4 : Int64) (nf0 : 0 ≤ m167_0.toInt ∧ m167_0.toInt ≤ m167_1.toInt ∧ m167_1.toInt ≤ 9223372036854775806) (nf1 : 0 ≤ m167_2.toInt ∧ m167_2.toInt ≤ m167_3.toInt ∧ m167_3.toInt ≤ 9223372036854775806) (nf2 : 0 ≤ m167_4.toInt ∧ m167_4.toInt ≤ 9223372036854775806) (hj0 : m167_1 < m167_2) (hc1 : ¬ (m167_4 < (0 : Int64))) (hc2 : ¬ ((9223372036854775806 : Int64) < m167_4)) (hc3 : ¬ (m167_3 < m167_4)) (hc5 : m167_1 < m167_4) : ¬ ((9223372036854775806 : Int64) < m167_2) := by
  rw [Int64.lt_iff_toInt_lt] at hj0 hc1 hc2 hc3 hc5
  rw [Int64.lt_iff_toInt_lt]
  have t4 : ((0 : Int64) : Int64).toInt = 0 := by decide
  have t5 : ((9223372036854775806 : Int64) : Int64).toInt = 9223372036854775806 := by decide
  omega
theorem ow38 (m167_0 : Int64) (m167_1 : Int64) (m167_2 : Int64) (m167_3 : Int64) (m167_4 : Int64) (nf0 : 0 ≤ m167_0.toInt ∧ m167_0.toInt ≤ m167_1.toInt ∧ m167_1.toInt ≤ 9223372036854775806) (nf1 : 0 ≤ m167_2.toInt ∧ m167_2.toInt ≤ m167_3.toInt ∧ m167_3.toInt ≤ 9223372036854775806) (nf2 : 0 ≤ m167_4.toInt ∧ m167_4.toInt ≤ 9223372036854775806) (hj0 : m167_1 < m167_2) (hc1 : ¬ (m167_4 < (0 : Int64))) (hc2 : ¬ ((9223372036854775806 : Int64) < m167_4)) (hc3 : ¬ (m167_3 < m167_4)) (hc5 : m167_1 < m167_4) (hc6 : ¬ ((9223372036854775806 : Int64) < m167_2)) (hc7 : m167_2 < m167_4) : ¬ ((9223372036854775806 : Int64) < m167_3) := by
  rw [Int64.lt_iff_toInt_lt] at hj0 hc1 hc2 hc3 hc5 hc6 hc7
  rw [Int64.lt_iff_toInt_lt]
  have t4 : ((0 : Int64) : Int64).toInt = 0 := by decide
  have t5 : ((9223372036854775806 : Int64) : Int64).toInt = 9223372036854775806 := by decide
  omega
theorem ow39 (m167_0 : Int64) (m167_1 : Int64) (m167_2 : Int64) (m167_3 : Int64) (m167_4 : Int64) (nf0 : 0 ≤ m167_0.toInt ∧ m167_0.toInt ≤ m167_1.toInt ∧ m167_1.toInt ≤ 9223372036854775806) (nf1 : 0 ≤ m167_2.toInt ∧ m167_2.toInt ≤ m167_3.toInt ∧ m167_3.toInt ≤ 9223372036854775806) (nf2 : 0 ≤ m167_4.toInt ∧ m167_4.toInt ≤ 9223372036854775806) (hj0 : m167_1 < m167_2) (hc1 : ¬ (m167_4 < (0 : Int64))) (hc2 : ¬ ((9223372036854775806 : Int64) < m167_4)) (hc3 : ¬ (m167_3 < m167_4)) (hc5 : m167_1 < m167_4) (hc6 : ¬ ((9223372036854775806 : Int64) < m167_2)) (hc7 : m167_2 < m167_4) (hc8 : ¬ ((9223372036854775806 : Int64) < m167_3)) : ((m167_4 - (1 : Int64)) + (1 : Int64)) = (own_maxL (own_part1 m167_0 m167_1 m167_4) (own_part1 m167_2 m167_3 m167_4)) := by
  rw [Int64.lt_iff_toInt_lt] at hj0 hc1 hc2 hc3 hc5 hc6 hc7 hc8
  rw [← Int64.toInt_inj]
  have t4 : ((0 : Int64) : Int64).toInt = 0 := by decide
  have t5 : ((9223372036854775806 : Int64) : Int64).toInt = 9223372036854775806 := by decide
  have t7 : ((1 : Int64) : Int64).toInt = 1 := by decide
  have t8 := Jvm.Kit.i64_sub (x := m167_4) (y := (1 : Int64)) (by omega) (by omega)
  have t9 := Jvm.Kit.i64_add (x := (m167_4 - (1 : Int64))) (y := (1 : Int64)) (by omega) (by omega)
  have t11 := own_part1_toInt m167_0 m167_1 m167_4
  have t12 := own_part1_toInt m167_2 m167_3 m167_4
  have t13 := own_maxL_toInt (own_part1 m167_0 m167_1 m167_4) (own_part1 m167_2 m167_3 m167_4)
  omega
theorem ow40 (m167_0 : Int64) (m167_1 : Int64) (m167_2 : Int64) (m167_3 : Int64) (m167_4 : Int64) (nf0 : 0 ≤ m167_0.toInt ∧ m167_0.toInt ≤ m167_1.toInt ∧ m167_1.toInt ≤ 9223372036854775806) (nf1 : 0 ≤ m167_2.toInt ∧ m167_2.toInt ≤ m167_3.toInt ∧ m167_3.toInt ≤ 9223372036854775806) (nf2 : 0 ≤ m167_4.toInt ∧ m167_4.toInt ≤ 9223372036854775806) (hj0 : m167_1 < m167_2) (hc1 : ¬ (m167_4 < (0 : Int64))) (hc2 : ¬ ((9223372036854775806 : Int64) < m167_4)) (hc3 : ¬ (m167_3 < m167_4)) (hc5 : m167_1 < m167_4) (hc6 : ¬ ((9223372036854775806 : Int64) < m167_2)) (hc7 : ¬ (m167_2 < m167_4)) : ¬ ((9223372036854775806 : Int64) < m167_3) := by
  rw [Int64.lt_iff_toInt_lt] at hj0 hc1 hc2 hc3 hc5 hc6 hc7
  rw [Int64.lt_iff_toInt_lt]
  have t4 : ((0 : Int64) : Int64).toInt = 0 := by decide
  have t5 : ((9223372036854775806 : Int64) : Int64).toInt = 9223372036854775806 := by decide
  omega
theorem ow41 (m167_0 : Int64) (m167_1 : Int64) (m167_2 : Int64) (m167_3 : Int64) (m167_4 : Int64) (nf0 : 0 ≤ m167_0.toInt ∧ m167_0.toInt ≤ m167_1.toInt ∧ m167_1.toInt ≤ 9223372036854775806) (nf1 : 0 ≤ m167_2.toInt ∧ m167_2.toInt ≤ m167_3.toInt ∧ m167_3.toInt ≤ 9223372036854775806) (nf2 : 0 ≤ m167_4.toInt ∧ m167_4.toInt ≤ 9223372036854775806) (hj0 : m167_1 < m167_2) (hc1 : ¬ (m167_4 < (0 : Int64))) (hc2 : ¬ ((9223372036854775806 : Int64) < m167_4)) (hc3 : ¬ (m167_3 < m167_4)) (hc5 : m167_1 < m167_4) (hc6 : ¬ ((9223372036854775806 : Int64) < m167_2)) (hc7 : ¬ (m167_2 < m167_4)) (hc8 : ¬ ((9223372036854775806 : Int64) < m167_3)) : (m167_1 + (1 : Int64)) = (own_maxL (own_part1 m167_0 m167_1 m167_4) (own_part1 m167_2 m167_3 m167_4)) := by
  rw [Int64.lt_iff_toInt_lt] at hj0 hc1 hc2 hc3 hc5 hc6 hc7 hc8
  rw [← Int64.toInt_inj]
  have t4 : ((0 : Int64) : Int64).toInt = 0 := by decide
  have t5 : ((9223372036854775806 : Int64) : Int64).toInt = 9223372036854775806 := by decide
  have t7 : ((1 : Int64) : Int64).toInt = 1 := by decide
  have t8 := Jvm.Kit.i64_add (x := m167_1) (y := (1 : Int64)) (by omega) (by omega)
  have t10 := own_part1_toInt m167_0 m167_1 m167_4
  have t11 := own_part1_toInt m167_2 m167_3 m167_4
  have t12 := own_maxL_toInt (own_part1 m167_0 m167_1 m167_4) (own_part1 m167_2 m167_3 m167_4)
  omega
theorem ow42 (m167_0 : Int64) (m167_1 : Int64) (m167_2 : Int64) (m167_3 : Int64) (m167_4 : Int64) (nf0 : 0 ≤ m167_0.toInt ∧ m167_0.toInt ≤ m167_1.toInt ∧ m167_1.toInt ≤ 9223372036854775806) (nf1 : 0 ≤ m167_2.toInt ∧ m167_2.toInt ≤ m167_3.toInt ∧ m167_3.toInt ≤ 9223372036854775806) (nf2 : 0 ≤ m167_4.toInt ∧ m167_4.toInt ≤ 9223372036854775806) (hj0 : m167_1 < m167_2) (hc1 : ¬ (m167_4 < (0 : Int64))) (hc2 : ¬ ((9223372036854775806 : Int64) < m167_4)) (hc3 : ¬ (m167_3 < m167_4)) (hc5 : ¬ (m167_1 < m167_4)) : ¬ ((9223372036854775806 : Int64) < m167_0) := by
  rw [Int64.lt_iff_toInt_lt] at hj0 hc1 hc2 hc3 hc5
  rw [Int64.lt_iff_toInt_lt]
  have t4 : ((0 : Int64) : Int64).toInt = 0 := by decide
  have t5 : ((9223372036854775806 : Int64) : Int64).toInt = 9223372036854775806 := by decide
  omega
theorem ow43 (m167_0 : Int64) (m167_1 : Int64) (m167_2 : Int64) (m167_3 : Int64) (m167_4 : Int64) (nf0 : 0 ≤ m167_0.toInt ∧ m167_0.toInt ≤ m167_1.toInt ∧ m167_1.toInt ≤ 9223372036854775806) (nf1 : 0 ≤ m167_2.toInt ∧ m167_2.toInt ≤ m167_3.toInt ∧ m167_3.toInt ≤ 9223372036854775806) (nf2 : 0 ≤ m167_4.toInt ∧ m167_4.toInt ≤ 9223372036854775806) (hj0 : m167_1 < m167_2) (hc1 : ¬ (m167_4 < (0 : Int64))) (hc2 : ¬ ((9223372036854775806 : Int64) < m167_4)) (hc3 : ¬ (m167_3 < m167_4)) (hc5 : ¬ (m167_1 < m167_4)) (hc6 : ¬ ((9223372036854775806 : Int64) < m167_0)) (hc7 : m167_0 < m167_4) : ¬ ((9223372036854775806 : Int64) < m167_1) := by
  rw [Int64.lt_iff_toInt_lt] at hj0 hc1 hc2 hc3 hc5 hc6 hc7
  rw [Int64.lt_iff_toInt_lt]
  have t4 : ((0 : Int64) : Int64).toInt = 0 := by decide
  have t5 : ((9223372036854775806 : Int64) : Int64).toInt = 9223372036854775806 := by decide
  omega
theorem ow44 (m167_0 : Int64) (m167_1 : Int64) (m167_2 : Int64) (m167_3 : Int64) (m167_4 : Int64) (nf0 : 0 ≤ m167_0.toInt ∧ m167_0.toInt ≤ m167_1.toInt ∧ m167_1.toInt ≤ 9223372036854775806) (nf1 : 0 ≤ m167_2.toInt ∧ m167_2.toInt ≤ m167_3.toInt ∧ m167_3.toInt ≤ 9223372036854775806) (nf2 : 0 ≤ m167_4.toInt ∧ m167_4.toInt ≤ 9223372036854775806) (hj0 : m167_1 < m167_2) (hc1 : ¬ (m167_4 < (0 : Int64))) (hc2 : ¬ ((9223372036854775806 : Int64) < m167_4)) (hc3 : ¬ (m167_3 < m167_4)) (hc5 : ¬ (m167_1 < m167_4)) (hc6 : ¬ ((9223372036854775806 : Int64) < m167_0)) (hc7 : m167_0 < m167_4) (hc8 : ¬ ((9223372036854775806 : Int64) < m167_1)) : ¬ ((9223372036854775806 : Int64) < m167_2) := by
  rw [Int64.lt_iff_toInt_lt] at hj0 hc1 hc2 hc3 hc5 hc6 hc7 hc8
  rw [Int64.lt_iff_toInt_lt]
  have t4 : ((0 : Int64) : Int64).toInt = 0 := by decide
  have t5 : ((9223372036854775806 : Int64) : Int64).toInt = 9223372036854775806 := by decide
  omega
theorem ow45 (m167_0 : Int64) (m167_1 : Int64) (m167_2 : Int64) (m167_3 : Int64) (m167_4 : Int64) (nf0 : 0 ≤ m167_0.toInt ∧ m167_0.toInt ≤ m167_1.toInt ∧ m167_1.toInt ≤ 9223372036854775806) (nf1 : 0 ≤ m167_2.toInt ∧ m167_2.toInt ≤ m167_3.toInt ∧ m167_3.toInt ≤ 9223372036854775806) (nf2 : 0 ≤ m167_4.toInt ∧ m167_4.toInt ≤ 9223372036854775806) (hj0 : m167_1 < m167_2) (hc1 : ¬ (m167_4 < (0 : Int64))) (hc2 : ¬ ((9223372036854775806 : Int64) < m167_4)) (hc3 : ¬ (m167_3 < m167_4)) (hc5 : ¬ (m167_1 < m167_4)) (hc6 : ¬ ((9223372036854775806 : Int64) < m167_0)) (hc7 : m167_0 < m167_4) (hc8 : ¬ ((9223372036854775806 : Int64) < m167_1)) (hc9 : ¬ ((9223372036854775806 : Int64) < m167_2)) : ¬ ((9223372036854775806 : Int64) < m167_3) := by
  rw [Int64.lt_iff_toInt_lt] at hj0 hc1 hc2 hc3 hc5 hc6 hc7 hc8 hc9
  rw [Int64.lt_iff_toInt_lt]
  have t4 : ((0 : Int64) : Int64).toInt = 0 := by decide
  have t5 : ((9223372036854775806 : Int64) : Int64).toInt = 9223372036854775806 := by decide
  omega
theorem ow46 (m167_0 : Int64) (m167_1 : Int64) (m167_2 : Int64) (m167_3 : Int64) (m167_4 : Int64) (nf0 : 0 ≤ m167_0.toInt ∧ m167_0.toInt ≤ m167_1.toInt ∧ m167_1.toInt ≤ 9223372036854775806) (nf1 : 0 ≤ m167_2.toInt ∧ m167_2.toInt ≤ m167_3.toInt ∧ m167_3.toInt ≤ 9223372036854775806) (nf2 : 0 ≤ m167_4.toInt ∧ m167_4.toInt ≤ 9223372036854775806) (hj0 : m167_1 < m167_2) (hc1 : ¬ (m167_4 < (0 : Int64))) (hc2 : ¬ ((9223372036854775806 : Int64) < m167_4)) (hc3 : ¬ (m167_3 < m167_4)) (hc5 : ¬ (m167_1 < m167_4)) (hc6 : ¬ ((9223372036854775806 : Int64) < m167_0)) (hc7 : m167_0 < m167_4) (hc8 : ¬ ((9223372036854775806 : Int64) < m167_1)) (hc9 : ¬ ((9223372036854775806 : Int64) < m167_2)) (hc10 : ¬ ((9223372036854775806 : Int64) < m167_3)) : ((m167_4 - (1 : Int64)) + (1 : Int64)) = (own_maxL (own_part1 m167_0 m167_1 m167_4) (own_part1 m167_2 m167_3 m167_4)) := by
  rw [Int64.lt_iff_toInt_lt] at hj0 hc1 hc2 hc3 hc5 hc6 hc7 hc8 hc9 hc10
  rw [← Int64.toInt_inj]
  have t4 : ((0 : Int64) : Int64).toInt = 0 := by decide
  have t5 : ((9223372036854775806 : Int64) : Int64).toInt = 9223372036854775806 := by decide
  have t8 : ((1 : Int64) : Int64).toInt = 1 := by decide
  have t9 := Jvm.Kit.i64_sub (x := m167_4) (y := (1 : Int64)) (by omega) (by omega)
  have t10 := Jvm.Kit.i64_add (x := (m167_4 - (1 : Int64))) (y := (1 : Int64)) (by omega) (by omega)
  have t11 := own_part1_toInt m167_0 m167_1 m167_4
  have t12 := own_part1_toInt m167_2 m167_3 m167_4
  have t13 := own_maxL_toInt (own_part1 m167_0 m167_1 m167_4) (own_part1 m167_2 m167_3 m167_4)
  omega
theorem ow47 (m167_0 : Int64) (m167_1 : Int64) (m167_2 : Int64) (m167_3 : Int64) (m167_4 : Int64) (nf0 : 0 ≤ m167_0.toInt ∧ m167_0.toInt ≤ m167_1.toInt ∧ m167_1.toInt ≤ 9223372036854775806) (nf1 : 0 ≤ m167_2.toInt ∧ m167_2.toInt ≤ m167_3.toInt ∧ m167_3.toInt ≤ 9223372036854775806) (nf2 : 0 ≤ m167_4.toInt ∧ m167_4.toInt ≤ 9223372036854775806) (hj0 : m167_1 < m167_2) (hc1 : ¬ (m167_4 < (0 : Int64))) (hc2 : ¬ ((9223372036854775806 : Int64) < m167_4)) (hc3 : ¬ (m167_3 < m167_4)) (hc5 : ¬ (m167_1 < m167_4)) (hc6 : ¬ ((9223372036854775806 : Int64) < m167_0)) (hc7 : ¬ (m167_0 < m167_4)) : ¬ ((9223372036854775806 : Int64) < m167_2) := by
  rw [Int64.lt_iff_toInt_lt] at hj0 hc1 hc2 hc3 hc5 hc6 hc7
  rw [Int64.lt_iff_toInt_lt]
  have t4 : ((0 : Int64) : Int64).toInt = 0 := by decide
  have t5 : ((9223372036854775806 : Int64) : Int64).toInt = 9223372036854775806 := by decide
  omega
theorem ow48 (m167_0 : Int64) (m167_1 : Int64) (m167_2 : Int64) (m167_3 : Int64) (m167_4 : Int64) (nf0 : 0 ≤ m167_0.toInt ∧ m167_0.toInt ≤ m167_1.toInt ∧ m167_1.toInt ≤ 9223372036854775806) (nf1 : 0 ≤ m167_2.toInt ∧ m167_2.toInt ≤ m167_3.toInt ∧ m167_3.toInt ≤ 9223372036854775806) (nf2 : 0 ≤ m167_4.toInt ∧ m167_4.toInt ≤ 9223372036854775806) (hj0 : m167_1 < m167_2) (hc1 : ¬ (m167_4 < (0 : Int64))) (hc2 : ¬ ((9223372036854775806 : Int64) < m167_4)) (hc3 : ¬ (m167_3 < m167_4)) (hc5 : ¬ (m167_1 < m167_4)) (hc6 : ¬ ((9223372036854775806 : Int64) < m167_0)) (hc7 : ¬ (m167_0 < m167_4)) (hc8 : ¬ ((9223372036854775806 : Int64) < m167_2)) : ¬ ((9223372036854775806 : Int64) < m167_3) := by
  rw [Int64.lt_iff_toInt_lt] at hj0 hc1 hc2 hc3 hc5 hc6 hc7 hc8
  rw [Int64.lt_iff_toInt_lt]
  have t4 : ((0 : Int64) : Int64).toInt = 0 := by decide
  have t5 : ((9223372036854775806 : Int64) : Int64).toInt = 9223372036854775806 := by decide
  omega
theorem ow49 (m167_0 : Int64) (m167_1 : Int64) (m167_2 : Int64) (m167_3 : Int64) (m167_4 : Int64) (nf0 : 0 ≤ m167_0.toInt ∧ m167_0.toInt ≤ m167_1.toInt ∧ m167_1.toInt ≤ 9223372036854775806) (nf1 : 0 ≤ m167_2.toInt ∧ m167_2.toInt ≤ m167_3.toInt ∧ m167_3.toInt ≤ 9223372036854775806) (nf2 : 0 ≤ m167_4.toInt ∧ m167_4.toInt ≤ 9223372036854775806) (hj0 : m167_1 < m167_2) (hc1 : ¬ (m167_4 < (0 : Int64))) (hc2 : ¬ ((9223372036854775806 : Int64) < m167_4)) (hc3 : ¬ (m167_3 < m167_4)) (hc5 : ¬ (m167_1 < m167_4)) (hc6 : ¬ ((9223372036854775806 : Int64) < m167_0)) (hc7 : ¬ (m167_0 < m167_4)) (hc8 : ¬ ((9223372036854775806 : Int64) < m167_2)) (hc9 : ¬ ((9223372036854775806 : Int64) < m167_3)) : (0 : Int64) = (own_maxL (own_part1 m167_0 m167_1 m167_4) (own_part1 m167_2 m167_3 m167_4)) := by
  rw [Int64.lt_iff_toInt_lt] at hj0 hc1 hc2 hc3 hc5 hc6 hc7 hc8 hc9
  rw [← Int64.toInt_inj]
  have t4 : ((0 : Int64) : Int64).toInt = 0 := by decide
  have t5 : ((9223372036854775806 : Int64) : Int64).toInt = 9223372036854775806 := by decide
  have t8 := own_part1_toInt m167_0 m167_1 m167_4
  have t9 := own_part1_toInt m167_2 m167_3 m167_4
  have t10 := own_maxL_toInt (own_part1 m167_0 m167_1 m167_4) (own_part1 m167_2 m167_3 m167_4)
  omega
theorem jn8 {p : Program} {l : Launch} {e : Env} {s : State} {m : MethodId} {below : List Frame} {meth : Method} {c : Code} {T0 : State} {locs : List Loc} {Z : State} {a0 : Array Value} {h0 : Heap} {n0 : Nat} (hx : p.tables.exec = Jvm.exec) (hZ : Z.Warmed39 s.vm) (hby : c.code = code) (hml : c.maxLocals = 26) (hown : s.vm.findClass sC1 = some m.cls) (hrt : meth.sig.returnType = ret) (hlk : meth.locks = false) (hw : HW Z a0) (w_NONE : Addr) (o0 : Addr) (o1 : Addr) (o2 : Addr) (kk_o1 : ClassId) (kk_o2 : ClassId) (p0 : Int32) (p1 : Int64) (p2 : Int64) (p3 : Int64) (p4 : Int64) (p5 : Int64) (m167_0 : Int64) (m167_1 : Int64) (m167_2 : Int64) (m167_3 : Int64) (m167_4 : Int64) (f0 : Int32) (f19 : Int32) (X0 : Stand p l e room_1 s m #[(.int p0), (.long p1), (.long p2), (.long p3), (.long p4), (.long p5)] below meth c T0 locs 10 60) (e0 : T0.heap = h0) (N0 : Fr n0 locs) (O0 : Old Z n0 h0) (S : SF Z w_NONE) (E_o0 : Exa Z h0 o0 sC0) (F_count_o0 : Fld Z h0 o0 sC0 "count" "J" (.long (((0 : Int64) + ((m167_1 - m167_0) + (1 : Int64))) + ((m167_3 - m167_2) + (1 : Int64))))) (F_firsts_o0 : Fld Z h0 o0 sC0 "firsts" "[J" (.ref o1)) (F_lasts_o0 : Fld Z h0 o0 sC0 "lasts" "[J" (.ref o2)) (F_maxRanges_o0 : Fld Z h0 o0 sC0 "maxRanges" "I" (.int 2147483647)) (F_ranges_o0 : Fld Z h0 o0 sC0 "ranges" "I" (.int 2)) (V_o1 : Arv Z h0 o1 kk_o1 .long (4 : Int32) [(.long m167_0), (.long m167_2), (.long 0), (.long 0)] (.long 0)) (V_o2 : Arv Z h0 o2 kk_o2 .long (4 : Int32) [(.long m167_1), (.long m167_3), (.long 0), (.long 0)] (.long 0)) (ne_o0_o1 : o0 ≠ o1) (ne_o0_o2 : o0 ≠ o2) (ne_o1_o2 : o1 ≠ o2) (g_o0 : n0 ≤ o0) (g_o1 : n0 ≤ o1) (g_o2 : n0 ≤ o2) (nf0 : 0 ≤ m167_0.toInt ∧ m167_0.toInt ≤ m167_1.toInt ∧ m167_1.toInt ≤ 9223372036854775806) (nf1 : 0 ≤ m167_2.toInt ∧ m167_2.toInt ≤ m167_3.toInt ∧ m167_3.toInt ≤ 9223372036854775806) (nf2 : 0 ≤ m167_4.toInt ∧ m167_4.toInt ≤ 9223372036854775806) (hj0 : m167_1 < m167_2) :
    ∃ s₂ o, Steps p.tables e below (T0.setTop (mkF m 167 #[vi f0, vl p1, ss, vl p2, ss, vl p3, ss, vl p4, ss, vl p5, ss, vl m167_0, ss, vl m167_1, ss, vl m167_2, ss, vl m167_3, ss, vi f19, vi 1, vl m167_4, ss, va o0, vl (own_maxL (own_part1 m167_0 m167_1 m167_4) (own_part1 m167_2 m167_3 m167_4)), ss] [])) s₂ ∧ s₂.status = .running ∧ Ended s₂ below o ∧ ∃ v L, o = .returned v ∧ Q0 n0 v s₂.heap L ∧ FrameEnd s o s₂ L room_1.cells room_1.slots := by
  have K0 : Keep h0 h0 [o1, o0, o2] := Keep.refl _ _
  have hc1 : ¬ (m167_4 < (0 : Int64)) := ow14 m167_4 nf2
  have hc2 : ¬ ((9223372036854775806 : Int64) < m167_4) := ow15 m167_4 nf2 hc1
  have pre_4 : ∀ t, Steps p.tables e below (T0.setTop (mkF m 179 #[vi f0, vl p1, ss, vl p2, ss, vl p3, ss, vl p4, ss, vl p5, ss, vl m167_0, ss, vl m167_1, ss, vl m167_2, ss, vl m167_3, ss, vi f19, vi 1, vl m167_4, ss, va o0, vl (own_maxL (own_part1 m167_0 m167_1 m167_4) (own_part1 m167_2 m167_3 m167_4)), ss] [(.long 9223372036854775806), (.long m167_4), (.ref o0)])) t → Steps p.tables e below (T0.setTop (mkF m 167 #[vi f0, vl p1, ss, vl p2, ss, vl p3, ss, vl p4, ss, vl p5, ss, vl m167_0, ss, vl m167_1, ss, vl m167_2, ss, vl m167_3, ss, vi f19, vi 1, vl m167_4, ss, va o0, vl (own_maxL (own_part1 m167_0 m167_1 m167_4) (own_part1 m167_2 m167_3 m167_4)), ss] [])) t := fun t k => (by
    show Steps p.tables e below (T0.setTop (mkF m 167 #[vi f0, vl p1, ss, vl p2, ss, vl p3, ss, vl p4, ss, vl p5, ss, vl m167_0, ss, vl m167_1, ss, vl m167_2, ss, vl m167_3, ss, vi f19, vi 1, vl m167_4, ss, va o0, vl (own_maxL (own_part1 m167_0 m167_1 m167_4) (own_part1 m167_2 m167_3 m167_4)), ss] [])) _
    refine XS.iload X0.here hx rfl (hb hby at_167) rfl ?_
    refine XS.ifNo X0.here hx rfl (hb hby at_169) rfl ((if0 _ _).trans (feq (by decide : ¬ ((1 : Int32) = (0 : Int32)))).1) ?_
    refine XS.aload X0.here hx rfl (hb hby at_172) rfl rfl ?_
    refine XS.lload X0.here hx rfl (hb hby at_174) rfl ?_
    refine X0.ldc2Long hx hown (mvT hZ (ww hw 5 rfl)) (g := (mkF m 176 #[vi f0, vl p1, ss, vl p2, ss, vl p3, ss, vl p4, ss, vl p5, ss, vl m167_0, ss, vl m167_1, ss, vl m167_2, ss, vl m167_3, ss, vi f19, vi 1, vl m167_4, ss, va o0, vl (own_maxL (own_part1 m167_0 m167_1 m167_4) (own_part1 m167_2 m167_3 m167_4)), ss] [(.long m167_4), (.ref o0)])) rfl (hb hby at_176) _ ?_
    exact k)
  by_cases hc3 : m167_3 < m167_4
  · obtain ⟨cq5, kq5, q5a, q5b, q5c⟩ := isOf hZ e0 E_o0
    obtain ⟨_, _, ⟨T5, L5, k5, n5⟩, -, X5, ⟨Lc5, hQ5, l5, y5, z5⟩, st5⟩ := X0.virtualBack hx (y := My17) (z := My17) hown (mvT hZ (ww hw 84 rfl)) (mvT hZ (ww hw 85 rfl)) (notFace_of_selects (args := #[]) (mvT hZ (ww hw 87 rfl))) (mvT hZ (ww hw 87 rfl)) (mvT hZ (ww hw 86 rfl)) (by decide) (backOf (W := 0) (rm17_0 l Z a0 hw [] w_NONE o0 o1 o2 kk_o1 kk_o2 m167_4 (((0 : Int64) + ((m167_1 - m167_0) + (1 : Int64))) + ((m167_3 - m167_2) + (1 : Int64))) m167_0 m167_2 m167_1 m167_3 h0 n0 O0 S E_o0 F_lasts_o0 F_ranges_o0 V_o2 hc1 hc2 hc3) hZ (ww hw 88 rfl) (ww hw 15 rfl) (by decide) (by decide)) q5a q5c (g := (mkF m 179 #[vi f0, vl p1, ss, vl p2, ss, vl p3, ss, vl p4, ss, vl p5, ss, vl m167_0, ss, vl m167_1, ss, vl m167_2, ss, vl m167_3, ss, vi f19, vi 1, vl m167_4, ss, va o0, vl (own_maxL (own_part1 m167_0 m167_1 m167_4) (own_part1 m167_2 m167_3 m167_4)), ss] [(.long 9223372036854775806), (.long m167_4), (.ref o0)])) rfl (by rw [hml]; rfl) (Steps.refl _) (argsL := [(.long m167_4), (.long 9223372036854775806)]) (rest := []) (lenOf pd_4 rfl) rfl (by show 2 * 0 + _ ≤ _; exact Nat.le_of_eq rfl) (hb hby at_179) (fun _ _ => ⟨rfl, e0, (by decide : 10 + 0 ≤ _), (by decide : 60 + 0 ≤ _)⟩)
    dsimp only [Pt.U, Pt.locs, Pt.cells, Pt.slots] at X5 l5 y5 z5 st5 hQ5
    subst l5 y5 z5
    obtain ⟨rfl, Nq5, e5⟩ := hQ5
    have N5 := Fr.app N0 Nq5
    obtain ⟨cq6, kq6, q6a, q6b, q6c⟩ := isOf hZ e5 E_o0
    obtain ⟨_, _, ⟨T6, L6, k6, n6⟩, -, X6, ⟨Lc6, hQ6, l6, y6, z6⟩, st6⟩ := X5.virtualBack hx (y := My7) (z := My7) hown (mvT hZ (ww hw 34 rfl)) (mvT hZ (ww hw 35 rfl)) (notFace_of_selects (args := #[]) (mvT hZ (ww hw 37 rfl))) (mvT hZ (ww hw 37 rfl)) (mvT hZ (ww hw 36 rfl)) (by decide) (backOf (W := 0) (rm7_0 l Z a0 hw [] w_NONE o0 o1 o2 kk_o1 kk_o2 (((0 : Int64) + ((m167_1 - m167_0) + (1 : Int64))) + ((m167_3 - m167_2) + (1 : Int64))) m167_0 m167_2 m167_1 m167_3 h0 n0 O0 S F_lasts_o0 F_ranges_o0 V_o2) hZ (ww hw 38 rfl) (ww hw 15 rfl) (by decide) (by decide)) q6a q6c (g := (mkF m 184 #[vi f0, vl p1, ss, vl p2, ss, vl p3, ss, vl p4, ss, vl p5, ss, vl m167_0, ss, vl m167_1, ss, vl m167_2, ss, vl m167_3, ss, vi f19, vi 1, vl m167_4, ss, va o0, vl (own_maxL (own_part1 m167_0 m167_1 m167_4) (own_part1 m167_2 m167_3 m167_4)), ss] [(.ref o0)])) rfl (by rw [hml]; rfl) (Steps.refl _) (argsL := []) (rest := []) (lenOf pd_12 rfl) rfl (by show 2 * 0 + _ ≤ _; exact Nat.le_of_eq rfl) (hb hby at_184) (fun _ _ => ⟨rfl, e5, (by decide : 10 + 0 ≤ _), (by decide : 60 + 0 ≤ _)⟩)
    dsimp only [Pt.U, Pt.locs, Pt.cells, Pt.slots] at X6 l6 y6 z6 st6 hQ6
    subst l6 y6 z6
    obtain ⟨rfl, Nq6, e6⟩ := hQ6
    have N6 := Fr.app N5 Nq6
    have hc7 : (m167_3 + (1 : Int64)) = (own_maxL (own_part1 m167_0 m167_1 m167_4) (own_part1 m167_2 m167_3 m167_4)) := ow36 m167_0 m167_1 m167_2 m167_3 m167_4 nf0 nf1 nf2 hj0 hc1 hc2 hc3
    obtain ⟨fs, hr, hrun, hended, hW, hsame⟩ := X6.leave (v := (some (.int 1))) (fun h => by rw [hrt] at h; cases h)
    refine ⟨_, _, pre_4 _ ?_, hrun, hended, _, _, rfl, ?_, ⟨_, rfl⟩, hW, hsame.mono (by decide) (by decide)⟩
    · show Steps p.tables e below (T0.setTop (mkF m 179 #[vi f0, vl p1, ss, vl p2, ss, vl p3, ss, vl p4, ss, vl p5, ss, vl m167_0, ss, vl m167_1, ss, vl m167_2, ss, vl m167_3, ss, vi f19, vi 1, vl m167_4, ss, va o0, vl (own_maxL (own_part1 m167_0 m167_1 m167_4) (own_part1 m167_2 m167_3 m167_4)), ss] [(.long 9223372036854775806), (.long m167_4), (.ref o0)])) _
      refine st5.trans ?_
      refine XS.aload X5.here hx rfl (hb hby at_182) rfl rfl ?_
      refine st6.trans ?_
      refine XS.lload X6.here hx rfl (hb hby at_187) rfl ?_
      refine XS.lcmp X6.here hx rfl (hb hby at_189) rfl ?_
      refine XS.ifNo X6.here hx rfl (hb hby at_190) rfl (own_lc_eqT hc7).2 ?_
      refine XS.iconst X6.here hx rfl (hb hby at_193) ?_
      refine XS.goto X6.here hx rfl (pc0 := 194) (pc' := 198) rfl (hb hby at_194) (by decide) (by decide) ?_
      show Steps p.tables e below (T6.setTop (mkF m 198 #[vi f0, vl p1, ss, vl p2, ss, vl p3, ss, vl p4, ss, vl p5, ss, vl m167_0, ss, vl m167_1, ss, vl m167_2, ss, vl m167_3, ss, vi f19, vi 1, vl m167_4, ss, va o0, vl (own_maxL (own_part1 m167_0 m167_1 m167_4) (own_part1 m167_2 m167_3 m167_4)), ss] [(.int 1)])) _
      exact retN X6 hx (t := .boolean) hrt (by simp) (hb hby at_198) hr
    · show Q0 n0 (some (.int 1)) T6.heap _
      exact (⟨rfl, N6⟩)
  · by_cases hc5 : m167_1 < m167_4
    · have hc6 : ¬ ((9223372036854775806 : Int64) < m167_2) := ow37 m167_0 m167_1 m167_2 m167_3 m167_4 nf0 nf1 nf2 hj0 hc1 hc2 hc3 hc5
      by_cases hc7 : m167_2 < m167_4
      · have hc8 : ¬ ((9223372036854775806 : Int64) < m167_3) := ow38 m167_0 m167_1 m167_2 m167_3 m167_4 nf0 nf1 nf2 hj0 hc1 hc2 hc3 hc5 hc6 hc7
        obtain ⟨cq9, kq9, q9a, q9b, q9c⟩ := isOf hZ e0 E_o0
        obtain ⟨_, _, ⟨T9, L9, k9, n9⟩, -, X9, ⟨Lc9, hQ9, l9, y9, z9⟩, st9⟩ := X0.virtualBack hx (y := My17) (z := My17) hown (mvT hZ (ww hw 84 rfl)) (mvT hZ (ww hw 85 rfl)) (notFace_of_selects (args := #[]) (mvT hZ (ww hw 87 rfl))) (mvT hZ (ww hw 87 rfl)) (mvT hZ (ww hw 86 rfl)) (by decide) (backOf (W := 0) (rm17_3 l Z a0 hw [] w_NONE o0 o1 o2 kk_o1 kk_o2 m167_4 (((0 : Int64) + ((m167_1 - m167_0) + (1 : Int64))) + ((m167_3 - m167_2) + (1 : Int64))) m167_0 m167_2 m167_1 m167_3 h0 n0 O0 S E_o0 F_count_o0 F_firsts_o0 F_lasts_o0 F_maxRanges_o0 F_ranges_o0 V_o1 V_o2 ne_o0_o1 ne_o0_o2 ne_o1_o2 g_o0 g_o1 g_o2 hc1 hc2 hc3 hc5 hc6 hc7 hc8) hZ (ww hw 88 rfl) (ww hw 15 rfl) (by decide) (by decide)) q9a q9c (g := (mkF m 179 #[vi f0, vl p1, ss, vl p2, ss, vl p3, ss, vl p4, ss, vl p5, ss, vl m167_0, ss, vl m167_1, ss, vl m167_2, ss, vl m167_3, ss, vi f19, vi 1, vl m167_4, ss, va o0, vl (own_maxL (own_part1 m167_0 m167_1 m167_4) (own_part1 m167_2 m167_3 m167_4)), ss] [(.long 9223372036854775806), (.long m167_4), (.ref o0)])) rfl (by rw [hml]; rfl) (Steps.refl _) (argsL := [(.long m167_4), (.long 9223372036854775806)]) (rest := []) (lenOf pd_4 rfl) rfl (by show 2 * 0 + _ ≤ _; exact Nat.le_of_eq rfl) (hb hby at_179) (fun _ _ => ⟨rfl, e0, (by decide : 10 + 0 ≤ _), (by decide : 60 + 0 ≤ _)⟩)
        dsimp only [Pt.U, Pt.locs, Pt.cells, Pt.slots] at X9 l9 y9 z9 st9 hQ9
        subst l9 y9 z9
        obtain ⟨rfl, Nq9, Kc9, P0_9, P1_9, P2_9, P3_9, P4_9, P5_9, P6_9, P7_9⟩ := hQ9
        have N9 := Fr.app N0 Nq9
        have O9 := O0.keep Kc9 (allS g_o2 (allS g_o0 (allS g_o1 all0)))
        have K9 : Keep h0 T9.heap [o1, o0, o2] := K0.trans Kc9 (allS (Or.inl (List.mem_of_getElem? (i := 2) rfl)) (allS (Or.inl (List.mem_of_getElem? (i := 1) rfl)) (allS (Or.inl (List.mem_of_getElem? (i := 0) rfl)) all0)))
        obtain ⟨cq10, kq10, q10a, q10b, q10c⟩ := isOf hZ rfl P0_9
        obtain ⟨_, _, ⟨T10, L10, k10, n10⟩, -, X10, ⟨Lc10, hQ10, l10, y10, z10⟩, st10⟩ := X9.virtualBack hx (y := My7) (z := My7) hown (mvT hZ (ww hw 34 rfl)) (mvT hZ (ww hw 35 rfl)) (notFace_of_selects (args := #[]) (mvT hZ (ww hw 37 rfl))) (mvT hZ (ww hw 37 rfl)) (mvT hZ (ww hw 36 rfl)) (by decide) (backOf (W := 0) (rm7_0 l Z a0 hw [] w_NONE o0 o1 o2 kk_o1 kk_o2 ((((0 : Int64) + ((m167_1 - m167_0) + (1 : Int64))) + ((m167_3 - m167_2) + (1 : Int64))) - ((0 : Int64) + ((m167_3 - m167_4) + (1 : Int64)))) m167_0 m167_2 m167_1 (m167_4 - (1 : Int64)) T9.heap n0 O9 S P3_9 P5_9 P7_9) hZ (ww hw 38 rfl) (ww hw 15 rfl) (by decide) (by decide)) q10a q10c (g := (mkF m 184 #[vi f0, vl p1, ss, vl p2, ss, vl p3, ss, vl p4, ss, vl p5, ss, vl m167_0, ss, vl m167_1, ss, vl m167_2, ss, vl m167_3, ss, vi f19, vi 1, vl m167_4, ss, va o0, vl (own_maxL (own_part1 m167_0 m167_1 m167_4) (own_part1 m167_2 m167_3 m167_4)), ss] [(.ref o0)])) rfl (by rw [hml]; rfl) (Steps.refl _) (argsL := []) (rest := []) (lenOf pd_12 rfl) rfl (by show 2 * 0 + _ ≤ _; exact Nat.le_of_eq rfl) (hb hby at_184) (fun _ _ => ⟨rfl, rfl, (by decide : 10 + 0 ≤ _), (by decide : 60 + 0 ≤ _)⟩)
        dsimp only [Pt.U, Pt.locs, Pt.cells, Pt.slots] at X10 l10 y10 z10 st10 hQ10
        subst l10 y10 z10
        obtain ⟨rfl, Nq10, e10⟩ := hQ10
        have N10 := Fr.app N9 Nq10
        have hc11 : ((m167_4 - (1 : Int64)) + (1 : Int64)) = (own_maxL (own_part1 m167_0 m167_1 m167_4) (own_part1 m167_2 m167_3 m167_4)) := ow39 m167_0 m167_1 m167_2 m167_3 m167_4 nf0 nf1 nf2 hj0 hc1 hc2 hc3 hc5 hc6 hc7 hc8
        obtain ⟨fs, hr, hrun, hended, hW, hsame⟩ := X10.leave (v := (some (.int 1))) (fun h => by rw [hrt] at h; cases h)
        refine ⟨_, _, pre_4 _ ?_, hrun, hended, _, _, rfl, ?_, ⟨_, rfl⟩, hW, hsame.mono (by decide) (by decide)⟩
        · show Steps p.tables e below (T0.setTop (mkF m 179 #[vi f0, vl p1, ss, vl p2, ss, vl p3, ss, vl p4, ss, vl p5, ss, vl m167_0, ss, vl m167_1, ss, vl m167_2, ss, vl m167_3, ss, vi f19, vi 1, vl m167_4, ss, va o0, vl (own_maxL (own_part1 m167_0 m167_1 m167_4) (own_part1 m167_2 m167_3 m167_4)), ss] [(.long 9223372036854775806), (.long m167_4), (.ref o0)])) _
          refine st9.trans ?_
          refine XS.aload X9.here hx rfl (hb hby at_182) rfl rfl ?_
          refine st10.trans ?_
          refine XS.lload X10.here hx rfl (hb hby at_187) rfl ?_
          refine XS.lcmp X10.here hx rfl (hb hby at_189) rfl ?_
          refine XS.ifNo X10.here hx rfl (hb hby at_190) rfl (own_lc_eqT hc11).2 ?_
          refine XS.iconst X10.here hx rfl (hb hby at_193) ?_
          refine XS.goto X10.here hx rfl (pc0 := 194) (pc' := 198) rfl (hb hby at_194) (by decide) (by decide) ?_
          show Steps p.tables e below (T10.setTop (mkF m 198 #[vi f0, vl p1, ss, vl p2, ss, vl p3, ss, vl p4, ss, vl p5, ss, vl m167_0, ss, vl m167_1, ss, vl m167_2, ss, vl m167_3, ss, vi f19, vi 1, vl m167_4, ss, va o0, vl (own_maxL (own_part1 m167_0 m167_1 m167_4) (own_part1 m167_2 m167_3 m167_4)), ss] [(.int 1)])) _
          exact retN X10 hx (t := .boolean) hrt (by simp) (hb hby at_198) hr
        · show Q0 n0 (some (.int 1)) T10.heap _
          exact (⟨rfl, N10⟩)
      · have hc8 : ¬ ((9223372036854775806 : Int64) < m167_3) := ow40 m167_0 m167_1 m167_2 m167_3 m167_4 nf0 nf1 nf2 hj0 hc1 hc2 hc3 hc5 hc6 hc7
        obtain ⟨cq9, kq9, q9a, q9b, q9c⟩ := isOf hZ e0 E_o0
        obtain ⟨_, _, ⟨T9, L9, k9, n9⟩, -, X9, ⟨Lc9, hQ9, l9, y9, z9⟩, st9⟩ := X0.virtualBack hx (y := My17) (z := My17) hown (mvT hZ (ww hw 84 rfl)) (mvT hZ (ww hw 85 rfl)) (notFace_of_selects (args := #[]) (mvT hZ (ww hw 87 rfl))) (mvT hZ (ww hw 87 rfl)) (mvT hZ (ww hw 86 rfl)) (by decide) (backOf (W := 0) (rm17_2 l Z a0 hw [] w_NONE o0 o1 o2 kk_o1 kk_o2 m167_4 (((0 : Int64) + ((m167_1 - m167_0) + (1 : Int64))) + ((m167_3 - m167_2) + (1 : Int64))) m167_0 m167_2 m167_1 m167_3 h0 n0 O0 S E_o0 F_count_o0 F_firsts_o0 F_lasts_o0 F_maxRanges_o0 F_ranges_o0 V_o1 V_o2 ne_o0_o1 ne_o0_o2 ne_o1_o2 g_o0 g_o1 g_o2 hc1 hc2 hc3 hc5 hc6 hc7 hc8) hZ (ww hw 88 rfl) (ww hw 15 rfl) (by decide) (by decide)) q9a q9c (g := (mkF m 179 #[vi f0, vl p1, ss, vl p2, ss, vl p3, ss, vl p4, ss, vl p5, ss, vl m167_0, ss, vl m167_1, ss, vl m167_2, ss, vl m167_3, ss, vi f19, vi 1, vl m167_4, ss, va o0, vl (own_maxL (own_part1 m167_0 m167_1 m167_4) (own_part1 m167_2 m167_3 m167_4)), ss] [(.long 9223372036854775806), (.long m167_4), (.ref o0)])) rfl (by rw [hml]; rfl) (Steps.refl _) (argsL := [(.long m167_4), (.long 9223372036854775806)]) (rest := []) (lenOf pd_4 rfl) rfl (by show 2 * 0 + _ ≤ _; exact Nat.le_of_eq rfl) (hb hby at_179) (fun _ _ => ⟨rfl, e0, (by decide : 10 + 0 ≤ _), (by decide : 60 + 0 ≤ _)⟩)
        dsimp only [Pt.U, Pt.locs, Pt.cells, Pt.slots] at X9 l9 y9 z9 st9 hQ9
        subst l9 y9 z9
        obtain ⟨rfl, Nq9, Kc9, P0_9, P1_9, P2_9, P3_9, P4_9, P5_9, P6_9, P7_9⟩ := hQ9
        have N9 := Fr.app N0 Nq9
        have O9 := O0.keep Kc9 (allS g_o0 (allS g_o2 (allS g_o1 all0)))
        have K9 : Keep h0 T9.heap [o1, o0, o2] := K0.trans Kc9 (allS (Or.inl (List.mem_of_getElem? (i := 1) rfl)) (allS (Or.inl (List.mem_of_getElem? (i := 2) rfl)) (allS (Or.inl (List.mem_of_getElem? (i := 0) rfl)) all0)))
        obtain ⟨cq10, kq10, q10a, q10b, q10c⟩ := isOf hZ rfl P0_9
        obtain ⟨_, _, ⟨T10, L10, k10, n10⟩, -, X10, ⟨Lc10, hQ10, l10, y10, z10⟩, st10⟩ := X9.virtualBack hx (y := My7) (z := My7) hown (mvT hZ (ww hw 34 rfl)) (mvT hZ (ww hw 35 rfl)) (notFace_of_selects (args := #[]) (mvT hZ (ww hw 37 rfl))) (mvT hZ (ww hw 37 rfl)) (mvT hZ (ww hw 36 rfl)) (by decide) (backOf (W := 0) (rm7_2 l Z a0 hw [] w_NONE o0 o1 o2 kk_o1 kk_o2 ((((0 : Int64) + ((m167_1 - m167_0) + (1 : Int64))) + ((m167_3 - m167_2) + (1 : Int64))) - ((0 : Int64) + ((m167_3 - m167_2) + (1 : Int64)))) m167_0 m167_2 m167_1 m167_3 T9.heap n0 O9 S P3_9 P5_9 P7_9) hZ (ww hw 38 rfl) (ww hw 15 rfl) (by decide) (by decide)) q10a q10c (g := (mkF m 184 #[vi f0, vl p1, ss, vl p2, ss, vl p3, ss, vl p4, ss, vl p5, ss, vl m167_0, ss, vl m167_1, ss, vl m167_2, ss, vl m167_3, ss, vi f19, vi 1, vl m167_4, ss, va o0, vl (own_maxL (own_part1 m167_0 m167_1 m167_4) (own_part1 m167_2 m167_3 m167_4)), ss] [(.ref o0)])) rfl (by rw [hml]; rfl) (Steps.refl _) (argsL := []) (rest := []) (lenOf pd_12 rfl) rfl (by show 2 * 0 + _ ≤ _; exact Nat.le_of_eq rfl) (hb hby at_184) (fun _ _ => ⟨rfl, rfl, (by decide : 10 + 0 ≤ _), (by decide : 60 + 0 ≤ _)⟩)
        dsimp only [Pt.U, Pt.locs, Pt.cells, Pt.slots] at X10 l10 y10 z10 st10 hQ10
        subst l10 y10 z10
        obtain ⟨rfl, Nq10, e10⟩ := hQ10
        have N10 := Fr.app N9 Nq10
        have hc11 : (m167_1 + (1 : Int64)) = (own_maxL (own_part1 m167_0 m167_1 m167_4) (own_part1 m167_2 m167_3 m167_4)) := ow41 m167_0 m167_1 m167_2 m167_3 m167_4 nf0 nf1 nf2 hj0 hc1 hc2 hc3 hc5 hc6 hc7 hc8
        obtain ⟨fs, hr, hrun, hended, hW, hsame⟩ := X10.leave (v := (some (.int 1))) (fun h => by rw [hrt] at h; cases h)
        refine ⟨_, _, pre_4 _ ?_, hrun, hended, _, _, rfl, ?_, ⟨_, rfl⟩, hW, hsame.mono (by decide) (by decide)⟩
        · show Steps p.tables e below (T0.setTop (mkF m 179 #[vi f0, vl p1, ss, vl p2, ss, vl p3, ss, vl p4, ss, vl p5, ss, vl m167_0, ss, vl m167_1, ss, vl m167_2, ss, vl m167_3, ss, vi f19, vi 1, vl m167_4, ss, va o0, vl (own_maxL (own_part1 m167_0 m167_1 m167_4) (own_part1 m167_2 m167_3 m167_4)), ss] [(.long 9223372036854775806), (.long m167_4), (.ref o0)])) _
          refine st9.trans ?_
          refine XS.aload X9.here hx rfl (hb hby at_182) rfl rfl ?_
          refine st10.trans ?_
          refine XS.lload X10.here hx rfl (hb hby at_187) rfl ?_
          refine XS.lcmp X10.here hx rfl (hb hby at_189) rfl ?_
          refine XS.ifNo X10.here hx rfl (hb hby at_190) rfl (own_lc_eqT hc11).2 ?_
          refine XS.iconst X10.here hx rfl (hb hby at_193) ?_
          refine XS.goto X10.here hx rfl (pc0 := 194) (pc' := 198) rfl (hb hby at_194) (by decide) (by decide) ?_
          show Steps p.tables e below (T10.setTop (mkF m 198 #[vi f0, vl p1, ss, vl p2, ss, vl p3, ss, vl p4, ss, vl p5, ss, vl m167_0, ss, vl m167_1, ss, vl m167_2, ss, vl m167_3, ss, vi f19, vi 1, vl m167_4, ss, va o0, vl (own_maxL (own_part1 m167_0 m167_1 m167_4) (own_part1 m167_2 m167_3 m167_4)), ss] [(.int 1)])) _
          exact retN X10 hx (t := .boolean) hrt (by simp) (hb hby at_198) hr
        · show Q0 n0 (some (.int 1)) T10.heap _
          exact (⟨rfl, N10⟩)
    · have hc6 : ¬ ((9223372036854775806 : Int64) < m167_0) := ow42 m167_0 m167_1 m167_2 m167_3 m167_4 nf0 nf1 nf2 hj0 hc1 hc2 hc3 hc5
      by_cases hc7 : m167_0 < m167_4
      · have hc8 : ¬ ((9223372036854775806 : Int64) < m167_1) := ow43 m167_0 m167_1 m167_2 m167_3 m167_4 nf0 nf1 nf2 hj0 hc1 hc2 hc3 hc5 hc6 hc7
        have hc9 : ¬ ((9223372036854775806 : Int64) < m167_2) := ow44 m167_0 m167_1 m167_2 m167_3 m167_4 nf0 nf1 nf2 hj0 hc1 hc2 hc3 hc5 hc6 hc7 hc8
        have hc10 : ¬ ((9223372036854775806 : Int64) < m167_3) := ow45 m167_0 m167_1 m167_2 m167_3 m167_4 nf0 nf1 nf2 hj0 hc1 hc2 hc3 hc5 hc6 hc7 hc8 hc9
        obtain ⟨cq11, kq11, q11a, q11b, q11c⟩ := isOf hZ e0 E_o0
        obtain ⟨_, _, ⟨T11, L11, k11, n11⟩, -, X11, ⟨Lc11, hQ11, l11, y11, z11⟩, st11⟩ := X0.virtualBack hx (y := My17) (z := My17) hown (mvT hZ (ww hw 84 rfl)) (mvT hZ (ww hw 85 rfl)) (notFace_of_selects (args := #[]) (mvT hZ (ww hw 87 rfl))) (mvT hZ (ww hw 87 rfl)) (mvT hZ (ww hw 86 rfl)) (by decide) (backOf (W := 0) (rm17_4 l Z a0 hw [] w_NONE o0 o1 o2 kk_o1 kk_o2 m167_4 (((0 : Int64) + ((m167_1 - m167_0) + (1 : Int64))) + ((m167_3 - m167_2) + (1 : Int64))) m167_0 m167_2 m167_1 m167_3 h0 n0 O0 S E_o0 F_count_o0 F_firsts_o0 F_lasts_o0 F_maxRanges_o0 F_ranges_o0 V_o1 V_o2 ne_o0_o1 ne_o0_o2 ne_o1_o2 g_o0 g_o1 g_o2 hc1 hc2 hc3 hc5 hc6 hc7 hc8 hc9 hc10) hZ (ww hw 88 rfl) (ww hw 15 rfl) (by decide) (by decide)) q11a q11c (g := (mkF m 179 #[vi f0, vl p1, ss, vl p2, ss, vl p3, ss, vl p4, ss, vl p5, ss, vl m167_0, ss, vl m167_1, ss, vl m167_2, ss, vl m167_3, ss, vi f19, vi 1, vl m167_4, ss, va o0, vl (own_maxL (own_part1 m167_0 m167_1 m167_4) (own_part1 m167_2 m167_3 m167_4)), ss] [(.long 9223372036854775806), (.long m167_4), (.ref o0)])) rfl (by rw [hml]; rfl) (Steps.refl _) (argsL := [(.long m167_4), (.long 9223372036854775806)]) (rest := []) (lenOf pd_4 rfl) rfl (by show 2 * 0 + _ ≤ _; exact Nat.le_of_eq rfl) (hb hby at_179) (fun _ _ => ⟨rfl, e0, (by decide : 10 + 0 ≤ _), (by decide : 60 + 0 ≤ _)⟩)
        dsimp only [Pt.U, Pt.locs, Pt.cells, Pt.slots] at X11 l11 y11 z11 st11 hQ11
        subst l11 y11 z11
        obtain ⟨rfl, Nq11, Kc11, P0_11, P1_11, P2_11, P3_11, P4_11, P5_11, P6_11, P7_11⟩ := hQ11
        have N11 := Fr.app N0 Nq11
        have O11 := O0.keep Kc11 (allS g_o2 (allS g_o0 (allS g_o1 all0)))
        have K11 : Keep h0 T11.heap [o1, o0, o2] := K0.trans Kc11 (allS (Or.inl (List.mem_of_getElem? (i := 2) rfl)) (allS (Or.inl (List.mem_of_getElem? (i := 1) rfl)) (allS (Or.inl (List.mem_of_getElem? (i := 0) rfl)) all0)))
        obtain ⟨cq12, kq12, q12a, q12b, q12c⟩ := isOf hZ rfl P0_11
        obtain ⟨_, _, ⟨T12, L12, k12, n12⟩, -, X12, ⟨Lc12, hQ12, l12, y12, z12⟩, st12⟩ := X11.virtualBack hx (y := My7) (z := My7) hown (mvT hZ (ww hw 34 rfl)) (mvT hZ (ww hw 35 rfl)) (notFace_of_selects (args := #[]) (mvT hZ (ww hw 37 rfl))) (mvT hZ (ww hw 37 rfl)) (mvT hZ (ww hw 36 rfl)) (by decide) (backOf (W := 0) (rm7_2 l Z a0 hw [] w_NONE o0 o1 o2 kk_o1 kk_o2 ((((0 : Int64) + ((m167_1 - m167_0) + (1 : Int64))) + ((m167_3 - m167_2) + (1 : Int64))) - (((0 : Int64) + ((m167_1 - m167_4) + (1 : Int64))) + ((m167_3 - m167_2) + (1 : Int64)))) m167_0 m167_2 (m167_4 - (1 : Int64)) m167_3 T11.heap n0 O11 S P3_11 P5_11 P7_11) hZ (ww hw 38 rfl) (ww hw 15 rfl) (by decide) (by decide)) q12a q12c (g := (mkF m 184 #[vi f0, vl p1, ss, vl p2, ss, vl p3, ss, vl p4, ss, vl p5, ss, vl m167_0, ss, vl m167_1, ss, vl m167_2, ss, vl m167_3, ss, vi f19, vi 1, vl m167_4, ss, va o0, vl (own_maxL (own_part1 m167_0 m167_1 m167_4) (own_part1 m167_2 m167_3 m167_4)), ss] [(.ref o0)])) rfl (by rw [hml]; rfl) (Steps.refl _) (argsL := []) (rest := []) (lenOf pd_12 rfl) rfl (by show 2 * 0 + _ ≤ _; exact Nat.le_of_eq rfl) (hb hby at_184) (fun _ _ => ⟨rfl, rfl, (by decide : 10 + 0 ≤ _), (by decide : 60 + 0 ≤ _)⟩)
        dsimp only [Pt.U, Pt.locs, Pt.cells, Pt.slots] at X12 l12 y12 z12 st12 hQ12
        subst l12 y12 z12
        obtain ⟨rfl, Nq12, e12⟩ := hQ12
        have N12 := Fr.app N11 Nq12
        have hc13 : ((m167_4 - (1 : Int64)) + (1 : Int64)) = (own_maxL (own_part1 m167_0 m167_1 m167_4) (own_part1 m167_2 m167_3 m167_4)) := ow46 m167_0 m167_1 m167_2 m167_3 m167_4 nf0 nf1 nf2 hj0 hc1 hc2 hc3 hc5 hc6 hc7 hc8 hc9 hc10
        obtain ⟨fs, hr, hrun, hended, hW, hsame⟩ := X12.leave (v := (some (.int 1))) (fun h => by rw [hrt] at h; cases h)
        refine ⟨_, _, pre_4 _ ?_, hrun, hended, _, _, rfl, ?_, ⟨_, rfl⟩, hW, hsame.mono (by decide) (by decide)⟩
        · show Steps p.tables e below (T0.setTop (mkF m 179 #[vi f0, vl p1, ss, vl p2, ss, vl p3, ss, vl p4, ss, vl p5, ss, vl m167_0, ss, vl m167_1, ss, vl m167_2, ss, vl m167_3, ss, vi f19, vi 1, vl m167_4, ss, va o0, vl (own_maxL (own_part1 m167_0 m167_1 m167_4) (own_part1 m167_2 m167_3 m167_4)), ss] [(.long 9223372036854775806), (.long m167_4), (.ref o0)])) _
          refine st11.trans ?_
          refine XS.aload X11.here hx rfl (hb hby at_182) rfl rfl ?_
          refine st12.trans ?_
          refine XS.lload X12.here hx rfl (hb hby at_187) rfl ?_
          refine XS.lcmp X12.here hx rfl (hb hby at_189) rfl ?_
          refine XS.ifNo X12.here hx rfl (hb hby at_190) rfl (own_lc_eqT hc13).2 ?_
          refine XS.iconst X12.here hx rfl (hb hby at_193) ?_
          refine XS.goto X12.here hx rfl (pc0 := 194) (pc' := 198) rfl (hb hby at_194) (by decide) (by decide) ?_
          show Steps p.tables e below (T12.setTop (mkF m 198 #[vi f0, vl p1, ss, vl p2, ss, vl p3, ss, vl p4, ss, vl p5, ss, vl m167_0, ss, vl m167_1, ss, vl m167_2, ss, vl m167_3, ss, vi f19, vi 1, vl m167_4, ss, va o0, vl (own_maxL (own_part1 m167_0 m167_1 m167_4) (own_part1 m167_2 m167_3 m167_4)), ss] [(.int 1)])) _
          exact retN X12 hx (t := .boolean) hrt (by simp) (hb hby at_198) hr
        · show Q0 n0 (some (.int 1)) T12.heap _
          exact (⟨rfl, N12⟩)
      · have hc8 : ¬ ((9223372036854775806 : Int64) < m167_2) := ow47 m167_0 m167_1 m167_2 m167_3 m167_4 nf0 nf1 nf2 hj0 hc1 hc2 hc3 hc5 hc6 hc7
        have hc9 : ¬ ((9223372036854775806 : Int64) < m167_3) := ow48 m167_0 m167_1 m167_2 m167_3 m167_4 nf0 nf1 nf2 hj0 hc1 hc2 hc3 hc5 hc6 hc7 hc8
        obtain ⟨cq10, kq10, q10a, q10b, q10c⟩ := isOf hZ e0 E_o0
        obtain ⟨_, _, ⟨T10, L10, k10, n10⟩, -, X10, ⟨Lc10, hQ10, l10, y10, z10⟩, st10⟩ := X0.virtualBack hx (y := My17) (z := My17) hown (mvT hZ (ww hw 84 rfl)) (mvT hZ (ww hw 85 rfl)) (notFace_of_selects (args := #[]) (mvT hZ (ww hw 87 rfl))) (mvT hZ (ww hw 87 rfl)) (mvT hZ (ww hw 86 rfl)) (by decide) (backOf (W := 0) (rm17_1 l Z a0 hw [] w_NONE o0 o1 o2 kk_o1 kk_o2 m167_4 (((0 : Int64) + ((m167_1 - m167_0) + (1 : Int64))) + ((m167_3 - m167_2) + (1 : Int64))) m167_0 m167_2 m167_1 m167_3 h0 n0 O0 S E_o0 F_count_o0 F_firsts_o0 F_lasts_o0 F_maxRanges_o0 F_ranges_o0 V_o1 V_o2 ne_o0_o1 ne_o0_o2 ne_o1_o2 g_o0 g_o1 g_o2 hc1 hc2 hc3 hc5 hc6 hc7 hc8 hc9) hZ (ww hw 88 rfl) (ww hw 15 rfl) (by decide) (by decide)) q10a q10c (g := (mkF m 179 #[vi f0, vl p1, ss, vl p2, ss, vl p3, ss, vl p4, ss, vl p5, ss, vl m167_0, ss, vl m167_1, ss, vl m167_2, ss, vl m167_3, ss, vi f19, vi 1, vl m167_4, ss, va o0, vl (own_maxL (own_part1 m167_0 m167_1 m167_4) (own_part1 m167_2 m167_3 m167_4)), ss] [(.long 9223372036854775806), (.long m167_4), (.ref o0)])) rfl (by rw [hml]; rfl) (Steps.refl _) (argsL := [(.long m167_4), (.long 9223372036854775806)]) (rest := []) (lenOf pd_4 rfl) rfl (by show 2 * 0 + _ ≤ _; exact Nat.le_of_eq rfl) (hb hby at_179) (fun _ _ => ⟨rfl, e0, (by decide : 10 + 0 ≤ _), (by decide : 60 + 0 ≤ _)⟩)
        dsimp only [Pt.U, Pt.locs, Pt.cells, Pt.slots] at X10 l10 y10 z10 st10 hQ10
        subst l10 y10 z10
        obtain ⟨rfl, Nq10, Kc10, P0_10, P1_10, P2_10, P3_10, P4_10, P5_10, P6_10, P7_10⟩ := hQ10
        have N10 := Fr.app N0 Nq10
        have O10 := O0.keep Kc10 (allS g_o0 (allS g_o2 (allS g_o1 all0)))
        have K10 : Keep h0 T10.heap [o1, o0, o2] := K0.trans Kc10 (allS (Or.inl (List.mem_of_getElem? (i := 1) rfl)) (allS (Or.inl (List.mem_of_getElem? (i := 2) rfl)) (allS (Or.inl (List.mem_of_getElem? (i := 0) rfl)) all0)))
        obtain ⟨cq11, kq11, q11a, q11b, q11c⟩ := isOf hZ rfl P0_10
        obtain ⟨_, _, ⟨T11, L11, k11, n11⟩, -, X11, ⟨Lc11, hQ11, l11, y11, z11⟩, st11⟩ := X10.virtualBack hx (y := My7) (z := My7) hown (mvT hZ (ww hw 34 rfl)) (mvT hZ (ww hw 35 rfl)) (notFace_of_selects (args := #[]) (mvT hZ (ww hw 37 rfl))) (mvT hZ (ww hw 37 rfl)) (mvT hZ (ww hw 36 rfl)) (by decide) (backOf (W := 0) (rm7_3 l Z a0 hw [] w_NONE o0 o1 o2 kk_o1 kk_o2 ((((0 : Int64) + ((m167_1 - m167_0) + (1 : Int64))) + ((m167_3 - m167_2) + (1 : Int64))) - (((0 : Int64) + ((m167_1 - m167_0) + (1 : Int64))) + ((m167_3 - m167_2) + (1 : Int64)))) m167_0 m167_2 m167_1 m167_3 T10.heap n0 O10 S P5_10) hZ (ww hw 38 rfl) (ww hw 15 rfl) (by decide) (by decide)) q11a q11c (g := (mkF m 184 #[vi f0, vl p1, ss, vl p2, ss, vl p3, ss, vl p4, ss, vl p5, ss, vl m167_0, ss, vl m167_1, ss, vl m167_2, ss, vl m167_3, ss, vi f19, vi 1, vl m167_4, ss, va o0, vl (own_maxL (own_part1 m167_0 m167_1 m167_4) (own_part1 m167_2 m167_3 m167_4)), ss] [(.ref o0)])) rfl (by rw [hml]; rfl) (Steps.refl _) (argsL := []) (rest := []) (lenOf pd_12 rfl) rfl (by show 2 * 0 + _ ≤ _; exact Nat.le_of_eq rfl) (hb hby at_184) (fun _ _ => ⟨rfl, rfl, (by decide : 10 + 0 ≤ _), (by decide : 60 + 0 ≤ _)⟩)
        dsimp only [Pt.U, Pt.locs, Pt.cells, Pt.slots] at X11 l11 y11 z11 st11 hQ11
        subst l11 y11 z11
        obtain ⟨rfl, Nq11, e11⟩ := hQ11
        have N11 := Fr.app N10 Nq11
        have hc12 : (0 : Int64) = (own_maxL (own_part1 m167_0 m167_1 m167_4) (own_part1 m167_2 m167_3 m167_4)) := ow49 m167_0 m167_1 m167_2 m167_3 m167_4 nf0 nf1 nf2 hj0 hc1 hc2 hc3 hc5 hc6 hc7 hc8 hc9
        obtain ⟨fs, hr, hrun, hended, hW, hsame⟩ := X11.leave (v := (some (.int 1))) (fun h => by rw [hrt] at h; cases h)
        refine ⟨_, _, pre_4 _ ?_, hrun, hended, _, _, rfl, ?_, ⟨_, rfl⟩, hW, hsame.mono (by decide) (by decide)⟩
        · show Steps p.tables e below (T0.setTop (mkF m 179 #[vi f0, vl p1, ss, vl p2, ss, vl p3, ss, vl p4, ss, vl p5, ss, vl m167_0, ss, vl m167_1, ss, vl m167_2, ss, vl m167_3, ss, vi f19, vi 1, vl m167_4, ss, va o0, vl (own_maxL (own_part1 m167_0 m167_1 m167_4) (own_part1 m167_2 m167_3 m167_4)), ss] [(.long 9223372036854775806), (.long m167_4), (.ref o0)])) _
          refine st10.trans ?_
          refine XS.aload X10.here hx rfl (hb hby at_182) rfl rfl ?_
          refine st11.trans ?_
          refine XS.lload X11.here hx rfl (hb hby at_187) rfl ?_
          refine XS.lcmp X11.here hx rfl (hb hby at_189) rfl ?_
          refine XS.ifNo X11.here hx rfl (hb hby at_190) rfl (own_lc_eqT hc12).2 ?_
          refine XS.iconst X11.here hx rfl (hb hby at_193) ?_
          refine XS.goto X11.here hx rfl (pc0 := 194) (pc' := 198) rfl (hb hby at_194) (by decide) (by decide) ?_
          show Steps p.tables e below (T11.setTop (mkF m 198 #[vi f0, vl p1, ss, vl p2, ss, vl p3, ss, vl p4, ss, vl p5, ss, vl m167_0, ss, vl m167_1, ss, vl m167_2, ss, vl m167_3, ss, vi f19, vi 1, vl m167_4, ss, va o0, vl (own_maxL (own_part1 m167_0 m167_1 m167_4) (own_part1 m167_2 m167_3 m167_4)), ss] [(.int 1)])) _
          exact retN X11 hx (t := .boolean) hrt (by simp) (hb hby at_198) hr
        · show Q0 n0 (some (.int 1)) T11.heap _
          exact (⟨rfl, N11⟩)
theorem jn5 {p : Program} {l : Launch} {e : Env} {s : State} {m : MethodId} {below : List Frame} {meth : Method} {c : Code} {T0 : State} {locs : List Loc} {Z : State} {a0 : Array Value} {h0 : Heap} {n0 : Nat} (hx : p.tables.exec = Jvm.exec) (hZ : Z.Warmed39 s.vm) (hby : c.code = code) (hml : c.maxLocals = 26) (hown : s.vm.findClass sC1 = some m.cls) (hrt : meth.sig.returnType = ret) (hlk : meth.locks = false) (hw : HW Z a0) (w_NONE : Addr) (o0 : Addr) (o1 : Addr) (o2 : Addr) (kk_o1 : ClassId) (kk_o2 : ClassId) (p0 : Int32) (p1 : Int64) (p2 : Int64) (p3 : Int64) (p4 : Int64) (p5 : Int64) (m139_0 : Int64) (m139_1 : Int64) (m139_2 : Int64) (m139_3 : Int64) (m139_4 : Int64) (f0 : Int32) (f19 : Int32) (X0 : Stand p l e room_1 s m #[(.int p0), (.long p1), (.long p2), (.long p3), (.long p4), (.long p5)] below meth c T0 locs 6 40) (e0 : T0.heap = h0) (N0 : Fr n0 locs) (O0 : Old Z n0 h0) (S : SF Z w_NONE) (E_o0 : Exa Z h0 o0 sC0) (F_count_o0 : Fld Z h0 o0 sC0 "count" "J" (.long ((0 : Int64) + ((m139_1 - m139_0) + (1 : Int64))))) (F_firsts_o0 : Fld Z h0 o0 sC0 "firsts" "[J" (.ref o1)) (F_lasts_o0 : Fld Z h0 o0 sC0 "lasts" "[J" (.ref o2)) (F_maxRanges_o0 : Fld Z h0 o0 sC0 "maxRanges" "I" (.int 2147483647)) (F_ranges_o0 : Fld Z h0 o0 sC0 "ranges" "I" (.int 1)) (V_o1 : Arv Z h0 o1 kk_o1 .long (4 : Int32) [(.long m139_0), (.long 0), (.long 0), (.long 0)] (.long 0)) (V_o2 : Arv Z h0 o2 kk_o2 .long (4 : Int32) [(.long m139_1), (.long 0), (.long 0), (.long 0)] (.long 0)) (ne_o0_o1 : o0 ≠ o1) (ne_o0_o2 : o0 ≠ o2) (ne_o1_o2 : o1 ≠ o2) (g_o0 : n0 ≤ o0) (g_o1 : n0 ≤ o1) (g_o2 : n0 ≤ o2) (nf0 : 0 ≤ m139_0.toInt ∧ m139_0.toInt ≤ m139_1.toInt ∧ m139_1.toInt ≤ 9223372036854775806) (nf1 : 0 ≤ m139_2.toInt ∧ m139_2.toInt ≤ m139_3.toInt ∧ m139_3.toInt ≤ 9223372036854775806) (nf2 : 0 ≤ m139_4.toInt ∧ m139_4.toInt ≤ 9223372036854775806) :
    ∃ s₂ o, Steps p.tables e below (T0.setTop (mkF m 139 #[vi f0, vl p1, ss, vl p2, ss, vl p3, ss, vl p4, ss, vl p5, ss, vl m139_0, ss, vl m139_1, ss, vl m139_2, ss, vl m139_3, ss, vi f19, vi 1, vl m139_4, ss, va o0, vl (own_part1 m139_0 m139_1 m139_4), ss] [])) s₂ ∧ s₂.status = .running ∧ Ended s₂ below o ∧ ∃ v L, o = .returned v ∧ Q0 n0 v s₂.heap L ∧ FrameEnd s o s₂ L room_1.cells room_1.slots := by
  have K0 : Keep h0 h0 [o1, o2, o0] := Keep.refl _ _
  have hc1 : ¬ (m139_2 < (0 : Int64)) := ow3 m139_2 m139_3 nf1
  have hc2 : ¬ (m139_3 < m139_2) := ow4 m139_2 m139_3 nf1 hc1
  have pre_4 : ∀ t, Steps p.tables e below (T0.setTop (mkF m 145 #[vi f0, vl p1, ss, vl p2, ss, vl p3, ss, vl p4, ss, vl p5, ss, vl m139_0, ss, vl m139_1, ss, vl m139_2, ss, vl m139_3, ss, vi f19, vi 1, vl m139_4, ss, va o0, vl (own_part1 m139_0 m139_1 m139_4), ss] [(.long m139_3), (.long m139_2), (.ref o0)])) t → Steps p.tables e below (T0.setTop (mkF m 139 #[vi f0, vl p1, ss, vl p2, ss, vl p3, ss, vl p4, ss, vl p5, ss, vl m139_0, ss, vl m139_1, ss, vl m139_2, ss, vl m139_3, ss, vi f19, vi 1, vl m139_4, ss, va o0, vl (own_part1 m139_0 m139_1 m139_4), ss] [])) t := fun t k => (by
    show Steps p.tables e below (T0.setTop (mkF m 139 #[vi f0, vl p1, ss, vl p2, ss, vl p3, ss, vl p4, ss, vl p5, ss, vl m139_0, ss, vl m139_1, ss, vl m139_2, ss, vl m139_3, ss, vi f19, vi 1, vl m139_4, ss, va o0, vl (own_part1 m139_0 m139_1 m139_4), ss] [])) _
    refine XS.aload X0.here hx rfl (hb hby at_139) rfl rfl ?_
    refine XS.lload X0.here hx rfl (hb hby at_141) rfl ?_
    refine XS.lload X0.here hx rfl (hb hby at_143) rfl ?_
    exact k)
  by_cases hc3 : m139_2 = (0 : Int64)
  · have hc5 : ¬ (m139_1 < (0 : Int64)) := ow5 m139_0 m139_1 nf0
    by_cases hc6 : (m139_3 + (1 : Int64)) < m139_0
    · obtain ⟨cq7, kq7, q7a, q7b, q7c⟩ := isOf hZ e0 E_o0
      obtain ⟨_, _, ⟨T7, L7, k7, n7⟩, -, X7, ⟨Lc7, hQ7, l7, y7, z7⟩, st7⟩ := X0.virtualBack hx (y := My8) (z := My8) hown (mvT hZ (ww hw 41 rfl)) (mvT hZ (ww hw 42 rfl)) (notFace_of_selects (args := #[]) (mvT hZ (ww hw 44 rfl))) (mvT hZ (ww hw 44 rfl)) (mvT hZ (ww hw 43 rfl)) (by decide) (backOf (W := 0) (rm8_4 l Z a0 hw [] w_NONE o0 o1 o2 kk_o1 kk_o2 m139_2 m139_3 ((0 : Int64) + ((m139_1 - m139_0) + (1 : Int64))) m139_0 m139_1 h0 n0 O0 S E_o0 F_count_o0 F_firsts_o0 F_lasts_o0 F_maxRanges_o0 F_ranges_o0 V_o1 V_o2 ne_o0_o1 ne_o0_o2 ne_o1_o2 g_o0 g_o1 g_o2 hc1 hc2 hc3 hc5 hc6) hZ (ww hw 45 rfl) (ww hw 15 rfl) (by decide) (by decide)) q7a q7c (g := (mkF m 145 #[vi f0, vl p1, ss, vl p2, ss, vl p3, ss, vl p4, ss, vl p5, ss, vl m139_0, ss, vl m139_1, ss, vl m139_2, ss, vl m139_3, ss, vi f19, vi 1, vl m139_4, ss, va o0, vl (own_part1 m139_0 m139_1 m139_4), ss] [(.long m139_3), (.long m139_2), (.ref o0)])) rfl (by rw [hml]; rfl) (Steps.refl _) (argsL := [(.long m139_2), (.long m139_3)]) (rest := []) (lenOf pd_9 rfl) rfl (by show 2 * 0 + _ ≤ _; exact Nat.le_of_eq rfl) (hb hby at_145) (fun _ _ => ⟨rfl, e0, (by decide : 6 + 0 ≤ _), (by decide : 40 + 0 ≤ _)⟩)
      dsimp only [Pt.U, Pt.locs, Pt.cells, Pt.slots] at X7 l7 y7 z7 st7 hQ7
      subst l7 y7 z7
      obtain ⟨rfl, Nq7, Kc7, P0_7, P1_7, P2_7, P3_7, P4_7, P5_7, P6_7, P7_7⟩ := hQ7
      have N7 := Fr.app N0 Nq7
      have O7 := O0.keep Kc7 (allS g_o0 (allS g_o2 (allS g_o1 all0)))
      have K7 : Keep h0 T7.heap [o1, o2, o0] := K0.trans Kc7 (allS (Or.inl (List.mem_of_getElem? (i := 2) rfl)) (allS (Or.inl (List.mem_of_getElem? (i := 1) rfl)) (allS (Or.inl (List.mem_of_getElem? (i := 0) rfl)) all0)))
      obtain ⟨_, _, ⟨T8, L8, k8, n8⟩, -, X8, ⟨Lc8, hQ8, l8, y8, z8⟩, st8⟩ := Jvm.LawKit.callS X7 hx (y := My15) hown (mvT hZ (ww hw 75 rfl)) (mvT hZ (ww hw 76 rfl)) (mvT hZ (ww hw 2 rfl)) (mvT hZ (ww hw 77 rfl)) (by decide) (backOf (W := 2) (mg15_1 l Z a0 hw [] w_NONE m139_2 m139_3 m139_4 T7.heap n0 O7 S) hZ (ww hw 77 rfl) (ww hw 2 rfl) (by decide) (by decide)) (g := (mkF m 159 #[vi f0, vl p1, ss, vl p2, ss, vl p3, ss, vl p4, ss, vl p5, ss, vl m139_0, ss, vl m139_1, ss, vl m139_2, ss, vl m139_3, ss, vi f19, vi 1, vl m139_4, ss, va o0, vl (own_part1 m139_0 m139_1 m139_4), ss] [(.long m139_4), (.int 1), (.long m139_3), (.long m139_2), (.long (own_part1 m139_0 m139_1 m139_4))])) rfl (by rw [hml]; rfl) (argsL := [(.long m139_2), (.long m139_3), (.int 1), (.long m139_4)]) (rest := [(.long (own_part1 m139_0 m139_1 m139_4))]) (lenOf pd_10 rfl) rfl (by show 2 * 0 + _ ≤ _; exact Nat.le_of_eq rfl) (hb hby at_159) (fun _ _ => ⟨rfl, rfl, (by decide : 6 + 0 ≤ _), (by decide : 40 + 0 ≤ _)⟩)
      dsimp only [Pt.U, Pt.locs, Pt.cells, Pt.slots] at X8 l8 y8 z8 st8 hQ8
      subst l8 y8 z8
      obtain ⟨rfl, Nq8, e8⟩ := hQ8
      have N8 := Fr.app N7 Nq8
      obtain ⟨_, _, ⟨T9, L9, k9, n9⟩, -, X9, ⟨Lc9, hQ9, l9, y9, z9⟩, st9⟩ := Jvm.LawKit.callS X8 hx (y := My3) hown (mvT hZ (ww hw 10 rfl)) (mvT hZ (ww hw 11 rfl)) (mvT hZ (ww hw 8 rfl)) (mvT hZ (ww hw 12 rfl)) (by decide) (backOf (W := 0) (mg3_0 l Z a0 hw [] w_NONE (own_part1 m139_0 m139_1 m139_4) (own_part1 m139_2 m139_3 m139_4) T7.heap n0 O7 S) hZ (ww hw 12 rfl) (ww hw 8 rfl) (by decide) (by decide)) (g := (mkF m 162 #[vi f0, vl p1, ss, vl p2, ss, vl p3, ss, vl p4, ss, vl p5, ss, vl m139_0, ss, vl m139_1, ss, vl m139_2, ss, vl m139_3, ss, vi f19, vi 1, vl m139_4, ss, va o0, vl (own_part1 m139_0 m139_1 m139_4), ss] [(.long (own_part1 m139_2 m139_3 m139_4)), (.long (own_part1 m139_0 m139_1 m139_4))])) rfl (by rw [hml]; rfl) (argsL := [(.long (own_part1 m139_0 m139_1 m139_4)), (.long (own_part1 m139_2 m139_3 m139_4))]) (rest := []) (lenOf pd_0 rfl) rfl (by show 2 * 0 + _ ≤ _; exact Nat.le_of_eq rfl) (hb hby at_162) (fun _ _ => ⟨rfl, e8, (by decide : 6 + 0 ≤ _), (by decide : 40 + 0 ≤ _)⟩)
      dsimp only [Pt.U, Pt.locs, Pt.cells, Pt.slots] at X9 l9 y9 z9 st9 hQ9
      subst l9 y9 z9
      obtain ⟨rfl, Nq9, e9⟩ := hQ9
      have N9 := Fr.app N8 Nq9
      have pre_10 : ∀ t, Steps p.tables e below (T9.setTop (mkF m 167 #[vi f0, vl p1, ss, vl p2, ss, vl p3, ss, vl p4, ss, vl p5, ss, vl m139_0, ss, vl m139_1, ss, vl m139_2, ss, vl m139_3, ss, vi f19, vi 1, vl m139_4, ss, va o0, vl (own_maxL (own_part1 m139_0 m139_1 m139_4) (own_part1 m139_2 m139_3 m139_4)), ss] [])) t → Steps p.tables e below (T0.setTop (mkF m 139 #[vi f0, vl p1, ss, vl p2, ss, vl p3, ss, vl p4, ss, vl p5, ss, vl m139_0, ss, vl m139_1, ss, vl m139_2, ss, vl m139_3, ss, vi f19, vi 1, vl m139_4, ss, va o0, vl (own_part1 m139_0 m139_1 m139_4), ss] [])) t := fun t k => pre_4 t (by
        show Steps p.tables e below (T0.setTop (mkF m 145 #[vi f0, vl p1, ss, vl p2, ss, vl p3, ss, vl p4, ss, vl p5, ss, vl m139_0, ss, vl m139_1, ss, vl m139_2, ss, vl m139_3, ss, vi f19, vi 1, vl m139_4, ss, va o0, vl (own_part1 m139_0 m139_1 m139_4), ss] [(.long m139_3), (.long m139_2), (.ref o0)])) _
        refine st7.trans ?_
        refine XS.pop X7.here hx rfl (hb hby at_148) rfl rfl ?_
        refine XS.lload X7.here hx rfl (hb hby at_149) rfl ?_
        refine XS.lload X7.here hx rfl (hb hby at_151) rfl ?_
        refine XS.lload X7.here hx rfl (hb hby at_153) rfl ?_
        refine XS.iload X7.here hx rfl (hb hby at_155) rfl ?_
        refine XS.lload X7.here hx rfl (hb hby at_157) rfl ?_
        refine st8 _ ?_
        show Steps p.tables e below (T8.setTop (mkF m 162 #[vi f0, vl p1, ss, vl p2, ss, vl p3, ss, vl p4, ss, vl p5, ss, vl m139_0, ss, vl m139_1, ss, vl m139_2, ss, vl m139_3, ss, vi f19, vi 1, vl m139_4, ss, va o0, vl (own_part1 m139_0 m139_1 m139_4), ss] [(.long (own_part1 m139_2 m139_3 m139_4)), (.long (own_part1 m139_0 m139_1 m139_4))])) _
        refine st9 _ ?_
        refine XS.lstore X9.here hx rfl (hb hby at_165) rfl (l' := #[vi f0, vl p1, ss, vl p2, ss, vl p3, ss, vl p4, ss, vl p5, ss, vl m139_0, ss, vl m139_1, ss, vl m139_2, ss, vl m139_3, ss, vi f19, vi 1, vl m139_4, ss, va o0, vl (own_maxL (own_part1 m139_0 m139_1 m139_4) (own_part1 m139_2 m139_3 m139_4)), ss]) rfl ?_
        exact k)
      have hj11 : m139_3 < m139_0 := ow7 m139_0 m139_1 m139_2 m139_3 nf0 nf1 hc1 hc2 hc3 hc5 hc6
      obtain ⟨U, o, st, rest⟩ := jn6 (a0 := a0) hx hZ hby hml hown hrt hlk hw w_NONE o0 o1 o2 kk_o1 kk_o2 p0 p1 p2 p3 p4 p5 m139_0 m139_1 m139_2 m139_3 m139_4 f0 f19 (X9.more (by decide) (by decide)) e9 N9 O7 S P0_7 P1_7 P2_7 P3_7 P4_7 P5_7 P6_7 P7_7 ne_o0_o1 ne_o0_o2 ne_o1_o2 g_o0 g_o1 g_o2 nf0 nf1 nf2 hj11
      exact ⟨U, o, pre_10 _ st, rest⟩
    · obtain ⟨cq7, kq7, q7a, q7b, q7c⟩ := isOf hZ e0 E_o0
      obtain ⟨_, _, ⟨T7, L7, k7, n7⟩, -, X7, ⟨Lc7, hQ7, l7, y7, z7⟩, st7⟩ := X0.virtualBack hx (y := My8) (z := My8) hown (mvT hZ (ww hw 41 rfl)) (mvT hZ (ww hw 42 rfl)) (notFace_of_selects (args := #[]) (mvT hZ (ww hw 44 rfl))) (mvT hZ (ww hw 44 rfl)) (mvT hZ (ww hw 43 rfl)) (by decide) (backOf (W := 0) (rm8_3 l Z a0 hw [] w_NONE o0 o1 o2 kk_o1 kk_o2 m139_2 m139_3 ((0 : Int64) + ((m139_1 - m139_0) + (1 : Int64))) m139_0 m139_1 h0 n0 O0 S E_o0 F_count_o0 F_firsts_o0 F_lasts_o0 F_maxRanges_o0 F_ranges_o0 V_o1 V_o2 ne_o0_o1 ne_o0_o2 ne_o1_o2 g_o0 g_o1 g_o2 hc1 hc2 hc3 hc5 hc6) hZ (ww hw 45 rfl) (ww hw 15 rfl) (by decide) (by decide)) q7a q7c (g := (mkF m 145 #[vi f0, vl p1, ss, vl p2, ss, vl p3, ss, vl p4, ss, vl p5, ss, vl m139_0, ss, vl m139_1, ss, vl m139_2, ss, vl m139_3, ss, vi f19, vi 1, vl m139_4, ss, va o0, vl (own_part1 m139_0 m139_1 m139_4), ss] [(.long m139_3), (.long m139_2), (.ref o0)])) rfl (by rw [hml]; rfl) (Steps.refl _) (argsL := [(.long m139_2), (.long m139_3)]) (rest := []) (lenOf pd_9 rfl) rfl (by show 2 * 0 + _ ≤ _; exact Nat.le_of_eq rfl) (hb hby at_145) (fun _ _ => ⟨rfl, e0, (by decide : 6 + 0 ≤ _), (by decide : 40 + 0 ≤ _)⟩)
      dsimp only [Pt.U, Pt.locs, Pt.cells, Pt.slots] at X7 l7 y7 z7 st7 hQ7
      subst l7 y7 z7
      obtain ⟨rfl, Nq7, Kc7, P0_7, P1_7, P2_7, P3_7, P4_7, P5_7, P6_7, P7_7⟩ := hQ7
      have N7 := Fr.app N0 Nq7
      have O7 := O0.keep Kc7 (allS g_o1 (allS g_o2 (allS g_o0 all0)))
      have K7 : Keep h0 T7.heap [o1, o2, o0] := K0.trans Kc7 (allS (Or.inl (List.mem_of_getElem? (i := 0) rfl)) (allS (Or.inl (List.mem_of_getElem? (i := 1) rfl)) (allS (Or.inl (List.mem_of_getElem? (i := 2) rfl)) all0)))
      obtain ⟨_, _, ⟨T8, L8, k8, n8⟩, -, X8, ⟨Lc8, hQ8, l8, y8, z8⟩, st8⟩ := Jvm.LawKit.callS X7 hx (y := My15) hown (mvT hZ (ww hw 75 rfl)) (mvT hZ (ww hw 76 rfl)) (mvT hZ (ww hw 2 rfl)) (mvT hZ (ww hw 77 rfl)) (by decide) (backOf (W := 2) (mg15_1 l Z a0 hw [] w_NONE m139_2 m139_3 m139_4 T7.heap n0 O7 S) hZ (ww hw 77 rfl) (ww hw 2 rfl) (by decide) (by decide)) (g := (mkF m 159 #[vi f0, vl p1, ss, vl p2, ss, vl p3, ss, vl p4, ss, vl p5, ss, vl m139_0, ss, vl m139_1, ss, vl m139_2, ss, vl m139_3, ss, vi f19, vi 1, vl m139_4, ss, va o0, vl (own_part1 m139_0 m139_1 m139_4), ss] [(.long m139_4), (.int 1), (.long m139_3), (.long m139_2), (.long (own_part1 m139_0 m139_1 m139_4))])) rfl (by rw [hml]; rfl) (argsL := [(.long m139_2), (.long m139_3), (.int 1), (.long m139_4)]) (rest := [(.long (own_part1 m139_0 m139_1 m139_4))]) (lenOf pd_10 rfl) rfl (by show 2 * 0 + _ ≤ _; exact Nat.le_of_eq rfl) (hb hby at_159) (fun _ _ => ⟨rfl, rfl, (by decide : 6 + 0 ≤ _), (by decide : 40 + 0 ≤ _)⟩)
      dsimp only [Pt.U, Pt.locs, Pt.cells, Pt.slots] at X8 l8 y8 z8 st8 hQ8
      subst l8 y8 z8
      obtain ⟨rfl, Nq8, e8⟩ := hQ8
      have N8 := Fr.app N7 Nq8
      obtain ⟨_, _, ⟨T9, L9, k9, n9⟩, -, X9, ⟨Lc9, hQ9, l9, y9, z9⟩, st9⟩ := Jvm.LawKit.callS X8 hx (y := My3) hown (mvT hZ (ww hw 10 rfl)) (mvT hZ (ww hw 11 rfl)) (mvT hZ (ww hw 8 rfl)) (mvT hZ (ww hw 12 rfl)) (by decide) (backOf (W := 0) (mg3_0 l Z a0 hw [] w_NONE (own_part1 m139_0 m139_1 m139_4) (own_part1 m139_2 m139_3 m139_4) T7.heap n0 O7 S) hZ (ww hw 12 rfl) (ww hw 8 rfl) (by decide) (by decide)) (g := (mkF m 162 #[vi f0, vl p1, ss, vl p2, ss, vl p3, ss, vl p4, ss, vl p5, ss, vl m139_0, ss, vl m139_1, ss, vl m139_2, ss, vl m139_3, ss, vi f19, vi 1, vl m139_4, ss, va o0, vl (own_part1 m139_0 m139_1 m139_4), ss] [(.long (own_part1 m139_2 m139_3 m139_4)), (.long (own_part1 m139_0 m139_1 m139_4))])) rfl (by rw [hml]; rfl) (argsL := [(.long (own_part1 m139_0 m139_1 m139_4)), (.long (own_part1 m139_2 m139_3 m139_4))]) (rest := []) (lenOf pd_0 rfl) rfl (by show 2 * 0 + _ ≤ _; exact Nat.le_of_eq rfl) (hb hby at_162) (fun _ _ => ⟨rfl, e8, (by decide : 6 + 0 ≤ _), (by decide : 40 + 0 ≤ _)⟩)
      dsimp only [Pt.U, Pt.locs, Pt.cells, Pt.slots] at X9 l9 y9 z9 st9 hQ9
      subst l9 y9 z9
      obtain ⟨rfl, Nq9, e9⟩ := hQ9
      have N9 := Fr.app N8 Nq9
      have pre_10 : ∀ t, Steps p.tables e below (T9.setTop (mkF m 167 #[vi f0, vl p1, ss, vl p2, ss, vl p3, ss, vl p4, ss, vl p5, ss, vl m139_0, ss, vl m139_1, ss, vl m139_2, ss, vl m139_3, ss, vi f19, vi 1, vl m139_4, ss, va o0, vl (own_maxL (own_part1 m139_0 m139_1 m139_4) (own_part1 m139_2 m139_3 m139_4)), ss] [])) t → Steps p.tables e below (T0.setTop (mkF m 139 #[vi f0, vl p1, ss, vl p2, ss, vl p3, ss, vl p4, ss, vl p5, ss, vl m139_0, ss, vl m139_1, ss, vl m139_2, ss, vl m139_3, ss, vi f19, vi 1, vl m139_4, ss, va o0, vl (own_part1 m139_0 m139_1 m139_4), ss] [])) t := fun t k => pre_4 t (by
        show Steps p.tables e below (T0.setTop (mkF m 145 #[vi f0, vl p1, ss, vl p2, ss, vl p3, ss, vl p4, ss, vl p5, ss, vl m139_0, ss, vl m139_1, ss, vl m139_2, ss, vl m139_3, ss, vi f19, vi 1, vl m139_4, ss, va o0, vl (own_part1 m139_0 m139_1 m139_4), ss] [(.long m139_3), (.long m139_2), (.ref o0)])) _
        refine st7.trans ?_
        refine XS.pop X7.here hx rfl (hb hby at_148) rfl rfl ?_
        refine XS.lload X7.here hx rfl (hb hby at_149) rfl ?_
        refine XS.lload X7.here hx rfl (hb hby at_151) rfl ?_
        refine XS.lload X7.here hx rfl (hb hby at_153) rfl ?_
        refine XS.iload X7.here hx rfl (hb hby at_155) rfl ?_
        refine XS.lload X7.here hx rfl (hb hby at_157) rfl ?_
        refine st8 _ ?_
        show Steps p.tables e below (T8.setTop (mkF m 162 #[vi f0, vl p1, ss, vl p2, ss, vl p3, ss, vl p4, ss, vl p5, ss, vl m139_0, ss, vl m139_1, ss, vl m139_2, ss, vl m139_3, ss, vi f19, vi 1, vl m139_4, ss, va o0, vl (own_part1 m139_0 m139_1 m139_4), ss] [(.long (own_part1 m139_2 m139_3 m139_4)), (.long (own_part1 m139_0 m139_1 m139_4))])) _
        refine st9 _ ?_
        refine XS.lstore X9.here hx rfl (hb hby at_165) rfl (l' := #[vi f0, vl p1, ss, vl p2, ss, vl p3, ss, vl p4, ss, vl p5, ss, vl m139_0, ss, vl m139_1, ss, vl m139_2, ss, vl m139_3, ss, vi f19, vi 1, vl m139_4, ss, va o0, vl (own_maxL (own_part1 m139_0 m139_1 m139_4) (own_part1 m139_2 m139_3 m139_4)), ss]) rfl ?_
        exact k)
      have hj11 : ¬ ((m139_1 + (1 : Int64)) < m139_2) := ow9 m139_0 m139_1 m139_2 m139_3 nf0 nf1 hc1 hc2 hc3 hc5 hc6
      obtain ⟨U, o, st, rest⟩ := jn7 (a0 := a0) hx hZ hby hml hown hrt hlk hw w_NONE o0 o1 o2 kk_o1 kk_o2 p0 p1 p2 p3 p4 p5 m139_0 m139_1 m139_2 m139_3 m139_4 f0 f19 (X9.more (by decide) (by decide)) e9 N9 O7 S P0_7 P1_7 P2_7 P3_7 P4_7 P5_7 P6_7 P7_7 ne_o0_o1 ne_o0_o2 ne_o1_o2 g_o0 g_o1 g_o2 nf0 nf1 nf2 hc6 hj11
      exact ⟨U, o, pre_10 _ st, rest⟩
  · by_cases hc5 : m139_1 < (m139_2 - (1 : Int64))
    · obtain ⟨cq6, kq6, q6a, q6b, q6c⟩ := isOf hZ e0 E_o0
      obtain ⟨_, _, ⟨T6, L6, k6, n6⟩, -, X6, ⟨Lc6, hQ6, l6, y6, z6⟩, st6⟩ := X0.virtualBack hx (y := My8) (z := My8) hown (mvT hZ (ww hw 41 rfl)) (mvT hZ (ww hw 42 rfl)) (notFace_of_selects (args := #[]) (mvT hZ (ww hw 44 rfl))) (mvT hZ (ww hw 44 rfl)) (mvT hZ (ww hw 43 rfl)) (by decide) (backOf (W := 0) (rm8_5 l Z a0 hw [] w_NONE o0 o1 o2 kk_o1 kk_o2 m139_2 m139_3 ((0 : Int64) + ((m139_1 - m139_0) + (1 : Int64))) m139_0 m139_1 h0 n0 O0 S E_o0 F_count_o0 F_firsts_o0 F_lasts_o0 F_maxRanges_o0 F_ranges_o0 V_o1 V_o2 ne_o0_o1 ne_o0_o2 ne_o1_o2 g_o0 g_o1 g_o2 hc1 hc2 hc3 hc5) hZ (ww hw 45 rfl) (ww hw 15 rfl) (by decide) (by decide)) q6a q6c (g := (mkF m 145 #[vi f0, vl p1, ss, vl p2, ss, vl p3, ss, vl p4, ss, vl p5, ss, vl m139_0, ss, vl m139_1, ss, vl m139_2, ss, vl m139_3, ss, vi f19, vi 1, vl m139_4, ss, va o0, vl (own_part1 m139_0 m139_1 m139_4), ss] [(.long m139_3), (.long m139_2), (.ref o0)])) rfl (by rw [hml]; rfl) (Steps.refl _) (argsL := [(.long m139_2), (.long m139_3)]) (rest := []) (lenOf pd_9 rfl) rfl (by show 2 * 0 + _ ≤ _; exact Nat.le_of_eq rfl) (hb hby at_145) (fun _ _ => ⟨rfl, e0, (by decide : 6 + 0 ≤ _), (by decide : 40 + 0 ≤ _)⟩)
      dsimp only [Pt.U, Pt.locs, Pt.cells, Pt.slots] at X6 l6 y6 z6 st6 hQ6
      subst l6 y6 z6
      obtain ⟨rfl, Nq6, Kc6, P0_6, P1_6, P2_6, P3_6, P4_6, P5_6, P6_6, P7_6⟩ := hQ6
      have N6 := Fr.app N0 Nq6
      have O6 := O0.keep Kc6 (allS g_o0 (allS g_o2 (allS g_o1 all0)))
      have K6 : Keep h0 T6.heap [o1, o2, o0] := K0.trans Kc6 (allS (Or.inl (List.mem_of_getElem? (i := 2) rfl)) (allS (Or.inl (List.mem_of_getElem? (i := 1) rfl)) (allS (Or.inl (List.mem_of_getElem? (i := 0) rfl)) all0)))
      obtain ⟨_, _, ⟨T7, L7, k7, n7⟩, -, X7, ⟨Lc7, hQ7, l7, y7, z7⟩, st7⟩ := Jvm.LawKit.callS X6 hx (y := My15) hown (mvT hZ (ww hw 75 rfl)) (mvT hZ (ww hw 76 rfl)) (mvT hZ (ww hw 2 rfl)) (mvT hZ (ww hw 77 rfl)) (by decide) (backOf (W := 2) (mg15_1 l Z a0 hw [] w_NONE m139_2 m139_3 m139_4 T6.heap n0 O6 S) hZ (ww hw 77 rfl) (ww hw 2 rfl) (by decide) (by decide)) (g := (mkF m 159 #[vi f0, vl p1, ss, vl p2, ss, vl p3, ss, vl p4, ss, vl p5, ss, vl m139_0, ss, vl m139_1, ss, vl m139_2, ss, vl m139_3, ss, vi f19, vi 1, vl m139_4, ss, va o0, vl (own_part1 m139_0 m139_1 m139_4), ss] [(.long m139_4), (.int 1), (.long m139_3), (.long m139_2), (.long (own_part1 m139_0 m139_1 m139_4))])) rfl (by rw [hml]; rfl) (argsL := [(.long m139_2), (.long m139_3), (.int 1), (.long m139_4)]) (rest := [(.long (own_part1 m139_0 m139_1 m139_4))]) (lenOf pd_10 rfl) rfl (by show 2 * 0 + _ ≤ _; exact Nat.le_of_eq rfl) (hb hby at_159) (fun _ _ => ⟨rfl, rfl, (by decide : 6 + 0 ≤ _), (by decide : 40 + 0 ≤ _)⟩)
      dsimp only [Pt.U, Pt.locs, Pt.cells, Pt.slots] at X7 l7 y7 z7 st7 hQ7
      subst l7 y7 z7
      obtain ⟨rfl, Nq7, e7⟩ := hQ7
      have N7 := Fr.app N6 Nq7
      obtain ⟨_, _, ⟨T8, L8, k8, n8⟩, -, X8, ⟨Lc8, hQ8, l8, y8, z8⟩, st8⟩ := Jvm.LawKit.callS X7 hx (y := My3) hown (mvT hZ (ww hw 10 rfl)) (mvT hZ (ww hw 11 rfl)) (mvT hZ (ww hw 8 rfl)) (mvT hZ (ww hw 12 rfl)) (by decide) (backOf (W := 0) (mg3_0 l Z a0 hw [] w_NONE (own_part1 m139_0 m139_1 m139_4) (own_part1 m139_2 m139_3 m139_4) T6.heap n0 O6 S) hZ (ww hw 12 rfl) (ww hw 8 rfl) (by decide) (by decide)) (g := (mkF m 162 #[vi f0, vl p1, ss, vl p2, ss, vl p3, ss, vl p4, ss, vl p5, ss, vl m139_0, ss, vl m139_1, ss, vl m139_2, ss, vl m139_3, ss, vi f19, vi 1, vl m139_4, ss, va o0, vl (own_part1 m139_0 m139_1 m139_4), ss] [(.long (own_part1 m139_2 m139_3 m139_4)), (.long (own_part1 m139_0 m139_1 m139_4))])) rfl (by rw [hml]; rfl) (argsL := [(.long (own_part1 m139_0 m139_1 m139_4)), (.long (own_part1 m139_2 m139_3 m139_4))]) (rest := []) (lenOf pd_0 rfl) rfl (by show 2 * 0 + _ ≤ _; exact Nat.le_of_eq rfl) (hb hby at_162) (fun _ _ => ⟨rfl, e7, (by decide : 6 + 0 ≤ _), (by decide : 40 + 0 ≤ _)⟩)
      dsimp only [Pt.U, Pt.locs, Pt.cells, Pt.slots] at X8 l8 y8 z8 st8 hQ8
      subst l8 y8 z8
      obtain ⟨rfl, Nq8, e8⟩ := hQ8
      have N8 := Fr.app N7 Nq8
      have pre_9 : ∀ t, Steps p.tables e below (T8.setTop (mkF m 167 #[vi f0, vl p1, ss, vl p2, ss, vl p3, ss, vl p4, ss, vl p5, ss, vl m139_0, ss, vl m139_1, ss, vl m139_2, ss, vl m139_3, ss, vi f19, vi 1, vl m139_4, ss, va o0, vl (own_maxL (own_part1 m139_0 m139_1 m139_4) (own_part1 m139_2 m139_3 m139_4)), ss] [])) t → Steps p.tables e below (T0.setTop (mkF m 139 #[vi f0, vl p1, ss, vl p2, ss, vl p3, ss, vl p4, ss, vl p5, ss, vl m139_0, ss, vl m139_1, ss, vl m139_2, ss, vl m139_3, ss, vi f19, vi 1, vl m139_4, ss, va o0, vl (own_part1 m139_0 m139_1 m139_4), ss] [])) t := fun t k => pre_4 t (by
        show Steps p.tables e below (T0.setTop (mkF m 145 #[vi f0, vl p1, ss, vl p2, ss, vl p3, ss, vl p4, ss, vl p5, ss, vl m139_0, ss, vl m139_1, ss, vl m139_2, ss, vl m139_3, ss, vi f19, vi 1, vl m139_4, ss, va o0, vl (own_part1 m139_0 m139_1 m139_4), ss] [(.long m139_3), (.long m139_2), (.ref o0)])) _
        refine st6.trans ?_
        refine XS.pop X6.here hx rfl (hb hby at_148) rfl rfl ?_
        refine XS.lload X6.here hx rfl (hb hby at_149) rfl ?_
        refine XS.lload X6.here hx rfl (hb hby at_151) rfl ?_
        refine XS.lload X6.here hx rfl (hb hby at_153) rfl ?_
        refine XS.iload X6.here hx rfl (hb hby at_155) rfl ?_
        refine XS.lload X6.here hx rfl (hb hby at_157) rfl ?_
        refine st7 _ ?_
        show Steps p.tables e below (T7.setTop (mkF m 162 #[vi f0, vl p1, ss, vl p2, ss, vl p3, ss, vl p4, ss, vl p5, ss, vl m139_0, ss, vl m139_1, ss, vl m139_2, ss, vl m139_3, ss, vi f19, vi 1, vl m139_4, ss, va o0, vl (own_part1 m139_0 m139_1 m139_4), ss] [(.long (own_part1 m139_2 m139_3 m139_4)), (.long (own_part1 m139_0 m139_1 m139_4))])) _
        refine st8 _ ?_
        refine XS.lstore X8.here hx rfl (hb hby at_165) rfl (l' := #[vi f0, vl p1, ss, vl p2, ss, vl p3, ss, vl p4, ss, vl p5, ss, vl m139_0, ss, vl m139_1, ss, vl m139_2, ss, vl m139_3, ss, vi f19, vi 1, vl m139_4, ss, va o0, vl (own_maxL (own_part1 m139_0 m139_1 m139_4) (own_part1 m139_2 m139_3 m139_4)), ss]) rfl ?_
        exact k)
      have hj10 : m139_1 < m139_2 := ow11 m139_0 m139_1 m139_2 m139_3 nf0 nf1 hc1 hc2 hc3 hc5
      obtain ⟨U, o, st, rest⟩ := jn8 (a0 := a0) hx hZ hby hml hown hrt hlk hw w_NONE o0 o1 o2 kk_o1 kk_o2 p0 p1 p2 p3 p4 p5 m139_0 m139_1 m139_2 m139_3 m139_4 f0 f19 (X8.more (by decide) (by decide)) e8 N8 O6 S P0_6 P1_6 P2_6 P3_6 P4_6 P5_6 P6_6 P7_6 ne_o0_o1 ne_o0_o2 ne_o1_o2 g_o0 g_o1 g_o2 nf0 nf1 nf2 hj10
      exact ⟨U, o, pre_9 _ st, rest⟩
    · by_cases hc6 : (m139_3 + (1 : Int64)) < m139_0
      · obtain ⟨cq7, kq7, q7a, q7b, q7c⟩ := isOf hZ e0 E_o0
        obtain ⟨_, _, ⟨T7, L7, k7, n7⟩, -, X7, ⟨Lc7, hQ7, l7, y7, z7⟩, st7⟩ := X0.virtualBack hx (y := My8) (z := My8) hown (mvT hZ (ww hw 41 rfl)) (mvT hZ (ww hw 42 rfl)) (notFace_of_selects (args := #[]) (mvT hZ (ww hw 44 rfl))) (mvT hZ (ww hw 44 rfl)) (mvT hZ (ww hw 43 rfl)) (by decide) (backOf (W := 0) (rm8_6 l Z a0 hw [] w_NONE o0 o1 o2 kk_o1 kk_o2 m139_2 m139_3 ((0 : Int64) + ((m139_1 - m139_0) + (1 : Int64))) m139_0 m139_1 h0 n0 O0 S E_o0 F_count_o0 F_firsts_o0 F_lasts_o0 F_maxRanges_o0 F_ranges_o0 V_o1 V_o2 ne_o0_o1 ne_o0_o2 ne_o1_o2 g_o0 g_o1 g_o2 hc1 hc2 hc3 hc5 hc6) hZ (ww hw 45 rfl) (ww hw 15 rfl) (by decide) (by decide)) q7a q7c (g := (mkF m 145 #[vi f0, vl p1, ss, vl p2, ss, vl p3, ss, vl p4, ss, vl p5, ss, vl m139_0, ss, vl m139_1, ss, vl m139_2, ss, vl m139_3, ss, vi f19, vi 1, vl m139_4, ss, va o0, vl (own_part1 m139_0 m139_1 m139_4), ss] [(.long m139_3), (.long m139_2), (.ref o0)])) rfl (by rw [hml]; rfl) (Steps.refl _) (argsL := [(.long m139_2), (.long m139_3)]) (rest := []) (lenOf pd_9 rfl) rfl (by show 2 * 0 + _ ≤ _; exact Nat.le_of_eq rfl) (hb hby at_145) (fun _ _ => ⟨rfl, e0, (by decide : 6 + 0 ≤ _), (by decide : 40 + 0 ≤ _)⟩)
        dsimp only [Pt.U, Pt.locs, Pt.cells, Pt.slots] at X7 l7 y7 z7 st7 hQ7
        subst l7 y7 z7
        obtain ⟨rfl, Nq7, Kc7, P0_7, P1_7, P2_7, P3_7, P4_7, P5_7, P6_7, P7_7⟩ := hQ7
        have N7 := Fr.app N0 Nq7
        have O7 := O0.keep Kc7 (allS g_o0 (allS g_o2 (allS g_o1 all0)))
        have K7 : Keep h0 T7.heap [o1, o2, o0] := K0.trans Kc7 (allS (Or.inl (List.mem_of_getElem? (i := 2) rfl)) (allS (Or.inl (List.mem_of_getElem? (i := 1) rfl)) (allS (Or.inl (List.mem_of_getElem? (i := 0) rfl)) all0)))
        obtain ⟨_, _, ⟨T8, L8, k8, n8⟩, -, X8, ⟨Lc8, hQ8, l8, y8, z8⟩, st8⟩ := Jvm.LawKit.callS X7 hx (y := My15) hown (mvT hZ (ww hw 75 rfl)) (mvT hZ (ww hw 76 rfl)) (mvT hZ (ww hw 2 rfl)) (mvT hZ (ww hw 77 rfl)) (by decide) (backOf (W := 2) (mg15_1 l Z a0 hw [] w_NONE m139_2 m139_3 m139_4 T7.heap n0 O7 S) hZ (ww hw 77 rfl) (ww hw 2 rfl) (by decide) (by decide)) (g := (mkF m 159 #[vi f0, vl p1, ss, vl p2, ss, vl p3, ss, vl p4, ss, vl p5, ss, vl m139_0, ss, vl m139_1, ss, vl m139_2, ss, vl m139_3, ss, vi f19, vi 1, vl m139_4, ss, va o0, vl (own_part1 m139_0 m139_1 m139_4), ss] [(.long m139_4), (.int 1), (.long m139_3), (.long m139_2), (.long (own_part1 m139_0 m139_1 m139_4))])) rfl (by rw [hml]; rfl) (argsL := [(.long m139_2), (.long m139_3), (.int 1), (.long m139_4)]) (rest := [(.long (own_part1 m139_0 m139_1 m139_4))]) (lenOf pd_10 rfl) rfl (by show 2 * 0 + _ ≤ _; exact Nat.le_of_eq rfl) (hb hby at_159) (fun _ _ => ⟨rfl, rfl, (by decide : 6 + 0 ≤ _), (by decide : 40 + 0 ≤ _)⟩)
        dsimp only [Pt.U, Pt.locs, Pt.cells, Pt.slots] at X8 l8 y8 z8 st8 hQ8
        subst l8 y8 z8
        obtain ⟨rfl, Nq8, e8⟩ := hQ8
        have N8 := Fr.app N7 Nq8
        obtain ⟨_, _, ⟨T9, L9, k9, n9⟩, -, X9, ⟨Lc9, hQ9, l9, y9, z9⟩, st9⟩ := Jvm.LawKit.callS X8 hx (y := My3) hown (mvT hZ (ww hw 10 rfl)) (mvT hZ (ww hw 11 rfl)) (mvT hZ (ww hw 8 rfl)) (mvT hZ (ww hw 12 rfl)) (by decide) (backOf (W := 0) (mg3_0 l Z a0 hw [] w_NONE (own_part1 m139_0 m139_1 m139_4) (own_part1 m139_2 m139_3 m139_4) T7.heap n0 O7 S) hZ (ww hw 12 rfl) (ww hw 8 rfl) (by decide) (by decide)) (g := (mkF m 162 #[vi f0, vl p1, ss, vl p2, ss, vl p3, ss, vl p4, ss, vl p5, ss, vl m139_0, ss, vl m139_1, ss, vl m139_2, ss, vl m139_3, ss, vi f19, vi 1, vl m139_4, ss, va o0, vl (own_part1 m139_0 m139_1 m139_4), ss] [(.long (own_part1 m139_2 m139_3 m139_4)), (.long (own_part1 m139_0 m139_1 m139_4))])) rfl (by rw [hml]; rfl) (argsL := [(.long (own_part1 m139_0 m139_1 m139_4)), (.long (own_part1 m139_2 m139_3 m139_4))]) (rest := []) (lenOf pd_0 rfl) rfl (by show 2 * 0 + _ ≤ _; exact Nat.le_of_eq rfl) (hb hby at_162) (fun _ _ => ⟨rfl, e8, (by decide : 6 + 0 ≤ _), (by decide : 40 + 0 ≤ _)⟩)
        dsimp only [Pt.U, Pt.locs, Pt.cells, Pt.slots] at X9 l9 y9 z9 st9 hQ9
        subst l9 y9 z9
        obtain ⟨rfl, Nq9, e9⟩ := hQ9
        have N9 := Fr.app N8 Nq9
        have pre_10 : ∀ t, Steps p.tables e below (T9.setTop (mkF m 167 #[vi f0, vl p1, ss, vl p2, ss, vl p3, ss, vl p4, ss, vl p5, ss, vl m139_0, ss, vl m139_1, ss, vl m139_2, ss, vl m139_3, ss, vi f19, vi 1, vl m139_4, ss, va o0, vl (own_maxL (own_part1 m139_0 m139_1 m139_4) (own_part1 m139_2 m139_3 m139_4)), ss] [])) t → Steps p.tables e below (T0.setTop (mkF m 139 #[vi f0, vl p1, ss, vl p2, ss, vl p3, ss, vl p4, ss, vl p5, ss, vl m139_0, ss, vl m139_1, ss, vl m139_2, ss, vl m139_3, ss, vi f19, vi 1, vl m139_4, ss, va o0, vl (own_part1 m139_0 m139_1 m139_4), ss] [])) t := fun t k => pre_4 t (by
          show Steps p.tables e below (T0.setTop (mkF m 145 #[vi f0, vl p1, ss, vl p2, ss, vl p3, ss, vl p4, ss, vl p5, ss, vl m139_0, ss, vl m139_1, ss, vl m139_2, ss, vl m139_3, ss, vi f19, vi 1, vl m139_4, ss, va o0, vl (own_part1 m139_0 m139_1 m139_4), ss] [(.long m139_3), (.long m139_2), (.ref o0)])) _
          refine st7.trans ?_
          refine XS.pop X7.here hx rfl (hb hby at_148) rfl rfl ?_
          refine XS.lload X7.here hx rfl (hb hby at_149) rfl ?_
          refine XS.lload X7.here hx rfl (hb hby at_151) rfl ?_
          refine XS.lload X7.here hx rfl (hb hby at_153) rfl ?_
          refine XS.iload X7.here hx rfl (hb hby at_155) rfl ?_
          refine XS.lload X7.here hx rfl (hb hby at_157) rfl ?_
          refine st8 _ ?_
          show Steps p.tables e below (T8.setTop (mkF m 162 #[vi f0, vl p1, ss, vl p2, ss, vl p3, ss, vl p4, ss, vl p5, ss, vl m139_0, ss, vl m139_1, ss, vl m139_2, ss, vl m139_3, ss, vi f19, vi 1, vl m139_4, ss, va o0, vl (own_part1 m139_0 m139_1 m139_4), ss] [(.long (own_part1 m139_2 m139_3 m139_4)), (.long (own_part1 m139_0 m139_1 m139_4))])) _
          refine st9 _ ?_
          refine XS.lstore X9.here hx rfl (hb hby at_165) rfl (l' := #[vi f0, vl p1, ss, vl p2, ss, vl p3, ss, vl p4, ss, vl p5, ss, vl m139_0, ss, vl m139_1, ss, vl m139_2, ss, vl m139_3, ss, vi f19, vi 1, vl m139_4, ss, va o0, vl (own_maxL (own_part1 m139_0 m139_1 m139_4) (own_part1 m139_2 m139_3 m139_4)), ss]) rfl ?_
          exact k)
        have hj11 : m139_3 < m139_0 := ow12 m139_0 m139_1 m139_2 m139_3 nf0 nf1 hc1 hc2 hc3 hc5 hc6
        obtain ⟨U, o, st, rest⟩ := jn6 (a0 := a0) hx hZ hby hml hown hrt hlk hw w_NONE o0 o1 o2 kk_o1 kk_o2 p0 p1 p2 p3 p4 p5 m139_0 m139_1 m139_2 m139_3 m139_4 f0 f19 (X9.more (by decide) (by decide)) e9 N9 O7 S P0_7 P1_7 P2_7 P3_7 P4_7 P5_7 P6_7 P7_7 ne_o0_o1 ne_o0_o2 ne_o1_o2 g_o0 g_o1 g_o2 nf0 nf1 nf2 hj11
        exact ⟨U, o, pre_10 _ st, rest⟩
      · obtain ⟨cq7, kq7, q7a, q7b, q7c⟩ := isOf hZ e0 E_o0
        obtain ⟨_, _, ⟨T7, L7, k7, n7⟩, -, X7, ⟨Lc7, hQ7, l7, y7, z7⟩, st7⟩ := X0.virtualBack hx (y := My8) (z := My8) hown (mvT hZ (ww hw 41 rfl)) (mvT hZ (ww hw 42 rfl)) (notFace_of_selects (args := #[]) (mvT hZ (ww hw 44 rfl))) (mvT hZ (ww hw 44 rfl)) (mvT hZ (ww hw 43 rfl)) (by decide) (backOf (W := 0) (rm8_2 l Z a0 hw [] w_NONE o0 o1 o2 kk_o1 kk_o2 m139_2 m139_3 ((0 : Int64) + ((m139_1 - m139_0) + (1 : Int64))) m139_0 m139_1 h0 n0 O0 S E_o0 F_count_o0 F_firsts_o0 F_lasts_o0 F_maxRanges_o0 F_ranges_o0 V_o1 V_o2 ne_o0_o1 ne_o0_o2 ne_o1_o2 g_o0 g_o1 g_o2 hc1 hc2 hc3 hc5 hc6) hZ (ww hw 45 rfl) (ww hw 15 rfl) (by decide) (by decide)) q7a q7c (g := (mkF m 145 #[vi f0, vl p1, ss, vl p2, ss, vl p3, ss, vl p4, ss, vl p5, ss, vl m139_0, ss, vl m139_1, ss, vl m139_2, ss, vl m139_3, ss, vi f19, vi 1, vl m139_4, ss, va o0, vl (own_part1 m139_0 m139_1 m139_4), ss] [(.long m139_3), (.long m139_2), (.ref o0)])) rfl (by rw [hml]; rfl) (Steps.refl _) (argsL := [(.long m139_2), (.long m139_3)]) (rest := []) (lenOf pd_9 rfl) rfl (by show 2 * 0 + _ ≤ _; exact Nat.le_of_eq rfl) (hb hby at_145) (fun _ _ => ⟨rfl, e0, (by decide : 6 + 0 ≤ _), (by decide : 40 + 0 ≤ _)⟩)
        dsimp only [Pt.U, Pt.locs, Pt.cells, Pt.slots] at X7 l7 y7 z7 st7 hQ7
        subst l7 y7 z7
        obtain ⟨rfl, Nq7, Kc7, P0_7, P1_7, P2_7, P3_7, P4_7, P5_7, P6_7, P7_7⟩ := hQ7
        have N7 := Fr.app N0 Nq7
        have O7 := O0.keep Kc7 (allS g_o1 (allS g_o2 (allS g_o0 all0)))
        have K7 : Keep h0 T7.heap [o1, o2, o0] := K0.trans Kc7 (allS (Or.inl (List.mem_of_getElem? (i := 0) rfl)) (allS (Or.inl (List.mem_of_getElem? (i := 1) rfl)) (allS (Or.inl (List.mem_of_getElem? (i := 2) rfl)) all0)))
        obtain ⟨_, _, ⟨T8, L8, k8, n8⟩, -, X8, ⟨Lc8, hQ8, l8, y8, z8⟩, st8⟩ := Jvm.LawKit.callS X7 hx (y := My15) hown (mvT hZ (ww hw 75 rfl)) (mvT hZ (ww hw 76 rfl)) (mvT hZ (ww hw 2 rfl)) (mvT hZ (ww hw 77 rfl)) (by decide) (backOf (W := 2) (mg15_1 l Z a0 hw [] w_NONE m139_2 m139_3 m139_4 T7.heap n0 O7 S) hZ (ww hw 77 rfl) (ww hw 2 rfl) (by decide) (by decide)) (g := (mkF m 159 #[vi f0, vl p1, ss, vl p2, ss, vl p3, ss, vl p4, ss, vl p5, ss, vl m139_0, ss, vl m139_1, ss, vl m139_2, ss, vl m139_3, ss, vi f19, vi 1, vl m139_4, ss, va o0, vl (own_part1 m139_0 m139_1 m139_4), ss] [(.long m139_4), (.int 1), (.long m139_3), (.long m139_2), (.long (own_part1 m139_0 m139_1 m139_4))])) rfl (by rw [hml]; rfl) (argsL := [(.long m139_2), (.long m139_3), (.int 1), (.long m139_4)]) (rest := [(.long (own_part1 m139_0 m139_1 m139_4))]) (lenOf pd_10 rfl) rfl (by show 2 * 0 + _ ≤ _; exact Nat.le_of_eq rfl) (hb hby at_159) (fun _ _ => ⟨rfl, rfl, (by decide : 6 + 0 ≤ _), (by decide : 40 + 0 ≤ _)⟩)
        dsimp only [Pt.U, Pt.locs, Pt.cells, Pt.slots] at X8 l8 y8 z8 st8 hQ8
        subst l8 y8 z8
        obtain ⟨rfl, Nq8, e8⟩ := hQ8
        have N8 := Fr.app N7 Nq8
        obtain ⟨_, _, ⟨T9, L9, k9, n9⟩, -, X9, ⟨Lc9, hQ9, l9, y9, z9⟩, st9⟩ := Jvm.LawKit.callS X8 hx (y := My3) hown (mvT hZ (ww hw 10 rfl)) (mvT hZ (ww hw 11 rfl)) (mvT hZ (ww hw 8 rfl)) (mvT hZ (ww hw 12 rfl)) (by decide) (backOf (W := 0) (mg3_0 l Z a0 hw [] w_NONE (own_part1 m139_0 m139_1 m139_4) (own_part1 m139_2 m139_3 m139_4) T7.heap n0 O7 S) hZ (ww hw 12 rfl) (ww hw 8 rfl) (by decide) (by decide)) (g := (mkF m 162 #[vi f0, vl p1, ss, vl p2, ss, vl p3, ss, vl p4, ss, vl p5, ss, vl m139_0, ss, vl m139_1, ss, vl m139_2, ss, vl m139_3, ss, vi f19, vi 1, vl m139_4, ss, va o0, vl (own_part1 m139_0 m139_1 m139_4), ss] [(.long (own_part1 m139_2 m139_3 m139_4)), (.long (own_part1 m139_0 m139_1 m139_4))])) rfl (by rw [hml]; rfl) (argsL := [(.long (own_part1 m139_0 m139_1 m139_4)), (.long (own_part1 m139_2 m139_3 m139_4))]) (rest := []) (lenOf pd_0 rfl) rfl (by show 2 * 0 + _ ≤ _; exact Nat.le_of_eq rfl) (hb hby at_162) (fun _ _ => ⟨rfl, e8, (by decide : 6 + 0 ≤ _), (by decide : 40 + 0 ≤ _)⟩)
        dsimp only [Pt.U, Pt.locs, Pt.cells, Pt.slots] at X9 l9 y9 z9 st9 hQ9
        subst l9 y9 z9
        obtain ⟨rfl, Nq9, e9⟩ := hQ9
        have N9 := Fr.app N8 Nq9
        have pre_10 : ∀ t, Steps p.tables e below (T9.setTop (mkF m 167 #[vi f0, vl p1, ss, vl p2, ss, vl p3, ss, vl p4, ss, vl p5, ss, vl m139_0, ss, vl m139_1, ss, vl m139_2, ss, vl m139_3, ss, vi f19, vi 1, vl m139_4, ss, va o0, vl (own_maxL (own_part1 m139_0 m139_1 m139_4) (own_part1 m139_2 m139_3 m139_4)), ss] [])) t → Steps p.tables e below (T0.setTop (mkF m 139 #[vi f0, vl p1, ss, vl p2, ss, vl p3, ss, vl p4, ss, vl p5, ss, vl m139_0, ss, vl m139_1, ss, vl m139_2, ss, vl m139_3, ss, vi f19, vi 1, vl m139_4, ss, va o0, vl (own_part1 m139_0 m139_1 m139_4), ss] [])) t := fun t k => pre_4 t (by
          show Steps p.tables e below (T0.setTop (mkF m 145 #[vi f0, vl p1, ss, vl p2, ss, vl p3, ss, vl p4, ss, vl p5, ss, vl m139_0, ss, vl m139_1, ss, vl m139_2, ss, vl m139_3, ss, vi f19, vi 1, vl m139_4, ss, va o0, vl (own_part1 m139_0 m139_1 m139_4), ss] [(.long m139_3), (.long m139_2), (.ref o0)])) _
          refine st7.trans ?_
          refine XS.pop X7.here hx rfl (hb hby at_148) rfl rfl ?_
          refine XS.lload X7.here hx rfl (hb hby at_149) rfl ?_
          refine XS.lload X7.here hx rfl (hb hby at_151) rfl ?_
          refine XS.lload X7.here hx rfl (hb hby at_153) rfl ?_
          refine XS.iload X7.here hx rfl (hb hby at_155) rfl ?_
          refine XS.lload X7.here hx rfl (hb hby at_157) rfl ?_
          refine st8 _ ?_
          show Steps p.tables e below (T8.setTop (mkF m 162 #[vi f0, vl p1, ss, vl p2, ss, vl p3, ss, vl p4, ss, vl p5, ss, vl m139_0, ss, vl m139_1, ss, vl m139_2, ss, vl m139_3, ss, vi f19, vi 1, vl m139_4, ss, va o0, vl (own_part1 m139_0 m139_1 m139_4), ss] [(.long (own_part1 m139_2 m139_3 m139_4)), (.long (own_part1 m139_0 m139_1 m139_4))])) _
          refine st9 _ ?_
          refine XS.lstore X9.here hx rfl (hb hby at_165) rfl (l' := #[vi f0, vl p1, ss, vl p2, ss, vl p3, ss, vl p4, ss, vl p5, ss, vl m139_0, ss, vl m139_1, ss, vl m139_2, ss, vl m139_3, ss, vi f19, vi 1, vl m139_4, ss, va o0, vl (own_maxL (own_part1 m139_0 m139_1 m139_4) (own_part1 m139_2 m139_3 m139_4)), ss]) rfl ?_
          exact k)
        have hj11 : ¬ ((m139_1 + (1 : Int64)) < m139_2) := ow13 m139_0 m139_1 m139_2 m139_3 nf0 nf1 hc1 hc2 hc3 hc5 hc6
        obtain ⟨U, o, st, rest⟩ := jn7 (a0 := a0) hx hZ hby hml hown hrt hlk hw w_NONE o0 o1 o2 kk_o1 kk_o2 p0 p1 p2 p3 p4 p5 m139_0 m139_1 m139_2 m139_3 m139_4 f0 f19 (X9.more (by decide) (by decide)) e9 N9 O7 S P0_7 P1_7 P2_7 P3_7 P4_7 P5_7 P6_7 P7_7 ne_o0_o1 ne_o0_o2 ne_o1_o2 g_o0 g_o1 g_o2 nf0 nf1 nf2 hc6 hj11
        exact ⟨U, o, pre_10 _ st, rest⟩
def Q7_5 (Z : State) (w_NONE : Addr) (o0 : Addr) (h0 : Heap) (n0 : Nat) (v : Option Value) (h : Heap) (L : List Loc) : Prop := v = (some (.long 0)) ∧ Fr n0 L ∧ h = h0
theorem rm7_5 (l : Launch) (Z : State) (a0 : Array Value) (hw : HW Z a0) (ws : List Jvm.Cond) (w_NONE : Addr) (o0 : Addr) (h0 : Heap) (n0 : Nat) (O0 : Old Z n0 h0) (S : SF Z w_NONE) (F_ranges_o0 : Fld Z h0 o0 sC0 "ranges" "I" (.int 0)) :
    Pay l Z My7 ws prog_55_method_17_code 1 (some .long) #[(.ref o0)] h0 ({ frames := 0, cells := 0, slots := 0, locals := 0 } : Room) (Q7_5 Z w_NONE o0 h0 n0) := by
  refine own_body (plainFor_of_name pn_1) (L0 := #[va o0]) (fun _ => by first | rfl | (simp [entryFrame, mkF, argsToLocals, Value.category]; done)) ?_
  intro p e s m below meth c s₁ hrt hlk hx hby hml hZ hown0 hnm X0 e0
  have hown : s.vm.findClass sC0 = some m.cls := hown0
  have N0 := Fr.nil n0
  have K0 : Keep h0 h0 [] := Keep.refl _ _
  obtain ⟨T1, X1, e1, st1⟩ := getF X0 hx hZ hown (host := "") (Or.inl (ww hw 39 rfl)) Via.refl e0 F_ranges_o0 (g := (mkF m 1 #[va o0] [(.ref o0)])) rfl rfl (hb hby d7_1)
  obtain ⟨fs, hr, hrun, hended, hW, hsame⟩ := X1.leave (v := (some (.long 0))) (fun h => by rw [hrt] at h; cases h)
  refine ⟨_, _, ?_, hrun, hended, _, _, rfl, ?_, ⟨_, rfl⟩, hW, hsame.mono (by decide) (by decide)⟩
  · show Steps p.tables e below (s₁.setTop (mkF m 0 #[va o0] [])) _
    refine XS.aloadN X0.here hx rfl (hb hby d7_0) rfl rfl ?_
    refine st1 _ ?_
    refine XS.ifNo X1.here hx rfl (hb hby d7_4) rfl ((if0 _ _).trans (teq (by decide : (0 : Int32) = (0 : Int32))).2) ?_
    refine XS.lconst X1.here hx rfl (hb hby d7_7) ?_
    refine XS.goto X1.here hx rfl (pc0 := 8) (pc' := 24) rfl (hb hby d7_8) (by decide) (by decide) ?_
    exact retOut X1 hx (t := .long) (i := .lreturn) hrt rfl (Or.inr (Or.inl ⟨rfl, rfl, _, rfl⟩)) (hb hby d7_24) hr
  · show Q7_5 Z w_NONE o0 h0 n0 (some (.long 0)) T1.heap _
    exact (⟨rfl, N0, e1⟩)
theorem ow50 (p0 : Int32) (v4 : Int32) (hv4 : v4 = (p0 &&& (3 : Int32))) (hc13 : ¬ (v4 = (3 : Int32))) (hc15 : ((p0 >>> ((2 : Int32) &&& 31)) &&& (1 : Int32)) = (0 : Int32)) (hc20 : v4 < (1 : Int32)) : v4 < (2 : Int32) := by
  rw [Int32.lt_iff_toInt_lt] at hc20
  rw [← Int32.toInt_inj] at hc13 hc15
  rw [Int32.lt_iff_toInt_lt]
  have u_v4 := congrArg Int32.toInt hv4
  have t1a := Int32.toInt_lt p0
  have t1b := Int32.le_toInt p0
  have t2 : ((3 : Int32) : Int32).toInt = 3 := by decide
  have t3 := Jvm.Kit.i32_mask p0 (3 : Int32) (k := 2) (by decide) (by decide)
  have t4a := Int32.toInt_lt v4
  have t4b := Int32.le_toInt v4
  have t5 : ((2 : Int32) : Int32).toInt = 2 := by decide
  have t6a := Int32.toInt_lt (p0 >>> ((2 : Int32) &&& 31))
  have t6b := Int32.le_toInt (p0 >>> ((2 : Int32) &&& 31))
  have t7 : ((1 : Int32) : Int32).toInt = 1 := by decide
  have t8 := Jvm.Kit.i32_mask (p0 >>> ((2 : Int32) &&& 31)) (1 : Int32) (k := 1) (by decide) (by decide)
  have t9 : ((0 : Int32) : Int32).toInt = 0 := by decide
  omega
theorem jn9 {p : Program} {l : Launch} {e : Env} {s : State} {m : MethodId} {below : List Frame} {meth : Method} {c : Code} {T0 : State} {locs : List Loc} {Z : State} {a0 : Array Value} {h0 : Heap} {n0 : Nat} (hx : p.tables.exec = Jvm.exec) (hZ : Z.Warmed39 s.vm) (hby : c.code = code) (hml : c.maxLocals = 26) (hown : s.vm.findClass sC1 = some m.cls) (hrt : meth.sig.returnType = ret) (hlk : meth.locks = false) (hw : HW Z a0) (w_NONE : Addr) (o0 : Addr) (p0 : Int32) (p1 : Int64) (p2 : Int64) (p3 : Int64) (p4 : Int64) (p5 : Int64) (m167_0 : Int64) (m167_1 : Int64) (m167_2 : Int64) (m167_3 : Int64) (m167_4 : Int64) (f0 : Int32) (f19 : Int32) (X0 : Stand p l e room_1 s m #[(.int p0), (.long p1), (.long p2), (.long p3), (.long p4), (.long p5)] below meth c T0 locs 10 60) (e0 : T0.heap = h0) (N0 : Fr n0 locs) (O0 : Old Z n0 h0) (S : SF Z w_NONE) (E_o0 : Exa Z h0 o0 sC0) (F_ranges_o0 : Fld Z h0 o0 sC0 "ranges" "I" (.int 0)) (nf0 : 0 ≤ m167_0.toInt ∧ m167_0.toInt ≤ m167_1.toInt ∧ m167_1.toInt ≤ 9223372036854775806) (nf1 : 0 ≤ m167_2.toInt ∧ m167_2.toInt ≤ m167_3.toInt ∧ m167_3.toInt ≤ 9223372036854775806) (nf2 : 0 ≤ m167_4.toInt ∧ m167_4.toInt ≤ 9223372036854775806) :
    ∃ s₂ o, Steps p.tables e below (T0.setTop (mkF m 167 #[vi f0, vl p1, ss, vl p2, ss, vl p3, ss, vl p4, ss, vl p5, ss, vl m167_0, ss, vl m167_1, ss, vl m167_2, ss, vl m167_3, ss, vi f19, vi 0, vl m167_4, ss, va o0, vl 0, ss] [])) s₂ ∧ s₂.status = .running ∧ Ended s₂ below o ∧ ∃ v L, o = .returned v ∧ Q0 n0 v s₂.heap L ∧ FrameEnd s o s₂ L room_1.cells room_1.slots := by
  have K0 : Keep h0 h0 [] := Keep.refl _ _
  obtain ⟨cq1, kq1, q1a, q1b, q1c⟩ := isOf hZ e0 E_o0
  obtain ⟨_, _, ⟨T1, L1, k1, n1⟩, -, X1, ⟨Lc1, hQ1, l1, y1, z1⟩, st1⟩ := X0.virtualBack hx (y := My7) (z := My7) hown (mvT hZ (ww hw 34 rfl)) (mvT hZ (ww hw 35 rfl)) (notFace_of_selects (args := #[]) (mvT hZ (ww hw 37 rfl))) (mvT hZ (ww hw 37 rfl)) (mvT hZ (ww hw 36 rfl)) (by decide) (backOf (W := 0) (rm7_5 l Z a0 hw [] w_NONE o0 h0 n0 O0 S F_ranges_o0) hZ (ww hw 38 rfl) (ww hw 15 rfl) (by decide) (by decide)) q1a q1c (g := (mkF m 184 #[vi f0, vl p1, ss, vl p2, ss, vl p3, ss, vl p4, ss, vl p5, ss, vl m167_0, ss, vl m167_1, ss, vl m167_2, ss, vl m167_3, ss, vi f19, vi 0, vl m167_4, ss, va o0, vl 0, ss] [(.ref o0)])) rfl (by rw [hml]; rfl) (Steps.refl _) (argsL := []) (rest := []) (lenOf pd_12 rfl) rfl (by show 2 * 0 + _ ≤ _; exact Nat.le_of_eq rfl) (hb hby at_184) (fun _ _ => ⟨rfl, e0, (by decide : 10 + 0 ≤ _), (by decide : 60 + 0 ≤ _)⟩)
  dsimp only [Pt.U, Pt.locs, Pt.cells, Pt.slots] at X1 l1 y1 z1 st1 hQ1
  subst l1 y1 z1
  obtain ⟨rfl, Nq1, e1⟩ := hQ1
  have N1 := Fr.app N0 Nq1
  obtain ⟨fs, hr, hrun, hended, hW, hsame⟩ := X1.leave (v := (some (.int 1))) (fun h => by rw [hrt] at h; cases h)
  refine ⟨_, _, ?_, hrun, hended, _, _, rfl, ?_, ⟨_, rfl⟩, hW, hsame.mono (by decide) (by decide)⟩
  · show Steps p.tables e below (T0.setTop (mkF m 167 #[vi f0, vl p1, ss, vl p2, ss, vl p3, ss, vl p4, ss, vl p5, ss, vl m167_0, ss, vl m167_1, ss, vl m167_2, ss, vl m167_3, ss, vi f19, vi 0, vl m167_4, ss, va o0, vl 0, ss] [])) _
    refine XS.iload X0.here hx rfl (hb hby at_167) rfl ?_
    refine XS.ifYes X0.here hx rfl (pc0 := 169) (pc' := 182) rfl (hb hby at_169) rfl ((if0 _ _).trans (teq (by decide : (0 : Int32) = (0 : Int32))).1) (by decide) (by decide) ?_
    refine XS.aload X0.here hx rfl (hb hby at_182) rfl rfl ?_
    refine st1.trans ?_
    refine XS.lload X1.here hx rfl (hb hby at_187) rfl ?_
    refine XS.lcmp X1.here hx rfl (hb hby at_189) rfl ?_
    refine XS.ifNo X1.here hx rfl (hb hby at_190) rfl (own_lc_eqT (by decide : (0 : Int64) = (0 : Int64))).2 ?_
    refine XS.iconst X1.here hx rfl (hb hby at_193) ?_
    show Steps p.tables e below (T1.setTop (mkF m 194 #[vi f0, vl p1, ss, vl p2, ss, vl p3, ss, vl p4, ss, vl p5, ss, vl m167_0, ss, vl m167_1, ss, vl m167_2, ss, vl m167_3, ss, vi f19, vi 0, vl m167_4, ss, va o0, vl 0, ss] [(.int 1)])) _
    refine XS.goto X1.here hx rfl (pc0 := 194) (pc' := 198) rfl (hb hby at_194) (by decide) (by decide) ?_
    exact retN X1 hx (t := .boolean) hrt (by simp) (hb hby at_198) hr
  · show Q0 n0 (some (.int 1)) T1.heap _
    exact (⟨rfl, N1⟩)
theorem ow51 (v0 : Int64) (v1 : Int64) (nf0 : 0 ≤ v0.toInt ∧ v0.toInt ≤ v1.toInt ∧ v1.toInt ≤ 9223372036854775806) (hc22 : ¬ (v0 < (0 : Int64))) : ¬ (v1 < v0) := by
  rw [Int64.lt_iff_toInt_lt] at hc22
  rw [Int64.lt_iff_toInt_lt]
  have t2 : ((0 : Int64) : Int64).toInt = 0 := by decide
  omega
theorem ow52 (m167_0 : Int64) (m167_1 : Int64) (m167_4 : Int64) (nf0 : 0 ≤ m167_0.toInt ∧ m167_0.toInt ≤ m167_1.toInt ∧ m167_1.toInt ≤ 9223372036854775806) (nf2 : 0 ≤ m167_4.toInt ∧ m167_4.toInt ≤ 9223372036854775806) : (m167_1 + (1 : Int64)) = (own_part0 m167_0 m167_1 m167_4) := by
  rw [← Int64.toInt_inj]
  have t2 : ((1 : Int64) : Int64).toInt = 1 := by decide
  have t3 := Jvm.Kit.i64_add (x := m167_1) (y := (1 : Int64)) (by omega) (by omega)
  have t6 := own_part0_toInt m167_0 m167_1 m167_4
  omega
theorem jn10 {p : Program} {l : Launch} {e : Env} {s : State} {m : MethodId} {below : List Frame} {meth : Method} {c : Code} {T0 : State} {locs : List Loc} {Z : State} {a0 : Array Value} {h0 : Heap} {n0 : Nat} (hx : p.tables.exec = Jvm.exec) (hZ : Z.Warmed39 s.vm) (hby : c.code = code) (hml : c.maxLocals = 26) (hown : s.vm.findClass sC1 = some m.cls) (hrt : meth.sig.returnType = ret) (hlk : meth.locks = false) (hw : HW Z a0) (w_NONE : Addr) (o0 : Addr) (o1 : Addr) (o2 : Addr) (kk_o1 : ClassId) (kk_o2 : ClassId) (p0 : Int32) (p1 : Int64) (p2 : Int64) (p3 : Int64) (p4 : Int64) (p5 : Int64) (m167_0 : Int64) (m167_1 : Int64) (m167_2 : Int64) (m167_3 : Int64) (m167_4 : Int64) (f0 : Int32) (f19 : Int32) (X0 : Stand p l e room_1 s m #[(.int p0), (.long p1), (.long p2), (.long p3), (.long p4), (.long p5)] below meth c T0 locs 10 60) (e0 : T0.heap = h0) (N0 : Fr n0 locs) (O0 : Old Z n0 h0) (S : SF Z w_NONE) (E_o0 : Exa Z h0 o0 sC0) (F_lasts_o0 : Fld Z h0 o0 sC0 "lasts" "[J" (.ref o2)) (F_ranges_o0 : Fld Z h0 o0 sC0 "ranges" "I" (.int 1)) (V_o2 : Arv Z h0 o2 kk_o2 .long (4 : Int32) [(.long m167_1), (.long 0), (.long 0), (.long 0)] (.long 0)) (nf0 : 0 ≤ m167_0.toInt ∧ m167_0.toInt ≤ m167_1.toInt ∧ m167_1.toInt ≤ 9223372036854775806) (nf1 : 0 ≤ m167_2.toInt ∧ m167_2.toInt ≤ m167_3.toInt ∧ m167_3.toInt ≤ 9223372036854775806) (nf2 : 0 ≤ m167_4.toInt ∧ m167_4.toInt ≤ 9223372036854775806) :
    ∃ s₂ o, Steps p.tables e below (T0.setTop (mkF m 167 #[vi f0, vl p1, ss, vl p2, ss, vl p3, ss, vl p4, ss, vl p5, ss, vl m167_0, ss, vl m167_1, ss, vl m167_2, ss, vl m167_3, ss, vi f19, vi 0, vl m167_4, ss, va o0, vl (own_part0 m167_0 m167_1 m167_4), ss] [])) s₂ ∧ s₂.status = .running ∧ Ended s₂ below o ∧ ∃ v L, o = .returned v ∧ Q0 n0 v s₂.heap L ∧ FrameEnd s o s₂ L room_1.cells room_1.slots := by
  have K0 : Keep h0 h0 [] := Keep.refl _ _
  obtain ⟨cq1, kq1, q1a, q1b, q1c⟩ := isOf hZ e0 E_o0
  obtain ⟨_, _, ⟨T1, L1, k1, n1⟩, -, X1, ⟨Lc1, hQ1, l1, y1, z1⟩, st1⟩ := X0.virtualBack hx (y := My7) (z := My7) hown (mvT hZ (ww hw 34 rfl)) (mvT hZ (ww hw 35 rfl)) (notFace_of_selects (args := #[]) (mvT hZ (ww hw 37 rfl))) (mvT hZ (ww hw 37 rfl)) (mvT hZ (ww hw 36 rfl)) (by decide) (backOf (W := 0) (rm7_1 l Z a0 hw [] w_NONE o0 o1 o2 kk_o1 kk_o2 ((0 : Int64) + ((m167_1 - m167_0) + (1 : Int64))) m167_0 m167_1 h0 n0 O0 S F_lasts_o0 F_ranges_o0 V_o2) hZ (ww hw 38 rfl) (ww hw 15 rfl) (by decide) (by decide)) q1a q1c (g := (mkF m 184 #[vi f0, vl p1, ss, vl p2, ss, vl p3, ss, vl p4, ss, vl p5, ss, vl m167_0, ss, vl m167_1, ss, vl m167_2, ss, vl m167_3, ss, vi f19, vi 0, vl m167_4, ss, va o0, vl (own_part0 m167_0 m167_1 m167_4), ss] [(.ref o0)])) rfl (by rw [hml]; rfl) (Steps.refl _) (argsL := []) (rest := []) (lenOf pd_12 rfl) rfl (by show 2 * 0 + _ ≤ _; exact Nat.le_of_eq rfl) (hb hby at_184) (fun _ _ => ⟨rfl, e0, (by decide : 10 + 0 ≤ _), (by decide : 60 + 0 ≤ _)⟩)
  dsimp only [Pt.U, Pt.locs, Pt.cells, Pt.slots] at X1 l1 y1 z1 st1 hQ1
  subst l1 y1 z1
  obtain ⟨rfl, Nq1, e1⟩ := hQ1
  have N1 := Fr.app N0 Nq1
  have hc2 : (m167_1 + (1 : Int64)) = (own_part0 m167_0 m167_1 m167_4) := ow52 m167_0 m167_1 m167_4 nf0 nf2
  obtain ⟨fs, hr, hrun, hended, hW, hsame⟩ := X1.leave (v := (some (.int 1))) (fun h => by rw [hrt] at h; cases h)
  refine ⟨_, _, ?_, hrun, hended, _, _, rfl, ?_, ⟨_, rfl⟩, hW, hsame.mono (by decide) (by decide)⟩
  · show Steps p.tables e below (T0.setTop (mkF m 167 #[vi f0, vl p1, ss, vl p2, ss, vl p3, ss, vl p4, ss, vl p5, ss, vl m167_0, ss, vl m167_1, ss, vl m167_2, ss, vl m167_3, ss, vi f19, vi 0, vl m167_4, ss, va o0, vl (own_part0 m167_0 m167_1 m167_4), ss] [])) _
    refine XS.iload X0.here hx rfl (hb hby at_167) rfl ?_
    refine XS.ifYes X0.here hx rfl (pc0 := 169) (pc' := 182) rfl (hb hby at_169) rfl ((if0 _ _).trans (teq (by decide : (0 : Int32) = (0 : Int32))).1) (by decide) (by decide) ?_
    refine XS.aload X0.here hx rfl (hb hby at_182) rfl rfl ?_
    refine st1.trans ?_
    refine XS.lload X1.here hx rfl (hb hby at_187) rfl ?_
    refine XS.lcmp X1.here hx rfl (hb hby at_189) rfl ?_
    refine XS.ifNo X1.here hx rfl (hb hby at_190) rfl (own_lc_eqT hc2).2 ?_
    refine XS.iconst X1.here hx rfl (hb hby at_193) ?_
    show Steps p.tables e below (T1.setTop (mkF m 194 #[vi f0, vl p1, ss, vl p2, ss, vl p3, ss, vl p4, ss, vl p5, ss, vl m167_0, ss, vl m167_1, ss, vl m167_2, ss, vl m167_3, ss, vi f19, vi 0, vl m167_4, ss, va o0, vl (own_part0 m167_0 m167_1 m167_4), ss] [(.int 1)])) _
    refine XS.goto X1.here hx rfl (pc0 := 194) (pc' := 198) rfl (hb hby at_194) (by decide) (by decide) ?_
    exact retN X1 hx (t := .boolean) hrt (by simp) (hb hby at_198) hr
  · show Q0 n0 (some (.int 1)) T1.heap _
    exact (⟨rfl, N1⟩)
def Q17_8 (Z : State) (w_NONE : Addr) (o0 : Addr) (q0 : Int64) (h0 : Heap) (n0 : Nat) (v : Option Value) (h : Heap) (L : List Loc) : Prop := v = none ∧ Fr n0 L ∧ h = h0
theorem rm17_8 (l : Launch) (Z : State) (a0 : Array Value) (hw : HW Z a0) (ws : List Jvm.Cond) (w_NONE : Addr) (o0 : Addr) (q0 : Int64) (h0 : Heap) (n0 : Nat) (O0 : Old Z n0 h0) (S : SF Z w_NONE) (E_o0 : Exa Z h0 o0 sC0) (F_ranges_o0 : Fld Z h0 o0 sC0 "ranges" "I" (.int 0)) (hc0 : ¬ (q0 < (0 : Int64))) (hc1 : ¬ ((9223372036854775806 : Int64) < q0)) :
    Pay l Z My17 ws prog_55_method_10_code 12 none #[(.ref o0), (.long q0), (.long 9223372036854775806)] h0 ({ frames := 1, cells := 0, slots := 0, locals := 17 } : Room) (Q17_8 Z w_NONE o0 q0 h0 n0) := by
  refine own_body (plainFor_of_name pn_1) (L0 := #[va o0, vl q0, ss, vl 9223372036854775806, ss, uu, uu, uu, uu, uu, uu, uu]) (fun _ => by first | rfl | (simp [entryFrame, mkF, argsToLocals, Value.category]; done)) ?_
  intro p e s m below meth c s₁ hrt hlk hx hby hml hZ hown0 hnm X0 e0
  have hown : s.vm.findClass sC0 = some m.cls := hown0
  have N0 := Fr.nil n0
  have K0 : Keep h0 h0 [] := Keep.refl _ _
  obtain ⟨_, _, ⟨T1, L1, k1, n1⟩, -, X1, ⟨Lc1, hQ1, l1, y1, z1⟩, st1⟩ := Jvm.LawKit.callS X0 hx (y := My9) hown (mvT hZ (ww hw 46 rfl)) (mvT hZ (ww hw 47 rfl)) (mvT hZ (ww hw 15 rfl)) (mvT hZ (ww hw 48 rfl)) (by decide) (backOf (W := 0) (rm9_1 l Z a0 hw [] w_NONE q0 h0 n0 O0 S hc0 hc1) hZ (ww hw 48 rfl) (ww hw 15 rfl) (by decide) (by decide)) (g := (mkF m 2 #[va o0, vl q0, ss, vl 9223372036854775806, ss, uu, uu, uu, uu, uu, uu, uu] [(.long 9223372036854775806), (.long q0)])) rfl (by rw [hml]; rfl) (argsL := [(.long q0), (.long 9223372036854775806)]) (rest := []) (lenOf pd_4 rfl) rfl (by show 2 * 0 + _ ≤ _; exact Nat.le_of_eq rfl) (hb hby d17_2) (fun _ _ => ⟨rfl, e0, (by decide : 0 + 0 ≤ _), (by decide : 0 + 0 ≤ _)⟩)
  dsimp only [Pt.U, Pt.locs, Pt.cells, Pt.slots] at X1 l1 y1 z1 st1 hQ1
  subst l1 y1 z1
  obtain ⟨rfl, Nq1, e1⟩ := hQ1
  have N1 := Fr.app N0 Nq1
  obtain ⟨cq2, qa2, qb2⟩ := E_o0.cell
  obtain ⟨_, _, ⟨T2, L2, k2, n2⟩, -, X2, ⟨Lc2, hQ2, l2, y2, z2⟩, st2⟩ := X1.privateBack hx (y := My10) hown (mvT hZ (ww hw 49 rfl)) (mvT hZ (ww hw 50 rfl)) (own_selp (by decide) (mvT hZ (ww hw 14 rfl)) (mvP hZ (ww hw 51 rfl)) (mvT hZ (ww hw 50 rfl))) (Cond.privateMethod_at (mvP hZ (ww hw 51 rfl) (args := #[]))) (mvT hZ (ww hw 52 rfl)) (by decide) (backOf (W := 0) (rm10_0 l Z a0 hw [] w_NONE o0 q0 h0 n0 O0 S F_ranges_o0) hZ (ww hw 52 rfl) (ww hw 15 rfl) (by decide) (by decide)) (g := (mkF m 7 #[va o0, vl q0, ss, vl 9223372036854775806, ss, uu, uu, uu, uu, uu, uu, uu] [(.long q0), (.ref o0)])) rfl (by rw [hml]; rfl) (Steps.refl _) (a := o0) (by rw [e1]; exact qa2) qb2 (argsL := [(.long q0)]) (rest := []) (lenOf pd_5 rfl) rfl (by show 2 * 0 + _ ≤ _; exact Nat.le_of_eq rfl) (hb hby d17_7) (fun _ _ => ⟨rfl, e1, (by decide : 0 + 0 ≤ _), (by decide : 0 + 0 ≤ _)⟩)
  dsimp only [Pt.U, Pt.locs, Pt.cells, Pt.slots] at X2 l2 y2 z2 st2 hQ2
  subst l2 y2 z2
  obtain ⟨rfl, Nq2, e2⟩ := hQ2
  have N2 := Fr.app N1 Nq2
  obtain ⟨T3, X3, e3, st3⟩ := getF X2 hx hZ hown (host := "") (Or.inl (ww hw 39 rfl)) Via.refl e2 F_ranges_o0 (g := (mkF m 15 #[va o0, vl q0, ss, vl 9223372036854775806, ss, vi 0, uu, uu, uu, uu, uu, uu] [(.ref o0), (.int 0)])) rfl rfl (hb hby d17_15)
  obtain ⟨fs, hr, hrun, hended, hW, hsame⟩ := X3.leave (v := none) (fun _ => rfl)
  refine ⟨_, _, ?_, hrun, hended, _, _, rfl, ?_, ⟨_, rfl⟩, hW, hsame.mono (by decide) (by decide)⟩
  · show Steps p.tables e below (s₁.setTop (mkF m 0 #[va o0, vl q0, ss, vl 9223372036854775806, ss, uu, uu, uu, uu, uu, uu, uu] [])) _
    refine XS.lloadN X0.here hx rfl (hb hby d17_0) rfl ?_
    refine XS.lloadN X0.here hx rfl (hb hby d17_1) rfl ?_
    refine st1 _ ?_
    refine XS.aloadN X1.here hx rfl (hb hby d17_5) rfl rfl ?_
    refine XS.lloadN X1.here hx rfl (hb hby d17_6) rfl ?_
    refine st2.trans ?_
    refine XS.istore X2.here hx rfl (hb hby d17_10) rfl (l' := #[va o0, vl q0, ss, vl 9223372036854775806, ss, vi 0, uu, uu, uu, uu, uu, uu]) rfl ?_
    refine XS.iload X2.here hx rfl (hb hby d17_12) rfl ?_
    show Steps p.tables e below (T2.setTop (mkF m 14 #[va o0, vl q0, ss, vl 9223372036854775806, ss, vi 0, uu, uu, uu, uu, uu, uu] [(.int 0)])) _
    refine XS.aloadN X2.here hx rfl (hb hby d17_14) rfl rfl ?_
    refine st3 _ ?_
    refine XS.icmpYes X3.here hx rfl (pc0 := 18) (pc' := 33) rfl (hb hby d17_18) rfl (teq (by decide : (0 : Int32) = (0 : Int32))).1 (by decide) (by decide) ?_
    exact X3.returnOut hx hrt (hb hby d17_33) hr
  · show Q17_8 Z w_NONE o0 q0 h0 n0 none T3.heap _
    exact (⟨rfl, N2, e3⟩)
theorem ow53 (p0 : Int32) (v4 : Int32) (hv4 : v4 = (p0 &&& (3 : Int32))) (hc13 : ¬ (v4 = (3 : Int32))) (hc15 : ¬ (((p0 >>> ((2 : Int32) &&& 31)) &&& (1 : Int32)) = (0 : Int32))) (hc20 : v4 < (1 : Int32)) : v4 < (2 : Int32) := by
  rw [Int32.lt_iff_toInt_lt] at hc20
  rw [← Int32.toInt_inj] at hc13 hc15
  rw [Int32.lt_iff_toInt_lt]
  have u_v4 := congrArg Int32.toInt hv4
  have t1a := Int32.toInt_lt p0
  have t1b := Int32.le_toInt p0
  have t2 : ((3 : Int32) : Int32).toInt = 3 := by decide
  have t3 := Jvm.Kit.i32_mask p0 (3 : Int32) (k := 2) (by decide) (by decide)
  have t4a := Int32.toInt_lt v4
  have t4b := Int32.le_toInt v4
  have t5 : ((2 : Int32) : Int32).toInt = 2 := by decide
  have t6a := Int32.toInt_lt (p0 >>> ((2 : Int32) &&& 31))
  have t6b := Int32.le_toInt (p0 >>> ((2 : Int32) &&& 31))
  have t7 : ((1 : Int32) : Int32).toInt = 1 := by decide
  have t8 := Jvm.Kit.i32_mask (p0 >>> ((2 : Int32) &&& 31)) (1 : Int32) (k := 1) (by decide) (by decide)
  have t9 : ((0 : Int32) : Int32).toInt = 0 := by decide
  omega
theorem jn11 {p : Program} {l : Launch} {e : Env} {s : State} {m : MethodId} {below : List Frame} {meth : Method} {c : Code} {T0 : State} {locs : List Loc} {Z : State} {a0 : Array Value} {h0 : Heap} {n0 : Nat} (hx : p.tables.exec = Jvm.exec) (hZ : Z.Warmed39 s.vm) (hby : c.code = code) (hml : c.maxLocals = 26) (hown : s.vm.findClass sC1 = some m.cls) (hrt : meth.sig.returnType = ret) (hlk : meth.locks = false) (hw : HW Z a0) (w_NONE : Addr) (o0 : Addr) (p0 : Int32) (p1 : Int64) (p2 : Int64) (p3 : Int64) (p4 : Int64) (p5 : Int64) (m167_0 : Int64) (m167_1 : Int64) (m167_2 : Int64) (m167_3 : Int64) (m167_4 : Int64) (f0 : Int32) (f19 : Int32) (X0 : Stand p l e room_1 s m #[(.int p0), (.long p1), (.long p2), (.long p3), (.long p4), (.long p5)] below meth c T0 locs 10 60) (e0 : T0.heap = h0) (N0 : Fr n0 locs) (O0 : Old Z n0 h0) (S : SF Z w_NONE) (E_o0 : Exa Z h0 o0 sC0) (F_ranges_o0 : Fld Z h0 o0 sC0 "ranges" "I" (.int 0)) (nf0 : 0 ≤ m167_0.toInt ∧ m167_0.toInt ≤ m167_1.toInt ∧ m167_1.toInt ≤ 9223372036854775806) (nf1 : 0 ≤ m167_2.toInt ∧ m167_2.toInt ≤ m167_3.toInt ∧ m167_3.toInt ≤ 9223372036854775806) (nf2 : 0 ≤ m167_4.toInt ∧ m167_4.toInt ≤ 9223372036854775806) :
    ∃ s₂ o, Steps p.tables e below (T0.setTop (mkF m 167 #[vi f0, vl p1, ss, vl p2, ss, vl p3, ss, vl p4, ss, vl p5, ss, vl m167_0, ss, vl m167_1, ss, vl m167_2, ss, vl m167_3, ss, vi f19, vi 1, vl m167_4, ss, va o0, vl 0, ss] [])) s₂ ∧ s₂.status = .running ∧ Ended s₂ below o ∧ ∃ v L, o = .returned v ∧ Q0 n0 v s₂.heap L ∧ FrameEnd s o s₂ L room_1.cells room_1.slots := by
  have K0 : Keep h0 h0 [] := Keep.refl _ _
  have hc1 : ¬ (m167_4 < (0 : Int64)) := ow14 m167_4 nf2
  have hc2 : ¬ ((9223372036854775806 : Int64) < m167_4) := ow15 m167_4 nf2 hc1
  obtain ⟨cq3, kq3, q3a, q3b, q3c⟩ := isOf hZ e0 E_o0
  obtain ⟨_, _, ⟨T3, L3, k3, n3⟩, -, X3, ⟨Lc3, hQ3, l3, y3, z3⟩, st3⟩ := X0.virtualBack hx (y := My17) (z := My17) hown (mvT hZ (ww hw 84 rfl)) (mvT hZ (ww hw 85 rfl)) (notFace_of_selects (args := #[]) (mvT hZ (ww hw 87 rfl))) (mvT hZ (ww hw 87 rfl)) (mvT hZ (ww hw 86 rfl)) (by decide) (backOf (W := 0) (rm17_8 l Z a0 hw [] w_NONE o0 m167_4 h0 n0 O0 S E_o0 F_ranges_o0 hc1 hc2) hZ (ww hw 88 rfl) (ww hw 15 rfl) (by decide) (by decide)) q3a q3c (g := (mkF m 179 #[vi f0, vl p1, ss, vl p2, ss, vl p3, ss, vl p4, ss, vl p5, ss, vl m167_0, ss, vl m167_1, ss, vl m167_2, ss, vl m167_3, ss, vi f19, vi 1, vl m167_4, ss, va o0, vl 0, ss] [(.long 9223372036854775806), (.long m167_4), (.ref o0)])) rfl (by rw [hml]; rfl) (Steps.refl _) (argsL := [(.long m167_4), (.long 9223372036854775806)]) (rest := []) (lenOf pd_4 rfl) rfl (by show 2 * 0 + _ ≤ _; exact Nat.le_of_eq rfl) (hb hby at_179) (fun _ _ => ⟨rfl, e0, (by decide : 10 + 0 ≤ _), (by decide : 60 + 0 ≤ _)⟩)
  dsimp only [Pt.U, Pt.locs, Pt.cells, Pt.slots] at X3 l3 y3 z3 st3 hQ3
  subst l3 y3 z3
  obtain ⟨rfl, Nq3, e3⟩ := hQ3
  have N3 := Fr.app N0 Nq3
  obtain ⟨cq4, kq4, q4a, q4b, q4c⟩ := isOf hZ e3 E_o0
  obtain ⟨_, _, ⟨T4, L4, k4, n4⟩, -, X4, ⟨Lc4, hQ4, l4, y4, z4⟩, st4⟩ := X3.virtualBack hx (y := My7) (z := My7) hown (mvT hZ (ww hw 34 rfl)) (mvT hZ (ww hw 35 rfl)) (notFace_of_selects (args := #[]) (mvT hZ (ww hw 37 rfl))) (mvT hZ (ww hw 37 rfl)) (mvT hZ (ww hw 36 rfl)) (by decide) (backOf (W := 0) (rm7_5 l Z a0 hw [] w_NONE o0 h0 n0 O0 S F_ranges_o0) hZ (ww hw 38 rfl) (ww hw 15 rfl) (by decide) (by decide)) q4a q4c (g := (mkF m 184 #[vi f0, vl p1, ss, vl p2, ss, vl p3, ss, vl p4, ss, vl p5, ss, vl m167_0, ss, vl m167_1, ss, vl m167_2, ss, vl m167_3, ss, vi f19, vi 1, vl m167_4, ss, va o0, vl 0, ss] [(.ref o0)])) rfl (by rw [hml]; rfl) (Steps.refl _) (argsL := []) (rest := []) (lenOf pd_12 rfl) rfl (by show 2 * 0 + _ ≤ _; exact Nat.le_of_eq rfl) (hb hby at_184) (fun _ _ => ⟨rfl, e3, (by decide : 10 + 0 ≤ _), (by decide : 60 + 0 ≤ _)⟩)
  dsimp only [Pt.U, Pt.locs, Pt.cells, Pt.slots] at X4 l4 y4 z4 st4 hQ4
  subst l4 y4 z4
  obtain ⟨rfl, Nq4, e4⟩ := hQ4
  have N4 := Fr.app N3 Nq4
  obtain ⟨fs, hr, hrun, hended, hW, hsame⟩ := X4.leave (v := (some (.int 1))) (fun h => by rw [hrt] at h; cases h)
  refine ⟨_, _, ?_, hrun, hended, _, _, rfl, ?_, ⟨_, rfl⟩, hW, hsame.mono (by decide) (by decide)⟩
  · show Steps p.tables e below (T0.setTop (mkF m 167 #[vi f0, vl p1, ss, vl p2, ss, vl p3, ss, vl p4, ss, vl p5, ss, vl m167_0, ss, vl m167_1, ss, vl m167_2, ss, vl m167_3, ss, vi f19, vi 1, vl m167_4, ss, va o0, vl 0, ss] [])) _
    refine XS.iload X0.here hx rfl (hb hby at_167) rfl ?_
    refine XS.ifNo X0.here hx rfl (hb hby at_169) rfl ((if0 _ _).trans (feq (by decide : ¬ ((1 : Int32) = (0 : Int32)))).1) ?_
    refine XS.aload X0.here hx rfl (hb hby at_172) rfl rfl ?_
    refine XS.lload X0.here hx rfl (hb hby at_174) rfl ?_
    refine X0.ldc2Long hx hown (mvT hZ (ww hw 5 rfl)) (g := (mkF m 176 #[vi f0, vl p1, ss, vl p2, ss, vl p3, ss, vl p4, ss, vl p5, ss, vl m167_0, ss, vl m167_1, ss, vl m167_2, ss, vl m167_3, ss, vi f19, vi 1, vl m167_4, ss, va o0, vl 0, ss] [(.long m167_4), (.ref o0)])) rfl (hb hby at_176) _ ?_
    refine st3.trans ?_
    refine XS.aload X3.here hx rfl (hb hby at_182) rfl rfl ?_
    refine st4.trans ?_
    show Steps p.tables e below (T4.setTop (mkF m 187 #[vi f0, vl p1, ss, vl p2, ss, vl p3, ss, vl p4, ss, vl p5, ss, vl m167_0, ss, vl m167_1, ss, vl m167_2, ss, vl m167_3, ss, vi f19, vi 1, vl m167_4, ss, va o0, vl 0, ss] [(.long 0)])) _
    refine XS.lload X4.here hx rfl (hb hby at_187) rfl ?_
    refine XS.lcmp X4.here hx rfl (hb hby at_189) rfl ?_
    refine XS.ifNo X4.here hx rfl (hb hby at_190) rfl (own_lc_eqT (by decide : (0 : Int64) = (0 : Int64))).2 ?_
    refine XS.iconst X4.here hx rfl (hb hby at_193) ?_
    refine XS.goto X4.here hx rfl (pc0 := 194) (pc' := 198) rfl (hb hby at_194) (by decide) (by decide) ?_
    exact retN X4 hx (t := .boolean) hrt (by simp) (hb hby at_198) hr
  · show Q0 n0 (some (.int 1)) T4.heap _
    exact (⟨rfl, N4⟩)
theorem ow54 (m167_0 : Int64) (m167_1 : Int64) (m167_4 : Int64) (nf0 : 0 ≤ m167_0.toInt ∧ m167_0.toInt ≤ m167_1.toInt ∧ m167_1.toInt ≤ 9223372036854775806) (nf2 : 0 ≤ m167_4.toInt ∧ m167_4.toInt ≤ 9223372036854775806) (hc1 : ¬ (m167_4 < (0 : Int64))) (hc2 : ¬ ((9223372036854775806 : Int64) < m167_4)) (hc3 : m167_1 < m167_4) : (m167_1 + (1 : Int64)) = (own_part1 m167_0 m167_1 m167_4) := by
  rw [Int64.lt_iff_toInt_lt] at hc1 hc2 hc3
  rw [← Int64.toInt_inj]
  have t2 : ((0 : Int64) : Int64).toInt = 0 := by decide
  have t3 : ((9223372036854775806 : Int64) : Int64).toInt = 9223372036854775806 := by decide
  have t5 : ((1 : Int64) : Int64).toInt = 1 := by decide
  have t6 := Jvm.Kit.i64_add (x := m167_1) (y := (1 : Int64)) (by omega) (by omega)
  have t8 := own_part1_toInt m167_0 m167_1 m167_4
  omega
theorem ow55 (m167_0 : Int64) (m167_1 : Int64) (m167_4 : Int64) (nf0 : 0 ≤ m167_0.toInt ∧ m167_0.toInt ≤ m167_1.toInt ∧ m167_1.toInt ≤ 9223372036854775806) (nf2 : 0 ≤ m167_4.toInt ∧ m167_4.toInt ≤ 9223372036854775806) (hc1 : ¬ (m167_4 < (0 : Int64))) (hc2 : ¬ ((9223372036854775806 : Int64) < m167_4)) (hc3 : ¬ (m167_1 < m167_4)) : ¬ ((9223372036854775806 : Int64) < m167_0) := by
  rw [Int64.lt_iff_toInt_lt] at hc1 hc2 hc3
  rw [Int64.lt_iff_toInt_lt]
  have t2 : ((0 : Int64) : Int64).toInt = 0 := by decide
  have t3 : ((9223372036854775806 : Int64) : Int64).toInt = 9223372036854775806 := by decide
  omega
theorem ow56 (m167_0 : Int64) (m167_1 : Int64) (m167_4 : Int64) (nf0 : 0 ≤ m167_0.toInt ∧ m167_0.toInt ≤ m167_1.toInt ∧ m167_1.toInt ≤ 9223372036854775806) (nf2 : 0 ≤ m167_4.toInt ∧ m167_4.toInt ≤ 9223372036854775806) (hc1 : ¬ (m167_4 < (0 : Int64))) (hc2 : ¬ ((9223372036854775806 : Int64) < m167_4)) (hc3 : ¬ (m167_1 < m167_4)) (hc5 : ¬ ((9223372036854775806 : Int64) < m167_0)) (hc6 : m167_0 < m167_4) : ¬ ((9223372036854775806 : Int64) < m167_1) := by
  rw [Int64.lt_iff_toInt_lt] at hc1 hc2 hc3 hc5 hc6
  rw [Int64.lt_iff_toInt_lt]
  have t2 : ((0 : Int64) : Int64).toInt = 0 := by decide
  have t3 : ((9223372036854775806 : Int64) : Int64).toInt = 9223372036854775806 := by decide
  omega
theorem ow57 (m167_0 : Int64) (m167_1 : Int64) (m167_4 : Int64) (nf0 : 0 ≤ m167_0.toInt ∧ m167_0.toInt ≤ m167_1.toInt ∧ m167_1.toInt ≤ 9223372036854775806) (nf2 : 0 ≤ m167_4.toInt ∧ m167_4.toInt ≤ 9223372036854775806) (hc1 : ¬ (m167_4 < (0 : Int64))) (hc2 : ¬ ((9223372036854775806 : Int64) < m167_4)) (hc3 : ¬ (m167_1 < m167_4)) (hc5 : ¬ ((9223372036854775806 : Int64) < m167_0)) (hc6 : m167_0 < m167_4) (hc7 : ¬ ((9223372036854775806 : Int64) < m167_1)) : ((m167_4 - (1 : Int64)) + (1 : Int64)) = (own_part1 m167_0 m167_1 m167_4) := by
  rw [Int64.lt_iff_toInt_lt] at hc1 hc2 hc3 hc5 hc6 hc7
  rw [← Int64.toInt_inj]
  have t2 : ((0 : Int64) : Int64).toInt = 0 := by decide
  have t3 : ((9223372036854775806 : Int64) : Int64).toInt = 9223372036854775806 := by decide
  have t6 : ((1 : Int64) : Int64).toInt = 1 := by decide
  have t7 := Jvm.Kit.i64_sub (x := m167_4) (y := (1 : Int64)) (by omega) (by omega)
  have t8 := Jvm.Kit.i64_add (x := (m167_4 - (1 : Int64))) (y := (1 : Int64)) (by omega) (by omega)
  have t9 := own_part1_toInt m167_0 m167_1 m167_4
  omega
theorem ow58 (m167_0 : Int64) (m167_1 : Int64) (m167_4 : Int64) (nf0 : 0 ≤ m167_0.toInt ∧ m167_0.toInt ≤ m167_1.toInt ∧ m167_1.toInt ≤ 9223372036854775806) (nf2 : 0 ≤ m167_4.toInt ∧ m167_4.toInt ≤ 9223372036854775806) (hc1 : ¬ (m167_4 < (0 : Int64))) (hc2 : ¬ ((9223372036854775806 : Int64) < m167_4)) (hc3 : ¬ (m167_1 < m167_4)) (hc5 : ¬ ((9223372036854775806 : Int64) < m167_0)) (hc6 : ¬ (m167_0 < m167_4)) : ¬ ((9223372036854775806 : Int64) < m167_1) := by
  rw [Int64.lt_iff_toInt_lt] at hc1 hc2 hc3 hc5 hc6
  rw [Int64.lt_iff_toInt_lt]
  have t2 : ((0 : Int64) : Int64).toInt = 0 := by decide
  have t3 : ((9223372036854775806 : Int64) : Int64).toInt = 9223372036854775806 := by decide
  omega
theorem ow59 (m167_0 : Int64) (m167_1 : Int64) (m167_4 : Int64) (nf0 : 0 ≤ m167_0.toInt ∧ m167_0.toInt ≤ m167_1.toInt ∧ m167_1.toInt ≤ 9223372036854775806) (nf2 : 0 ≤ m167_4.toInt ∧ m167_4.toInt ≤ 9223372036854775806) (hc1 : ¬ (m167_4 < (0 : Int64))) (hc2 : ¬ ((9223372036854775806 : Int64) < m167_4)) (hc3 : ¬ (m167_1 < m167_4)) (hc5 : ¬ ((9223372036854775806 : Int64) < m167_0)) (hc6 : ¬ (m167_0 < m167_4)) (hc7 : ¬ ((9223372036854775806 : Int64) < m167_1)) : (0 : Int64) = (own_part1 m167_0 m167_1 m167_4) := by
  rw [Int64.lt_iff_toInt_lt] at hc1 hc2 hc3 hc5 hc6 hc7
  rw [← Int64.toInt_inj]
  have t2 : ((0 : Int64) : Int64).toInt = 0 := by decide
  have t3 : ((9223372036854775806 : Int64) : Int64).toInt = 9223372036854775806 := by decide
  have t6 := own_part1_toInt m167_0 m167_1 m167_4
  omega
theorem jn12 {p : Program} {l : Launch} {e : Env} {s : State} {m : MethodId} {below : List Frame} {meth : Method} {c : Code} {T0 : State} {locs : List Loc} {Z : State} {a0 : Array Value} {h0 : Heap} {n0 : Nat} (hx : p.tables.exec = Jvm.exec) (hZ : Z.Warmed39 s.vm) (hby : c.code = code) (hml : c.maxLocals = 26) (hown : s.vm.findClass sC1 = some m.cls) (hrt : meth.sig.returnType = ret) (hlk : meth.locks = false) (hw : HW Z a0) (w_NONE : Addr) (o0 : Addr) (o1 : Addr) (o2 : Addr) (kk_o1 : ClassId) (kk_o2 : ClassId) (p0 : Int32) (p1 : Int64) (p2 : Int64) (p3 : Int64) (p4 : Int64) (p5 : Int64) (m167_0 : Int64) (m167_1 : Int64) (m167_2 : Int64) (m167_3 : Int64) (m167_4 : Int64) (f0 : Int32) (f19 : Int32) (X0 : Stand p l e room_1 s m #[(.int p0), (.long p1), (.long p2), (.long p3), (.long p4), (.long p5)] below meth c T0 locs 10 60) (e0 : T0.heap = h0) (N0 : Fr n0 locs) (O0 : Old Z n0 h0) (S : SF Z w_NONE) (E_o0 : Exa Z h0 o0 sC0) (F_count_o0 : Fld Z h0 o0 sC0 "count" "J" (.long ((0 : Int64) + ((m167_1 - m167_0) + (1 : Int64))))) (F_firsts_o0 : Fld Z h0 o0 sC0 "firsts" "[J" (.ref o1)) (F_lasts_o0 : Fld Z h0 o0 sC0 "lasts" "[J" (.ref o2)) (F_maxRanges_o0 : Fld Z h0 o0 sC0 "maxRanges" "I" (.int 2147483647)) (F_ranges_o0 : Fld Z h0 o0 sC0 "ranges" "I" (.int 1)) (V_o1 : Arv Z h0 o1 kk_o1 .long (4 : Int32) [(.long m167_0), (.long 0), (.long 0), (.long 0)] (.long 0)) (V_o2 : Arv Z h0 o2 kk_o2 .long (4 : Int32) [(.long m167_1), (.long 0), (.long 0), (.long 0)] (.long 0)) (ne_o0_o1 : o0 ≠ o1) (ne_o0_o2 : o0 ≠ o2) (ne_o1_o2 : o1 ≠ o2) (g_o0 : n0 ≤ o0) (g_o1 : n0 ≤ o1) (g_o2 : n0 ≤ o2) (nf0 : 0 ≤ m167_0.toInt ∧ m167_0.toInt ≤ m167_1.toInt ∧ m167_1.toInt ≤ 9223372036854775806) (nf1 : 0 ≤ m167_2.toInt ∧ m167_2.toInt ≤ m167_3.toInt ∧ m167_3.toInt ≤ 9223372036854775806) (nf2 : 0 ≤ m167_4.toInt ∧ m167_4.toInt ≤ 9223372036854775806) :
    ∃ s₂ o, Steps p.tables e below (T0.setTop (mkF m 167 #[vi f0, vl p1, ss, vl p2, ss, vl p3, ss, vl p4, ss, vl p5, ss, vl m167_0, ss, vl m167_1, ss, vl m167_2, ss, vl m167_3, ss, vi f19, vi 1, vl m167_4, ss, va o0, vl (own_part1 m167_0 m167_1 m167_4), ss] [])) s₂ ∧ s₂.status = .running ∧ Ended s₂ below o ∧ ∃ v L, o = .returned v ∧ Q0 n0 v s₂.heap L ∧ FrameEnd s o s₂ L room_1.cells room_1.slots := by
  have K0 : Keep h0 h0 [o1, o0, o2] := Keep.refl _ _
  have hc1 : ¬ (m167_4 < (0 : Int64)) := ow14 m167_4 nf2
  have hc2 : ¬ ((9223372036854775806 : Int64) < m167_4) := ow15 m167_4 nf2 hc1
  have pre_4 : ∀ t, Steps p.tables e below (T0.setTop (mkF m 179 #[vi f0, vl p1, ss, vl p2, ss, vl p3, ss, vl p4, ss, vl p5, ss, vl m167_0, ss, vl m167_1, ss, vl m167_2, ss, vl m167_3, ss, vi f19, vi 1, vl m167_4, ss, va o0, vl (own_part1 m167_0 m167_1 m167_4), ss] [(.long 9223372036854775806), (.long m167_4), (.ref o0)])) t → Steps p.tables e below (T0.setTop (mkF m 167 #[vi f0, vl p1, ss, vl p2, ss, vl p3, ss, vl p4, ss, vl p5, ss, vl m167_0, ss, vl m167_1, ss, vl m167_2, ss, vl m167_3, ss, vi f19, vi 1, vl m167_4, ss, va o0, vl (own_part1 m167_0 m167_1 m167_4), ss] [])) t := fun t k => (by
    show Steps p.tables e below (T0.setTop (mkF m 167 #[vi f0, vl p1, ss, vl p2, ss, vl p3, ss, vl p4, ss, vl p5, ss, vl m167_0, ss, vl m167_1, ss, vl m167_2, ss, vl m167_3, ss, vi f19, vi 1, vl m167_4, ss, va o0, vl (own_part1 m167_0 m167_1 m167_4), ss] [])) _
    refine XS.iload X0.here hx rfl (hb hby at_167) rfl ?_
    refine XS.ifNo X0.here hx rfl (hb hby at_169) rfl ((if0 _ _).trans (feq (by decide : ¬ ((1 : Int32) = (0 : Int32)))).1) ?_
    refine XS.aload X0.here hx rfl (hb hby at_172) rfl rfl ?_
    refine XS.lload X0.here hx rfl (hb hby at_174) rfl ?_
    refine X0.ldc2Long hx hown (mvT hZ (ww hw 5 rfl)) (g := (mkF m 176 #[vi f0, vl p1, ss, vl p2, ss, vl p3, ss, vl p4, ss, vl p5, ss, vl m167_0, ss, vl m167_1, ss, vl m167_2, ss, vl m167_3, ss, vi f19, vi 1, vl m167_4, ss, va o0, vl (own_part1 m167_0 m167_1 m167_4), ss] [(.long m167_4), (.ref o0)])) rfl (hb hby at_176) _ ?_
    exact k)
  by_cases hc3 : m167_1 < m167_4
  · obtain ⟨cq5, kq5, q5a, q5b, q5c⟩ := isOf hZ e0 E_o0
    obtain ⟨_, _, ⟨T5, L5, k5, n5⟩, -, X5, ⟨Lc5, hQ5, l5, y5, z5⟩, st5⟩ := X0.virtualBack hx (y := My17) (z := My17) hown (mvT hZ (ww hw 84 rfl)) (mvT hZ (ww hw 85 rfl)) (notFace_of_selects (args := #[]) (mvT hZ (ww hw 87 rfl))) (mvT hZ (ww hw 87 rfl)) (mvT hZ (ww hw 86 rfl)) (by decide) (backOf (W := 0) (rm17_6 l Z a0 hw [] w_NONE o0 o1 o2 kk_o1 kk_o2 m167_4 ((0 : Int64) + ((m167_1 - m167_0) + (1 : Int64))) m167_0 m167_1 h0 n0 O0 S E_o0 F_lasts_o0 F_ranges_o0 V_o2 hc1 hc2 hc3) hZ (ww hw 88 rfl) (ww hw 15 rfl) (by decide) (by decide)) q5a q5c (g := (mkF m 179 #[vi f0, vl p1, ss, vl p2, ss, vl p3, ss, vl p4, ss, vl p5, ss, vl m167_0, ss, vl m167_1, ss, vl m167_2, ss, vl m167_3, ss, vi f19, vi 1, vl m167_4, ss, va o0, vl (own_part1 m167_0 m167_1 m167_4), ss] [(.long 9223372036854775806), (.long m167_4), (.ref o0)])) rfl (by rw [hml]; rfl) (Steps.refl _) (argsL := [(.long m167_4), (.long 9223372036854775806)]) (rest := []) (lenOf pd_4 rfl) rfl (by show 2 * 0 + _ ≤ _; exact Nat.le_of_eq rfl) (hb hby at_179) (fun _ _ => ⟨rfl, e0, (by decide : 10 + 0 ≤ _), (by decide : 60 + 0 ≤ _)⟩)
    dsimp only [Pt.U, Pt.locs, Pt.cells, Pt.slots] at X5 l5 y5 z5 st5 hQ5
    subst l5 y5 z5
    obtain ⟨rfl, Nq5, e5⟩ := hQ5
    have N5 := Fr.app N0 Nq5
    obtain ⟨cq6, kq6, q6a, q6b, q6c⟩ := isOf hZ e5 E_o0
    obtain ⟨_, _, ⟨T6, L6, k6, n6⟩, -, X6, ⟨Lc6, hQ6, l6, y6, z6⟩, st6⟩ := X5.virtualBack hx (y := My7) (z := My7) hown (mvT hZ (ww hw 34 rfl)) (mvT hZ (ww hw 35 rfl)) (notFace_of_selects (args := #[]) (mvT hZ (ww hw 37 rfl))) (mvT hZ (ww hw 37 rfl)) (mvT hZ (ww hw 36 rfl)) (by decide) (backOf (W := 0) (rm7_1 l Z a0 hw [] w_NONE o0 o1 o2 kk_o1 kk_o2 ((0 : Int64) + ((m167_1 - m167_0) + (1 : Int64))) m167_0 m167_1 h0 n0 O0 S F_lasts_o0 F_ranges_o0 V_o2) hZ (ww hw 38 rfl) (ww hw 15 rfl) (by decide) (by decide)) q6a q6c (g := (mkF m 184 #[vi f0, vl p1, ss, vl p2, ss, vl p3, ss, vl p4, ss, vl p5, ss, vl m167_0, ss, vl m167_1, ss, vl m167_2, ss, vl m167_3, ss, vi f19, vi 1, vl m167_4, ss, va o0, vl (own_part1 m167_0 m167_1 m167_4), ss] [(.ref o0)])) rfl (by rw [hml]; rfl) (Steps.refl _) (argsL := []) (rest := []) (lenOf pd_12 rfl) rfl (by show 2 * 0 + _ ≤ _; exact Nat.le_of_eq rfl) (hb hby at_184) (fun _ _ => ⟨rfl, e5, (by decide : 10 + 0 ≤ _), (by decide : 60 + 0 ≤ _)⟩)
    dsimp only [Pt.U, Pt.locs, Pt.cells, Pt.slots] at X6 l6 y6 z6 st6 hQ6
    subst l6 y6 z6
    obtain ⟨rfl, Nq6, e6⟩ := hQ6
    have N6 := Fr.app N5 Nq6
    have hc7 : (m167_1 + (1 : Int64)) = (own_part1 m167_0 m167_1 m167_4) := ow54 m167_0 m167_1 m167_4 nf0 nf2 hc1 hc2 hc3
    obtain ⟨fs, hr, hrun, hended, hW, hsame⟩ := X6.leave (v := (some (.int 1))) (fun h => by rw [hrt] at h; cases h)
    refine ⟨_, _, pre_4 _ ?_, hrun, hended, _, _, rfl, ?_, ⟨_, rfl⟩, hW, hsame.mono (by decide) (by decide)⟩
    · show Steps p.tables e below (T0.setTop (mkF m 179 #[vi f0, vl p1, ss, vl p2, ss, vl p3, ss, vl p4, ss, vl p5, ss, vl m167_0, ss, vl m167_1, ss, vl m167_2, ss, vl m167_3, ss, vi f19, vi 1, vl m167_4, ss, va o0, vl (own_part1 m167_0 m167_1 m167_4), ss] [(.long 9223372036854775806), (.long m167_4), (.ref o0)])) _
      refine st5.trans ?_
      refine XS.aload X5.here hx rfl (hb hby at_182) rfl rfl ?_
      refine st6.trans ?_
      refine XS.lload X6.here hx rfl (hb hby at_187) rfl ?_
      refine XS.lcmp X6.here hx rfl (hb hby at_189) rfl ?_
      refine XS.ifNo X6.here hx rfl (hb hby at_190) rfl (own_lc_eqT hc7).2 ?_
      refine XS.iconst X6.here hx rfl (hb hby at_193) ?_
      refine XS.goto X6.here hx rfl (pc0 := 194) (pc' := 198) rfl (hb hby at_194) (by decide) (by decide) ?_
      show Steps p.tables e below (T6.setTop (mkF m 198 #[vi f0, vl p1, ss, vl p2, ss, vl p3, ss, vl p4, ss, vl p5, ss, vl m167_0, ss, vl m167_1, ss, vl m167_2, ss, vl m167_3, ss, vi f19, vi 1, vl m167_4, ss, va o0, vl (own_part1 m167_0 m167_1 m167_4), ss] [(.int 1)])) _
      exact retN X6 hx (t := .boolean) hrt (by simp) (hb hby at_198) hr
    · show Q0 n0 (some (.int 1)) T6.heap _
      exact (⟨rfl, N6⟩)
  · have hc5 : ¬ ((9223372036854775806 : Int64) < m167_0) := ow55 m167_0 m167_1 m167_4 nf0 nf2 hc1 hc2 hc3
    by_cases hc6 : m167_0 < m167_4
    · have hc7 : ¬ ((9223372036854775806 : Int64) < m167_1) := ow56 m167_0 m167_1 m167_4 nf0 nf2 hc1 hc2 hc3 hc5 hc6
      obtain ⟨cq8, kq8, q8a, q8b, q8c⟩ := isOf hZ e0 E_o0
      obtain ⟨_, _, ⟨T8, L8, k8, n8⟩, -, X8, ⟨Lc8, hQ8, l8, y8, z8⟩, st8⟩ := X0.virtualBack hx (y := My17) (z := My17) hown (mvT hZ (ww hw 84 rfl)) (mvT hZ (ww hw 85 rfl)) (notFace_of_selects (args := #[]) (mvT hZ (ww hw 87 rfl))) (mvT hZ (ww hw 87 rfl)) (mvT hZ (ww hw 86 rfl)) (by decide) (backOf (W := 0) (rm17_5 l Z a0 hw [] w_NONE o0 o1 o2 kk_o1 kk_o2 m167_4 ((0 : Int64) + ((m167_1 - m167_0) + (1 : Int64))) m167_0 m167_1 h0 n0 O0 S E_o0 F_count_o0 F_firsts_o0 F_lasts_o0 F_maxRanges_o0 F_ranges_o0 V_o1 V_o2 ne_o0_o1 ne_o0_o2 ne_o1_o2 g_o0 g_o1 g_o2 hc1 hc2 hc3 hc5 hc6 hc7) hZ (ww hw 88 rfl) (ww hw 15 rfl) (by decide) (by decide)) q8a q8c (g := (mkF m 179 #[vi f0, vl p1, ss, vl p2, ss, vl p3, ss, vl p4, ss, vl p5, ss, vl m167_0, ss, vl m167_1, ss, vl m167_2, ss, vl m167_3, ss, vi f19, vi 1, vl m167_4, ss, va o0, vl (own_part1 m167_0 m167_1 m167_4), ss] [(.long 9223372036854775806), (.long m167_4), (.ref o0)])) rfl (by rw [hml]; rfl) (Steps.refl _) (argsL := [(.long m167_4), (.long 9223372036854775806)]) (rest := []) (lenOf pd_4 rfl) rfl (by show 2 * 0 + _ ≤ _; exact Nat.le_of_eq rfl) (hb hby at_179) (fun _ _ => ⟨rfl, e0, (by decide : 10 + 0 ≤ _), (by decide : 60 + 0 ≤ _)⟩)
      dsimp only [Pt.U, Pt.locs, Pt.cells, Pt.slots] at X8 l8 y8 z8 st8 hQ8
      subst l8 y8 z8
      obtain ⟨rfl, Nq8, Kc8, P0_8, P1_8, P2_8, P3_8, P4_8, P5_8, P6_8, P7_8⟩ := hQ8
      have N8 := Fr.app N0 Nq8
      have O8 := O0.keep Kc8 (allS g_o2 (allS g_o0 (allS g_o1 all0)))
      have K8 : Keep h0 T8.heap [o1, o0, o2] := K0.trans Kc8 (allS (Or.inl (List.mem_of_getElem? (i := 2) rfl)) (allS (Or.inl (List.mem_of_getElem? (i := 1) rfl)) (allS (Or.inl (List.mem_of_getElem? (i := 0) rfl)) all0)))
      obtain ⟨cq9, kq9, q9a, q9b, q9c⟩ := isOf hZ rfl P0_8
      obtain ⟨_, _, ⟨T9, L9, k9, n9⟩, -, X9, ⟨Lc9, hQ9, l9, y9, z9⟩, st9⟩ := X8.virtualBack hx (y := My7) (z := My7) hown (mvT hZ (ww hw 34 rfl)) (mvT hZ (ww hw 35 rfl)) (notFace_of_selects (args := #[]) (mvT hZ (ww hw 37 rfl))) (mvT hZ (ww hw 37 rfl)) (mvT hZ (ww hw 36 rfl)) (by decide) (backOf (W := 0) (rm7_1 l Z a0 hw [] w_NONE o0 o1 o2 kk_o1 kk_o2 (((0 : Int64) + ((m167_1 - m167_0) + (1 : Int64))) - ((0 : Int64) + ((m167_1 - m167_4) + (1 : Int64)))) m167_0 (m167_4 - (1 : Int64)) T8.heap n0 O8 S P3_8 P5_8 P7_8) hZ (ww hw 38 rfl) (ww hw 15 rfl) (by decide) (by decide)) q9a q9c (g := (mkF m 184 #[vi f0, vl p1, ss, vl p2, ss, vl p3, ss, vl p4, ss, vl p5, ss, vl m167_0, ss, vl m167_1, ss, vl m167_2, ss, vl m167_3, ss, vi f19, vi 1, vl m167_4, ss, va o0, vl (own_part1 m167_0 m167_1 m167_4), ss] [(.ref o0)])) rfl (by rw [hml]; rfl) (Steps.refl _) (argsL := []) (rest := []) (lenOf pd_12 rfl) rfl (by show 2 * 0 + _ ≤ _; exact Nat.le_of_eq rfl) (hb hby at_184) (fun _ _ => ⟨rfl, rfl, (by decide : 10 + 0 ≤ _), (by decide : 60 + 0 ≤ _)⟩)
      dsimp only [Pt.U, Pt.locs, Pt.cells, Pt.slots] at X9 l9 y9 z9 st9 hQ9
      subst l9 y9 z9
      obtain ⟨rfl, Nq9, e9⟩ := hQ9
      have N9 := Fr.app N8 Nq9
      have hc10 : ((m167_4 - (1 : Int64)) + (1 : Int64)) = (own_part1 m167_0 m167_1 m167_4) := ow57 m167_0 m167_1 m167_4 nf0 nf2 hc1 hc2 hc3 hc5 hc6 hc7
      obtain ⟨fs, hr, hrun, hended, hW, hsame⟩ := X9.leave (v := (some (.int 1))) (fun h => by rw [hrt] at h; cases h)
      refine ⟨_, _, pre_4 _ ?_, hrun, hended, _, _, rfl, ?_, ⟨_, rfl⟩, hW, hsame.mono (by decide) (by decide)⟩
      · show Steps p.tables e below (T0.setTop (mkF m 179 #[vi f0, vl p1, ss, vl p2, ss, vl p3, ss, vl p4, ss, vl p5, ss, vl m167_0, ss, vl m167_1, ss, vl m167_2, ss, vl m167_3, ss, vi f19, vi 1, vl m167_4, ss, va o0, vl (own_part1 m167_0 m167_1 m167_4), ss] [(.long 9223372036854775806), (.long m167_4), (.ref o0)])) _
        refine st8.trans ?_
        refine XS.aload X8.here hx rfl (hb hby at_182) rfl rfl ?_
        refine st9.trans ?_
        refine XS.lload X9.here hx rfl (hb hby at_187) rfl ?_
        refine XS.lcmp X9.here hx rfl (hb hby at_189) rfl ?_
        refine XS.ifNo X9.here hx rfl (hb hby at_190) rfl (own_lc_eqT hc10).2 ?_
        refine XS.iconst X9.here hx rfl (hb hby at_193) ?_
        refine XS.goto X9.here hx rfl (pc0 := 194) (pc' := 198) rfl (hb hby at_194) (by decide) (by decide) ?_
        show Steps p.tables e below (T9.setTop (mkF m 198 #[vi f0, vl p1, ss, vl p2, ss, vl p3, ss, vl p4, ss, vl p5, ss, vl m167_0, ss, vl m167_1, ss, vl m167_2, ss, vl m167_3, ss, vi f19, vi 1, vl m167_4, ss, va o0, vl (own_part1 m167_0 m167_1 m167_4), ss] [(.int 1)])) _
        exact retN X9 hx (t := .boolean) hrt (by simp) (hb hby at_198) hr
      · show Q0 n0 (some (.int 1)) T9.heap _
        exact (⟨rfl, N9⟩)
    · have hc7 : ¬ ((9223372036854775806 : Int64) < m167_1) := ow58 m167_0 m167_1 m167_4 nf0 nf2 hc1 hc2 hc3 hc5 hc6
      obtain ⟨cq8, kq8, q8a, q8b, q8c⟩ := isOf hZ e0 E_o0
      obtain ⟨_, _, ⟨T8, L8, k8, n8⟩, -, X8, ⟨Lc8, hQ8, l8, y8, z8⟩, st8⟩ := X0.virtualBack hx (y := My17) (z := My17) hown (mvT hZ (ww hw 84 rfl)) (mvT hZ (ww hw 85 rfl)) (notFace_of_selects (args := #[]) (mvT hZ (ww hw 87 rfl))) (mvT hZ (ww hw 87 rfl)) (mvT hZ (ww hw 86 rfl)) (by decide) (backOf (W := 0) (rm17_7 l Z a0 hw [] w_NONE o0 o1 o2 kk_o1 kk_o2 m167_4 ((0 : Int64) + ((m167_1 - m167_0) + (1 : Int64))) m167_0 m167_1 h0 n0 O0 S E_o0 F_count_o0 F_firsts_o0 F_lasts_o0 F_maxRanges_o0 F_ranges_o0 V_o1 V_o2 ne_o0_o1 ne_o0_o2 ne_o1_o2 g_o0 g_o1 g_o2 hc1 hc2 hc3 hc5 hc6 hc7) hZ (ww hw 88 rfl) (ww hw 15 rfl) (by decide) (by decide)) q8a q8c (g := (mkF m 179 #[vi f0, vl p1, ss, vl p2, ss, vl p3, ss, vl p4, ss, vl p5, ss, vl m167_0, ss, vl m167_1, ss, vl m167_2, ss, vl m167_3, ss, vi f19, vi 1, vl m167_4, ss, va o0, vl (own_part1 m167_0 m167_1 m167_4), ss] [(.long 9223372036854775806), (.long m167_4), (.ref o0)])) rfl (by rw [hml]; rfl) (Steps.refl _) (argsL := [(.long m167_4), (.long 9223372036854775806)]) (rest := []) (lenOf pd_4 rfl) rfl (by show 2 * 0 + _ ≤ _; exact Nat.le_of_eq rfl) (hb hby at_179) (fun _ _ => ⟨rfl, e0, (by decide : 10 + 0 ≤ _), (by decide : 60 + 0 ≤ _)⟩)
      dsimp only [Pt.U, Pt.locs, Pt.cells, Pt.slots] at X8 l8 y8 z8 st8 hQ8
      subst l8 y8 z8
      obtain ⟨rfl, Nq8, Kc8, P0_8, P1_8, P2_8, P3_8, P4_8, P5_8, P6_8, P7_8⟩ := hQ8
      have N8 := Fr.app N0 Nq8
      have O8 := O0.keep Kc8 (allS g_o0 (allS g_o2 (allS g_o1 all0)))
      have K8 : Keep h0 T8.heap [o1, o0, o2] := K0.trans Kc8 (allS (Or.inl (List.mem_of_getElem? (i := 1) rfl)) (allS (Or.inl (List.mem_of_getElem? (i := 2) rfl)) (allS (Or.inl (List.mem_of_getElem? (i := 0) rfl)) all0)))
      obtain ⟨cq9, kq9, q9a, q9b, q9c⟩ := isOf hZ rfl P0_8
      obtain ⟨_, _, ⟨T9, L9, k9, n9⟩, -, X9, ⟨Lc9, hQ9, l9, y9, z9⟩, st9⟩ := X8.virtualBack hx (y := My7) (z := My7) hown (mvT hZ (ww hw 34 rfl)) (mvT hZ (ww hw 35 rfl)) (notFace_of_selects (args := #[]) (mvT hZ (ww hw 37 rfl))) (mvT hZ (ww hw 37 rfl)) (mvT hZ (ww hw 36 rfl)) (by decide) (backOf (W := 0) (rm7_4 l Z a0 hw [] w_NONE o0 o1 o2 kk_o1 kk_o2 (((0 : Int64) + ((m167_1 - m167_0) + (1 : Int64))) - ((0 : Int64) + ((m167_1 - m167_0) + (1 : Int64)))) m167_0 m167_1 T8.heap n0 O8 S P5_8) hZ (ww hw 38 rfl) (ww hw 15 rfl) (by decide) (by decide)) q9a q9c (g := (mkF m 184 #[vi f0, vl p1, ss, vl p2, ss, vl p3, ss, vl p4, ss, vl p5, ss, vl m167_0, ss, vl m167_1, ss, vl m167_2, ss, vl m167_3, ss, vi f19, vi 1, vl m167_4, ss, va o0, vl (own_part1 m167_0 m167_1 m167_4), ss] [(.ref o0)])) rfl (by rw [hml]; rfl) (Steps.refl _) (argsL := []) (rest := []) (lenOf pd_12 rfl) rfl (by show 2 * 0 + _ ≤ _; exact Nat.le_of_eq rfl) (hb hby at_184) (fun _ _ => ⟨rfl, rfl, (by decide : 10 + 0 ≤ _), (by decide : 60 + 0 ≤ _)⟩)
      dsimp only [Pt.U, Pt.locs, Pt.cells, Pt.slots] at X9 l9 y9 z9 st9 hQ9
      subst l9 y9 z9
      obtain ⟨rfl, Nq9, e9⟩ := hQ9
      have N9 := Fr.app N8 Nq9
      have hc10 : (0 : Int64) = (own_part1 m167_0 m167_1 m167_4) := ow59 m167_0 m167_1 m167_4 nf0 nf2 hc1 hc2 hc3 hc5 hc6 hc7
      obtain ⟨fs, hr, hrun, hended, hW, hsame⟩ := X9.leave (v := (some (.int 1))) (fun h => by rw [hrt] at h; cases h)
      refine ⟨_, _, pre_4 _ ?_, hrun, hended, _, _, rfl, ?_, ⟨_, rfl⟩, hW, hsame.mono (by decide) (by decide)⟩
      · show Steps p.tables e below (T0.setTop (mkF m 179 #[vi f0, vl p1, ss, vl p2, ss, vl p3, ss, vl p4, ss, vl p5, ss, vl m167_0, ss, vl m167_1, ss, vl m167_2, ss, vl m167_3, ss, vi f19, vi 1, vl m167_4, ss, va o0, vl (own_part1 m167_0 m167_1 m167_4), ss] [(.long 9223372036854775806), (.long m167_4), (.ref o0)])) _
        refine st8.trans ?_
        refine XS.aload X8.here hx rfl (hb hby at_182) rfl rfl ?_
        refine st9.trans ?_
        refine XS.lload X9.here hx rfl (hb hby at_187) rfl ?_
        refine XS.lcmp X9.here hx rfl (hb hby at_189) rfl ?_
        refine XS.ifNo X9.here hx rfl (hb hby at_190) rfl (own_lc_eqT hc10).2 ?_
        refine XS.iconst X9.here hx rfl (hb hby at_193) ?_
        refine XS.goto X9.here hx rfl (pc0 := 194) (pc' := 198) rfl (hb hby at_194) (by decide) (by decide) ?_
        show Steps p.tables e below (T9.setTop (mkF m 198 #[vi f0, vl p1, ss, vl p2, ss, vl p3, ss, vl p4, ss, vl p5, ss, vl m167_0, ss, vl m167_1, ss, vl m167_2, ss, vl m167_3, ss, vi f19, vi 1, vl m167_4, ss, va o0, vl (own_part1 m167_0 m167_1 m167_4), ss] [(.int 1)])) _
        exact retN X9 hx (t := .boolean) hrt (by simp) (hb hby at_198) hr
      · show Q0 n0 (some (.int 1)) T9.heap _
        exact (⟨rfl, N9⟩)
theorem rm0 (l : Launch) (Z : State) (a0 : Array Value) (hw : HW Z a0) (ws : List Jvm.Cond) (w_NONE : Addr) (h0 : Heap) (n0 : Nat) (O0 : Old Z n0 h0) (S : SF Z w_NONE) (p0 : Int32) (p1 : Int64) (p2 : Int64) (p3 : Int64) (p4 : Int64) (p5 : Int64) :
    Pay l Z x ws code maxLocals ret #[(.int p0), (.long p1), (.long p2), (.long p3), (.long p4), (.long p5)] h0 room_1 (Q0 n0) := by
  refine own_body (plainFor_of_name pn_0) (L0 := #[vi p0, vl p1, ss, vl p2, ss, vl p3, ss, vl p4, ss, vl p5, ss, uu, uu, uu, uu, uu, uu, uu, uu, uu, uu, uu, uu, uu, uu, uu]) (fun _ => by first | (simp [entryFrame, mkF, argsToLocals, Value.category, maxLocals, vl, vi, va, ss, uu]; done) | rfl) ?_
  intro p e s m below meth c s₁ hrt hlk hx hby hml hZ hown0 hnm X0 e0
  have hown : s.vm.findClass sC1 = some m.cls := hown0
  have N0 := Fr.nil n0
  have K0 : Keep h0 h0 [] := Keep.refl _ _
  obtain ⟨_, _, ⟨T1, L1, k1, n1⟩, -, X1, ⟨Lc1, hQ1, l1, y1, z1⟩, st1⟩ := Jvm.LawKit.callS X0 hx (y := My1) hown (mvT hZ (ww hw 0 rfl)) (mvT hZ (ww hw 1 rfl)) (mvT hZ (ww hw 2 rfl)) (mvT hZ (ww hw 3 rfl)) (by decide) (backOf (W := 0) (rm1_0 l Z a0 hw [] w_NONE p1 h0 n0 O0 S) hZ (ww hw 3 rfl) (ww hw 2 rfl) (by decide) (by decide)) (g := (mkF m 1 #[vi p0, vl p1, ss, vl p2, ss, vl p3, ss, vl p4, ss, vl p5, ss, uu, uu, uu, uu, uu, uu, uu, uu, uu, uu, uu, uu, uu, uu, uu] [(.long p1)])) rfl (by rw [hml]; rfl) (argsL := [(.long p1)]) (rest := []) (lenOf pd_1 rfl) rfl (by show 2 * 0 + _ ≤ _; exact Nat.le_of_eq rfl) (hb hby at_1) (fun _ _ => ⟨rfl, e0, (by decide : 0 + 0 ≤ _), (by decide : 0 + 0 ≤ _)⟩)
  dsimp only [Pt.U, Pt.locs, Pt.cells, Pt.slots] at X1 l1 y1 z1 st1 hQ1
  subst l1 y1 z1
  obtain ⟨rfl, Nq1, e1⟩ := hQ1
  have N1 := Fr.app N0 Nq1
  obtain ⟨_, _, ⟨T2, L2, k2, n2⟩, -, X2, ⟨Lc2, hQ2, l2, y2, z2⟩, st2⟩ := Jvm.LawKit.callS X1 hx (y := My1) hown (mvT hZ (ww hw 0 rfl)) (mvT hZ (ww hw 1 rfl)) (mvT hZ (ww hw 2 rfl)) (mvT hZ (ww hw 3 rfl)) (by decide) (backOf (W := 2) (rm1_0 l Z a0 hw [] w_NONE p2 h0 n0 O0 S) hZ (ww hw 3 rfl) (ww hw 2 rfl) (by decide) (by decide)) (g := (mkF m 5 #[vi p0, vl p1, ss, vl p2, ss, vl p3, ss, vl p4, ss, vl p5, ss, uu, uu, uu, uu, uu, uu, uu, uu, uu, uu, uu, uu, uu, uu, uu] [(.long p2), (.long (own_minL (p1 &&& (9223372036854775807 : Int64)) (9223372036854775806 : Int64)))])) rfl (by rw [hml]; rfl) (argsL := [(.long p2)]) (rest := [(.long (own_minL (p1 &&& (9223372036854775807 : Int64)) (9223372036854775806 : Int64)))]) (lenOf pd_1 rfl) rfl (by show 2 * 0 + _ ≤ _; exact Nat.le_of_eq rfl) (hb hby at_5) (fun _ _ => ⟨rfl, e1, (by decide : 0 + 0 ≤ _), (by decide : 0 + 0 ≤ _)⟩)
  dsimp only [Pt.U, Pt.locs, Pt.cells, Pt.slots] at X2 l2 y2 z2 st2 hQ2
  subst l2 y2 z2
  obtain ⟨rfl, Nq2, e2⟩ := hQ2
  have N2 := Fr.app N1 Nq2
  obtain ⟨_, _, ⟨T3, L3, k3, n3⟩, -, X3, ⟨Lc3, hQ3, l3, y3, z3⟩, st3⟩ := Jvm.LawKit.callS X2 hx (y := My2) hown (mvT hZ (ww hw 6 rfl)) (mvT hZ (ww hw 7 rfl)) (mvT hZ (ww hw 8 rfl)) (mvT hZ (ww hw 9 rfl)) (by decide) (backOf (W := 0) (mg2_0 l Z a0 hw [] w_NONE (own_minL (p1 &&& (9223372036854775807 : Int64)) (9223372036854775806 : Int64)) (own_minL (p2 &&& (9223372036854775807 : Int64)) (9223372036854775806 : Int64)) h0 n0 O0 S) hZ (ww hw 9 rfl) (ww hw 8 rfl) (by decide) (by decide)) (g := (mkF m 8 #[vi p0, vl p1, ss, vl p2, ss, vl p3, ss, vl p4, ss, vl p5, ss, uu, uu, uu, uu, uu, uu, uu, uu, uu, uu, uu, uu, uu, uu, uu] [(.long (own_minL (p2 &&& (9223372036854775807 : Int64)) (9223372036854775806 : Int64))), (.long (own_minL (p1 &&& (9223372036854775807 : Int64)) (9223372036854775806 : Int64)))])) rfl (by rw [hml]; rfl) (argsL := [(.long (own_minL (p1 &&& (9223372036854775807 : Int64)) (9223372036854775806 : Int64))), (.long (own_minL (p2 &&& (9223372036854775807 : Int64)) (9223372036854775806 : Int64)))]) (rest := []) (lenOf pd_0 rfl) rfl (by show 2 * 0 + _ ≤ _; exact Nat.le_of_eq rfl) (hb hby at_8) (fun _ _ => ⟨rfl, e2, (by decide : 0 + 0 ≤ _), (by decide : 0 + 0 ≤ _)⟩)
  dsimp only [Pt.U, Pt.locs, Pt.cells, Pt.slots] at X3 l3 y3 z3 st3 hQ3
  subst l3 y3 z3
  obtain ⟨rfl, Nq3, e3⟩ := hQ3
  have N3 := Fr.app N2 Nq3
  obtain ⟨v0, hv0⟩ : ∃ z : Int64, z = (own_minL (own_minL (p1 &&& (9223372036854775807 : Int64)) (9223372036854775806 : Int64)) (own_minL (p2 &&& (9223372036854775807 : Int64)) (9223372036854775806 : Int64))) := ⟨_, rfl⟩
  obtain ⟨_, _, ⟨T4, L4, k4, n4⟩, -, X4, ⟨Lc4, hQ4, l4, y4, z4⟩, st4⟩ := Jvm.LawKit.callS X3 hx (y := My1) hown (mvT hZ (ww hw 0 rfl)) (mvT hZ (ww hw 1 rfl)) (mvT hZ (ww hw 2 rfl)) (mvT hZ (ww hw 3 rfl)) (by decide) (backOf (W := 0) (rm1_0 l Z a0 hw [] w_NONE p1 h0 n0 O0 S) hZ (ww hw 3 rfl) (ww hw 2 rfl) (by decide) (by decide)) (g := (mkF m 14 #[vi p0, vl p1, ss, vl p2, ss, vl p3, ss, vl p4, ss, vl p5, ss, vl v0, ss, uu, uu, uu, uu, uu, uu, uu, uu, uu, uu, uu, uu, uu] [(.long p1)])) rfl (by rw [hml]; rfl) (argsL := [(.long p1)]) (rest := []) (lenOf pd_1 rfl) rfl (by show 2 * 0 + _ ≤ _; exact Nat.le_of_eq rfl) (hb hby at_14) (fun _ _ => ⟨rfl, e3, (by decide : 0 + 0 ≤ _), (by decide : 0 + 0 ≤ _)⟩)
  dsimp only [Pt.U, Pt.locs, Pt.cells, Pt.slots] at X4 l4 y4 z4 st4 hQ4
  subst l4 y4 z4
  obtain ⟨rfl, Nq4, e4⟩ := hQ4
  have N4 := Fr.app N3 Nq4
  obtain ⟨_, _, ⟨T5, L5, k5, n5⟩, -, X5, ⟨Lc5, hQ5, l5, y5, z5⟩, st5⟩ := Jvm.LawKit.callS X4 hx (y := My1) hown (mvT hZ (ww hw 0 rfl)) (mvT hZ (ww hw 1 rfl)) (mvT hZ (ww hw 2 rfl)) (mvT hZ (ww hw 3 rfl)) (by decide) (backOf (W := 2) (rm1_0 l Z a0 hw [] w_NONE p2 h0 n0 O0 S) hZ (ww hw 3 rfl) (ww hw 2 rfl) (by decide) (by decide)) (g := (mkF m 18 #[vi p0, vl p1, ss, vl p2, ss, vl p3, ss, vl p4, ss, vl p5, ss, vl v0, ss, uu, uu, uu, uu, uu, uu, uu, uu, uu, uu, uu, uu, uu] [(.long p2), (.long (own_minL (p1 &&& (9223372036854775807 : Int64)) (9223372036854775806 : Int64)))])) rfl (by rw [hml]; rfl) (argsL := [(.long p2)]) (rest := [(.long (own_minL (p1 &&& (9223372036854775807 : Int64)) (9223372036854775806 : Int64)))]) (lenOf pd_1 rfl) rfl (by show 2 * 0 + _ ≤ _; exact Nat.le_of_eq rfl) (hb hby at_18) (fun _ _ => ⟨rfl, e4, (by decide : 0 + 0 ≤ _), (by decide : 0 + 0 ≤ _)⟩)
  dsimp only [Pt.U, Pt.locs, Pt.cells, Pt.slots] at X5 l5 y5 z5 st5 hQ5
  subst l5 y5 z5
  obtain ⟨rfl, Nq5, e5⟩ := hQ5
  have N5 := Fr.app N4 Nq5
  obtain ⟨_, _, ⟨T6, L6, k6, n6⟩, -, X6, ⟨Lc6, hQ6, l6, y6, z6⟩, st6⟩ := Jvm.LawKit.callS X5 hx (y := My3) hown (mvT hZ (ww hw 10 rfl)) (mvT hZ (ww hw 11 rfl)) (mvT hZ (ww hw 8 rfl)) (mvT hZ (ww hw 12 rfl)) (by decide) (backOf (W := 0) (mg3_0 l Z a0 hw [] w_NONE (own_minL (p1 &&& (9223372036854775807 : Int64)) (9223372036854775806 : Int64)) (own_minL (p2 &&& (9223372036854775807 : Int64)) (9223372036854775806 : Int64)) h0 n0 O0 S) hZ (ww hw 12 rfl) (ww hw 8 rfl) (by decide) (by decide)) (g := (mkF m 21 #[vi p0, vl p1, ss, vl p2, ss, vl p3, ss, vl p4, ss, vl p5, ss, vl v0, ss, uu, uu, uu, uu, uu, uu, uu, uu, uu, uu, uu, uu, uu] [(.long (own_minL (p2 &&& (9223372036854775807 : Int64)) (9223372036854775806 : Int64))), (.long (own_minL (p1 &&& (9223372036854775807 : Int64)) (9223372036854775806 : Int64)))])) rfl (by rw [hml]; rfl) (argsL := [(.long (own_minL (p1 &&& (9223372036854775807 : Int64)) (9223372036854775806 : Int64))), (.long (own_minL (p2 &&& (9223372036854775807 : Int64)) (9223372036854775806 : Int64)))]) (rest := []) (lenOf pd_0 rfl) rfl (by show 2 * 0 + _ ≤ _; exact Nat.le_of_eq rfl) (hb hby at_21) (fun _ _ => ⟨rfl, e5, (by decide : 0 + 0 ≤ _), (by decide : 0 + 0 ≤ _)⟩)
  dsimp only [Pt.U, Pt.locs, Pt.cells, Pt.slots] at X6 l6 y6 z6 st6 hQ6
  subst l6 y6 z6
  obtain ⟨rfl, Nq6, e6⟩ := hQ6
  have N6 := Fr.app N5 Nq6
  obtain ⟨v1, hv1⟩ : ∃ z : Int64, z = (own_maxL (own_minL (p1 &&& (9223372036854775807 : Int64)) (9223372036854775806 : Int64)) (own_minL (p2 &&& (9223372036854775807 : Int64)) (9223372036854775806 : Int64))) := ⟨_, rfl⟩
  have nf0 : 0 ≤ v0.toInt ∧ v0.toInt ≤ v1.toInt ∧ v1.toInt ≤ 9223372036854775806 := own_ab p1 p2 v0 v1 hv0 hv1
  obtain ⟨_, _, ⟨T7, L7, k7, n7⟩, -, X7, ⟨Lc7, hQ7, l7, y7, z7⟩, st7⟩ := Jvm.LawKit.callS X6 hx (y := My1) hown (mvT hZ (ww hw 0 rfl)) (mvT hZ (ww hw 1 rfl)) (mvT hZ (ww hw 2 rfl)) (mvT hZ (ww hw 3 rfl)) (by decide) (backOf (W := 0) (rm1_0 l Z a0 hw [] w_NONE p3 h0 n0 O0 S) hZ (ww hw 3 rfl) (ww hw 2 rfl) (by decide) (by decide)) (g := (mkF m 28 #[vi p0, vl p1, ss, vl p2, ss, vl p3, ss, vl p4, ss, vl p5, ss, vl v0, ss, vl v1, ss, uu, uu, uu, uu, uu, uu, uu, uu, uu, uu, uu] [(.long p3)])) rfl (by rw [hml]; rfl) (argsL := [(.long p3)]) (rest := []) (lenOf pd_1 rfl) rfl (by show 2 * 0 + _ ≤ _; exact Nat.le_of_eq rfl) (hb hby at_28) (fun _ _ => ⟨rfl, e6, (by decide : 0 + 0 ≤ _), (by decide : 0 + 0 ≤ _)⟩)
  dsimp only [Pt.U, Pt.locs, Pt.cells, Pt.slots] at X7 l7 y7 z7 st7 hQ7
  subst l7 y7 z7
  obtain ⟨rfl, Nq7, e7⟩ := hQ7
  have N7 := Fr.app N6 Nq7
  obtain ⟨_, _, ⟨T8, L8, k8, n8⟩, -, X8, ⟨Lc8, hQ8, l8, y8, z8⟩, st8⟩ := Jvm.LawKit.callS X7 hx (y := My1) hown (mvT hZ (ww hw 0 rfl)) (mvT hZ (ww hw 1 rfl)) (mvT hZ (ww hw 2 rfl)) (mvT hZ (ww hw 3 rfl)) (by decide) (backOf (W := 2) (rm1_0 l Z a0 hw [] w_NONE p4 h0 n0 O0 S) hZ (ww hw 3 rfl) (ww hw 2 rfl) (by decide) (by decide)) (g := (mkF m 33 #[vi p0, vl p1, ss, vl p2, ss, vl p3, ss, vl p4, ss, vl p5, ss, vl v0, ss, vl v1, ss, uu, uu, uu, uu, uu, uu, uu, uu, uu, uu, uu] [(.long p4), (.long (own_minL (p3 &&& (9223372036854775807 : Int64)) (9223372036854775806 : Int64)))])) rfl (by rw [hml]; rfl) (argsL := [(.long p4)]) (rest := [(.long (own_minL (p3 &&& (9223372036854775807 : Int64)) (9223372036854775806 : Int64)))]) (lenOf pd_1 rfl) rfl (by show 2 * 0 + _ ≤ _; exact Nat.le_of_eq rfl) (hb hby at_33) (fun _ _ => ⟨rfl, e7, (by decide : 0 + 0 ≤ _), (by decide : 0 + 0 ≤ _)⟩)
  dsimp only [Pt.U, Pt.locs, Pt.cells, Pt.slots] at X8 l8 y8 z8 st8 hQ8
  subst l8 y8 z8
  obtain ⟨rfl, Nq8, e8⟩ := hQ8
  have N8 := Fr.app N7 Nq8
  obtain ⟨_, _, ⟨T9, L9, k9, n9⟩, -, X9, ⟨Lc9, hQ9, l9, y9, z9⟩, st9⟩ := Jvm.LawKit.callS X8 hx (y := My2) hown (mvT hZ (ww hw 6 rfl)) (mvT hZ (ww hw 7 rfl)) (mvT hZ (ww hw 8 rfl)) (mvT hZ (ww hw 9 rfl)) (by decide) (backOf (W := 0) (mg2_0 l Z a0 hw [] w_NONE (own_minL (p3 &&& (9223372036854775807 : Int64)) (9223372036854775806 : Int64)) (own_minL (p4 &&& (9223372036854775807 : Int64)) (9223372036854775806 : Int64)) h0 n0 O0 S) hZ (ww hw 9 rfl) (ww hw 8 rfl) (by decide) (by decide)) (g := (mkF m 36 #[vi p0, vl p1, ss, vl p2, ss, vl p3, ss, vl p4, ss, vl p5, ss, vl v0, ss, vl v1, ss, uu, uu, uu, uu, uu, uu, uu, uu, uu, uu, uu] [(.long (own_minL (p4 &&& (9223372036854775807 : Int64)) (9223372036854775806 : Int64))), (.long (own_minL (p3 &&& (9223372036854775807 : Int64)) (9223372036854775806 : Int64)))])) rfl (by rw [hml]; rfl) (argsL := [(.long (own_minL (p3 &&& (9223372036854775807 : Int64)) (9223372036854775806 : Int64))), (.long (own_minL (p4 &&& (9223372036854775807 : Int64)) (9223372036854775806 : Int64)))]) (rest := []) (lenOf pd_0 rfl) rfl (by show 2 * 0 + _ ≤ _; exact Nat.le_of_eq rfl) (hb hby at_36) (fun _ _ => ⟨rfl, e8, (by decide : 0 + 0 ≤ _), (by decide : 0 + 0 ≤ _)⟩)
  dsimp only [Pt.U, Pt.locs, Pt.cells, Pt.slots] at X9 l9 y9 z9 st9 hQ9
  subst l9 y9 z9
  obtain ⟨rfl, Nq9, e9⟩ := hQ9
  have N9 := Fr.app N8 Nq9
  obtain ⟨v2, hv2⟩ : ∃ z : Int64, z = (own_minL (own_minL (p3 &&& (9223372036854775807 : Int64)) (9223372036854775806 : Int64)) (own_minL (p4 &&& (9223372036854775807 : Int64)) (9223372036854775806 : Int64))) := ⟨_, rfl⟩
  obtain ⟨_, _, ⟨T10, L10, k10, n10⟩, -, X10, ⟨Lc10, hQ10, l10, y10, z10⟩, st10⟩ := Jvm.LawKit.callS X9 hx (y := My1) hown (mvT hZ (ww hw 0 rfl)) (mvT hZ (ww hw 1 rfl)) (mvT hZ (ww hw 2 rfl)) (mvT hZ (ww hw 3 rfl)) (by decide) (backOf (W := 0) (rm1_0 l Z a0 hw [] w_NONE p3 h0 n0 O0 S) hZ (ww hw 3 rfl) (ww hw 2 rfl) (by decide) (by decide)) (g := (mkF m 43 #[vi p0, vl p1, ss, vl p2, ss, vl p3, ss, vl p4, ss, vl p5, ss, vl v0, ss, vl v1, ss, vl v2, ss, uu, uu, uu, uu, uu, uu, uu, uu, uu] [(.long p3)])) rfl (by rw [hml]; rfl) (argsL := [(.long p3)]) (rest := []) (lenOf pd_1 rfl) rfl (by show 2 * 0 + _ ≤ _; exact Nat.le_of_eq rfl) (hb hby at_43) (fun _ _ => ⟨rfl, e9, (by decide : 0 + 0 ≤ _), (by decide : 0 + 0 ≤ _)⟩)
  dsimp only [Pt.U, Pt.locs, Pt.cells, Pt.slots] at X10 l10 y10 z10 st10 hQ10
  subst l10 y10 z10
  obtain ⟨rfl, Nq10, e10⟩ := hQ10
  have N10 := Fr.app N9 Nq10
  obtain ⟨_, _, ⟨T11, L11, k11, n11⟩, -, X11, ⟨Lc11, hQ11, l11, y11, z11⟩, st11⟩ := Jvm.LawKit.callS X10 hx (y := My1) hown (mvT hZ (ww hw 0 rfl)) (mvT hZ (ww hw 1 rfl)) (mvT hZ (ww hw 2 rfl)) (mvT hZ (ww hw 3 rfl)) (by decide) (backOf (W := 2) (rm1_0 l Z a0 hw [] w_NONE p4 h0 n0 O0 S) hZ (ww hw 3 rfl) (ww hw 2 rfl) (by decide) (by decide)) (g := (mkF m 48 #[vi p0, vl p1, ss, vl p2, ss, vl p3, ss, vl p4, ss, vl p5, ss, vl v0, ss, vl v1, ss, vl v2, ss, uu, uu, uu, uu, uu, uu, uu, uu, uu] [(.long p4), (.long (own_minL (p3 &&& (9223372036854775807 : Int64)) (9223372036854775806 : Int64)))])) rfl (by rw [hml]; rfl) (argsL := [(.long p4)]) (rest := [(.long (own_minL (p3 &&& (9223372036854775807 : Int64)) (9223372036854775806 : Int64)))]) (lenOf pd_1 rfl) rfl (by show 2 * 0 + _ ≤ _; exact Nat.le_of_eq rfl) (hb hby at_48) (fun _ _ => ⟨rfl, e10, (by decide : 0 + 0 ≤ _), (by decide : 0 + 0 ≤ _)⟩)
  dsimp only [Pt.U, Pt.locs, Pt.cells, Pt.slots] at X11 l11 y11 z11 st11 hQ11
  subst l11 y11 z11
  obtain ⟨rfl, Nq11, e11⟩ := hQ11
  have N11 := Fr.app N10 Nq11
  obtain ⟨_, _, ⟨T12, L12, k12, n12⟩, -, X12, ⟨Lc12, hQ12, l12, y12, z12⟩, st12⟩ := Jvm.LawKit.callS X11 hx (y := My3) hown (mvT hZ (ww hw 10 rfl)) (mvT hZ (ww hw 11 rfl)) (mvT hZ (ww hw 8 rfl)) (mvT hZ (ww hw 12 rfl)) (by decide) (backOf (W := 0) (mg3_0 l Z a0 hw [] w_NONE (own_minL (p3 &&& (9223372036854775807 : Int64)) (9223372036854775806 : Int64)) (own_minL (p4 &&& (9223372036854775807 : Int64)) (9223372036854775806 : Int64)) h0 n0 O0 S) hZ (ww hw 12 rfl) (ww hw 8 rfl) (by decide) (by decide)) (g := (mkF m 51 #[vi p0, vl p1, ss, vl p2, ss, vl p3, ss, vl p4, ss, vl p5, ss, vl v0, ss, vl v1, ss, vl v2, ss, uu, uu, uu, uu, uu, uu, uu, uu, uu] [(.long (own_minL (p4 &&& (9223372036854775807 : Int64)) (9223372036854775806 : Int64))), (.long (own_minL (p3 &&& (9223372036854775807 : Int64)) (9223372036854775806 : Int64)))])) rfl (by rw [hml]; rfl) (argsL := [(.long (own_minL (p3 &&& (9223372036854775807 : Int64)) (9223372036854775806 : Int64))), (.long (own_minL (p4 &&& (9223372036854775807 : Int64)) (9223372036854775806 : Int64)))]) (rest := []) (lenOf pd_0 rfl) rfl (by show 2 * 0 + _ ≤ _; exact Nat.le_of_eq rfl) (hb hby at_51) (fun _ _ => ⟨rfl, e11, (by decide : 0 + 0 ≤ _), (by decide : 0 + 0 ≤ _)⟩)
  dsimp only [Pt.U, Pt.locs, Pt.cells, Pt.slots] at X12 l12 y12 z12 st12 hQ12
  subst l12 y12 z12
  obtain ⟨rfl, Nq12, e12⟩ := hQ12
  have N12 := Fr.app N11 Nq12
  obtain ⟨v3, hv3⟩ : ∃ z : Int64, z = (own_maxL (own_minL (p3 &&& (9223372036854775807 : Int64)) (9223372036854775806 : Int64)) (own_minL (p4 &&& (9223372036854775807 : Int64)) (9223372036854775806 : Int64))) := ⟨_, rfl⟩
  have nf1 : 0 ≤ v2.toInt ∧ v2.toInt ≤ v3.toInt ∧ v3.toInt ≤ 9223372036854775806 := own_ab p3 p4 v2 v3 hv2 hv3
  obtain ⟨v4, hv4⟩ : ∃ z : Int32, z = (p0 &&& (3 : Int32)) := ⟨_, rfl⟩
  have pre_14 : ∀ t, Steps p.tables e below (T12.setTop (mkF m 64 #[vi p0, vl p1, ss, vl p2, ss, vl p3, ss, vl p4, ss, vl p5, ss, vl v0, ss, vl v1, ss, vl v2, ss, vl v3, ss, vi v4, uu, uu, uu, uu, uu, uu] [(.int 3), (.int v4)])) t → Steps p.tables e below (s₁.setTop (mkF m 0 #[vi p0, vl p1, ss, vl p2, ss, vl p3, ss, vl p4, ss, vl p5, ss, uu, uu, uu, uu, uu, uu, uu, uu, uu, uu, uu, uu, uu, uu, uu] [])) t := fun t k => (by
    show Steps p.tables e below (s₁.setTop (mkF m 0 #[vi p0, vl p1, ss, vl p2, ss, vl p3, ss, vl p4, ss, vl p5, ss, uu, uu, uu, uu, uu, uu, uu, uu, uu, uu, uu, uu, uu, uu, uu] [])) _
    refine XS.lloadN X0.here hx rfl (hb hby at_0) rfl ?_
    refine st1 _ ?_
    refine XS.lloadN X1.here hx rfl (hb hby at_4) rfl ?_
    refine st2 _ ?_
    refine st3 _ ?_
    show Steps p.tables e below (T3.setTop (mkF m 11 #[vi p0, vl p1, ss, vl p2, ss, vl p3, ss, vl p4, ss, vl p5, ss, uu, uu, uu, uu, uu, uu, uu, uu, uu, uu, uu, uu, uu, uu, uu] [(.long (own_minL (own_minL (p1 &&& (9223372036854775807 : Int64)) (9223372036854775806 : Int64)) (own_minL (p2 &&& (9223372036854775807 : Int64)) (9223372036854775806 : Int64))))])) _
    rw [← hv0]
    refine XS.lstore X3.here hx rfl (hb hby at_11) rfl (l' := #[vi p0, vl p1, ss, vl p2, ss, vl p3, ss, vl p4, ss, vl p5, ss, vl v0, ss, uu, uu, uu, uu, uu, uu, uu, uu, uu, uu, uu, uu, uu]) rfl ?_
    refine XS.lloadN X3.here hx rfl (hb hby at_13) rfl ?_
    refine st4 _ ?_
    refine XS.lloadN X4.here hx rfl (hb hby at_17) rfl ?_
    refine st5 _ ?_
    refine st6 _ ?_
    show Steps p.tables e below (T6.setTop (mkF m 24 #[vi p0, vl p1, ss, vl p2, ss, vl p3, ss, vl p4, ss, vl p5, ss, vl v0, ss, uu, uu, uu, uu, uu, uu, uu, uu, uu, uu, uu, uu, uu] [(.long (own_maxL (own_minL (p1 &&& (9223372036854775807 : Int64)) (9223372036854775806 : Int64)) (own_minL (p2 &&& (9223372036854775807 : Int64)) (9223372036854775806 : Int64))))])) _
    rw [← hv1]
    refine XS.lstore X6.here hx rfl (hb hby at_24) rfl (l' := #[vi p0, vl p1, ss, vl p2, ss, vl p3, ss, vl p4, ss, vl p5, ss, vl v0, ss, vl v1, ss, uu, uu, uu, uu, uu, uu, uu, uu, uu, uu, uu]) rfl ?_
    refine XS.lload X6.here hx rfl (hb hby at_26) rfl ?_
    refine st7 _ ?_
    refine XS.lload X7.here hx rfl (hb hby at_31) rfl ?_
    refine st8 _ ?_
    refine st9 _ ?_
    show Steps p.tables e below (T9.setTop (mkF m 39 #[vi p0, vl p1, ss, vl p2, ss, vl p3, ss, vl p4, ss, vl p5, ss, vl v0, ss, vl v1, ss, uu, uu, uu, uu, uu, uu, uu, uu, uu, uu, uu] [(.long (own_minL (own_minL (p3 &&& (9223372036854775807 : Int64)) (9223372036854775806 : Int64)) (own_minL (p4 &&& (9223372036854775807 : Int64)) (9223372036854775806 : Int64))))])) _
    rw [← hv2]
    refine XS.lstore X9.here hx rfl (hb hby at_39) rfl (l' := #[vi p0, vl p1, ss, vl p2, ss, vl p3, ss, vl p4, ss, vl p5, ss, vl v0, ss, vl v1, ss, vl v2, ss, uu, uu, uu, uu, uu, uu, uu, uu, uu]) rfl ?_
    refine XS.lload X9.here hx rfl (hb hby at_41) rfl ?_
    refine st10 _ ?_
    refine XS.lload X10.here hx rfl (hb hby at_46) rfl ?_
    refine st11 _ ?_
    refine st12 _ ?_
    show Steps p.tables e below (T12.setTop (mkF m 54 #[vi p0, vl p1, ss, vl p2, ss, vl p3, ss, vl p4, ss, vl p5, ss, vl v0, ss, vl v1, ss, vl v2, ss, uu, uu, uu, uu, uu, uu, uu, uu, uu] [(.long (own_maxL (own_minL (p3 &&& (9223372036854775807 : Int64)) (9223372036854775806 : Int64)) (own_minL (p4 &&& (9223372036854775807 : Int64)) (9223372036854775806 : Int64))))])) _
    rw [← hv3]
    refine XS.lstore X12.here hx rfl (hb hby at_54) rfl (l' := #[vi p0, vl p1, ss, vl p2, ss, vl p3, ss, vl p4, ss, vl p5, ss, vl v0, ss, vl v1, ss, vl v2, ss, vl v3, ss, uu, uu, uu, uu, uu, uu, uu]) rfl ?_
    refine XS.iloadN X12.here hx rfl (hb hby at_56) rfl ?_
    refine XS.iconst X12.here hx rfl (hb hby at_57) ?_
    refine XS.iand X12.here hx rfl (hb hby at_58) rfl ?_
    show Steps p.tables e below (T12.setTop (mkF m 59 #[vi p0, vl p1, ss, vl p2, ss, vl p3, ss, vl p4, ss, vl p5, ss, vl v0, ss, vl v1, ss, vl v2, ss, vl v3, ss, uu, uu, uu, uu, uu, uu, uu] [(.int (p0 &&& (3 : Int32)))])) _
    rw [← hv4]
    refine XS.istore X12.here hx rfl (hb hby at_59) rfl (l' := #[vi p0, vl p1, ss, vl p2, ss, vl p3, ss, vl p4, ss, vl p5, ss, vl v0, ss, vl v1, ss, vl v2, ss, vl v3, ss, vi v4, uu, uu, uu, uu, uu, uu]) rfl ?_
    refine XS.iload X12.here hx rfl (hb hby at_61) rfl ?_
    refine XS.iconst X12.here hx rfl (hb hby at_63) ?_
    exact k)
  by_cases hc13 : v4 = (3 : Int32)
  · have pre_16 : ∀ t, Steps p.tables e below (T12.setTop (mkF m 75 #[vi p0, vl p1, ss, vl p2, ss, vl p3, ss, vl p4, ss, vl p5, ss, vl v0, ss, vl v1, ss, vl v2, ss, vl v3, ss, vi 2, uu, uu, uu, uu, uu, uu] [(.int ((p0 >>> ((2 : Int32) &&& 31)) &&& (1 : Int32)))])) t → Steps p.tables e below (s₁.setTop (mkF m 0 #[vi p0, vl p1, ss, vl p2, ss, vl p3, ss, vl p4, ss, vl p5, ss, uu, uu, uu, uu, uu, uu, uu, uu, uu, uu, uu, uu, uu, uu, uu] [])) t := fun t k => pre_14 t (by
      show Steps p.tables e below (T12.setTop (mkF m 64 #[vi p0, vl p1, ss, vl p2, ss, vl p3, ss, vl p4, ss, vl p5, ss, vl v0, ss, vl v1, ss, vl v2, ss, vl v3, ss, vi v4, uu, uu, uu, uu, uu, uu] [(.int 3), (.int v4)])) _
      refine XS.icmpNo X12.here hx rfl (hb hby at_64) rfl (teq hc13).2 ?_
      refine XS.iconst X12.here hx rfl (hb hby at_67) ?_
      refine XS.istore X12.here hx rfl (hb hby at_68) rfl (l' := #[vi p0, vl p1, ss, vl p2, ss, vl p3, ss, vl p4, ss, vl p5, ss, vl v0, ss, vl v1, ss, vl v2, ss, vl v3, ss, vi 2, uu, uu, uu, uu, uu, uu]) rfl ?_
      refine XS.iloadN X12.here hx rfl (hb hby at_70) rfl ?_
      refine XS.iconst X12.here hx rfl (hb hby at_71) ?_
      refine XS.ishr X12.here hx rfl (hb hby at_72) rfl ?_
      refine XS.iconst X12.here hx rfl (hb hby at_73) ?_
      refine XS.iand X12.here hx rfl (hb hby at_74) rfl ?_
      exact k)
    by_cases hc15 : ((p0 >>> ((2 : Int32) &&& 31)) &&& (1 : Int32)) = (0 : Int32)
    · obtain ⟨_, _, ⟨T17, L17, k17, n17⟩, -, X17, ⟨Lc17, hQ17, l17, y17, z17⟩, st17⟩ := Jvm.LawKit.callS X12 hx (y := My1) hown (mvT hZ (ww hw 0 rfl)) (mvT hZ (ww hw 1 rfl)) (mvT hZ (ww hw 2 rfl)) (mvT hZ (ww hw 3 rfl)) (by decide) (backOf (W := 0) (rm1_0 l Z a0 hw [] w_NONE p5 h0 n0 O0 S) hZ (ww hw 3 rfl) (ww hw 2 rfl) (by decide) (by decide)) (g := (mkF m 87 #[vi p0, vl p1, ss, vl p2, ss, vl p3, ss, vl p4, ss, vl p5, ss, vl v0, ss, vl v1, ss, vl v2, ss, vl v3, ss, vi 2, vi 0, uu, uu, uu, uu, uu] [(.long p5)])) rfl (by rw [hml]; rfl) (argsL := [(.long p5)]) (rest := []) (lenOf pd_1 rfl) rfl (by show 2 * 0 + _ ≤ _; exact Nat.le_of_eq rfl) (hb hby at_87) (fun _ _ => ⟨rfl, e12, (by decide : 0 + 0 ≤ _), (by decide : 0 + 0 ≤ _)⟩)
      dsimp only [Pt.U, Pt.locs, Pt.cells, Pt.slots] at X17 l17 y17 z17 st17 hQ17
      subst l17 y17 z17
      obtain ⟨rfl, Nq17, e17⟩ := hQ17
      have N17 := Fr.app N12 Nq17
      obtain ⟨v5, hv5⟩ : ∃ z : Int64, z = (own_minL (p5 &&& (9223372036854775807 : Int64)) (9223372036854775806 : Int64)) := ⟨_, rfl⟩
      have nf2 : 0 ≤ v5.toInt ∧ v5.toInt ≤ 9223372036854775806 := own_c p5 v5 hv5
      obtain ⟨T18, h18, X18, e18, E18, A18, D18, -, st18⟩ := newO X17 hx hZ hown (ww hw 13 rfl) (ww hw 14 rfl) (ww hw 15 rfl) e17 (g := (mkF m 92 #[vi p0, vl p1, ss, vl p2, ss, vl p3, ss, vl p4, ss, vl p5, ss, vl v0, ss, vl v1, ss, vl v2, ss, vl v3, ss, vi 2, vi 0, vl v5, ss, uu, uu, uu] [])) rfl (hb hby at_92) (by decide) (by decide)
      obtain ⟨b18, qs18⟩ : ∃ z, z = h0.size := ⟨_, rfl⟩
      rw [← qs18] at A18 D18 st18
      have g_b18 : n0 ≤ b18 := Nat.le_trans (own_old O0) (Nat.le_of_eq qs18.symm)
      have sz_b18 : h0.size ≤ b18 := Nat.le_trans K0.1 (Nat.le_of_eq qs18.symm)
      have O18 := O0.ext E18
      have K18 : Keep h0 h18 [] := K0.ext E18
      have F_firsts_b18 : Fld Z h18 b18 sC0 "firsts" "[J" .null := D18 (Or.inl (ww hw 29 rfl)) (ty := (.array .long)) (by decide)
      have F_lasts_b18 : Fld Z h18 b18 sC0 "lasts" "[J" .null := D18 (Or.inl (ww hw 31 rfl)) (ty := (.array .long)) (by decide)
      have F_maxRanges_b18 : Fld Z h18 b18 sC0 "maxRanges" "I" (.int 0) := D18 (Or.inr (ww hw 33 rfl)) (ty := .int) (by decide)
      have F_ranges_b18 : Fld Z h18 b18 sC0 "ranges" "I" (.int 0) := D18 (Or.inl (ww hw 40 rfl)) (ty := .int) (by decide)
      have F_count_b18 : Fld Z h18 b18 sC0 "count" "J" (.long 0) := D18 (Or.inl (ww hw 74 rfl)) (ty := .long) (by decide)
      obtain ⟨_, _, ⟨T19, L19, k19, n19⟩, -, X19, ⟨Lc19, hQ19, l19, y19, z19⟩, st19⟩ := X18.specialBack hx (y := My4) rfl hown (mvT hZ (ww hw 16 rfl)) (mvT hZ (ww hw 17 rfl)) (mvT hZ (ww hw 18 rfl)) (by decide) (backOf (W := 1) (rm4_0 l Z a0 hw [] w_NONE b18 h18 n0 O18 S A18 F_count_b18 F_firsts_b18 F_lasts_b18 F_maxRanges_b18 F_ranges_b18 g_b18) hZ (ww hw 18 rfl) (ww hw 15 rfl) (by decide) (by decide)) (g := (mkF m 96 #[vi p0, vl p1, ss, vl p2, ss, vl p3, ss, vl p4, ss, vl p5, ss, vl v0, ss, vl v1, ss, vl v2, ss, vl v3, ss, vi 2, vi 0, vl v5, ss, uu, uu, uu] [(.ref b18), (.ref b18)])) rfl (by rw [hml]; rfl) (Steps.refl _) (a := b18) (argsL := []) (rest := [(.ref b18)]) (lenOf pd_3 rfl) rfl (by show 2 * 0 + _ ≤ _; exact Nat.le_of_eq rfl) (hb hby at_96) (fun _ _ => ⟨rfl, e18, (by decide : 1 + 0 ≤ _), (by decide : 5 + 0 ≤ _)⟩)
      dsimp only [Pt.U, Pt.locs, Pt.cells, Pt.slots] at X19 l19 y19 z19 st19 hQ19
      subst l19 y19 z19
      obtain ⟨rfl, Nq19, Kc19, P0_19, P1_19, P2_19, P3_19, P4_19, P5_19⟩ := hQ19
      have N19 := Fr.app N17 Nq19
      have O19 := O18.keep Kc19 (allS g_b18 all0)
      have K19 : Keep h0 T19.heap [] := K18.trans Kc19 (allS (Or.inr sz_b18) all0)
      have hc20 : ¬ (v0 < (0 : Int64)) := ow1 v0 v1 nf0
      have hc21 : ¬ (v1 < v0) := ow2 v0 v1 nf0 hc20
      have pre_23 : ∀ t, Steps p.tables e below (T19.setTop (mkF m 116 #[vi p0, vl p1, ss, vl p2, ss, vl p3, ss, vl p4, ss, vl p5, ss, vl v0, ss, vl v1, ss, vl v2, ss, vl v3, ss, vi 2, vi 0, vl v5, ss, va b18, vl 0, ss] [(.long v1), (.long v0), (.ref b18)])) t → Steps p.tables e below (s₁.setTop (mkF m 0 #[vi p0, vl p1, ss, vl p2, ss, vl p3, ss, vl p4, ss, vl p5, ss, uu, uu, uu, uu, uu, uu, uu, uu, uu, uu, uu, uu, uu, uu, uu] [])) t := fun t k => pre_16 t (by
        show Steps p.tables e below (T12.setTop (mkF m 75 #[vi p0, vl p1, ss, vl p2, ss, vl p3, ss, vl p4, ss, vl p5, ss, vl v0, ss, vl v1, ss, vl v2, ss, vl v3, ss, vi 2, uu, uu, uu, uu, uu, uu] [(.int ((p0 >>> ((2 : Int32) &&& 31)) &&& (1 : Int32)))])) _
        refine XS.ifYes X12.here hx rfl (pc0 := 75) (pc' := 82) rfl (hb hby at_75) rfl ((if0 _ _).trans (teq hc15).1) (by decide) (by decide) ?_
        refine XS.iconst X12.here hx rfl (hb hby at_82) ?_
        refine XS.istore X12.here hx rfl (hb hby at_83) rfl (l' := #[vi p0, vl p1, ss, vl p2, ss, vl p3, ss, vl p4, ss, vl p5, ss, vl v0, ss, vl v1, ss, vl v2, ss, vl v3, ss, vi 2, vi 0, uu, uu, uu, uu, uu]) rfl ?_
        refine XS.lload X12.here hx rfl (hb hby at_85) rfl ?_
        refine st17 _ ?_
        show Steps p.tables e below (T17.setTop (mkF m 90 #[vi p0, vl p1, ss, vl p2, ss, vl p3, ss, vl p4, ss, vl p5, ss, vl v0, ss, vl v1, ss, vl v2, ss, vl v3, ss, vi 2, vi 0, uu, uu, uu, uu, uu] [(.long (own_minL (p5 &&& (9223372036854775807 : Int64)) (9223372036854775806 : Int64)))])) _
        rw [← hv5]
        refine XS.lstore X17.here hx rfl (hb hby at_90) rfl (l' := #[vi p0, vl p1, ss, vl p2, ss, vl p3, ss, vl p4, ss, vl p5, ss, vl v0, ss, vl v1, ss, vl v2, ss, vl v3, ss, vi 2, vi 0, vl v5, ss, uu, uu, uu]) rfl ?_
        refine st18 _ ?_
        refine XS.dup X18.here hx rfl (hb hby at_95) rfl rfl ?_
        refine st19.trans ?_
        refine XS.astore X19.here hx rfl (hb hby at_99) rfl rfl (l' := #[vi p0, vl p1, ss, vl p2, ss, vl p3, ss, vl p4, ss, vl p5, ss, vl v0, ss, vl v1, ss, vl v2, ss, vl v3, ss, vi 2, vi 0, vl v5, ss, va b18, uu, uu]) rfl ?_
        refine XS.lconst X19.here hx rfl (hb hby at_101) ?_
        refine XS.lstore X19.here hx rfl (hb hby at_102) rfl (l' := #[vi p0, vl p1, ss, vl p2, ss, vl p3, ss, vl p4, ss, vl p5, ss, vl v0, ss, vl v1, ss, vl v2, ss, vl v3, ss, vi 2, vi 0, vl v5, ss, va b18, vl 0, ss]) rfl ?_
        refine XS.iload X19.here hx rfl (hb hby at_104) rfl ?_
        show Steps p.tables e below (T19.setTop (mkF m 106 #[vi p0, vl p1, ss, vl p2, ss, vl p3, ss, vl p4, ss, vl p5, ss, vl v0, ss, vl v1, ss, vl v2, ss, vl v3, ss, vi 2, vi 0, vl v5, ss, va b18, vl 0, ss] [(.int 2)])) _
        refine XS.iconst X19.here hx rfl (hb hby at_106) ?_
        refine XS.icmpNo X19.here hx rfl (hb hby at_107) rfl (flt (by decide : ¬ ((2 : Int32) < (1 : Int32)))).1 ?_
        refine XS.aload X19.here hx rfl (hb hby at_110) rfl rfl ?_
        refine XS.lload X19.here hx rfl (hb hby at_112) rfl ?_
        refine XS.lload X19.here hx rfl (hb hby at_114) rfl ?_
        exact k)
      by_cases hc22 : v0 = (0 : Int64)
      · obtain ⟨cq24, kq24, q24a, q24b, q24c⟩ := isOf hZ rfl P0_19
        obtain ⟨_, _, ⟨T24, L24, k24, n24⟩, -, X24, ⟨Lc24, hQ24, l24, y24, z24⟩, st24⟩ := X19.virtualBack hx (y := My8) (z := My8) hown (mvT hZ (ww hw 41 rfl)) (mvT hZ (ww hw 42 rfl)) (notFace_of_selects (args := #[]) (mvT hZ (ww hw 44 rfl))) (mvT hZ (ww hw 44 rfl)) (mvT hZ (ww hw 43 rfl)) (by decide) (backOf (W := 0) (rm8_1 l Z a0 hw [] w_NONE b18 v0 v1 T19.heap n0 O19 S P0_19 P1_19 P2_19 P3_19 P4_19 P5_19 g_b18 hc20 hc21 hc22) hZ (ww hw 45 rfl) (ww hw 15 rfl) (by decide) (by decide)) q24a q24c (g := (mkF m 116 #[vi p0, vl p1, ss, vl p2, ss, vl p3, ss, vl p4, ss, vl p5, ss, vl v0, ss, vl v1, ss, vl v2, ss, vl v3, ss, vi 2, vi 0, vl v5, ss, va b18, vl 0, ss] [(.long v1), (.long v0), (.ref b18)])) rfl (by rw [hml]; rfl) (Steps.refl _) (argsL := [(.long v0), (.long v1)]) (rest := []) (lenOf pd_9 rfl) rfl (by show 2 * 0 + _ ≤ _; exact Nat.le_of_eq rfl) (hb hby at_116) (fun _ _ => ⟨rfl, rfl, (by decide : 1 + 2 ≤ _), (by decide : 5 + 8 ≤ _)⟩)
        dsimp only [Pt.U, Pt.locs, Pt.cells, Pt.slots] at X24 l24 y24 z24 st24 hQ24
        subst l24 y24 z24
        obtain ⟨b2_7_6_24, b2_13_6_24, k2_7_6_24, k2_13_6_24, rfl, Nq24, Kc24, P0_24, P1_24, P2_24, P3_24, P4_24, P5_24, P6_24, P7_24, P8_24, P9_24, P10_24⟩ := hQ24
        have N24 := Fr.app N19 Nq24
        have ne_b18_b2_7_6_24 : b18 ≠ b2_7_6_24 := Nat.ne_of_lt (Nat.lt_of_lt_of_le P0_19.lt P8_24)
        have ne_b18_b2_13_6_24 : b18 ≠ b2_13_6_24 := Nat.ne_of_lt (Nat.lt_of_lt_of_le P0_19.lt P9_24)
        have g_b2_7_6_24 : n0 ≤ b2_7_6_24 := Nat.le_trans (own_old O19) P8_24
        have sz_b2_7_6_24 : h0.size ≤ b2_7_6_24 := Nat.le_trans K19.1 P8_24
        have g_b2_13_6_24 : n0 ≤ b2_13_6_24 := Nat.le_trans (own_old O19) P9_24
        have sz_b2_13_6_24 : h0.size ≤ b2_13_6_24 := Nat.le_trans K19.1 P9_24
        have O24 := O19.keep Kc24 (allS g_b18 all0)
        have K24 : Keep h0 T24.heap [] := K19.trans Kc24 (allS (Or.inr sz_b18) all0)
        obtain ⟨_, _, ⟨T25, L25, k25, n25⟩, -, X25, ⟨Lc25, hQ25, l25, y25, z25⟩, st25⟩ := Jvm.LawKit.callS X24 hx (y := My15) hown (mvT hZ (ww hw 75 rfl)) (mvT hZ (ww hw 76 rfl)) (mvT hZ (ww hw 2 rfl)) (mvT hZ (ww hw 77 rfl)) (by decide) (backOf (W := 0) (mg15_0 l Z a0 hw [] w_NONE v0 v1 v5 T24.heap n0 O24 S) hZ (ww hw 77 rfl) (ww hw 2 rfl) (by decide) (by decide)) (g := (mkF m 128 #[vi p0, vl p1, ss, vl p2, ss, vl p3, ss, vl p4, ss, vl p5, ss, vl v0, ss, vl v1, ss, vl v2, ss, vl v3, ss, vi 2, vi 0, vl v5, ss, va b18, vl 0, ss] [(.long v5), (.int 0), (.long v1), (.long v0)])) rfl (by rw [hml]; rfl) (argsL := [(.long v0), (.long v1), (.int 0), (.long v5)]) (rest := []) (lenOf pd_10 rfl) rfl (by show 2 * 0 + _ ≤ _; exact Nat.le_of_eq rfl) (hb hby at_128) (fun _ _ => ⟨rfl, rfl, (by decide : 3 + 0 ≤ _), (by decide : 13 + 0 ≤ _)⟩)
        dsimp only [Pt.U, Pt.locs, Pt.cells, Pt.slots] at X25 l25 y25 z25 st25 hQ25
        subst l25 y25 z25
        obtain ⟨rfl, Nq25, e25⟩ := hQ25
        have N25 := Fr.app N24 Nq25
        have pre_26 : ∀ t, Steps p.tables e below (T25.setTop (mkF m 139 #[vi p0, vl p1, ss, vl p2, ss, vl p3, ss, vl p4, ss, vl p5, ss, vl v0, ss, vl v1, ss, vl v2, ss, vl v3, ss, vi 2, vi 0, vl v5, ss, va b18, vl (own_part0 v0 v1 v5), ss] [])) t → Steps p.tables e below (s₁.setTop (mkF m 0 #[vi p0, vl p1, ss, vl p2, ss, vl p3, ss, vl p4, ss, vl p5, ss, uu, uu, uu, uu, uu, uu, uu, uu, uu, uu, uu, uu, uu, uu, uu] [])) t := fun t k => pre_23 t (by
          show Steps p.tables e below (T19.setTop (mkF m 116 #[vi p0, vl p1, ss, vl p2, ss, vl p3, ss, vl p4, ss, vl p5, ss, vl v0, ss, vl v1, ss, vl v2, ss, vl v3, ss, vi 2, vi 0, vl v5, ss, va b18, vl 0, ss] [(.long v1), (.long v0), (.ref b18)])) _
          refine st24.trans ?_
          refine XS.pop X24.here hx rfl (hb hby at_119) rfl rfl ?_
          refine XS.lload X24.here hx rfl (hb hby at_120) rfl ?_
          refine XS.lload X24.here hx rfl (hb hby at_122) rfl ?_
          refine XS.iload X24.here hx rfl (hb hby at_124) rfl ?_
          refine XS.lload X24.here hx rfl (hb hby at_126) rfl ?_
          refine st25 _ ?_
          refine XS.lstore X25.here hx rfl (hb hby at_131) rfl (l' := #[vi p0, vl p1, ss, vl p2, ss, vl p3, ss, vl p4, ss, vl p5, ss, vl v0, ss, vl v1, ss, vl v2, ss, vl v3, ss, vi 2, vi 0, vl v5, ss, va b18, vl (own_part0 v0 v1 v5), ss]) rfl ?_
          show Steps p.tables e below (T25.setTop (mkF m 133 #[vi p0, vl p1, ss, vl p2, ss, vl p3, ss, vl p4, ss, vl p5, ss, vl v0, ss, vl v1, ss, vl v2, ss, vl v3, ss, vi 2, vi 0, vl v5, ss, va b18, vl (own_part0 v0 v1 v5), ss] [])) _
          refine XS.iload X25.here hx rfl (hb hby at_133) rfl ?_
          refine XS.iconst X25.here hx rfl (hb hby at_135) ?_
          refine XS.icmpNo X25.here hx rfl (hb hby at_136) rfl (flt (by decide : ¬ ((2 : Int32) < (2 : Int32)))).1 ?_
          exact k)
        obtain ⟨U, o, st, rest⟩ := jn1 (a0 := a0) hx hZ hby hml hown hrt hlk hw w_NONE b18 b2_7_6_24 b2_13_6_24 k2_7_6_24 k2_13_6_24 p0 p1 p2 p3 p4 p5 v0 v1 v2 v3 v5 p0 (2 : Int32) (X25.more (by decide) (by decide)) e25 N25 O24 S P0_24 P1_24 P2_24 P3_24 P4_24 P5_24 P6_24 P7_24 ne_b18_b2_7_6_24 ne_b18_b2_13_6_24 P10_24 g_b18 g_b2_7_6_24 g_b2_13_6_24 nf0 nf1 nf2
        exact ⟨U, o, pre_26 _ st, rest⟩
      · obtain ⟨cq24, kq24, q24a, q24b, q24c⟩ := isOf hZ rfl P0_19
        obtain ⟨_, _, ⟨T24, L24, k24, n24⟩, -, X24, ⟨Lc24, hQ24, l24, y24, z24⟩, st24⟩ := X19.virtualBack hx (y := My8) (z := My8) hown (mvT hZ (ww hw 41 rfl)) (mvT hZ (ww hw 42 rfl)) (notFace_of_selects (args := #[]) (mvT hZ (ww hw 44 rfl))) (mvT hZ (ww hw 44 rfl)) (mvT hZ (ww hw 43 rfl)) (by decide) (backOf (W := 0) (rm8_0 l Z a0 hw [] w_NONE b18 v0 v1 T19.heap n0 O19 S P0_19 P1_19 P2_19 P3_19 P4_19 P5_19 g_b18 hc20 hc21 hc22) hZ (ww hw 45 rfl) (ww hw 15 rfl) (by decide) (by decide)) q24a q24c (g := (mkF m 116 #[vi p0, vl p1, ss, vl p2, ss, vl p3, ss, vl p4, ss, vl p5, ss, vl v0, ss, vl v1, ss, vl v2, ss, vl v3, ss, vi 2, vi 0, vl v5, ss, va b18, vl 0, ss] [(.long v1), (.long v0), (.ref b18)])) rfl (by rw [hml]; rfl) (Steps.refl _) (argsL := [(.long v0), (.long v1)]) (rest := []) (lenOf pd_9 rfl) rfl (by show 2 * 0 + _ ≤ _; exact Nat.le_of_eq rfl) (hb hby at_116) (fun _ _ => ⟨rfl, rfl, (by decide : 1 + 2 ≤ _), (by decide : 5 + 8 ≤ _)⟩)
        dsimp only [Pt.U, Pt.locs, Pt.cells, Pt.slots] at X24 l24 y24 z24 st24 hQ24
        subst l24 y24 z24
        obtain ⟨b2_7_6_24, b2_13_6_24, k2_7_6_24, k2_13_6_24, rfl, Nq24, Kc24, P0_24, P1_24, P2_24, P3_24, P4_24, P5_24, P6_24, P7_24, P8_24, P9_24, P10_24⟩ := hQ24
        have N24 := Fr.app N19 Nq24
        have ne_b18_b2_7_6_24 : b18 ≠ b2_7_6_24 := Nat.ne_of_lt (Nat.lt_of_lt_of_le P0_19.lt P8_24)
        have ne_b18_b2_13_6_24 : b18 ≠ b2_13_6_24 := Nat.ne_of_lt (Nat.lt_of_lt_of_le P0_19.lt P9_24)
        have g_b2_7_6_24 : n0 ≤ b2_7_6_24 := Nat.le_trans (own_old O19) P8_24
        have sz_b2_7_6_24 : h0.size ≤ b2_7_6_24 := Nat.le_trans K19.1 P8_24
        have g_b2_13_6_24 : n0 ≤ b2_13_6_24 := Nat.le_trans (own_old O19) P9_24
        have sz_b2_13_6_24 : h0.size ≤ b2_13_6_24 := Nat.le_trans K19.1 P9_24
        have O24 := O19.keep Kc24 (allS g_b18 all0)
        have K24 : Keep h0 T24.heap [] := K19.trans Kc24 (allS (Or.inr sz_b18) all0)
        obtain ⟨_, _, ⟨T25, L25, k25, n25⟩, -, X25, ⟨Lc25, hQ25, l25, y25, z25⟩, st25⟩ := Jvm.LawKit.callS X24 hx (y := My15) hown (mvT hZ (ww hw 75 rfl)) (mvT hZ (ww hw 76 rfl)) (mvT hZ (ww hw 2 rfl)) (mvT hZ (ww hw 77 rfl)) (by decide) (backOf (W := 0) (mg15_0 l Z a0 hw [] w_NONE v0 v1 v5 T24.heap n0 O24 S) hZ (ww hw 77 rfl) (ww hw 2 rfl) (by decide) (by decide)) (g := (mkF m 128 #[vi p0, vl p1, ss, vl p2, ss, vl p3, ss, vl p4, ss, vl p5, ss, vl v0, ss, vl v1, ss, vl v2, ss, vl v3, ss, vi 2, vi 0, vl v5, ss, va b18, vl 0, ss] [(.long v5), (.int 0), (.long v1), (.long v0)])) rfl (by rw [hml]; rfl) (argsL := [(.long v0), (.long v1), (.int 0), (.long v5)]) (rest := []) (lenOf pd_10 rfl) rfl (by show 2 * 0 + _ ≤ _; exact Nat.le_of_eq rfl) (hb hby at_128) (fun _ _ => ⟨rfl, rfl, (by decide : 3 + 0 ≤ _), (by decide : 13 + 0 ≤ _)⟩)
        dsimp only [Pt.U, Pt.locs, Pt.cells, Pt.slots] at X25 l25 y25 z25 st25 hQ25
        subst l25 y25 z25
        obtain ⟨rfl, Nq25, e25⟩ := hQ25
        have N25 := Fr.app N24 Nq25
        have pre_26 : ∀ t, Steps p.tables e below (T25.setTop (mkF m 139 #[vi p0, vl p1, ss, vl p2, ss, vl p3, ss, vl p4, ss, vl p5, ss, vl v0, ss, vl v1, ss, vl v2, ss, vl v3, ss, vi 2, vi 0, vl v5, ss, va b18, vl (own_part0 v0 v1 v5), ss] [])) t → Steps p.tables e below (s₁.setTop (mkF m 0 #[vi p0, vl p1, ss, vl p2, ss, vl p3, ss, vl p4, ss, vl p5, ss, uu, uu, uu, uu, uu, uu, uu, uu, uu, uu, uu, uu, uu, uu, uu] [])) t := fun t k => pre_23 t (by
          show Steps p.tables e below (T19.setTop (mkF m 116 #[vi p0, vl p1, ss, vl p2, ss, vl p3, ss, vl p4, ss, vl p5, ss, vl v0, ss, vl v1, ss, vl v2, ss, vl v3, ss, vi 2, vi 0, vl v5, ss, va b18, vl 0, ss] [(.long v1), (.long v0), (.ref b18)])) _
          refine st24.trans ?_
          refine XS.pop X24.here hx rfl (hb hby at_119) rfl rfl ?_
          refine XS.lload X24.here hx rfl (hb hby at_120) rfl ?_
          refine XS.lload X24.here hx rfl (hb hby at_122) rfl ?_
          refine XS.iload X24.here hx rfl (hb hby at_124) rfl ?_
          refine XS.lload X24.here hx rfl (hb hby at_126) rfl ?_
          refine st25 _ ?_
          refine XS.lstore X25.here hx rfl (hb hby at_131) rfl (l' := #[vi p0, vl p1, ss, vl p2, ss, vl p3, ss, vl p4, ss, vl p5, ss, vl v0, ss, vl v1, ss, vl v2, ss, vl v3, ss, vi 2, vi 0, vl v5, ss, va b18, vl (own_part0 v0 v1 v5), ss]) rfl ?_
          show Steps p.tables e below (T25.setTop (mkF m 133 #[vi p0, vl p1, ss, vl p2, ss, vl p3, ss, vl p4, ss, vl p5, ss, vl v0, ss, vl v1, ss, vl v2, ss, vl v3, ss, vi 2, vi 0, vl v5, ss, va b18, vl (own_part0 v0 v1 v5), ss] [])) _
          refine XS.iload X25.here hx rfl (hb hby at_133) rfl ?_
          refine XS.iconst X25.here hx rfl (hb hby at_135) ?_
          refine XS.icmpNo X25.here hx rfl (hb hby at_136) rfl (flt (by decide : ¬ ((2 : Int32) < (2 : Int32)))).1 ?_
          exact k)
        obtain ⟨U, o, st, rest⟩ := jn1 (a0 := a0) hx hZ hby hml hown hrt hlk hw w_NONE b18 b2_7_6_24 b2_13_6_24 k2_7_6_24 k2_13_6_24 p0 p1 p2 p3 p4 p5 v0 v1 v2 v3 v5 p0 (2 : Int32) (X25.more (by decide) (by decide)) e25 N25 O24 S P0_24 P1_24 P2_24 P3_24 P4_24 P5_24 P6_24 P7_24 ne_b18_b2_7_6_24 ne_b18_b2_13_6_24 P10_24 g_b18 g_b2_7_6_24 g_b2_13_6_24 nf0 nf1 nf2
        exact ⟨U, o, pre_26 _ st, rest⟩
    · obtain ⟨_, _, ⟨T17, L17, k17, n17⟩, -, X17, ⟨Lc17, hQ17, l17, y17, z17⟩, st17⟩ := Jvm.LawKit.callS X12 hx (y := My1) hown (mvT hZ (ww hw 0 rfl)) (mvT hZ (ww hw 1 rfl)) (mvT hZ (ww hw 2 rfl)) (mvT hZ (ww hw 3 rfl)) (by decide) (backOf (W := 0) (rm1_0 l Z a0 hw [] w_NONE p5 h0 n0 O0 S) hZ (ww hw 3 rfl) (ww hw 2 rfl) (by decide) (by decide)) (g := (mkF m 87 #[vi p0, vl p1, ss, vl p2, ss, vl p3, ss, vl p4, ss, vl p5, ss, vl v0, ss, vl v1, ss, vl v2, ss, vl v3, ss, vi 2, vi 1, uu, uu, uu, uu, uu] [(.long p5)])) rfl (by rw [hml]; rfl) (argsL := [(.long p5)]) (rest := []) (lenOf pd_1 rfl) rfl (by show 2 * 0 + _ ≤ _; exact Nat.le_of_eq rfl) (hb hby at_87) (fun _ _ => ⟨rfl, e12, (by decide : 0 + 0 ≤ _), (by decide : 0 + 0 ≤ _)⟩)
      dsimp only [Pt.U, Pt.locs, Pt.cells, Pt.slots] at X17 l17 y17 z17 st17 hQ17
      subst l17 y17 z17
      obtain ⟨rfl, Nq17, e17⟩ := hQ17
      have N17 := Fr.app N12 Nq17
      obtain ⟨v6, hv6⟩ : ∃ z : Int64, z = (own_minL (p5 &&& (9223372036854775807 : Int64)) (9223372036854775806 : Int64)) := ⟨_, rfl⟩
      have nf2 : 0 ≤ v6.toInt ∧ v6.toInt ≤ 9223372036854775806 := own_c p5 v6 hv6
      obtain ⟨T18, h18, X18, e18, E18, A18, D18, -, st18⟩ := newO X17 hx hZ hown (ww hw 13 rfl) (ww hw 14 rfl) (ww hw 15 rfl) e17 (g := (mkF m 92 #[vi p0, vl p1, ss, vl p2, ss, vl p3, ss, vl p4, ss, vl p5, ss, vl v0, ss, vl v1, ss, vl v2, ss, vl v3, ss, vi 2, vi 1, vl v6, ss, uu, uu, uu] [])) rfl (hb hby at_92) (by decide) (by decide)
      obtain ⟨b18, qs18⟩ : ∃ z, z = h0.size := ⟨_, rfl⟩
      rw [← qs18] at A18 D18 st18
      have g_b18 : n0 ≤ b18 := Nat.le_trans (own_old O0) (Nat.le_of_eq qs18.symm)
      have sz_b18 : h0.size ≤ b18 := Nat.le_trans K0.1 (Nat.le_of_eq qs18.symm)
      have O18 := O0.ext E18
      have K18 : Keep h0 h18 [] := K0.ext E18
      have F_firsts_b18 : Fld Z h18 b18 sC0 "firsts" "[J" .null := D18 (Or.inl (ww hw 29 rfl)) (ty := (.array .long)) (by decide)
      have F_lasts_b18 : Fld Z h18 b18 sC0 "lasts" "[J" .null := D18 (Or.inl (ww hw 31 rfl)) (ty := (.array .long)) (by decide)
      have F_maxRanges_b18 : Fld Z h18 b18 sC0 "maxRanges" "I" (.int 0) := D18 (Or.inr (ww hw 33 rfl)) (ty := .int) (by decide)
      have F_ranges_b18 : Fld Z h18 b18 sC0 "ranges" "I" (.int 0) := D18 (Or.inl (ww hw 40 rfl)) (ty := .int) (by decide)
      have F_count_b18 : Fld Z h18 b18 sC0 "count" "J" (.long 0) := D18 (Or.inl (ww hw 74 rfl)) (ty := .long) (by decide)
      obtain ⟨_, _, ⟨T19, L19, k19, n19⟩, -, X19, ⟨Lc19, hQ19, l19, y19, z19⟩, st19⟩ := X18.specialBack hx (y := My4) rfl hown (mvT hZ (ww hw 16 rfl)) (mvT hZ (ww hw 17 rfl)) (mvT hZ (ww hw 18 rfl)) (by decide) (backOf (W := 1) (rm4_0 l Z a0 hw [] w_NONE b18 h18 n0 O18 S A18 F_count_b18 F_firsts_b18 F_lasts_b18 F_maxRanges_b18 F_ranges_b18 g_b18) hZ (ww hw 18 rfl) (ww hw 15 rfl) (by decide) (by decide)) (g := (mkF m 96 #[vi p0, vl p1, ss, vl p2, ss, vl p3, ss, vl p4, ss, vl p5, ss, vl v0, ss, vl v1, ss, vl v2, ss, vl v3, ss, vi 2, vi 1, vl v6, ss, uu, uu, uu] [(.ref b18), (.ref b18)])) rfl (by rw [hml]; rfl) (Steps.refl _) (a := b18) (argsL := []) (rest := [(.ref b18)]) (lenOf pd_3 rfl) rfl (by show 2 * 0 + _ ≤ _; exact Nat.le_of_eq rfl) (hb hby at_96) (fun _ _ => ⟨rfl, e18, (by decide : 1 + 0 ≤ _), (by decide : 5 + 0 ≤ _)⟩)
      dsimp only [Pt.U, Pt.locs, Pt.cells, Pt.slots] at X19 l19 y19 z19 st19 hQ19
      subst l19 y19 z19
      obtain ⟨rfl, Nq19, Kc19, P0_19, P1_19, P2_19, P3_19, P4_19, P5_19⟩ := hQ19
      have N19 := Fr.app N17 Nq19
      have O19 := O18.keep Kc19 (allS g_b18 all0)
      have K19 : Keep h0 T19.heap [] := K18.trans Kc19 (allS (Or.inr sz_b18) all0)
      have hc20 : ¬ (v0 < (0 : Int64)) := ow1 v0 v1 nf0
      have hc21 : ¬ (v1 < v0) := ow2 v0 v1 nf0 hc20
      have pre_23 : ∀ t, Steps p.tables e below (T19.setTop (mkF m 116 #[vi p0, vl p1, ss, vl p2, ss, vl p3, ss, vl p4, ss, vl p5, ss, vl v0, ss, vl v1, ss, vl v2, ss, vl v3, ss, vi 2, vi 1, vl v6, ss, va b18, vl 0, ss] [(.long v1), (.long v0), (.ref b18)])) t → Steps p.tables e below (s₁.setTop (mkF m 0 #[vi p0, vl p1, ss, vl p2, ss, vl p3, ss, vl p4, ss, vl p5, ss, uu, uu, uu, uu, uu, uu, uu, uu, uu, uu, uu, uu, uu, uu, uu] [])) t := fun t k => pre_16 t (by
        show Steps p.tables e below (T12.setTop (mkF m 75 #[vi p0, vl p1, ss, vl p2, ss, vl p3, ss, vl p4, ss, vl p5, ss, vl v0, ss, vl v1, ss, vl v2, ss, vl v3, ss, vi 2, uu, uu, uu, uu, uu, uu] [(.int ((p0 >>> ((2 : Int32) &&& 31)) &&& (1 : Int32)))])) _
        refine XS.ifNo X12.here hx rfl (hb hby at_75) rfl ((if0 _ _).trans (feq hc15).1) ?_
        refine XS.iconst X12.here hx rfl (hb hby at_78) ?_
        refine XS.goto X12.here hx rfl (pc0 := 79) (pc' := 83) rfl (hb hby at_79) (by decide) (by decide) ?_
        refine XS.istore X12.here hx rfl (hb hby at_83) rfl (l' := #[vi p0, vl p1, ss, vl p2, ss, vl p3, ss, vl p4, ss, vl p5, ss, vl v0, ss, vl v1, ss, vl v2, ss, vl v3, ss, vi 2, vi 1, uu, uu, uu, uu, uu]) rfl ?_
        refine XS.lload X12.here hx rfl (hb hby at_85) rfl ?_
        refine st17 _ ?_
        show Steps p.tables e below (T17.setTop (mkF m 90 #[vi p0, vl p1, ss, vl p2, ss, vl p3, ss, vl p4, ss, vl p5, ss, vl v0, ss, vl v1, ss, vl v2, ss, vl v3, ss, vi 2, vi 1, uu, uu, uu, uu, uu] [(.long (own_minL (p5 &&& (9223372036854775807 : Int64)) (9223372036854775806 : Int64)))])) _
        rw [← hv6]
        refine XS.lstore X17.here hx rfl (hb hby at_90) rfl (l' := #[vi p0, vl p1, ss, vl p2, ss, vl p3, ss, vl p4, ss, vl p5, ss, vl v0, ss, vl v1, ss, vl v2, ss, vl v3, ss, vi 2, vi 1, vl v6, ss, uu, uu, uu]) rfl ?_
        refine st18 _ ?_
        refine XS.dup X18.here hx rfl (hb hby at_95) rfl rfl ?_
        refine st19.trans ?_
        refine XS.astore X19.here hx rfl (hb hby at_99) rfl rfl (l' := #[vi p0, vl p1, ss, vl p2, ss, vl p3, ss, vl p4, ss, vl p5, ss, vl v0, ss, vl v1, ss, vl v2, ss, vl v3, ss, vi 2, vi 1, vl v6, ss, va b18, uu, uu]) rfl ?_
        refine XS.lconst X19.here hx rfl (hb hby at_101) ?_
        refine XS.lstore X19.here hx rfl (hb hby at_102) rfl (l' := #[vi p0, vl p1, ss, vl p2, ss, vl p3, ss, vl p4, ss, vl p5, ss, vl v0, ss, vl v1, ss, vl v2, ss, vl v3, ss, vi 2, vi 1, vl v6, ss, va b18, vl 0, ss]) rfl ?_
        refine XS.iload X19.here hx rfl (hb hby at_104) rfl ?_
        show Steps p.tables e below (T19.setTop (mkF m 106 #[vi p0, vl p1, ss, vl p2, ss, vl p3, ss, vl p4, ss, vl p5, ss, vl v0, ss, vl v1, ss, vl v2, ss, vl v3, ss, vi 2, vi 1, vl v6, ss, va b18, vl 0, ss] [(.int 2)])) _
        refine XS.iconst X19.here hx rfl (hb hby at_106) ?_
        refine XS.icmpNo X19.here hx rfl (hb hby at_107) rfl (flt (by decide : ¬ ((2 : Int32) < (1 : Int32)))).1 ?_
        refine XS.aload X19.here hx rfl (hb hby at_110) rfl rfl ?_
        refine XS.lload X19.here hx rfl (hb hby at_112) rfl ?_
        refine XS.lload X19.here hx rfl (hb hby at_114) rfl ?_
        exact k)
      by_cases hc22 : v0 = (0 : Int64)
      · obtain ⟨cq24, kq24, q24a, q24b, q24c⟩ := isOf hZ rfl P0_19
        obtain ⟨_, _, ⟨T24, L24, k24, n24⟩, -, X24, ⟨Lc24, hQ24, l24, y24, z24⟩, st24⟩ := X19.virtualBack hx (y := My8) (z := My8) hown (mvT hZ (ww hw 41 rfl)) (mvT hZ (ww hw 42 rfl)) (notFace_of_selects (args := #[]) (mvT hZ (ww hw 44 rfl))) (mvT hZ (ww hw 44 rfl)) (mvT hZ (ww hw 43 rfl)) (by decide) (backOf (W := 0) (rm8_1 l Z a0 hw [] w_NONE b18 v0 v1 T19.heap n0 O19 S P0_19 P1_19 P2_19 P3_19 P4_19 P5_19 g_b18 hc20 hc21 hc22) hZ (ww hw 45 rfl) (ww hw 15 rfl) (by decide) (by decide)) q24a q24c (g := (mkF m 116 #[vi p0, vl p1, ss, vl p2, ss, vl p3, ss, vl p4, ss, vl p5, ss, vl v0, ss, vl v1, ss, vl v2, ss, vl v3, ss, vi 2, vi 1, vl v6, ss, va b18, vl 0, ss] [(.long v1), (.long v0), (.ref b18)])) rfl (by rw [hml]; rfl) (Steps.refl _) (argsL := [(.long v0), (.long v1)]) (rest := []) (lenOf pd_9 rfl) rfl (by show 2 * 0 + _ ≤ _; exact Nat.le_of_eq rfl) (hb hby at_116) (fun _ _ => ⟨rfl, rfl, (by decide : 1 + 2 ≤ _), (by decide : 5 + 8 ≤ _)⟩)
        dsimp only [Pt.U, Pt.locs, Pt.cells, Pt.slots] at X24 l24 y24 z24 st24 hQ24
        subst l24 y24 z24
        obtain ⟨b2_7_6_24, b2_13_6_24, k2_7_6_24, k2_13_6_24, rfl, Nq24, Kc24, P0_24, P1_24, P2_24, P3_24, P4_24, P5_24, P6_24, P7_24, P8_24, P9_24, P10_24⟩ := hQ24
        have N24 := Fr.app N19 Nq24
        have ne_b18_b2_7_6_24 : b18 ≠ b2_7_6_24 := Nat.ne_of_lt (Nat.lt_of_lt_of_le P0_19.lt P8_24)
        have ne_b18_b2_13_6_24 : b18 ≠ b2_13_6_24 := Nat.ne_of_lt (Nat.lt_of_lt_of_le P0_19.lt P9_24)
        have g_b2_7_6_24 : n0 ≤ b2_7_6_24 := Nat.le_trans (own_old O19) P8_24
        have sz_b2_7_6_24 : h0.size ≤ b2_7_6_24 := Nat.le_trans K19.1 P8_24
        have g_b2_13_6_24 : n0 ≤ b2_13_6_24 := Nat.le_trans (own_old O19) P9_24
        have sz_b2_13_6_24 : h0.size ≤ b2_13_6_24 := Nat.le_trans K19.1 P9_24
        have O24 := O19.keep Kc24 (allS g_b18 all0)
        have K24 : Keep h0 T24.heap [] := K19.trans Kc24 (allS (Or.inr sz_b18) all0)
        obtain ⟨_, _, ⟨T25, L25, k25, n25⟩, -, X25, ⟨Lc25, hQ25, l25, y25, z25⟩, st25⟩ := Jvm.LawKit.callS X24 hx (y := My15) hown (mvT hZ (ww hw 75 rfl)) (mvT hZ (ww hw 76 rfl)) (mvT hZ (ww hw 2 rfl)) (mvT hZ (ww hw 77 rfl)) (by decide) (backOf (W := 0) (mg15_1 l Z a0 hw [] w_NONE v0 v1 v6 T24.heap n0 O24 S) hZ (ww hw 77 rfl) (ww hw 2 rfl) (by decide) (by decide)) (g := (mkF m 128 #[vi p0, vl p1, ss, vl p2, ss, vl p3, ss, vl p4, ss, vl p5, ss, vl v0, ss, vl v1, ss, vl v2, ss, vl v3, ss, vi 2, vi 1, vl v6, ss, va b18, vl 0, ss] [(.long v6), (.int 1), (.long v1), (.long v0)])) rfl (by rw [hml]; rfl) (argsL := [(.long v0), (.long v1), (.int 1), (.long v6)]) (rest := []) (lenOf pd_10 rfl) rfl (by show 2 * 0 + _ ≤ _; exact Nat.le_of_eq rfl) (hb hby at_128) (fun _ _ => ⟨rfl, rfl, (by decide : 3 + 0 ≤ _), (by decide : 13 + 0 ≤ _)⟩)
        dsimp only [Pt.U, Pt.locs, Pt.cells, Pt.slots] at X25 l25 y25 z25 st25 hQ25
        subst l25 y25 z25
        obtain ⟨rfl, Nq25, e25⟩ := hQ25
        have N25 := Fr.app N24 Nq25
        have pre_26 : ∀ t, Steps p.tables e below (T25.setTop (mkF m 139 #[vi p0, vl p1, ss, vl p2, ss, vl p3, ss, vl p4, ss, vl p5, ss, vl v0, ss, vl v1, ss, vl v2, ss, vl v3, ss, vi 2, vi 1, vl v6, ss, va b18, vl (own_part1 v0 v1 v6), ss] [])) t → Steps p.tables e below (s₁.setTop (mkF m 0 #[vi p0, vl p1, ss, vl p2, ss, vl p3, ss, vl p4, ss, vl p5, ss, uu, uu, uu, uu, uu, uu, uu, uu, uu, uu, uu, uu, uu, uu, uu] [])) t := fun t k => pre_23 t (by
          show Steps p.tables e below (T19.setTop (mkF m 116 #[vi p0, vl p1, ss, vl p2, ss, vl p3, ss, vl p4, ss, vl p5, ss, vl v0, ss, vl v1, ss, vl v2, ss, vl v3, ss, vi 2, vi 1, vl v6, ss, va b18, vl 0, ss] [(.long v1), (.long v0), (.ref b18)])) _
          refine st24.trans ?_
          refine XS.pop X24.here hx rfl (hb hby at_119) rfl rfl ?_
          refine XS.lload X24.here hx rfl (hb hby at_120) rfl ?_
          refine XS.lload X24.here hx rfl (hb hby at_122) rfl ?_
          refine XS.iload X24.here hx rfl (hb hby at_124) rfl ?_
          refine XS.lload X24.here hx rfl (hb hby at_126) rfl ?_
          refine st25 _ ?_
          refine XS.lstore X25.here hx rfl (hb hby at_131) rfl (l' := #[vi p0, vl p1, ss, vl p2, ss, vl p3, ss, vl p4, ss, vl p5, ss, vl v0, ss, vl v1, ss, vl v2, ss, vl v3, ss, vi 2, vi 1, vl v6, ss, va b18, vl (own_part1 v0 v1 v6), ss]) rfl ?_
          show Steps p.tables e below (T25.setTop (mkF m 133 #[vi p0, vl p1, ss, vl p2, ss, vl p3, ss, vl p4, ss, vl p5, ss, vl v0, ss, vl v1, ss, vl v2, ss, vl v3, ss, vi 2, vi 1, vl v6, ss, va b18, vl (own_part1 v0 v1 v6), ss] [])) _
          refine XS.iload X25.here hx rfl (hb hby at_133) rfl ?_
          refine XS.iconst X25.here hx rfl (hb hby at_135) ?_
          refine XS.icmpNo X25.here hx rfl (hb hby at_136) rfl (flt (by decide : ¬ ((2 : Int32) < (2 : Int32)))).1 ?_
          exact k)
        obtain ⟨U, o, st, rest⟩ := jn5 (a0 := a0) hx hZ hby hml hown hrt hlk hw w_NONE b18 b2_7_6_24 b2_13_6_24 k2_7_6_24 k2_13_6_24 p0 p1 p2 p3 p4 p5 v0 v1 v2 v3 v6 p0 (2 : Int32) (X25.more (by decide) (by decide)) e25 N25 O24 S P0_24 P1_24 P2_24 P3_24 P4_24 P5_24 P6_24 P7_24 ne_b18_b2_7_6_24 ne_b18_b2_13_6_24 P10_24 g_b18 g_b2_7_6_24 g_b2_13_6_24 nf0 nf1 nf2
        exact ⟨U, o, pre_26 _ st, rest⟩
      · obtain ⟨cq24, kq24, q24a, q24b, q24c⟩ := isOf hZ rfl P0_19
        obtain ⟨_, _, ⟨T24, L24, k24, n24⟩, -, X24, ⟨Lc24, hQ24, l24, y24, z24⟩, st24⟩ := X19.virtualBack hx (y := My8) (z := My8) hown (mvT hZ (ww hw 41 rfl)) (mvT hZ (ww hw 42 rfl)) (notFace_of_selects (args := #[]) (mvT hZ (ww hw 44 rfl))) (mvT hZ (ww hw 44 rfl)) (mvT hZ (ww hw 43 rfl)) (by decide) (backOf (W := 0) (rm8_0 l Z a0 hw [] w_NONE b18 v0 v1 T19.heap n0 O19 S P0_19 P1_19 P2_19 P3_19 P4_19 P5_19 g_b18 hc20 hc21 hc22) hZ (ww hw 45 rfl) (ww hw 15 rfl) (by decide) (by decide)) q24a q24c (g := (mkF m 116 #[vi p0, vl p1, ss, vl p2, ss, vl p3, ss, vl p4, ss, vl p5, ss, vl v0, ss, vl v1, ss, vl v2, ss, vl v3, ss, vi 2, vi 1, vl v6, ss, va b18, vl 0, ss] [(.long v1), (.long v0), (.ref b18)])) rfl (by rw [hml]; rfl) (Steps.refl _) (argsL := [(.long v0), (.long v1)]) (rest := []) (lenOf pd_9 rfl) rfl (by show 2 * 0 + _ ≤ _; exact Nat.le_of_eq rfl) (hb hby at_116) (fun _ _ => ⟨rfl, rfl, (by decide : 1 + 2 ≤ _), (by decide : 5 + 8 ≤ _)⟩)
        dsimp only [Pt.U, Pt.locs, Pt.cells, Pt.slots] at X24 l24 y24 z24 st24 hQ24
        subst l24 y24 z24
        obtain ⟨b2_7_6_24, b2_13_6_24, k2_7_6_24, k2_13_6_24, rfl, Nq24, Kc24, P0_24, P1_24, P2_24, P3_24, P4_24, P5_24, P6_24, P7_24, P8_24, P9_24, P10_24⟩ := hQ24
        have N24 := Fr.app N19 Nq24
        have ne_b18_b2_7_6_24 : b18 ≠ b2_7_6_24 := Nat.ne_of_lt (Nat.lt_of_lt_of_le P0_19.lt P8_24)
        have ne_b18_b2_13_6_24 : b18 ≠ b2_13_6_24 := Nat.ne_of_lt (Nat.lt_of_lt_of_le P0_19.lt P9_24)
        have g_b2_7_6_24 : n0 ≤ b2_7_6_24 := Nat.le_trans (own_old O19) P8_24
        have sz_b2_7_6_24 : h0.size ≤ b2_7_6_24 := Nat.le_trans K19.1 P8_24
        have g_b2_13_6_24 : n0 ≤ b2_13_6_24 := Nat.le_trans (own_old O19) P9_24
        have sz_b2_13_6_24 : h0.size ≤ b2_13_6_24 := Nat.le_trans K19.1 P9_24
        have O24 := O19.keep Kc24 (allS g_b18 all0)
        have K24 : Keep h0 T24.heap [] := K19.trans Kc24 (allS (Or.inr sz_b18) all0)
        obtain ⟨_, _, ⟨T25, L25, k25, n25⟩, -, X25, ⟨Lc25, hQ25, l25, y25, z25⟩, st25⟩ := Jvm.LawKit.callS X24 hx (y := My15) hown (mvT hZ (ww hw 75 rfl)) (mvT hZ (ww hw 76 rfl)) (mvT hZ (ww hw 2 rfl)) (mvT hZ (ww hw 77 rfl)) (by decide) (backOf (W := 0) (mg15_1 l Z a0 hw [] w_NONE v0 v1 v6 T24.heap n0 O24 S) hZ (ww hw 77 rfl) (ww hw 2 rfl) (by decide) (by decide)) (g := (mkF m 128 #[vi p0, vl p1, ss, vl p2, ss, vl p3, ss, vl p4, ss, vl p5, ss, vl v0, ss, vl v1, ss, vl v2, ss, vl v3, ss, vi 2, vi 1, vl v6, ss, va b18, vl 0, ss] [(.long v6), (.int 1), (.long v1), (.long v0)])) rfl (by rw [hml]; rfl) (argsL := [(.long v0), (.long v1), (.int 1), (.long v6)]) (rest := []) (lenOf pd_10 rfl) rfl (by show 2 * 0 + _ ≤ _; exact Nat.le_of_eq rfl) (hb hby at_128) (fun _ _ => ⟨rfl, rfl, (by decide : 3 + 0 ≤ _), (by decide : 13 + 0 ≤ _)⟩)
        dsimp only [Pt.U, Pt.locs, Pt.cells, Pt.slots] at X25 l25 y25 z25 st25 hQ25
        subst l25 y25 z25
        obtain ⟨rfl, Nq25, e25⟩ := hQ25
        have N25 := Fr.app N24 Nq25
        have pre_26 : ∀ t, Steps p.tables e below (T25.setTop (mkF m 139 #[vi p0, vl p1, ss, vl p2, ss, vl p3, ss, vl p4, ss, vl p5, ss, vl v0, ss, vl v1, ss, vl v2, ss, vl v3, ss, vi 2, vi 1, vl v6, ss, va b18, vl (own_part1 v0 v1 v6), ss] [])) t → Steps p.tables e below (s₁.setTop (mkF m 0 #[vi p0, vl p1, ss, vl p2, ss, vl p3, ss, vl p4, ss, vl p5, ss, uu, uu, uu, uu, uu, uu, uu, uu, uu, uu, uu, uu, uu, uu, uu] [])) t := fun t k => pre_23 t (by
          show Steps p.tables e below (T19.setTop (mkF m 116 #[vi p0, vl p1, ss, vl p2, ss, vl p3, ss, vl p4, ss, vl p5, ss, vl v0, ss, vl v1, ss, vl v2, ss, vl v3, ss, vi 2, vi 1, vl v6, ss, va b18, vl 0, ss] [(.long v1), (.long v0), (.ref b18)])) _
          refine st24.trans ?_
          refine XS.pop X24.here hx rfl (hb hby at_119) rfl rfl ?_
          refine XS.lload X24.here hx rfl (hb hby at_120) rfl ?_
          refine XS.lload X24.here hx rfl (hb hby at_122) rfl ?_
          refine XS.iload X24.here hx rfl (hb hby at_124) rfl ?_
          refine XS.lload X24.here hx rfl (hb hby at_126) rfl ?_
          refine st25 _ ?_
          refine XS.lstore X25.here hx rfl (hb hby at_131) rfl (l' := #[vi p0, vl p1, ss, vl p2, ss, vl p3, ss, vl p4, ss, vl p5, ss, vl v0, ss, vl v1, ss, vl v2, ss, vl v3, ss, vi 2, vi 1, vl v6, ss, va b18, vl (own_part1 v0 v1 v6), ss]) rfl ?_
          show Steps p.tables e below (T25.setTop (mkF m 133 #[vi p0, vl p1, ss, vl p2, ss, vl p3, ss, vl p4, ss, vl p5, ss, vl v0, ss, vl v1, ss, vl v2, ss, vl v3, ss, vi 2, vi 1, vl v6, ss, va b18, vl (own_part1 v0 v1 v6), ss] [])) _
          refine XS.iload X25.here hx rfl (hb hby at_133) rfl ?_
          refine XS.iconst X25.here hx rfl (hb hby at_135) ?_
          refine XS.icmpNo X25.here hx rfl (hb hby at_136) rfl (flt (by decide : ¬ ((2 : Int32) < (2 : Int32)))).1 ?_
          exact k)
        obtain ⟨U, o, st, rest⟩ := jn5 (a0 := a0) hx hZ hby hml hown hrt hlk hw w_NONE b18 b2_7_6_24 b2_13_6_24 k2_7_6_24 k2_13_6_24 p0 p1 p2 p3 p4 p5 v0 v1 v2 v3 v6 p0 (2 : Int32) (X25.more (by decide) (by decide)) e25 N25 O24 S P0_24 P1_24 P2_24 P3_24 P4_24 P5_24 P6_24 P7_24 ne_b18_b2_7_6_24 ne_b18_b2_13_6_24 P10_24 g_b18 g_b2_7_6_24 g_b2_13_6_24 nf0 nf1 nf2
        exact ⟨U, o, pre_26 _ st, rest⟩
  · have pre_16 : ∀ t, Steps p.tables e below (T12.setTop (mkF m 75 #[vi p0, vl p1, ss, vl p2, ss, vl p3, ss, vl p4, ss, vl p5, ss, vl v0, ss, vl v1, ss, vl v2, ss, vl v3, ss, vi v4, uu, uu, uu, uu, uu, uu] [(.int ((p0 >>> ((2 : Int32) &&& 31)) &&& (1 : Int32)))])) t → Steps p.tables e below (s₁.setTop (mkF m 0 #[vi p0, vl p1, ss, vl p2, ss, vl p3, ss, vl p4, ss, vl p5, ss, uu, uu, uu, uu, uu, uu, uu, uu, uu, uu, uu, uu, uu, uu, uu] [])) t := fun t k => pre_14 t (by
      show Steps p.tables e below (T12.setTop (mkF m 64 #[vi p0, vl p1, ss, vl p2, ss, vl p3, ss, vl p4, ss, vl p5, ss, vl v0, ss, vl v1, ss, vl v2, ss, vl v3, ss, vi v4, uu, uu, uu, uu, uu, uu] [(.int 3), (.int v4)])) _
      refine XS.icmpYes X12.here hx rfl (pc0 := 64) (pc' := 70) rfl (hb hby at_64) rfl (feq hc13).2 (by decide) (by decide) ?_
      refine XS.iloadN X12.here hx rfl (hb hby at_70) rfl ?_
      refine XS.iconst X12.here hx rfl (hb hby at_71) ?_
      refine XS.ishr X12.here hx rfl (hb hby at_72) rfl ?_
      refine XS.iconst X12.here hx rfl (hb hby at_73) ?_
      refine XS.iand X12.here hx rfl (hb hby at_74) rfl ?_
      exact k)
    by_cases hc15 : ((p0 >>> ((2 : Int32) &&& 31)) &&& (1 : Int32)) = (0 : Int32)
    · obtain ⟨_, _, ⟨T17, L17, k17, n17⟩, -, X17, ⟨Lc17, hQ17, l17, y17, z17⟩, st17⟩ := Jvm.LawKit.callS X12 hx (y := My1) hown (mvT hZ (ww hw 0 rfl)) (mvT hZ (ww hw 1 rfl)) (mvT hZ (ww hw 2 rfl)) (mvT hZ (ww hw 3 rfl)) (by decide) (backOf (W := 0) (rm1_0 l Z a0 hw [] w_NONE p5 h0 n0 O0 S) hZ (ww hw 3 rfl) (ww hw 2 rfl) (by decide) (by decide)) (g := (mkF m 87 #[vi p0, vl p1, ss, vl p2, ss, vl p3, ss, vl p4, ss, vl p5, ss, vl v0, ss, vl v1, ss, vl v2, ss, vl v3, ss, vi v4, vi 0, uu, uu, uu, uu, uu] [(.long p5)])) rfl (by rw [hml]; rfl) (argsL := [(.long p5)]) (rest := []) (lenOf pd_1 rfl) rfl (by show 2 * 0 + _ ≤ _; exact Nat.le_of_eq rfl) (hb hby at_87) (fun _ _ => ⟨rfl, e12, (by decide : 0 + 0 ≤ _), (by decide : 0 + 0 ≤ _)⟩)
      dsimp only [Pt.U, Pt.locs, Pt.cells, Pt.slots] at X17 l17 y17 z17 st17 hQ17
      subst l17 y17 z17
      obtain ⟨rfl, Nq17, e17⟩ := hQ17
      have N17 := Fr.app N12 Nq17
      obtain ⟨v7, hv7⟩ : ∃ z : Int64, z = (own_minL (p5 &&& (9223372036854775807 : Int64)) (9223372036854775806 : Int64)) := ⟨_, rfl⟩
      have nf2 : 0 ≤ v7.toInt ∧ v7.toInt ≤ 9223372036854775806 := own_c p5 v7 hv7
      obtain ⟨T18, h18, X18, e18, E18, A18, D18, -, st18⟩ := newO X17 hx hZ hown (ww hw 13 rfl) (ww hw 14 rfl) (ww hw 15 rfl) e17 (g := (mkF m 92 #[vi p0, vl p1, ss, vl p2, ss, vl p3, ss, vl p4, ss, vl p5, ss, vl v0, ss, vl v1, ss, vl v2, ss, vl v3, ss, vi v4, vi 0, vl v7, ss, uu, uu, uu] [])) rfl (hb hby at_92) (by decide) (by decide)
      obtain ⟨b18, qs18⟩ : ∃ z, z = h0.size := ⟨_, rfl⟩
      rw [← qs18] at A18 D18 st18
      have g_b18 : n0 ≤ b18 := Nat.le_trans (own_old O0) (Nat.le_of_eq qs18.symm)
      have sz_b18 : h0.size ≤ b18 := Nat.le_trans K0.1 (Nat.le_of_eq qs18.symm)
      have O18 := O0.ext E18
      have K18 : Keep h0 h18 [] := K0.ext E18
      have F_firsts_b18 : Fld Z h18 b18 sC0 "firsts" "[J" .null := D18 (Or.inl (ww hw 29 rfl)) (ty := (.array .long)) (by decide)
      have F_lasts_b18 : Fld Z h18 b18 sC0 "lasts" "[J" .null := D18 (Or.inl (ww hw 31 rfl)) (ty := (.array .long)) (by decide)
      have F_maxRanges_b18 : Fld Z h18 b18 sC0 "maxRanges" "I" (.int 0) := D18 (Or.inr (ww hw 33 rfl)) (ty := .int) (by decide)
      have F_ranges_b18 : Fld Z h18 b18 sC0 "ranges" "I" (.int 0) := D18 (Or.inl (ww hw 40 rfl)) (ty := .int) (by decide)
      have F_count_b18 : Fld Z h18 b18 sC0 "count" "J" (.long 0) := D18 (Or.inl (ww hw 74 rfl)) (ty := .long) (by decide)
      obtain ⟨_, _, ⟨T19, L19, k19, n19⟩, -, X19, ⟨Lc19, hQ19, l19, y19, z19⟩, st19⟩ := X18.specialBack hx (y := My4) rfl hown (mvT hZ (ww hw 16 rfl)) (mvT hZ (ww hw 17 rfl)) (mvT hZ (ww hw 18 rfl)) (by decide) (backOf (W := 1) (rm4_0 l Z a0 hw [] w_NONE b18 h18 n0 O18 S A18 F_count_b18 F_firsts_b18 F_lasts_b18 F_maxRanges_b18 F_ranges_b18 g_b18) hZ (ww hw 18 rfl) (ww hw 15 rfl) (by decide) (by decide)) (g := (mkF m 96 #[vi p0, vl p1, ss, vl p2, ss, vl p3, ss, vl p4, ss, vl p5, ss, vl v0, ss, vl v1, ss, vl v2, ss, vl v3, ss, vi v4, vi 0, vl v7, ss, uu, uu, uu] [(.ref b18), (.ref b18)])) rfl (by rw [hml]; rfl) (Steps.refl _) (a := b18) (argsL := []) (rest := [(.ref b18)]) (lenOf pd_3 rfl) rfl (by show 2 * 0 + _ ≤ _; exact Nat.le_of_eq rfl) (hb hby at_96) (fun _ _ => ⟨rfl, e18, (by decide : 1 + 0 ≤ _), (by decide : 5 + 0 ≤ _)⟩)
      dsimp only [Pt.U, Pt.locs, Pt.cells, Pt.slots] at X19 l19 y19 z19 st19 hQ19
      subst l19 y19 z19
      obtain ⟨rfl, Nq19, Kc19, P0_19, P1_19, P2_19, P3_19, P4_19, P5_19⟩ := hQ19
      have N19 := Fr.app N17 Nq19
      have O19 := O18.keep Kc19 (allS g_b18 all0)
      have K19 : Keep h0 T19.heap [] := K18.trans Kc19 (allS (Or.inr sz_b18) all0)
      have pre_21 : ∀ t, Steps p.tables e below (T19.setTop (mkF m 107 #[vi p0, vl p1, ss, vl p2, ss, vl p3, ss, vl p4, ss, vl p5, ss, vl v0, ss, vl v1, ss, vl v2, ss, vl v3, ss, vi v4, vi 0, vl v7, ss, va b18, vl 0, ss] [(.int 1), (.int v4)])) t → Steps p.tables e below (s₁.setTop (mkF m 0 #[vi p0, vl p1, ss, vl p2, ss, vl p3, ss, vl p4, ss, vl p5, ss, uu, uu, uu, uu, uu, uu, uu, uu, uu, uu, uu, uu, uu, uu, uu] [])) t := fun t k => pre_16 t (by
        show Steps p.tables e below (T12.setTop (mkF m 75 #[vi p0, vl p1, ss, vl p2, ss, vl p3, ss, vl p4, ss, vl p5, ss, vl v0, ss, vl v1, ss, vl v2, ss, vl v3, ss, vi v4, uu, uu, uu, uu, uu, uu] [(.int ((p0 >>> ((2 : Int32) &&& 31)) &&& (1 : Int32)))])) _
        refine XS.ifYes X12.here hx rfl (pc0 := 75) (pc' := 82) rfl (hb hby at_75) rfl ((if0 _ _).trans (teq hc15).1) (by decide) (by decide) ?_
        refine XS.iconst X12.here hx rfl (hb hby at_82) ?_
        refine XS.istore X12.here hx rfl (hb hby at_83) rfl (l' := #[vi p0, vl p1, ss, vl p2, ss, vl p3, ss, vl p4, ss, vl p5, ss, vl v0, ss, vl v1, ss, vl v2, ss, vl v3, ss, vi v4, vi 0, uu, uu, uu, uu, uu]) rfl ?_
        refine XS.lload X12.here hx rfl (hb hby at_85) rfl ?_
        refine st17 _ ?_
        show Steps p.tables e below (T17.setTop (mkF m 90 #[vi p0, vl p1, ss, vl p2, ss, vl p3, ss, vl p4, ss, vl p5, ss, vl v0, ss, vl v1, ss, vl v2, ss, vl v3, ss, vi v4, vi 0, uu, uu, uu, uu, uu] [(.long (own_minL (p5 &&& (9223372036854775807 : Int64)) (9223372036854775806 : Int64)))])) _
        rw [← hv7]
        refine XS.lstore X17.here hx rfl (hb hby at_90) rfl (l' := #[vi p0, vl p1, ss, vl p2, ss, vl p3, ss, vl p4, ss, vl p5, ss, vl v0, ss, vl v1, ss, vl v2, ss, vl v3, ss, vi v4, vi 0, vl v7, ss, uu, uu, uu]) rfl ?_
        refine st18 _ ?_
        refine XS.dup X18.here hx rfl (hb hby at_95) rfl rfl ?_
        refine st19.trans ?_
        refine XS.astore X19.here hx rfl (hb hby at_99) rfl rfl (l' := #[vi p0, vl p1, ss, vl p2, ss, vl p3, ss, vl p4, ss, vl p5, ss, vl v0, ss, vl v1, ss, vl v2, ss, vl v3, ss, vi v4, vi 0, vl v7, ss, va b18, uu, uu]) rfl ?_
        refine XS.lconst X19.here hx rfl (hb hby at_101) ?_
        refine XS.lstore X19.here hx rfl (hb hby at_102) rfl (l' := #[vi p0, vl p1, ss, vl p2, ss, vl p3, ss, vl p4, ss, vl p5, ss, vl v0, ss, vl v1, ss, vl v2, ss, vl v3, ss, vi v4, vi 0, vl v7, ss, va b18, vl 0, ss]) rfl ?_
        refine XS.iload X19.here hx rfl (hb hby at_104) rfl ?_
        show Steps p.tables e below (T19.setTop (mkF m 106 #[vi p0, vl p1, ss, vl p2, ss, vl p3, ss, vl p4, ss, vl p5, ss, vl v0, ss, vl v1, ss, vl v2, ss, vl v3, ss, vi v4, vi 0, vl v7, ss, va b18, vl 0, ss] [(.int v4)])) _
        refine XS.iconst X19.here hx rfl (hb hby at_106) ?_
        exact k)
      by_cases hc20 : v4 < (1 : Int32)
      · have hc22 : v4 < (2 : Int32) := ow50 p0 v4 hv4 hc13 hc15 hc20
        have pre_23 : ∀ t, Steps p.tables e below (T19.setTop (mkF m 167 #[vi p0, vl p1, ss, vl p2, ss, vl p3, ss, vl p4, ss, vl p5, ss, vl v0, ss, vl v1, ss, vl v2, ss, vl v3, ss, vi v4, vi 0, vl v7, ss, va b18, vl 0, ss] [])) t → Steps p.tables e below (s₁.setTop (mkF m 0 #[vi p0, vl p1, ss, vl p2, ss, vl p3, ss, vl p4, ss, vl p5, ss, uu, uu, uu, uu, uu, uu, uu, uu, uu, uu, uu, uu, uu, uu, uu] [])) t := fun t k => pre_21 t (by
          show Steps p.tables e below (T19.setTop (mkF m 107 #[vi p0, vl p1, ss, vl p2, ss, vl p3, ss, vl p4, ss, vl p5, ss, vl v0, ss, vl v1, ss, vl v2, ss, vl v3, ss, vi v4, vi 0, vl v7, ss, va b18, vl 0, ss] [(.int 1), (.int v4)])) _
          refine XS.icmpYes X19.here hx rfl (pc0 := 107) (pc' := 133) rfl (hb hby at_107) rfl (tlt hc20).1 (by decide) (by decide) ?_
          refine XS.iload X19.here hx rfl (hb hby at_133) rfl ?_
          refine XS.iconst X19.here hx rfl (hb hby at_135) ?_
          refine XS.icmpYes X19.here hx rfl (pc0 := 136) (pc' := 167) rfl (hb hby at_136) rfl (tlt hc22).1 (by decide) (by decide) ?_
          exact k)
        obtain ⟨U, o, st, rest⟩ := jn9 (a0 := a0) hx hZ hby hml hown hrt hlk hw w_NONE b18 p0 p1 p2 p3 p4 p5 v0 v1 v2 v3 v7 p0 v4 (X19.more (by decide) (by decide)) rfl N19 O19 S P0_19 P5_19 nf0 nf1 nf2
        exact ⟨U, o, pre_23 _ st, rest⟩
      · have hc22 : ¬ (v0 < (0 : Int64)) := ow1 v0 v1 nf0
        have hc23 : ¬ (v1 < v0) := ow51 v0 v1 nf0 hc22
        have pre_25 : ∀ t, Steps p.tables e below (T19.setTop (mkF m 116 #[vi p0, vl p1, ss, vl p2, ss, vl p3, ss, vl p4, ss, vl p5, ss, vl v0, ss, vl v1, ss, vl v2, ss, vl v3, ss, vi v4, vi 0, vl v7, ss, va b18, vl 0, ss] [(.long v1), (.long v0), (.ref b18)])) t → Steps p.tables e below (s₁.setTop (mkF m 0 #[vi p0, vl p1, ss, vl p2, ss, vl p3, ss, vl p4, ss, vl p5, ss, uu, uu, uu, uu, uu, uu, uu, uu, uu, uu, uu, uu, uu, uu, uu] [])) t := fun t k => pre_21 t (by
          show Steps p.tables e below (T19.setTop (mkF m 107 #[vi p0, vl p1, ss, vl p2, ss, vl p3, ss, vl p4, ss, vl p5, ss, vl v0, ss, vl v1, ss, vl v2, ss, vl v3, ss, vi v4, vi 0, vl v7, ss, va b18, vl 0, ss] [(.int 1), (.int v4)])) _
          refine XS.icmpNo X19.here hx rfl (hb hby at_107) rfl (flt hc20).1 ?_
          refine XS.aload X19.here hx rfl (hb hby at_110) rfl rfl ?_
          refine XS.lload X19.here hx rfl (hb hby at_112) rfl ?_
          refine XS.lload X19.here hx rfl (hb hby at_114) rfl ?_
          exact k)
        by_cases hc24 : v0 = (0 : Int64)
        · obtain ⟨cq26, kq26, q26a, q26b, q26c⟩ := isOf hZ rfl P0_19
          obtain ⟨_, _, ⟨T26, L26, k26, n26⟩, -, X26, ⟨Lc26, hQ26, l26, y26, z26⟩, st26⟩ := X19.virtualBack hx (y := My8) (z := My8) hown (mvT hZ (ww hw 41 rfl)) (mvT hZ (ww hw 42 rfl)) (notFace_of_selects (args := #[]) (mvT hZ (ww hw 44 rfl))) (mvT hZ (ww hw 44 rfl)) (mvT hZ (ww hw 43 rfl)) (by decide) (backOf (W := 0) (rm8_1 l Z a0 hw [] w_NONE b18 v0 v1 T19.heap n0 O19 S P0_19 P1_19 P2_19 P3_19 P4_19 P5_19 g_b18 hc22 hc23 hc24) hZ (ww hw 45 rfl) (ww hw 15 rfl) (by decide) (by decide)) q26a q26c (g := (mkF m 116 #[vi p0, vl p1, ss, vl p2, ss, vl p3, ss, vl p4, ss, vl p5, ss, vl v0, ss, vl v1, ss, vl v2, ss, vl v3, ss, vi v4, vi 0, vl v7, ss, va b18, vl 0, ss] [(.long v1), (.long v0), (.ref b18)])) rfl (by rw [hml]; rfl) (Steps.refl _) (argsL := [(.long v0), (.long v1)]) (rest := []) (lenOf pd_9 rfl) rfl (by show 2 * 0 + _ ≤ _; exact Nat.le_of_eq rfl) (hb hby at_116) (fun _ _ => ⟨rfl, rfl, (by decide : 1 + 2 ≤ _), (by decide : 5 + 8 ≤ _)⟩)
          dsimp only [Pt.U, Pt.locs, Pt.cells, Pt.slots] at X26 l26 y26 z26 st26 hQ26
          subst l26 y26 z26
          obtain ⟨b2_7_6_26, b2_13_6_26, k2_7_6_26, k2_13_6_26, rfl, Nq26, Kc26, P0_26, P1_26, P2_26, P3_26, P4_26, P5_26, P6_26, P7_26, P8_26, P9_26, P10_26⟩ := hQ26
          have N26 := Fr.app N19 Nq26
          have ne_b18_b2_7_6_26 : b18 ≠ b2_7_6_26 := Nat.ne_of_lt (Nat.lt_of_lt_of_le P0_19.lt P8_26)
          have ne_b18_b2_13_6_26 : b18 ≠ b2_13_6_26 := Nat.ne_of_lt (Nat.lt_of_lt_of_le P0_19.lt P9_26)
          have g_b2_7_6_26 : n0 ≤ b2_7_6_26 := Nat.le_trans (own_old O19) P8_26
          have sz_b2_7_6_26 : h0.size ≤ b2_7_6_26 := Nat.le_trans K19.1 P8_26
          have g_b2_13_6_26 : n0 ≤ b2_13_6_26 := Nat.le_trans (own_old O19) P9_26
          have sz_b2_13_6_26 : h0.size ≤ b2_13_6_26 := Nat.le_trans K19.1 P9_26
          have O26 := O19.keep Kc26 (allS g_b18 all0)
          have K26 : Keep h0 T26.heap [] := K19.trans Kc26 (allS (Or.inr sz_b18) all0)
          obtain ⟨_, _, ⟨T27, L27, k27, n27⟩, -, X27, ⟨Lc27, hQ27, l27, y27, z27⟩, st27⟩ := Jvm.LawKit.callS X26 hx (y := My15) hown (mvT hZ (ww hw 75 rfl)) (mvT hZ (ww hw 76 rfl)) (mvT hZ (ww hw 2 rfl)) (mvT hZ (ww hw 77 rfl)) (by decide) (backOf (W := 0) (mg15_0 l Z a0 hw [] w_NONE v0 v1 v7 T26.heap n0 O26 S) hZ (ww hw 77 rfl) (ww hw 2 rfl) (by decide) (by decide)) (g := (mkF m 128 #[vi p0, vl p1, ss, vl p2, ss, vl p3, ss, vl p4, ss, vl p5, ss, vl v0, ss, vl v1, ss, vl v2, ss, vl v3, ss, vi v4, vi 0, vl v7, ss, va b18, vl 0, ss] [(.long v7), (.int 0), (.long v1), (.long v0)])) rfl (by rw [hml]; rfl) (argsL := [(.long v0), (.long v1), (.int 0), (.long v7)]) (rest := []) (lenOf pd_10 rfl) rfl (by show 2 * 0 + _ ≤ _; exact Nat.le_of_eq rfl) (hb hby at_128) (fun _ _ => ⟨rfl, rfl, (by decide : 3 + 0 ≤ _), (by decide : 13 + 0 ≤ _)⟩)
          dsimp only [Pt.U, Pt.locs, Pt.cells, Pt.slots] at X27 l27 y27 z27 st27 hQ27
          subst l27 y27 z27
          obtain ⟨rfl, Nq27, e27⟩ := hQ27
          have N27 := Fr.app N26 Nq27
          have pre_29 : ∀ t, Steps p.tables e below (T27.setTop (mkF m 136 #[vi p0, vl p1, ss, vl p2, ss, vl p3, ss, vl p4, ss, vl p5, ss, vl v0, ss, vl v1, ss, vl v2, ss, vl v3, ss, vi v4, vi 0, vl v7, ss, va b18, vl (own_part0 v0 v1 v7), ss] [(.int 2), (.int v4)])) t → Steps p.tables e below (s₁.setTop (mkF m 0 #[vi p0, vl p1, ss, vl p2, ss, vl p3, ss, vl p4, ss, vl p5, ss, uu, uu, uu, uu, uu, uu, uu, uu, uu, uu, uu, uu, uu, uu, uu] [])) t := fun t k => pre_25 t (by
            show Steps p.tables e below (T19.setTop (mkF m 116 #[vi p0, vl p1, ss, vl p2, ss, vl p3, ss, vl p4, ss, vl p5, ss, vl v0, ss, vl v1, ss, vl v2, ss, vl v3, ss, vi v4, vi 0, vl v7, ss, va b18, vl 0, ss] [(.long v1), (.long v0), (.ref b18)])) _
            refine st26.trans ?_
            refine XS.pop X26.here hx rfl (hb hby at_119) rfl rfl ?_
            refine XS.lload X26.here hx rfl (hb hby at_120) rfl ?_
            refine XS.lload X26.here hx rfl (hb hby at_122) rfl ?_
            refine XS.iload X26.here hx rfl (hb hby at_124) rfl ?_
            refine XS.lload X26.here hx rfl (hb hby at_126) rfl ?_
            refine st27 _ ?_
            refine XS.lstore X27.here hx rfl (hb hby at_131) rfl (l' := #[vi p0, vl p1, ss, vl p2, ss, vl p3, ss, vl p4, ss, vl p5, ss, vl v0, ss, vl v1, ss, vl v2, ss, vl v3, ss, vi v4, vi 0, vl v7, ss, va b18, vl (own_part0 v0 v1 v7), ss]) rfl ?_
            show Steps p.tables e below (T27.setTop (mkF m 133 #[vi p0, vl p1, ss, vl p2, ss, vl p3, ss, vl p4, ss, vl p5, ss, vl v0, ss, vl v1, ss, vl v2, ss, vl v3, ss, vi v4, vi 0, vl v7, ss, va b18, vl (own_part0 v0 v1 v7), ss] [])) _
            refine XS.iload X27.here hx rfl (hb hby at_133) rfl ?_
            refine XS.iconst X27.here hx rfl (hb hby at_135) ?_
            exact k)
          by_cases hc28 : v4 < (2 : Int32)
          · have pre_30 : ∀ t, Steps p.tables e below (T27.setTop (mkF m 167 #[vi p0, vl p1, ss, vl p2, ss, vl p3, ss, vl p4, ss, vl p5, ss, vl v0, ss, vl v1, ss, vl v2, ss, vl v3, ss, vi v4, vi 0, vl v7, ss, va b18, vl (own_part0 v0 v1 v7), ss] [])) t → Steps p.tables e below (s₁.setTop (mkF m 0 #[vi p0, vl p1, ss, vl p2, ss, vl p3, ss, vl p4, ss, vl p5, ss, uu, uu, uu, uu, uu, uu, uu, uu, uu, uu, uu, uu, uu, uu, uu] [])) t := fun t k => pre_29 t (by
              show Steps p.tables e below (T27.setTop (mkF m 136 #[vi p0, vl p1, ss, vl p2, ss, vl p3, ss, vl p4, ss, vl p5, ss, vl v0, ss, vl v1, ss, vl v2, ss, vl v3, ss, vi v4, vi 0, vl v7, ss, va b18, vl (own_part0 v0 v1 v7), ss] [(.int 2), (.int v4)])) _
              refine XS.icmpYes X27.here hx rfl (pc0 := 136) (pc' := 167) rfl (hb hby at_136) rfl (tlt hc28).1 (by decide) (by decide) ?_
              exact k)
            obtain ⟨U, o, st, rest⟩ := jn10 (a0 := a0) hx hZ hby hml hown hrt hlk hw w_NONE b18 b2_7_6_26 b2_13_6_26 k2_7_6_26 k2_13_6_26 p0 p1 p2 p3 p4 p5 v0 v1 v2 v3 v7 p0 v4 (X27.more (by decide) (by decide)) e27 N27 O26 S P0_26 P3_26 P5_26 P7_26 nf0 nf1 nf2
            exact ⟨U, o, pre_30 _ st, rest⟩
          · have pre_30 : ∀ t, Steps p.tables e below (T27.setTop (mkF m 139 #[vi p0, vl p1, ss, vl p2, ss, vl p3, ss, vl p4, ss, vl p5, ss, vl v0, ss, vl v1, ss, vl v2, ss, vl v3, ss, vi v4, vi 0, vl v7, ss, va b18, vl (own_part0 v0 v1 v7), ss] [])) t → Steps p.tables e below (s₁.setTop (mkF m 0 #[vi p0, vl p1, ss, vl p2, ss, vl p3, ss, vl p4, ss, vl p5, ss, uu, uu, uu, uu, uu, uu, uu, uu, uu, uu, uu, uu, uu, uu, uu] [])) t := fun t k => pre_29 t (by
              show Steps p.tables e below (T27.setTop (mkF m 136 #[vi p0, vl p1, ss, vl p2, ss, vl p3, ss, vl p4, ss, vl p5, ss, vl v0, ss, vl v1, ss, vl v2, ss, vl v3, ss, vi v4, vi 0, vl v7, ss, va b18, vl (own_part0 v0 v1 v7), ss] [(.int 2), (.int v4)])) _
              refine XS.icmpNo X27.here hx rfl (hb hby at_136) rfl (flt hc28).1 ?_
              exact k)
            obtain ⟨U, o, st, rest⟩ := jn1 (a0 := a0) hx hZ hby hml hown hrt hlk hw w_NONE b18 b2_7_6_26 b2_13_6_26 k2_7_6_26 k2_13_6_26 p0 p1 p2 p3 p4 p5 v0 v1 v2 v3 v7 p0 v4 (X27.more (by decide) (by decide)) e27 N27 O26 S P0_26 P1_26 P2_26 P3_26 P4_26 P5_26 P6_26 P7_26 ne_b18_b2_7_6_26 ne_b18_b2_13_6_26 P10_26 g_b18 g_b2_7_6_26 g_b2_13_6_26 nf0 nf1 nf2
            exact ⟨U, o, pre_30 _ st, rest⟩
        · obtain ⟨cq26, kq26, q26a, q26b, q26c⟩ := isOf hZ rfl P0_19
          obtain ⟨_, _, ⟨T26, L26, k26, n26⟩, -, X26, ⟨Lc26, hQ26, l26, y26, z26⟩, st26⟩ := X19.virtualBack hx (y := My8) (z := My8) hown (mvT hZ (ww hw 41 rfl)) (mvT hZ (ww hw 42 rfl)) (notFace_of_selects (args := #[]) (mvT hZ (ww hw 44 rfl))) (mvT hZ (ww hw 44 rfl)) (mvT hZ (ww hw 43 rfl)) (by decide) (backOf (W := 0) (rm8_0 l Z a0 hw [] w_NONE b18 v0 v1 T19.heap n0 O19 S P0_19 P1_19 P2_19 P3_19 P4_19 P5_19 g_b18 hc22 hc23 hc24) hZ (ww hw 45 rfl) (ww hw 15 rfl) (by decide) (by decide)) q26a q26c (g := (mkF m 116 #[vi p0, vl p1, ss, vl p2, ss, vl p3, ss, vl p4, ss, vl p5, ss, vl v0, ss, vl v1, ss, vl v2, ss, vl v3, ss, vi v4, vi 0, vl v7, ss, va b18, vl 0, ss] [(.long v1), (.long v0), (.ref b18)])) rfl (by rw [hml]; rfl) (Steps.refl _) (argsL := [(.long v0), (.long v1)]) (rest := []) (lenOf pd_9 rfl) rfl (by show 2 * 0 + _ ≤ _; exact Nat.le_of_eq rfl) (hb hby at_116) (fun _ _ => ⟨rfl, rfl, (by decide : 1 + 2 ≤ _), (by decide : 5 + 8 ≤ _)⟩)
          dsimp only [Pt.U, Pt.locs, Pt.cells, Pt.slots] at X26 l26 y26 z26 st26 hQ26
          subst l26 y26 z26
          obtain ⟨b2_7_6_26, b2_13_6_26, k2_7_6_26, k2_13_6_26, rfl, Nq26, Kc26, P0_26, P1_26, P2_26, P3_26, P4_26, P5_26, P6_26, P7_26, P8_26, P9_26, P10_26⟩ := hQ26
          have N26 := Fr.app N19 Nq26
          have ne_b18_b2_7_6_26 : b18 ≠ b2_7_6_26 := Nat.ne_of_lt (Nat.lt_of_lt_of_le P0_19.lt P8_26)
          have ne_b18_b2_13_6_26 : b18 ≠ b2_13_6_26 := Nat.ne_of_lt (Nat.lt_of_lt_of_le P0_19.lt P9_26)
          have g_b2_7_6_26 : n0 ≤ b2_7_6_26 := Nat.le_trans (own_old O19) P8_26
          have sz_b2_7_6_26 : h0.size ≤ b2_7_6_26 := Nat.le_trans K19.1 P8_26
          have g_b2_13_6_26 : n0 ≤ b2_13_6_26 := Nat.le_trans (own_old O19) P9_26
          have sz_b2_13_6_26 : h0.size ≤ b2_13_6_26 := Nat.le_trans K19.1 P9_26
          have O26 := O19.keep Kc26 (allS g_b18 all0)
          have K26 : Keep h0 T26.heap [] := K19.trans Kc26 (allS (Or.inr sz_b18) all0)
          obtain ⟨_, _, ⟨T27, L27, k27, n27⟩, -, X27, ⟨Lc27, hQ27, l27, y27, z27⟩, st27⟩ := Jvm.LawKit.callS X26 hx (y := My15) hown (mvT hZ (ww hw 75 rfl)) (mvT hZ (ww hw 76 rfl)) (mvT hZ (ww hw 2 rfl)) (mvT hZ (ww hw 77 rfl)) (by decide) (backOf (W := 0) (mg15_0 l Z a0 hw [] w_NONE v0 v1 v7 T26.heap n0 O26 S) hZ (ww hw 77 rfl) (ww hw 2 rfl) (by decide) (by decide)) (g := (mkF m 128 #[vi p0, vl p1, ss, vl p2, ss, vl p3, ss, vl p4, ss, vl p5, ss, vl v0, ss, vl v1, ss, vl v2, ss, vl v3, ss, vi v4, vi 0, vl v7, ss, va b18, vl 0, ss] [(.long v7), (.int 0), (.long v1), (.long v0)])) rfl (by rw [hml]; rfl) (argsL := [(.long v0), (.long v1), (.int 0), (.long v7)]) (rest := []) (lenOf pd_10 rfl) rfl (by show 2 * 0 + _ ≤ _; exact Nat.le_of_eq rfl) (hb hby at_128) (fun _ _ => ⟨rfl, rfl, (by decide : 3 + 0 ≤ _), (by decide : 13 + 0 ≤ _)⟩)
          dsimp only [Pt.U, Pt.locs, Pt.cells, Pt.slots] at X27 l27 y27 z27 st27 hQ27
          subst l27 y27 z27
          obtain ⟨rfl, Nq27, e27⟩ := hQ27
          have N27 := Fr.app N26 Nq27
          have pre_29 : ∀ t, Steps p.tables e below (T27.setTop (mkF m 136 #[vi p0, vl p1, ss, vl p2, ss, vl p3, ss, vl p4, ss, vl p5, ss, vl v0, ss, vl v1, ss, vl v2, ss, vl v3, ss, vi v4, vi 0, vl v7, ss, va b18, vl (own_part0 v0 v1 v7), ss] [(.int 2), (.int v4)])) t → Steps p.tables e below (s₁.setTop (mkF m 0 #[vi p0, vl p1, ss, vl p2, ss, vl p3, ss, vl p4, ss, vl p5, ss, uu, uu, uu, uu, uu, uu, uu, uu, uu, uu, uu, uu, uu, uu, uu] [])) t := fun t k => pre_25 t (by
            show Steps p.tables e below (T19.setTop (mkF m 116 #[vi p0, vl p1, ss, vl p2, ss, vl p3, ss, vl p4, ss, vl p5, ss, vl v0, ss, vl v1, ss, vl v2, ss, vl v3, ss, vi v4, vi 0, vl v7, ss, va b18, vl 0, ss] [(.long v1), (.long v0), (.ref b18)])) _
            refine st26.trans ?_
            refine XS.pop X26.here hx rfl (hb hby at_119) rfl rfl ?_
            refine XS.lload X26.here hx rfl (hb hby at_120) rfl ?_
            refine XS.lload X26.here hx rfl (hb hby at_122) rfl ?_
            refine XS.iload X26.here hx rfl (hb hby at_124) rfl ?_
            refine XS.lload X26.here hx rfl (hb hby at_126) rfl ?_
            refine st27 _ ?_
            refine XS.lstore X27.here hx rfl (hb hby at_131) rfl (l' := #[vi p0, vl p1, ss, vl p2, ss, vl p3, ss, vl p4, ss, vl p5, ss, vl v0, ss, vl v1, ss, vl v2, ss, vl v3, ss, vi v4, vi 0, vl v7, ss, va b18, vl (own_part0 v0 v1 v7), ss]) rfl ?_
            show Steps p.tables e below (T27.setTop (mkF m 133 #[vi p0, vl p1, ss, vl p2, ss, vl p3, ss, vl p4, ss, vl p5, ss, vl v0, ss, vl v1, ss, vl v2, ss, vl v3, ss, vi v4, vi 0, vl v7, ss, va b18, vl (own_part0 v0 v1 v7), ss] [])) _
            refine XS.iload X27.here hx rfl (hb hby at_133) rfl ?_
            refine XS.iconst X27.here hx rfl (hb hby at_135) ?_
            exact k)
          by_cases hc28 : v4 < (2 : Int32)
          · have pre_30 : ∀ t, Steps p.tables e below (T27.setTop (mkF m 167 #[vi p0, vl p1, ss, vl p2, ss, vl p3, ss, vl p4, ss, vl p5, ss, vl v0, ss, vl v1, ss, vl v2, ss, vl v3, ss, vi v4, vi 0, vl v7, ss, va b18, vl (own_part0 v0 v1 v7), ss] [])) t → Steps p.tables e below (s₁.setTop (mkF m 0 #[vi p0, vl p1, ss, vl p2, ss, vl p3, ss, vl p4, ss, vl p5, ss, uu, uu, uu, uu, uu, uu, uu, uu, uu, uu, uu, uu, uu, uu, uu] [])) t := fun t k => pre_29 t (by
              show Steps p.tables e below (T27.setTop (mkF m 136 #[vi p0, vl p1, ss, vl p2, ss, vl p3, ss, vl p4, ss, vl p5, ss, vl v0, ss, vl v1, ss, vl v2, ss, vl v3, ss, vi v4, vi 0, vl v7, ss, va b18, vl (own_part0 v0 v1 v7), ss] [(.int 2), (.int v4)])) _
              refine XS.icmpYes X27.here hx rfl (pc0 := 136) (pc' := 167) rfl (hb hby at_136) rfl (tlt hc28).1 (by decide) (by decide) ?_
              exact k)
            obtain ⟨U, o, st, rest⟩ := jn10 (a0 := a0) hx hZ hby hml hown hrt hlk hw w_NONE b18 b2_7_6_26 b2_13_6_26 k2_7_6_26 k2_13_6_26 p0 p1 p2 p3 p4 p5 v0 v1 v2 v3 v7 p0 v4 (X27.more (by decide) (by decide)) e27 N27 O26 S P0_26 P3_26 P5_26 P7_26 nf0 nf1 nf2
            exact ⟨U, o, pre_30 _ st, rest⟩
          · have pre_30 : ∀ t, Steps p.tables e below (T27.setTop (mkF m 139 #[vi p0, vl p1, ss, vl p2, ss, vl p3, ss, vl p4, ss, vl p5, ss, vl v0, ss, vl v1, ss, vl v2, ss, vl v3, ss, vi v4, vi 0, vl v7, ss, va b18, vl (own_part0 v0 v1 v7), ss] [])) t → Steps p.tables e below (s₁.setTop (mkF m 0 #[vi p0, vl p1, ss, vl p2, ss, vl p3, ss, vl p4, ss, vl p5, ss, uu, uu, uu, uu, uu, uu, uu, uu, uu, uu, uu, uu, uu, uu, uu] [])) t := fun t k => pre_29 t (by
              show Steps p.tables e below (T27.setTop (mkF m 136 #[vi p0, vl p1, ss, vl p2, ss, vl p3, ss, vl p4, ss, vl p5, ss, vl v0, ss, vl v1, ss, vl v2, ss, vl v3, ss, vi v4, vi 0, vl v7, ss, va b18, vl (own_part0 v0 v1 v7), ss] [(.int 2), (.int v4)])) _
              refine XS.icmpNo X27.here hx rfl (hb hby at_136) rfl (flt hc28).1 ?_
              exact k)
            obtain ⟨U, o, st, rest⟩ := jn1 (a0 := a0) hx hZ hby hml hown hrt hlk hw w_NONE b18 b2_7_6_26 b2_13_6_26 k2_7_6_26 k2_13_6_26 p0 p1 p2 p3 p4 p5 v0 v1 v2 v3 v7 p0 v4 (X27.more (by decide) (by decide)) e27 N27 O26 S P0_26 P1_26 P2_26 P3_26 P4_26 P5_26 P6_26 P7_26 ne_b18_b2_7_6_26 ne_b18_b2_13_6_26 P10_26 g_b18 g_b2_7_6_26 g_b2_13_6_26 nf0 nf1 nf2
            exact ⟨U, o, pre_30 _ st, rest⟩
    · obtain ⟨_, _, ⟨T17, L17, k17, n17⟩, -, X17, ⟨Lc17, hQ17, l17, y17, z17⟩, st17⟩ := Jvm.LawKit.callS X12 hx (y := My1) hown (mvT hZ (ww hw 0 rfl)) (mvT hZ (ww hw 1 rfl)) (mvT hZ (ww hw 2 rfl)) (mvT hZ (ww hw 3 rfl)) (by decide) (backOf (W := 0) (rm1_0 l Z a0 hw [] w_NONE p5 h0 n0 O0 S) hZ (ww hw 3 rfl) (ww hw 2 rfl) (by decide) (by decide)) (g := (mkF m 87 #[vi p0, vl p1, ss, vl p2, ss, vl p3, ss, vl p4, ss, vl p5, ss, vl v0, ss, vl v1, ss, vl v2, ss, vl v3, ss, vi v4, vi 1, uu, uu, uu, uu, uu] [(.long p5)])) rfl (by rw [hml]; rfl) (argsL := [(.long p5)]) (rest := []) (lenOf pd_1 rfl) rfl (by show 2 * 0 + _ ≤ _; exact Nat.le_of_eq rfl) (hb hby at_87) (fun _ _ => ⟨rfl, e12, (by decide : 0 + 0 ≤ _), (by decide : 0 + 0 ≤ _)⟩)
      dsimp only [Pt.U, Pt.locs, Pt.cells, Pt.slots] at X17 l17 y17 z17 st17 hQ17
      subst l17 y17 z17
      obtain ⟨rfl, Nq17, e17⟩ := hQ17
      have N17 := Fr.app N12 Nq17
      obtain ⟨v8, hv8⟩ : ∃ z : Int64, z = (own_minL (p5 &&& (9223372036854775807 : Int64)) (9223372036854775806 : Int64)) := ⟨_, rfl⟩
      have nf2 : 0 ≤ v8.toInt ∧ v8.toInt ≤ 9223372036854775806 := own_c p5 v8 hv8
      obtain ⟨T18, h18, X18, e18, E18, A18, D18, -, st18⟩ := newO X17 hx hZ hown (ww hw 13 rfl) (ww hw 14 rfl) (ww hw 15 rfl) e17 (g := (mkF m 92 #[vi p0, vl p1, ss, vl p2, ss, vl p3, ss, vl p4, ss, vl p5, ss, vl v0, ss, vl v1, ss, vl v2, ss, vl v3, ss, vi v4, vi 1, vl v8, ss, uu, uu, uu] [])) rfl (hb hby at_92) (by decide) (by decide)
      obtain ⟨b18, qs18⟩ : ∃ z, z = h0.size := ⟨_, rfl⟩
      rw [← qs18] at A18 D18 st18
      have g_b18 : n0 ≤ b18 := Nat.le_trans (own_old O0) (Nat.le_of_eq qs18.symm)
      have sz_b18 : h0.size ≤ b18 := Nat.le_trans K0.1 (Nat.le_of_eq qs18.symm)
      have O18 := O0.ext E18
      have K18 : Keep h0 h18 [] := K0.ext E18
      have F_firsts_b18 : Fld Z h18 b18 sC0 "firsts" "[J" .null := D18 (Or.inl (ww hw 29 rfl)) (ty := (.array .long)) (by decide)
      have F_lasts_b18 : Fld Z h18 b18 sC0 "lasts" "[J" .null := D18 (Or.inl (ww hw 31 rfl)) (ty := (.array .long)) (by decide)
      have F_maxRanges_b18 : Fld Z h18 b18 sC0 "maxRanges" "I" (.int 0) := D18 (Or.inr (ww hw 33 rfl)) (ty := .int) (by decide)
      have F_ranges_b18 : Fld Z h18 b18 sC0 "ranges" "I" (.int 0) := D18 (Or.inl (ww hw 40 rfl)) (ty := .int) (by decide)
      have F_count_b18 : Fld Z h18 b18 sC0 "count" "J" (.long 0) := D18 (Or.inl (ww hw 74 rfl)) (ty := .long) (by decide)
      obtain ⟨_, _, ⟨T19, L19, k19, n19⟩, -, X19, ⟨Lc19, hQ19, l19, y19, z19⟩, st19⟩ := X18.specialBack hx (y := My4) rfl hown (mvT hZ (ww hw 16 rfl)) (mvT hZ (ww hw 17 rfl)) (mvT hZ (ww hw 18 rfl)) (by decide) (backOf (W := 1) (rm4_0 l Z a0 hw [] w_NONE b18 h18 n0 O18 S A18 F_count_b18 F_firsts_b18 F_lasts_b18 F_maxRanges_b18 F_ranges_b18 g_b18) hZ (ww hw 18 rfl) (ww hw 15 rfl) (by decide) (by decide)) (g := (mkF m 96 #[vi p0, vl p1, ss, vl p2, ss, vl p3, ss, vl p4, ss, vl p5, ss, vl v0, ss, vl v1, ss, vl v2, ss, vl v3, ss, vi v4, vi 1, vl v8, ss, uu, uu, uu] [(.ref b18), (.ref b18)])) rfl (by rw [hml]; rfl) (Steps.refl _) (a := b18) (argsL := []) (rest := [(.ref b18)]) (lenOf pd_3 rfl) rfl (by show 2 * 0 + _ ≤ _; exact Nat.le_of_eq rfl) (hb hby at_96) (fun _ _ => ⟨rfl, e18, (by decide : 1 + 0 ≤ _), (by decide : 5 + 0 ≤ _)⟩)
      dsimp only [Pt.U, Pt.locs, Pt.cells, Pt.slots] at X19 l19 y19 z19 st19 hQ19
      subst l19 y19 z19
      obtain ⟨rfl, Nq19, Kc19, P0_19, P1_19, P2_19, P3_19, P4_19, P5_19⟩ := hQ19
      have N19 := Fr.app N17 Nq19
      have O19 := O18.keep Kc19 (allS g_b18 all0)
      have K19 : Keep h0 T19.heap [] := K18.trans Kc19 (allS (Or.inr sz_b18) all0)
      have pre_21 : ∀ t, Steps p.tables e below (T19.setTop (mkF m 107 #[vi p0, vl p1, ss, vl p2, ss, vl p3, ss, vl p4, ss, vl p5, ss, vl v0, ss, vl v1, ss, vl v2, ss, vl v3, ss, vi v4, vi 1, vl v8, ss, va b18, vl 0, ss] [(.int 1), (.int v4)])) t → Steps p.tables e below (s₁.setTop (mkF m 0 #[vi p0, vl p1, ss, vl p2, ss, vl p3, ss, vl p4, ss, vl p5, ss, uu, uu, uu, uu, uu, uu, uu, uu, uu, uu, uu, uu, uu, uu, uu] [])) t := fun t k => pre_16 t (by
        show Steps p.tables e below (T12.setTop (mkF m 75 #[vi p0, vl p1, ss, vl p2, ss, vl p3, ss, vl p4, ss, vl p5, ss, vl v0, ss, vl v1, ss, vl v2, ss, vl v3, ss, vi v4, uu, uu, uu, uu, uu, uu] [(.int ((p0 >>> ((2 : Int32) &&& 31)) &&& (1 : Int32)))])) _
        refine XS.ifNo X12.here hx rfl (hb hby at_75) rfl ((if0 _ _).trans (feq hc15).1) ?_
        refine XS.iconst X12.here hx rfl (hb hby at_78) ?_
        refine XS.goto X12.here hx rfl (pc0 := 79) (pc' := 83) rfl (hb hby at_79) (by decide) (by decide) ?_
        refine XS.istore X12.here hx rfl (hb hby at_83) rfl (l' := #[vi p0, vl p1, ss, vl p2, ss, vl p3, ss, vl p4, ss, vl p5, ss, vl v0, ss, vl v1, ss, vl v2, ss, vl v3, ss, vi v4, vi 1, uu, uu, uu, uu, uu]) rfl ?_
        refine XS.lload X12.here hx rfl (hb hby at_85) rfl ?_
        refine st17 _ ?_
        show Steps p.tables e below (T17.setTop (mkF m 90 #[vi p0, vl p1, ss, vl p2, ss, vl p3, ss, vl p4, ss, vl p5, ss, vl v0, ss, vl v1, ss, vl v2, ss, vl v3, ss, vi v4, vi 1, uu, uu, uu, uu, uu] [(.long (own_minL (p5 &&& (9223372036854775807 : Int64)) (9223372036854775806 : Int64)))])) _
        rw [← hv8]
        refine XS.lstore X17.here hx rfl (hb hby at_90) rfl (l' := #[vi p0, vl p1, ss, vl p2, ss, vl p3, ss, vl p4, ss, vl p5, ss, vl v0, ss, vl v1, ss, vl v2, ss, vl v3, ss, vi v4, vi 1, vl v8, ss, uu, uu, uu]) rfl ?_
        refine st18 _ ?_
        refine XS.dup X18.here hx rfl (hb hby at_95) rfl rfl ?_
        refine st19.trans ?_
        refine XS.astore X19.here hx rfl (hb hby at_99) rfl rfl (l' := #[vi p0, vl p1, ss, vl p2, ss, vl p3, ss, vl p4, ss, vl p5, ss, vl v0, ss, vl v1, ss, vl v2, ss, vl v3, ss, vi v4, vi 1, vl v8, ss, va b18, uu, uu]) rfl ?_
        refine XS.lconst X19.here hx rfl (hb hby at_101) ?_
        refine XS.lstore X19.here hx rfl (hb hby at_102) rfl (l' := #[vi p0, vl p1, ss, vl p2, ss, vl p3, ss, vl p4, ss, vl p5, ss, vl v0, ss, vl v1, ss, vl v2, ss, vl v3, ss, vi v4, vi 1, vl v8, ss, va b18, vl 0, ss]) rfl ?_
        refine XS.iload X19.here hx rfl (hb hby at_104) rfl ?_
        show Steps p.tables e below (T19.setTop (mkF m 106 #[vi p0, vl p1, ss, vl p2, ss, vl p3, ss, vl p4, ss, vl p5, ss, vl v0, ss, vl v1, ss, vl v2, ss, vl v3, ss, vi v4, vi 1, vl v8, ss, va b18, vl 0, ss] [(.int v4)])) _
        refine XS.iconst X19.here hx rfl (hb hby at_106) ?_
        exact k)
      by_cases hc20 : v4 < (1 : Int32)
      · have hc22 : v4 < (2 : Int32) := ow53 p0 v4 hv4 hc13 hc15 hc20
        have pre_23 : ∀ t, Steps p.tables e below (T19.setTop (mkF m 167 #[vi p0, vl p1, ss, vl p2, ss, vl p3, ss, vl p4, ss, vl p5, ss, vl v0, ss, vl v1, ss, vl v2, ss, vl v3, ss, vi v4, vi 1, vl v8, ss, va b18, vl 0, ss] [])) t → Steps p.tables e below (s₁.setTop (mkF m 0 #[vi p0, vl p1, ss, vl p2, ss, vl p3, ss, vl p4, ss, vl p5, ss, uu, uu, uu, uu, uu, uu, uu, uu, uu, uu, uu, uu, uu, uu, uu] [])) t := fun t k => pre_21 t (by
          show Steps p.tables e below (T19.setTop (mkF m 107 #[vi p0, vl p1, ss, vl p2, ss, vl p3, ss, vl p4, ss, vl p5, ss, vl v0, ss, vl v1, ss, vl v2, ss, vl v3, ss, vi v4, vi 1, vl v8, ss, va b18, vl 0, ss] [(.int 1), (.int v4)])) _
          refine XS.icmpYes X19.here hx rfl (pc0 := 107) (pc' := 133) rfl (hb hby at_107) rfl (tlt hc20).1 (by decide) (by decide) ?_
          refine XS.iload X19.here hx rfl (hb hby at_133) rfl ?_
          refine XS.iconst X19.here hx rfl (hb hby at_135) ?_
          refine XS.icmpYes X19.here hx rfl (pc0 := 136) (pc' := 167) rfl (hb hby at_136) rfl (tlt hc22).1 (by decide) (by decide) ?_
          exact k)
        obtain ⟨U, o, st, rest⟩ := jn11 (a0 := a0) hx hZ hby hml hown hrt hlk hw w_NONE b18 p0 p1 p2 p3 p4 p5 v0 v1 v2 v3 v8 p0 v4 (X19.more (by decide) (by decide)) rfl N19 O19 S P0_19 P5_19 nf0 nf1 nf2
        exact ⟨U, o, pre_23 _ st, rest⟩
      · have hc22 : ¬ (v0 < (0 : Int64)) := ow1 v0 v1 nf0
        have hc23 : ¬ (v1 < v0) := ow51 v0 v1 nf0 hc22
        have pre_25 : ∀ t, Steps p.tables e below (T19.setTop (mkF m 116 #[vi p0, vl p1, ss, vl p2, ss, vl p3, ss, vl p4, ss, vl p5, ss, vl v0, ss, vl v1, ss, vl v2, ss, vl v3, ss, vi v4, vi 1, vl v8, ss, va b18, vl 0, ss] [(.long v1), (.long v0), (.ref b18)])) t → Steps p.tables e below (s₁.setTop (mkF m 0 #[vi p0, vl p1, ss, vl p2, ss, vl p3, ss, vl p4, ss, vl p5, ss, uu, uu, uu, uu, uu, uu, uu, uu, uu, uu, uu, uu, uu, uu, uu] [])) t := fun t k => pre_21 t (by
          show Steps p.tables e below (T19.setTop (mkF m 107 #[vi p0, vl p1, ss, vl p2, ss, vl p3, ss, vl p4, ss, vl p5, ss, vl v0, ss, vl v1, ss, vl v2, ss, vl v3, ss, vi v4, vi 1, vl v8, ss, va b18, vl 0, ss] [(.int 1), (.int v4)])) _
          refine XS.icmpNo X19.here hx rfl (hb hby at_107) rfl (flt hc20).1 ?_
          refine XS.aload X19.here hx rfl (hb hby at_110) rfl rfl ?_
          refine XS.lload X19.here hx rfl (hb hby at_112) rfl ?_
          refine XS.lload X19.here hx rfl (hb hby at_114) rfl ?_
          exact k)
        by_cases hc24 : v0 = (0 : Int64)
        · obtain ⟨cq26, kq26, q26a, q26b, q26c⟩ := isOf hZ rfl P0_19
          obtain ⟨_, _, ⟨T26, L26, k26, n26⟩, -, X26, ⟨Lc26, hQ26, l26, y26, z26⟩, st26⟩ := X19.virtualBack hx (y := My8) (z := My8) hown (mvT hZ (ww hw 41 rfl)) (mvT hZ (ww hw 42 rfl)) (notFace_of_selects (args := #[]) (mvT hZ (ww hw 44 rfl))) (mvT hZ (ww hw 44 rfl)) (mvT hZ (ww hw 43 rfl)) (by decide) (backOf (W := 0) (rm8_1 l Z a0 hw [] w_NONE b18 v0 v1 T19.heap n0 O19 S P0_19 P1_19 P2_19 P3_19 P4_19 P5_19 g_b18 hc22 hc23 hc24) hZ (ww hw 45 rfl) (ww hw 15 rfl) (by decide) (by decide)) q26a q26c (g := (mkF m 116 #[vi p0, vl p1, ss, vl p2, ss, vl p3, ss, vl p4, ss, vl p5, ss, vl v0, ss, vl v1, ss, vl v2, ss, vl v3, ss, vi v4, vi 1, vl v8, ss, va b18, vl 0, ss] [(.long v1), (.long v0), (.ref b18)])) rfl (by rw [hml]; rfl) (Steps.refl _) (argsL := [(.long v0), (.long v1)]) (rest := []) (lenOf pd_9 rfl) rfl (by show 2 * 0 + _ ≤ _; exact Nat.le_of_eq rfl) (hb hby at_116) (fun _ _ => ⟨rfl, rfl, (by decide : 1 + 2 ≤ _), (by decide : 5 + 8 ≤ _)⟩)
          dsimp only [Pt.U, Pt.locs, Pt.cells, Pt.slots] at X26 l26 y26 z26 st26 hQ26
          subst l26 y26 z26
          obtain ⟨b2_7_6_26, b2_13_6_26, k2_7_6_26, k2_13_6_26, rfl, Nq26, Kc26, P0_26, P1_26, P2_26, P3_26, P4_26, P5_26, P6_26, P7_26, P8_26, P9_26, P10_26⟩ := hQ26
          have N26 := Fr.app N19 Nq26
          have ne_b18_b2_7_6_26 : b18 ≠ b2_7_6_26 := Nat.ne_of_lt (Nat.lt_of_lt_of_le P0_19.lt P8_26)
          have ne_b18_b2_13_6_26 : b18 ≠ b2_13_6_26 := Nat.ne_of_lt (Nat.lt_of_lt_of_le P0_19.lt P9_26)
          have g_b2_7_6_26 : n0 ≤ b2_7_6_26 := Nat.le_trans (own_old O19) P8_26
          have sz_b2_7_6_26 : h0.size ≤ b2_7_6_26 := Nat.le_trans K19.1 P8_26
          have g_b2_13_6_26 : n0 ≤ b2_13_6_26 := Nat.le_trans (own_old O19) P9_26
          have sz_b2_13_6_26 : h0.size ≤ b2_13_6_26 := Nat.le_trans K19.1 P9_26
          have O26 := O19.keep Kc26 (allS g_b18 all0)
          have K26 : Keep h0 T26.heap [] := K19.trans Kc26 (allS (Or.inr sz_b18) all0)
          obtain ⟨_, _, ⟨T27, L27, k27, n27⟩, -, X27, ⟨Lc27, hQ27, l27, y27, z27⟩, st27⟩ := Jvm.LawKit.callS X26 hx (y := My15) hown (mvT hZ (ww hw 75 rfl)) (mvT hZ (ww hw 76 rfl)) (mvT hZ (ww hw 2 rfl)) (mvT hZ (ww hw 77 rfl)) (by decide) (backOf (W := 0) (mg15_1 l Z a0 hw [] w_NONE v0 v1 v8 T26.heap n0 O26 S) hZ (ww hw 77 rfl) (ww hw 2 rfl) (by decide) (by decide)) (g := (mkF m 128 #[vi p0, vl p1, ss, vl p2, ss, vl p3, ss, vl p4, ss, vl p5, ss, vl v0, ss, vl v1, ss, vl v2, ss, vl v3, ss, vi v4, vi 1, vl v8, ss, va b18, vl 0, ss] [(.long v8), (.int 1), (.long v1), (.long v0)])) rfl (by rw [hml]; rfl) (argsL := [(.long v0), (.long v1), (.int 1), (.long v8)]) (rest := []) (lenOf pd_10 rfl) rfl (by show 2 * 0 + _ ≤ _; exact Nat.le_of_eq rfl) (hb hby at_128) (fun _ _ => ⟨rfl, rfl, (by decide : 3 + 0 ≤ _), (by decide : 13 + 0 ≤ _)⟩)
          dsimp only [Pt.U, Pt.locs, Pt.cells, Pt.slots] at X27 l27 y27 z27 st27 hQ27
          subst l27 y27 z27
          obtain ⟨rfl, Nq27, e27⟩ := hQ27
          have N27 := Fr.app N26 Nq27
          have pre_29 : ∀ t, Steps p.tables e below (T27.setTop (mkF m 136 #[vi p0, vl p1, ss, vl p2, ss, vl p3, ss, vl p4, ss, vl p5, ss, vl v0, ss, vl v1, ss, vl v2, ss, vl v3, ss, vi v4, vi 1, vl v8, ss, va b18, vl (own_part1 v0 v1 v8), ss] [(.int 2), (.int v4)])) t → Steps p.tables e below (s₁.setTop (mkF m 0 #[vi p0, vl p1, ss, vl p2, ss, vl p3, ss, vl p4, ss, vl p5, ss, uu, uu, uu, uu, uu, uu, uu, uu, uu, uu, uu, uu, uu, uu, uu] [])) t := fun t k => pre_25 t (by
            show Steps p.tables e below (T19.setTop (mkF m 116 #[vi p0, vl p1, ss, vl p2, ss, vl p3, ss, vl p4, ss, vl p5, ss, vl v0, ss, vl v1, ss, vl v2, ss, vl v3, ss, vi v4, vi 1, vl v8, ss, va b18, vl 0, ss] [(.long v1), (.long v0), (.ref b18)])) _
            refine st26.trans ?_
            refine XS.pop X26.here hx rfl (hb hby at_119) rfl rfl ?_
            refine XS.lload X26.here hx rfl (hb hby at_120) rfl ?_
            refine XS.lload X26.here hx rfl (hb hby at_122) rfl ?_
            refine XS.iload X26.here hx rfl (hb hby at_124) rfl ?_
            refine XS.lload X26.here hx rfl (hb hby at_126) rfl ?_
            refine st27 _ ?_
            refine XS.lstore X27.here hx rfl (hb hby at_131) rfl (l' := #[vi p0, vl p1, ss, vl p2, ss, vl p3, ss, vl p4, ss, vl p5, ss, vl v0, ss, vl v1, ss, vl v2, ss, vl v3, ss, vi v4, vi 1, vl v8, ss, va b18, vl (own_part1 v0 v1 v8), ss]) rfl ?_
            show Steps p.tables e below (T27.setTop (mkF m 133 #[vi p0, vl p1, ss, vl p2, ss, vl p3, ss, vl p4, ss, vl p5, ss, vl v0, ss, vl v1, ss, vl v2, ss, vl v3, ss, vi v4, vi 1, vl v8, ss, va b18, vl (own_part1 v0 v1 v8), ss] [])) _
            refine XS.iload X27.here hx rfl (hb hby at_133) rfl ?_
            refine XS.iconst X27.here hx rfl (hb hby at_135) ?_
            exact k)
          by_cases hc28 : v4 < (2 : Int32)
          · have pre_30 : ∀ t, Steps p.tables e below (T27.setTop (mkF m 167 #[vi p0, vl p1, ss, vl p2, ss, vl p3, ss, vl p4, ss, vl p5, ss, vl v0, ss, vl v1, ss, vl v2, ss, vl v3, ss, vi v4, vi 1, vl v8, ss, va b18, vl (own_part1 v0 v1 v8), ss] [])) t → Steps p.tables e below (s₁.setTop (mkF m 0 #[vi p0, vl p1, ss, vl p2, ss, vl p3, ss, vl p4, ss, vl p5, ss, uu, uu, uu, uu, uu, uu, uu, uu, uu, uu, uu, uu, uu, uu, uu] [])) t := fun t k => pre_29 t (by
              show Steps p.tables e below (T27.setTop (mkF m 136 #[vi p0, vl p1, ss, vl p2, ss, vl p3, ss, vl p4, ss, vl p5, ss, vl v0, ss, vl v1, ss, vl v2, ss, vl v3, ss, vi v4, vi 1, vl v8, ss, va b18, vl (own_part1 v0 v1 v8), ss] [(.int 2), (.int v4)])) _
              refine XS.icmpYes X27.here hx rfl (pc0 := 136) (pc' := 167) rfl (hb hby at_136) rfl (tlt hc28).1 (by decide) (by decide) ?_
              exact k)
            obtain ⟨U, o, st, rest⟩ := jn12 (a0 := a0) hx hZ hby hml hown hrt hlk hw w_NONE b18 b2_7_6_26 b2_13_6_26 k2_7_6_26 k2_13_6_26 p0 p1 p2 p3 p4 p5 v0 v1 v2 v3 v8 p0 v4 (X27.more (by decide) (by decide)) e27 N27 O26 S P0_26 P1_26 P2_26 P3_26 P4_26 P5_26 P6_26 P7_26 ne_b18_b2_7_6_26 ne_b18_b2_13_6_26 P10_26 g_b18 g_b2_7_6_26 g_b2_13_6_26 nf0 nf1 nf2
            exact ⟨U, o, pre_30 _ st, rest⟩
          · have pre_30 : ∀ t, Steps p.tables e below (T27.setTop (mkF m 139 #[vi p0, vl p1, ss, vl p2, ss, vl p3, ss, vl p4, ss, vl p5, ss, vl v0, ss, vl v1, ss, vl v2, ss, vl v3, ss, vi v4, vi 1, vl v8, ss, va b18, vl (own_part1 v0 v1 v8), ss] [])) t → Steps p.tables e below (s₁.setTop (mkF m 0 #[vi p0, vl p1, ss, vl p2, ss, vl p3, ss, vl p4, ss, vl p5, ss, uu, uu, uu, uu, uu, uu, uu, uu, uu, uu, uu, uu, uu, uu, uu] [])) t := fun t k => pre_29 t (by
              show Steps p.tables e below (T27.setTop (mkF m 136 #[vi p0, vl p1, ss, vl p2, ss, vl p3, ss, vl p4, ss, vl p5, ss, vl v0, ss, vl v1, ss, vl v2, ss, vl v3, ss, vi v4, vi 1, vl v8, ss, va b18, vl (own_part1 v0 v1 v8), ss] [(.int 2), (.int v4)])) _
              refine XS.icmpNo X27.here hx rfl (hb hby at_136) rfl (flt hc28).1 ?_
              exact k)
            obtain ⟨U, o, st, rest⟩ := jn5 (a0 := a0) hx hZ hby hml hown hrt hlk hw w_NONE b18 b2_7_6_26 b2_13_6_26 k2_7_6_26 k2_13_6_26 p0 p1 p2 p3 p4 p5 v0 v1 v2 v3 v8 p0 v4 (X27.more (by decide) (by decide)) e27 N27 O26 S P0_26 P1_26 P2_26 P3_26 P4_26 P5_26 P6_26 P7_26 ne_b18_b2_7_6_26 ne_b18_b2_13_6_26 P10_26 g_b18 g_b2_7_6_26 g_b2_13_6_26 nf0 nf1 nf2
            exact ⟨U, o, pre_30 _ st, rest⟩
        · obtain ⟨cq26, kq26, q26a, q26b, q26c⟩ := isOf hZ rfl P0_19
          obtain ⟨_, _, ⟨T26, L26, k26, n26⟩, -, X26, ⟨Lc26, hQ26, l26, y26, z26⟩, st26⟩ := X19.virtualBack hx (y := My8) (z := My8) hown (mvT hZ (ww hw 41 rfl)) (mvT hZ (ww hw 42 rfl)) (notFace_of_selects (args := #[]) (mvT hZ (ww hw 44 rfl))) (mvT hZ (ww hw 44 rfl)) (mvT hZ (ww hw 43 rfl)) (by decide) (backOf (W := 0) (rm8_0 l Z a0 hw [] w_NONE b18 v0 v1 T19.heap n0 O19 S P0_19 P1_19 P2_19 P3_19 P4_19 P5_19 g_b18 hc22 hc23 hc24) hZ (ww hw 45 rfl) (ww hw 15 rfl) (by decide) (by decide)) q26a q26c (g := (mkF m 116 #[vi p0, vl p1, ss, vl p2, ss, vl p3, ss, vl p4, ss, vl p5, ss, vl v0, ss, vl v1, ss, vl v2, ss, vl v3, ss, vi v4, vi 1, vl v8, ss, va b18, vl 0, ss] [(.long v1), (.long v0), (.ref b18)])) rfl (by rw [hml]; rfl) (Steps.refl _) (argsL := [(.long v0), (.long v1)]) (rest := []) (lenOf pd_9 rfl) rfl (by show 2 * 0 + _ ≤ _; exact Nat.le_of_eq rfl) (hb hby at_116) (fun _ _ => ⟨rfl, rfl, (by decide : 1 + 2 ≤ _), (by decide : 5 + 8 ≤ _)⟩)
          dsimp only [Pt.U, Pt.locs, Pt.cells, Pt.slots] at X26 l26 y26 z26 st26 hQ26
          subst l26 y26 z26
          obtain ⟨b2_7_6_26, b2_13_6_26, k2_7_6_26, k2_13_6_26, rfl, Nq26, Kc26, P0_26, P1_26, P2_26, P3_26, P4_26, P5_26, P6_26, P7_26, P8_26, P9_26, P10_26⟩ := hQ26
          have N26 := Fr.app N19 Nq26
          have ne_b18_b2_7_6_26 : b18 ≠ b2_7_6_26 := Nat.ne_of_lt (Nat.lt_of_lt_of_le P0_19.lt P8_26)
          have ne_b18_b2_13_6_26 : b18 ≠ b2_13_6_26 := Nat.ne_of_lt (Nat.lt_of_lt_of_le P0_19.lt P9_26)
          have g_b2_7_6_26 : n0 ≤ b2_7_6_26 := Nat.le_trans (own_old O19) P8_26
          have sz_b2_7_6_26 : h0.size ≤ b2_7_6_26 := Nat.le_trans K19.1 P8_26
          have g_b2_13_6_26 : n0 ≤ b2_13_6_26 := Nat.le_trans (own_old O19) P9_26
          have sz_b2_13_6_26 : h0.size ≤ b2_13_6_26 := Nat.le_trans K19.1 P9_26
          have O26 := O19.keep Kc26 (allS g_b18 all0)
          have K26 : Keep h0 T26.heap [] := K19.trans Kc26 (allS (Or.inr sz_b18) all0)
          obtain ⟨_, _, ⟨T27, L27, k27, n27⟩, -, X27, ⟨Lc27, hQ27, l27, y27, z27⟩, st27⟩ := Jvm.LawKit.callS X26 hx (y := My15) hown (mvT hZ (ww hw 75 rfl)) (mvT hZ (ww hw 76 rfl)) (mvT hZ (ww hw 2 rfl)) (mvT hZ (ww hw 77 rfl)) (by decide) (backOf (W := 0) (mg15_1 l Z a0 hw [] w_NONE v0 v1 v8 T26.heap n0 O26 S) hZ (ww hw 77 rfl) (ww hw 2 rfl) (by decide) (by decide)) (g := (mkF m 128 #[vi p0, vl p1, ss, vl p2, ss, vl p3, ss, vl p4, ss, vl p5, ss, vl v0, ss, vl v1, ss, vl v2, ss, vl v3, ss, vi v4, vi 1, vl v8, ss, va b18, vl 0, ss] [(.long v8), (.int 1), (.long v1), (.long v0)])) rfl (by rw [hml]; rfl) (argsL := [(.long v0), (.long v1), (.int 1), (.long v8)]) (rest := []) (lenOf pd_10 rfl) rfl (by show 2 * 0 + _ ≤ _; exact Nat.le_of_eq rfl) (hb hby at_128) (fun _ _ => ⟨rfl, rfl, (by decide : 3 + 0 ≤ _), (by decide : 13 + 0 ≤ _)⟩)
          dsimp only [Pt.U, Pt.locs, Pt.cells, Pt.slots] at X27 l27 y27 z27 st27 hQ27
          subst l27 y27 z27
          obtain ⟨rfl, Nq27, e27⟩ := hQ27
          have N27 := Fr.app N26 Nq27
          have pre_29 : ∀ t, Steps p.tables e below (T27.setTop (mkF m 136 #[vi p0, vl p1, ss, vl p2, ss, vl p3, ss, vl p4, ss, vl p5, ss, vl v0, ss, vl v1, ss, vl v2, ss, vl v3, ss, vi v4, vi 1, vl v8, ss, va b18, vl (own_part1 v0 v1 v8), ss] [(.int 2), (.int v4)])) t → Steps p.tables e below (s₁.setTop (mkF m 0 #[vi p0, vl p1, ss, vl p2, ss, vl p3, ss, vl p4, ss, vl p5, ss, uu, uu, uu, uu, uu, uu, uu, uu, uu, uu, uu, uu, uu, uu, uu] [])) t := fun t k => pre_25 t (by
            show Steps p.tables e below (T19.setTop (mkF m 116 #[vi p0, vl p1, ss, vl p2, ss, vl p3, ss, vl p4, ss, vl p5, ss, vl v0, ss, vl v1, ss, vl v2, ss, vl v3, ss, vi v4, vi 1, vl v8, ss, va b18, vl 0, ss] [(.long v1), (.long v0), (.ref b18)])) _
            refine st26.trans ?_
            refine XS.pop X26.here hx rfl (hb hby at_119) rfl rfl ?_
            refine XS.lload X26.here hx rfl (hb hby at_120) rfl ?_
            refine XS.lload X26.here hx rfl (hb hby at_122) rfl ?_
            refine XS.iload X26.here hx rfl (hb hby at_124) rfl ?_
            refine XS.lload X26.here hx rfl (hb hby at_126) rfl ?_
            refine st27 _ ?_
            refine XS.lstore X27.here hx rfl (hb hby at_131) rfl (l' := #[vi p0, vl p1, ss, vl p2, ss, vl p3, ss, vl p4, ss, vl p5, ss, vl v0, ss, vl v1, ss, vl v2, ss, vl v3, ss, vi v4, vi 1, vl v8, ss, va b18, vl (own_part1 v0 v1 v8), ss]) rfl ?_
            show Steps p.tables e below (T27.setTop (mkF m 133 #[vi p0, vl p1, ss, vl p2, ss, vl p3, ss, vl p4, ss, vl p5, ss, vl v0, ss, vl v1, ss, vl v2, ss, vl v3, ss, vi v4, vi 1, vl v8, ss, va b18, vl (own_part1 v0 v1 v8), ss] [])) _
            refine XS.iload X27.here hx rfl (hb hby at_133) rfl ?_
            refine XS.iconst X27.here hx rfl (hb hby at_135) ?_
            exact k)
          by_cases hc28 : v4 < (2 : Int32)
          · have pre_30 : ∀ t, Steps p.tables e below (T27.setTop (mkF m 167 #[vi p0, vl p1, ss, vl p2, ss, vl p3, ss, vl p4, ss, vl p5, ss, vl v0, ss, vl v1, ss, vl v2, ss, vl v3, ss, vi v4, vi 1, vl v8, ss, va b18, vl (own_part1 v0 v1 v8), ss] [])) t → Steps p.tables e below (s₁.setTop (mkF m 0 #[vi p0, vl p1, ss, vl p2, ss, vl p3, ss, vl p4, ss, vl p5, ss, uu, uu, uu, uu, uu, uu, uu, uu, uu, uu, uu, uu, uu, uu, uu] [])) t := fun t k => pre_29 t (by
              show Steps p.tables e below (T27.setTop (mkF m 136 #[vi p0, vl p1, ss, vl p2, ss, vl p3, ss, vl p4, ss, vl p5, ss, vl v0, ss, vl v1, ss, vl v2, ss, vl v3, ss, vi v4, vi 1, vl v8, ss, va b18, vl (own_part1 v0 v1 v8), ss] [(.int 2), (.int v4)])) _
              refine XS.icmpYes X27.here hx rfl (pc0 := 136) (pc' := 167) rfl (hb hby at_136) rfl (tlt hc28).1 (by decide) (by decide) ?_
              exact k)
            obtain ⟨U, o, st, rest⟩ := jn12 (a0 := a0) hx hZ hby hml hown hrt hlk hw w_NONE b18 b2_7_6_26 b2_13_6_26 k2_7_6_26 k2_13_6_26 p0 p1 p2 p3 p4 p5 v0 v1 v2 v3 v8 p0 v4 (X27.more (by decide) (by decide)) e27 N27 O26 S P0_26 P1_26 P2_26 P3_26 P4_26 P5_26 P6_26 P7_26 ne_b18_b2_7_6_26 ne_b18_b2_13_6_26 P10_26 g_b18 g_b2_7_6_26 g_b2_13_6_26 nf0 nf1 nf2
            exact ⟨U, o, pre_30 _ st, rest⟩
          · have pre_30 : ∀ t, Steps p.tables e below (T27.setTop (mkF m 139 #[vi p0, vl p1, ss, vl p2, ss, vl p3, ss, vl p4, ss, vl p5, ss, vl v0, ss, vl v1, ss, vl v2, ss, vl v3, ss, vi v4, vi 1, vl v8, ss, va b18, vl (own_part1 v0 v1 v8), ss] [])) t → Steps p.tables e below (s₁.setTop (mkF m 0 #[vi p0, vl p1, ss, vl p2, ss, vl p3, ss, vl p4, ss, vl p5, ss, uu, uu, uu, uu, uu, uu, uu, uu, uu, uu, uu, uu, uu, uu, uu] [])) t := fun t k => pre_29 t (by
              show Steps p.tables e below (T27.setTop (mkF m 136 #[vi p0, vl p1, ss, vl p2, ss, vl p3, ss, vl p4, ss, vl p5, ss, vl v0, ss, vl v1, ss, vl v2, ss, vl v3, ss, vi v4, vi 1, vl v8, ss, va b18, vl (own_part1 v0 v1 v8), ss] [(.int 2), (.int v4)])) _
              refine XS.icmpNo X27.here hx rfl (hb hby at_136) rfl (flt hc28).1 ?_
              exact k)
            obtain ⟨U, o, st, rest⟩ := jn5 (a0 := a0) hx hZ hby hml hown hrt hlk hw w_NONE b18 b2_7_6_26 b2_13_6_26 k2_7_6_26 k2_13_6_26 p0 p1 p2 p3 p4 p5 v0 v1 v2 v3 v8 p0 v4 (X27.more (by decide) (by decide)) e27 N27 O26 S P0_26 P1_26 P2_26 P3_26 P4_26 P5_26 P6_26 P7_26 ne_b18_b2_7_6_26 ne_b18_b2_13_6_26 P10_26 g_b18 g_b2_7_6_26 g_b2_13_6_26 nf0 nf1 nf2
            exact ⟨U, o, pre_30 _ st, rest⟩
theorem comes_1 {Post : Tables → Env → Array Value → State → Outcome → State → Prop} (hpost : ∀ tb e args s v u, (limb_1_1.after args s (.returned v) u = true ∧ limb_1_2.after args s (.returned v) u = true ∧ True) → FrameEnd s (.returned v) u (Jvm.fieldLocs frame_1_writes args s ++ Jvm.arrayLocs frame_1_arrays args s ++ Jvm.staticLocs frame_1_statics s) 16 128 → Post tb e args s (.returned v) u) :
    ArmFor flags0 classFile x code maxLocals ret World_1 tables_1 room_1 Calls_1 rest_1 Pre_1 Post := by
  intro l hfl _ _ p e ha hc hk s m args below hf hA hF happ hP
  obtain ⟨hcalls, hrest, hpre⟩ := hP
  obtain ⟨-, -, -, hnamed, -, -, -, hat⟩ := (Spec.applies_iff hf).mp happ
  obtain ⟨hg, hn⟩ := and_e (Cond.before_iff.mp (show (Jvm.Cond.and given_1 narrow_1).before args s = true from hpre))
  obtain ⟨g0, gr0⟩ := and_e hg
  obtain ⟨g1, gr1⟩ := and_e gr0
  obtain ⟨g2, gr2⟩ := and_e gr1
  obtain ⟨g3, gr3⟩ := and_e gr2
  obtain ⟨g4, gr4⟩ := and_e gr3
  obtain ⟨g5, gr5⟩ := and_e gr4
  obtain ⟨v0, v1, v2, v3, v4, v5, rfl⟩ : ∃ v0 v1 v2 v3 v4 v5 : Value, args = #[v0, v1, v2, v3, v4, v5] := by
    have hs : args.size = 6 := by simpa [Cond.value, given_1] using g0
    obtain ⟨L⟩ := args
    match L, hs with
    | [v0, v1, v2, v3, v4, v5], _ => exact ⟨v0, v1, v2, v3, v4, v5, rfl⟩
  have hw := fun d (hd : d ∈ tables_1) => atoms_spec (ws := Jvm.Cond.code x code maxLocals ret :: tables_1) hat d (List.mem_cons_of_mem _ hd)
  have hfit : Fit s := fun {y c} hc i hi => by
    obtain ⟨ha, rfl⟩ := Array.getElem?_eq_some_iff.mp hc
    have q := List.all_eq_true.mp ((Array.all_eq_true_iff_forall_mem.mp hF) _ (Array.getElem_mem ha)) i (List.mem_range.mpr hi)
    simpa [Array.getElem?_eq_getElem hi] using q
  obtain ⟨i0, ei0⟩ := is_v g1
  obtain rfl : v0 = (.int i0) := Option.some.inj ei0
  obtain ⟨i1, ei1⟩ := isL_v g2
  obtain rfl : v1 = (.long i1) := Option.some.inj ei1
  obtain ⟨i2, ei2⟩ := isL_v g3
  obtain rfl : v2 = (.long i2) := Option.some.inj ei2
  obtain ⟨i3, ei3⟩ := isL_v g4
  obtain rfl : v3 = (.long i3) := Option.some.inj ei3
  obtain ⟨i4, ei4⟩ := isL_v g5
  obtain rfl : v4 = (.long i4) := Option.some.inj ei4
  obtain ⟨i5, ei5⟩ := isL_v gr5
  obtain rfl : v5 = (.long i5) := Option.some.inj ei5
  obtain ⟨n0, nr0⟩ := and_e hn
  obtain ⟨n1, nr1⟩ := and_e nr0
  obtain ⟨w_NONE, ev_w_NONE⟩ := arr_v n0
  have S_w_NONE := Sta.start ev_w_NONE (Or.inr ⟨(ww hw 15 rfl), (ww hw 27 rfl)⟩)
  obtain ⟨cl_w_NONE, Ar_w_NONE⟩ := Arr.start ev_w_NONE n0
  have V_w_NONE : (∃ kk : ClassId, Arv s s.heap w_NONE kk .long (0 : Int32) [] (.long (0 : Int64))) := ⟨_, own_arvStart hfit ev_w_NONE Ar_w_NONE (own_eqI nr1) (by decide) rfl trivial⟩
  obtain ⟨n, o, h1, h2, h3, _, L, rfl, ⟨rfl, N⟩, hq⟩ := rm0 l s _ hw tables_1 w_NONE s.heap s.heap.size (Old.start s) ⟨S_w_NONE, V_w_NONE, trivial⟩ i0 i1 i2 i3 i4 i5 p e ha hc hk s m _ below hf ((Spec.applies_iff_loose hf).mp happ).1 ⟨rfl, State.Warmed39.refl s, rfl⟩ trivial
  refine ⟨n, _, h1, h2, h3, hpost _ _ _ _ _ _ ⟨Cond.after_iff.mpr rfl, Cond.after_iff.mpr (eq_i res_at (Term.int_eval (1)) rfl), trivial⟩ ⟨hq.1, hq.2.1, (hq.2.2.sift fun y hy => Or.inr (N y hy)).mono (by decide) (by decide)⟩⟩
theorem main_1_1 : Claimed_1_1 := comes_1 fun _ _ _ _ _ _ h hF => ⟨h.1, hF⟩
theorem main_1_2 : Claimed_1_2 := comes_1 fun _ _ _ _ _ _ h hF => ⟨h.2.1, hF⟩
end Jvm.Pilot.@@N@@
namespace Jvm.Pilot.@@N@@
open Jvm Jvm.ClassFile Sem Op Lib Jvm.Free Jvm.Stand Jvm.Pilot.@@N@@.Jvm.D
/-! MADE BY PROGRAM (witnessworld.py) out of the Statement's table words and the real class files: 14 classes; the members and pool entries that the words name. The judged class is class 1, her method 3. -/
namespace start1
open Jvm.ClassFile
def u (s : String) : CpInfo := .utf8 (stringToUtf16 s)
/-- a pool by its gaps: so many unusable entries, then the entry; so many at the end -/
def gap : Nat → List CpInfo → List CpInfo
  | 0, r => r
  | n + 1, r => .unusable :: gap n r
def poolList (es : List (Nat × CpInfo)) (last : Nat) : List CpInfo := es.foldr (fun e r => gap e.1 (e.2 :: r)) (gap last [])
def pool (es : List (Nat × CpInfo)) (last : Nat) : Array CpInfo := ⟨poolList es last⟩
def fileOf (pool : Array CpInfo) (this : Nat) (attrs : Array Attribute := #[]) (ms : Array MethodInfo := #[]) (fl : Nat := 33) (sup : Nat := 0) (ifs : Array Nat := #[]) (fds : Array FieldInfo := #[]) : ClassFile where
  minorVersion := 0
  majorVersion := 65
  constantPool := pool
  accessFlags := fl
  thisClass := this
  superClass := sup
  interfaces := ifs
  fields := fds
  methods := ms
  attributes := attrs
def plain (name : String) (sup : Option ClassId) : Class where
  name := name
  kind := .ordinary
  loader := none
  accessFlags := 33
  super := sup
  interfaces := #[]
  cf := none
  fields := #[]
  methods := #[]
  instanceTypes := #[]
  staticTypes := #[]
  resolved := #[]
  callSites := []
  init := .initialized
  statics := none
  mirror := none

def pool0 : Array CpInfo := pool [(5, u "<init>"), (0, u "()V"), (1, .class_ 10), (1, u "java/lang/Object")] 113

def k0c0 : Code := { maxStack := 0, maxLocals := 1, code := object_method_1_code, exceptionTable := #[], attributes := #[] }
def k0m0 : Method := { name := "<init>", desc := "()V", sig := { parameters := [], returnType := none }, accessFlags := 1, code := some k0c0 }
/-- java/lang/Object -/
def k0 : Class := { plain "java/lang/Object" none with
  accessFlags := 33
  interfaces := #[]
  cf := some (fileOf pool0 8 #[] #[{ accessFlags := 1, nameIndex := 5, descriptorIndex := 6, attributes := #[] }] 33 0 #[] #[])
  fields := #[]
  methods := #[k0m0]
  instanceTypes := #[]
  staticTypes := #[]
  resolved := Array.replicate 124 none
  statics := none }

def pool1 : Array CpInfo := pool [(2, .class_ 4), (0, .nameAndType 5 6), (0, u "java/lang/Object"), (0, u "<init>"), (0, u "()V"), (2, .long 9223372036854775807), (1, .long 9223372036854775806), (1, .methodref 14 15), (0, .class_ 16), (0, .nameAndType 17 18), (0, u "java/lang/Math"), (0, u "min"), (0, u "(JJ)J"), (0, .methodref 20 21), (0, .class_ 22), (0, .nameAndType 23 24), (0, u "com/example/tributary/tributary/model/RangeSetEndPinLaw"), (0, u "clamp"), (0, u "(J)J"), (0, .methodref 14 26), (0, .nameAndType 27 18), (0, u "max"), (0, .class_ 29), (0, u "com/example/tributary/tributary/model/RangeSet"), (0, .methodref 28 3), (0, .methodref 28 32), (0, .nameAndType 33 34), (0, u "add"), (0, u "(JJ)Z"), (0, .methodref 20 36), (0, .nameAndType 37 38), (0, u "part"), (0, u "(JJZJ)J"), (0, .methodref 28 40), (0, .nameAndType 41 42), (0, u "remove"), (0, u "(JJ)V"), (0, .methodref 28 44), (0, .nameAndType 45 46), (0, u "end"), (0, u "()J"), (3, u "law"), (0, u "(IJJJJJ)Z")] 2

def k1m0 : Method := { name := "<init>", desc := "()V", sig := { parameters := [], returnType := none }, accessFlags := 1, code := none }
def k1c1 : Code := { maxStack := 4, maxLocals := 2, code := method_2_code, exceptionTable := #[], attributes := #[] }
def k1m1 : Method := { name := "clamp", desc := "(J)J", sig := { parameters := [.long], returnType := some .long }, accessFlags := 10, code := some k1c1 }
def k1c2 : Code := { maxStack := 4, maxLocals := 7, code := method_3_code, exceptionTable := #[], attributes := #[] }
def k1m2 : Method := { name := "part", desc := "(JJZJ)J", sig := { parameters := [.long, .long, .boolean, .long], returnType := some .long }, accessFlags := 10, code := some k1c2 }
def k1c3 : Code := { maxStack := 9, maxLocals := 26, code := code, exceptionTable := #[], attributes := #[] }
def k1m3 : Method := { name := "law", desc := "(IJJJJJ)Z", sig := { parameters := [.int, .long, .long, .long, .long, .long], returnType := some .boolean }, accessFlags := 9, code := some k1c3 }
/-- com/example/tributary/tributary/model/RangeSetEndPinLaw -/
def k1 : Class := { plain "com/example/tributary/tributary/model/RangeSetEndPinLaw" (some 0) with
  accessFlags := 49
  interfaces := #[]
  cf := some (fileOf pool1 20 #[] #[{ accessFlags := 1, nameIndex := 5, descriptorIndex := 6, attributes := #[] }, { accessFlags := 10, nameIndex := 23, descriptorIndex := 24, attributes := #[] }, { accessFlags := 10, nameIndex := 37, descriptorIndex := 38, attributes := #[] }, { accessFlags := 9, nameIndex := 50, descriptorIndex := 51, attributes := #[] }] 49 2 #[] #[])
  fields := #[]
  methods := #[k1m0, k1m1, k1m2, k1m3]
  instanceTypes := #[]
  staticTypes := #[]
  resolved := Array.replicate 54 none
  statics := none }

def pool2 : Array CpInfo := pool [(1, .class_ 2), (0, u "java/lang/Math"), (1, .class_ 6), (1, u "java/lang/Object"), (0, u "<init>"), (0, u "()V"), (89, .class_ 100), (1, u "java/lang/Math$RandomNumberGeneratorHolder"), (20, u "(JJ)J"), (50, u "negativeZeroFloatBits"), (0, u "J"), (2, u "negativeZeroDoubleBits"), (21, u "max"), (2, u "min"), (43, u "$assertionsDisabled"), (0, u "Z"), (88, u "(II)I"), (2, u "twoToTheDoubleScaleDown"), (0, u "D"), (4, u "twoToTheDoubleScaleUp"), (9, u "E"), (3, u "PI"), (2, u "TAU"), (2, u "DEGREES_TO_RADIANS"), (0, u "RADIANS_TO_DEGREES")] 94

def k2m0 : Method := { name := "<init>", desc := "()V", sig := { parameters := [], returnType := none }, accessFlags := 2, code := none }
def k2c1 : Code := { maxStack := 2, maxLocals := 2, code := jdk_29_method_65_code, exceptionTable := #[], attributes := #[] }
def k2m1 : Method := { name := "max", desc := "(II)I", sig := { parameters := [.int, .int], returnType := some .int }, accessFlags := 9, code := some k2c1 }
def k2c2 : Code := { maxStack := 4, maxLocals := 4, code := jdk_29_method_66_code, exceptionTable := #[], attributes := #[] }
def k2m2 : Method := { name := "max", desc := "(JJ)J", sig := { parameters := [.long, .long], returnType := some .long }, accessFlags := 9, code := some k2c2 }
def k2c3 : Code := { maxStack := 2, maxLocals := 2, code := jdk_29_method_69_code, exceptionTable := #[], attributes := #[] }
def k2m3 : Method := { name := "min", desc := "(II)I", sig := { parameters := [.int, .int], returnType := some .int }, accessFlags := 9, code := some k2c3 }
def k2c4 : Code := { maxStack := 4, maxLocals := 4, code := jdk_29_method_70_code, exceptionTable := #[], attributes := #[] }
def k2m4 : Method := { name := "min", desc := "(JJ)J", sig := { parameters := [.long, .long], returnType := some .long }, accessFlags := 9, code := some k2c4 }
/-- java/lang/Math -/
def k2 : Class := { plain "java/lang/Math" (some 0) with
  accessFlags := 49
  interfaces := #[]
  cf := some (fileOf pool2 1 #[.nestMembers #[98]] #[{ accessFlags := 2, nameIndex := 7, descriptorIndex := 8, attributes := #[] }, { accessFlags := 9, nameIndex := 198, descriptorIndex := 335, attributes := #[] }, { accessFlags := 9, nameIndex := 198, descriptorIndex := 121, attributes := #[] }, { accessFlags := 9, nameIndex := 201, descriptorIndex := 335, attributes := #[] }, { accessFlags := 9, nameIndex := 201, descriptorIndex := 121, attributes := #[] }] 49 4 #[] #[{ accessFlags := 25, nameIndex := 354, descriptorIndex := 339, attributes := #[] }, { accessFlags := 25, nameIndex := 358, descriptorIndex := 339, attributes := #[] }, { accessFlags := 25, nameIndex := 361, descriptorIndex := 339, attributes := #[] }, { accessFlags := 26, nameIndex := 364, descriptorIndex := 339, attributes := #[] }, { accessFlags := 26, nameIndex := 365, descriptorIndex := 339, attributes := #[] }, { accessFlags := 26, nameIndex := 172, descriptorIndex := 173, attributes := #[] }, { accessFlags := 26, nameIndex := 176, descriptorIndex := 173, attributes := #[] }, { accessFlags := 8, nameIndex := 344, descriptorIndex := 339, attributes := #[] }, { accessFlags := 8, nameIndex := 338, descriptorIndex := 339, attributes := #[] }, { accessFlags := 4120, nameIndex := 245, descriptorIndex := 246, attributes := #[] }])
  fields := #[{ name := "E", type := .double, accessFlags := 25, slot := 0, constantValue := 0 }, { name := "PI", type := .double, accessFlags := 25, slot := 1, constantValue := 0 }, { name := "TAU", type := .double, accessFlags := 25, slot := 2, constantValue := 0 }, { name := "DEGREES_TO_RADIANS", type := .double, accessFlags := 26, slot := 3, constantValue := 0 }, { name := "RADIANS_TO_DEGREES", type := .double, accessFlags := 26, slot := 4, constantValue := 0 }, { name := "negativeZeroFloatBits", type := .long, accessFlags := 26, slot := 5, constantValue := 0 }, { name := "negativeZeroDoubleBits", type := .long, accessFlags := 26, slot := 6, constantValue := 0 }, { name := "twoToTheDoubleScaleUp", type := .double, accessFlags := 8, slot := 7, constantValue := 0 }, { name := "twoToTheDoubleScaleDown", type := .double, accessFlags := 8, slot := 8, constantValue := 0 }, { name := "$assertionsDisabled", type := .boolean, accessFlags := 4120, slot := 9, constantValue := 0 }]
  methods := #[k2m0, k2m1, k2m2, k2m3, k2m4]
  instanceTypes := #[]
  staticTypes := #[.double, .double, .double, .double, .double, .long, .long, .double, .double, .boolean]
  resolved := Array.replicate 460 none
  statics := none }

def pool3 : Array CpInfo := pool [(3, .integer 2147483647), (0, .methodref 5 6), (0, .class_ 7), (0, .nameAndType 8 9), (0, u "com/example/tributary/tributary/model/RangeSet"), (0, u "<init>"), (0, u "(I)V"), (0, .methodref 11 12), (0, .class_ 13), (0, .nameAndType 8 14), (0, u "java/lang/Object"), (0, u "()V"), (0, .fieldref 5 16), (0, .nameAndType 17 18), (0, u "NONE"), (0, u "[J"), (0, .fieldref 5 20), (0, .nameAndType 21 18), (0, u "firsts"), (0, .fieldref 5 23), (0, .nameAndType 24 18), (0, u "lasts"), (0, .fieldref 5 26), (0, .nameAndType 27 28), (0, u "maxRanges"), (0, u "I"), (3, u "add"), (0, u "(JJ)Z"), (0, .fieldref 5 35), (0, .nameAndType 36 28), (0, u "ranges"), (0, .methodref 38 39), (0, .class_ 40), (0, .nameAndType 41 42), (0, u "java/util/Arrays"), (0, u "copyOf"), (0, u "([JI)[J"), (0, .fieldref 5 44), (0, .nameAndType 45 46), (0, u "count"), (0, u "J"), (0, .methodref 5 48), (0, .nameAndType 49 50), (0, u "rangeFrom"), (0, u "(J)I"), (0, .methodref 5 52), (0, .nameAndType 53 54), (0, u "checkRange"), (0, u "(JJ)V"), (0, .methodref 5 56), (0, .nameAndType 57 58), (0, u "insert"), (0, u "(IJJ)V"), (0, .methodref 60 61), (0, .class_ 62), (0, .nameAndType 63 64), (0, u "java/lang/Math"), (0, u "min"), (0, u "(JJ)J"), (0, .methodref 60 66), (0, .nameAndType 67 64), (0, u "max"), (0, .methodref 5 69), (0, .nameAndType 70 71), (0, u "delete"), (0, u "(II)V"), (2, u "remove"), (11, .methodref 60 87), (0, .nameAndType 67 88), (0, u "(II)I"), (0, .methodref 90 91), (0, .class_ 92), (0, .nameAndType 93 94), (0, u "java/lang/System"), (0, u "arraycopy"), (0, u "(Ljava/lang/Object;ILjava/lang/Object;II)V"), (17, u "()J"), (2, u "end")] 20

def k3c0 : Code := { maxStack := 2, maxLocals := 1, code := prog_55_method_1_code, exceptionTable := #[], attributes := #[] }
def k3m0 : Method := { name := "<init>", desc := "()V", sig := { parameters := [], returnType := none }, accessFlags := 1, code := some k3c0 }
def k3c1 : Code := { maxStack := 2, maxLocals := 2, code := prog_55_method_2_code, exceptionTable := #[], attributes := #[] }
def k3m1 : Method := { name := "<init>", desc := "(I)V", sig := { parameters := [.int], returnType := none }, accessFlags := 2, code := some k3c1 }
def k3c2 : Code := { maxStack := 7, maxLocals := 13, code := prog_55_method_8_code, exceptionTable := #[], attributes := #[] }
def k3m2 : Method := { name := "add", desc := "(JJ)Z", sig := { parameters := [.long, .long], returnType := some .boolean }, accessFlags := 1, code := some k3c2 }
def k3c3 : Code := { maxStack := 7, maxLocals := 12, code := prog_55_method_10_code, exceptionTable := #[], attributes := #[] }
def k3m3 : Method := { name := "remove", desc := "(JJ)V", sig := { parameters := [.long, .long], returnType := none }, accessFlags := 1, code := some k3c3 }
def k3c4 : Code := { maxStack := 4, maxLocals := 1, code := prog_55_method_17_code, exceptionTable := #[], attributes := #[] }
def k3m4 : Method := { name := "end", desc := "()J", sig := { parameters := [], returnType := some .long }, accessFlags := 1, code := some k3c4 }
def k3c5 : Code := { maxStack := 4, maxLocals := 6, code := prog_55_method_19_code, exceptionTable := #[], attributes := #[] }
def k3m5 : Method := { name := "rangeFrom", desc := "(J)I", sig := { parameters := [.long], returnType := some .int }, accessFlags := 2, code := some k3c5 }
def k3c6 : Code := { maxStack := 6, maxLocals := 4, code := prog_55_method_20_code, exceptionTable := #[], attributes := #[] }
def k3m6 : Method := { name := "checkRange", desc := "(JJ)V", sig := { parameters := [.long, .long], returnType := none }, accessFlags := 10, code := some k3c6 }
def k3c7 : Code := { maxStack := 6, maxLocals := 7, code := prog_55_method_21_code, exceptionTable := #[], attributes := #[] }
def k3m7 : Method := { name := "insert", desc := "(IJJ)V", sig := { parameters := [.int, .long, .long], returnType := none }, accessFlags := 2, code := some k3c7 }
def k3c8 : Code := { maxStack := 6, maxLocals := 3, code := prog_55_method_22_code, exceptionTable := #[], attributes := #[] }
def k3m8 : Method := { name := "delete", desc := "(II)V", sig := { parameters := [.int, .int], returnType := none }, accessFlags := 2, code := some k3c8 }
/-- com/example/tributary/tributary/model/RangeSet -/
def k3 : Class := { plain "com/example/tributary/tributary/model/RangeSet" (some 0) with
  accessFlags := 49
  interfaces := #[]
  cf := some (fileOf pool3 5 #[] #[{ accessFlags := 1, nameIndex := 8, descriptorIndex := 14, attributes := #[] }, { accessFlags := 2, nameIndex := 8, descriptorIndex := 9, attributes := #[] }, { accessFlags := 1, nameIndex := 32, descriptorIndex := 33, attributes := #[] }, { accessFlags := 1, nameIndex := 74, descriptorIndex := 54, attributes := #[] }, { accessFlags := 1, nameIndex := 115, descriptorIndex := 112, attributes := #[] }, { accessFlags := 2, nameIndex := 49, descriptorIndex := 50, attributes := #[] }, { accessFlags := 10, nameIndex := 53, descriptorIndex := 54, attributes := #[] }, { accessFlags := 2, nameIndex := 57, descriptorIndex := 58, attributes := #[] }, { accessFlags := 2, nameIndex := 70, descriptorIndex := 71, attributes := #[] }] 49 11 #[] #[{ accessFlags := 26, nameIndex := 17, descriptorIndex := 18, attributes := #[] }, { accessFlags := 2, nameIndex := 21, descriptorIndex := 18, attributes := #[] }, { accessFlags := 2, nameIndex := 24, descriptorIndex := 18, attributes := #[] }, { accessFlags := 18, nameIndex := 27, descriptorIndex := 28, attributes := #[] }, { accessFlags := 2, nameIndex := 36, descriptorIndex := 28, attributes := #[] }, { accessFlags := 2, nameIndex := 45, descriptorIndex := 46, attributes := #[] }])
  fields := #[{ name := "NONE", type := (.array .long), accessFlags := 26, slot := 0, constantValue := 0 }, { name := "firsts", type := (.array .long), accessFlags := 2, slot := 0, constantValue := 0 }, { name := "lasts", type := (.array .long), accessFlags := 2, slot := 1, constantValue := 0 }, { name := "maxRanges", type := .int, accessFlags := 18, slot := 2, constantValue := 0 }, { name := "ranges", type := .int, accessFlags := 2, slot := 3, constantValue := 0 }, { name := "count", type := .long, accessFlags := 2, slot := 4, constantValue := 0 }]
  methods := #[k3m0, k3m1, k3m2, k3m3, k3m4, k3m5, k3m6, k3m7, k3m8]
  instanceTypes := #[(.array .long), (.array .long), .int, .int, .long]
  staticTypes := #[(.array .long)]
  resolved := Array.replicate 136 none
  statics := some 0 }

def pool4 : Array CpInfo := pool [(2, .class_ 4), (1, u "java/lang/Object"), (0, u "<init>"), (0, u "()V"), (7, .class_ 16), (1, u "java/util/Arrays"), (57, .class_ 76), (1, u "java/util/Arrays$NaturalOrder"), (36, .class_ 115), (1, u "java/util/Arrays$LegacyMergeSort"), (1, u "Z"), (32, .methodref 151 152), (0, .class_ 153), (0, .nameAndType 154 155), (0, u "java/lang/System"), (0, u "arraycopy"), (0, u "(Ljava/lang/Object;ILjava/lang/Object;II)V"), (146, u "copyOf"), (1, .methodref 305 306), (0, .class_ 307), (0, .nameAndType 308 309), (0, u "java/lang/Math"), (0, u "min"), (0, u "(II)I"), (65, .class_ 376), (0, u "java/util/Arrays$ArrayList"), (68, u "$assertionsDisabled"), (269, u "MIN_ARRAY_SORT_GRAN"), (0, u "I"), (2, u "INSERTIONSORT_THRESHOLD"), (152, u "([JI)[J"), (102, .class_ 976), (0, u "java/util/Arrays$ArrayItr")] 52

def k4m0 : Method := { name := "<init>", desc := "()V", sig := { parameters := [], returnType := none }, accessFlags := 2, code := none }
def k4c1 : Code := { maxStack := 6, maxLocals := 3, code := jdk_65_method_124_code, exceptionTable := #[], attributes := #[] }
def k4m1 : Method := { name := "copyOf", desc := "([JI)[J", sig := { parameters := [(.array .long), .int], returnType := some (.array .long) }, accessFlags := 9, code := some k4c1 }
/-- java/util/Arrays -/
def k4 : Class := { plain "java/util/Arrays" (some 0) with
  accessFlags := 49
  interfaces := #[]
  cf := some (fileOf pool4 14 #[.nestMembers #[975, 375, 113, 74]] #[{ accessFlags := 2, nameIndex := 5, descriptorIndex := 6, attributes := #[] }, { accessFlags := 9, nameIndex := 302, descriptorIndex := 872, attributes := #[] }] 49 2 #[] #[{ accessFlags := 26, nameIndex := 715, descriptorIndex := 716, attributes := #[] }, { accessFlags := 26, nameIndex := 719, descriptorIndex := 716, attributes := #[] }, { accessFlags := 4120, nameIndex := 445, descriptorIndex := 117, attributes := #[] }])
  fields := #[{ name := "MIN_ARRAY_SORT_GRAN", type := .int, accessFlags := 26, slot := 0, constantValue := 0 }, { name := "INSERTIONSORT_THRESHOLD", type := .int, accessFlags := 26, slot := 1, constantValue := 0 }, { name := "$assertionsDisabled", type := .boolean, accessFlags := 4120, slot := 2, constantValue := 0 }]
  methods := #[k4m0, k4m1]
  instanceTypes := #[]
  staticTypes := #[.int, .int, .boolean]
  resolved := Array.replicate 1029 none
  statics := none }

def pool5 : Array CpInfo := pool [(2, .class_ 4), (1, u "java/lang/Object"), (0, u "<init>"), (0, u "()V"), (1, .class_ 10), (1, u "java/lang/System"), (0, u "allowSecurityManager"), (0, u "I"), (16, u "cons"), (0, u "Ljava/io/Console;"), (77, .class_ 110), (1, u "java/lang/System$CallersHolder"), (43, u "initialErrStream"), (0, u "Ljava/io/PrintStream;"), (19, u "security"), (0, u "Ljava/lang/SecurityManager;"), (31, .class_ 209), (0, u "java/lang/System$1"), (7, u "props"), (0, u "Ljava/util/Properties;"), (2, u "lineSeparator"), (0, u "Ljava/lang/String;"), (96, .class_ 321), (1, u "java/lang/System$LoggerFinder"), (5, .class_ 328), (0, u "java/lang/System$Logger"), (67, u "err"), (2, u "out"), (91, u "notSupportedJnuEncoding"), (15, u "in"), (17, u "initialIn"), (0, u "Ljava/io/InputStream;"), (35, u "bootLayer"), (0, u "Ljava/lang/ModuleLayer;"), (99, .class_ 664), (0, u "java/lang/System$2"), (9, u "NEVER"), (2, u "MAYBE"), (49, u "arraycopy"), (0, u "(Ljava/lang/Object;ILjava/lang/Object;II)V"), (72, .class_ 802), (0, u "java/lang/System$Logger$Level")] 31

def k5m0 : Method := { name := "<init>", desc := "()V", sig := { parameters := [], returnType := none }, accessFlags := 2, code := none }
def k5m1 : Method := { name := "arraycopy", desc := "(Ljava/lang/Object;ILjava/lang/Object;II)V", sig := { parameters := [(.object "java/lang/Object"), .int, (.object "java/lang/Object"), .int, .int], returnType := none }, accessFlags := 265, code := none }
/-- java/lang/System -/
def k5 : Class := { plain "java/lang/System" (some 0) with
  accessFlags := 49
  interfaces := #[]
  cf := some (fileOf pool5 8 #[.nestMembers #[319, 327, 801, 108, 663, 208]] #[{ accessFlags := 2, nameIndex := 5, descriptorIndex := 6, attributes := #[] }, { accessFlags := 265, nameIndex := 727, descriptorIndex := 728, attributes := #[] }] 49 2 #[] #[{ accessFlags := 25, nameIndex := 507, descriptorIndex := 526, attributes := #[] }, { accessFlags := 25, nameIndex := 399, descriptorIndex := 155, attributes := #[] }, { accessFlags := 25, nameIndex := 396, descriptorIndex := 155, attributes := #[] }, { accessFlags := 10, nameIndex := 525, descriptorIndex := 526, attributes := #[] }, { accessFlags := 26, nameIndex := 674, descriptorIndex := 12, attributes := #[] }, { accessFlags := 26, nameIndex := 677, descriptorIndex := 12, attributes := #[] }, { accessFlags := 10, nameIndex := 11, descriptorIndex := 12, attributes := #[] }, { accessFlags := 74, nameIndex := 175, descriptorIndex := 176, attributes := #[] }, { accessFlags := 10, nameIndex := 491, descriptorIndex := 222, attributes := #[] }, { accessFlags := 74, nameIndex := 29, descriptorIndex := 30, attributes := #[] }, { accessFlags := 74, nameIndex := 154, descriptorIndex := 155, attributes := #[] }, { accessFlags := 10, nameIndex := 217, descriptorIndex := 218, attributes := #[] }, { accessFlags := 10, nameIndex := 221, descriptorIndex := 222, attributes := #[] }, { accessFlags := 8, nameIndex := 562, descriptorIndex := 563, attributes := #[] }])
  fields := #[{ name := "in", type := (.object "java/io/InputStream"), accessFlags := 25, slot := 0, constantValue := 0 }, { name := "out", type := (.object "java/io/PrintStream"), accessFlags := 25, slot := 1, constantValue := 0 }, { name := "err", type := (.object "java/io/PrintStream"), accessFlags := 25, slot := 2, constantValue := 0 }, { name := "initialIn", type := (.object "java/io/InputStream"), accessFlags := 10, slot := 3, constantValue := 0 }, { name := "NEVER", type := .int, accessFlags := 26, slot := 4, constantValue := 0 }, { name := "MAYBE", type := .int, accessFlags := 26, slot := 5, constantValue := 0 }, { name := "allowSecurityManager", type := .int, accessFlags := 10, slot := 6, constantValue := 0 }, { name := "security", type := (.object "java/lang/SecurityManager"), accessFlags := 74, slot := 7, constantValue := 0 }, { name := "notSupportedJnuEncoding", type := (.object "java/lang/String"), accessFlags := 10, slot := 8, constantValue := 0 }, { name := "cons", type := (.object "java/io/Console"), accessFlags := 74, slot := 9, constantValue := 0 }, { name := "initialErrStream", type := (.object "java/io/PrintStream"), accessFlags := 74, slot := 10, constantValue := 0 }, { name := "props", type := (.object "java/util/Properties"), accessFlags := 10, slot := 11, constantValue := 0 }, { name := "lineSeparator", type := (.object "java/lang/String"), accessFlags := 10, slot := 12, constantValue := 0 }, { name := "bootLayer", type := (.object "java/lang/ModuleLayer"), accessFlags := 8, slot := 13, constantValue := 0 }]
  methods := #[k5m0, k5m1]
  instanceTypes := #[]
  staticTypes := #[(.object "java/io/InputStream"), (.object "java/io/PrintStream"), (.object "java/io/PrintStream"), (.object "java/io/InputStream"), .int, .int, .int, (.object "java/lang/SecurityManager"), (.object "java/lang/String"), (.object "java/io/Console"), (.object "java/io/PrintStream"), (.object "java/util/Properties"), (.object "java/lang/String"), (.object "java/lang/ModuleLayer")]
  resolved := Array.replicate 834 none
  statics := none }

def pool6 : Array CpInfo := pool [(1, u "java/lang/Cloneable"), (0, .class_ 1), (0, u "java/lang/Object"), (0, .class_ 3)] 3

/-- java/lang/Cloneable -/
def k6 : Class := { plain "java/lang/Cloneable" (some 0) with
  accessFlags := 1537
  interfaces := #[]
  cf := some (fileOf pool6 2 #[] #[] 1537 4 #[] #[])
  fields := #[]
  methods := #[]
  instanceTypes := #[]
  staticTypes := #[]
  resolved := Array.replicate 8 none
  statics := none }

def pool7 : Array CpInfo := pool [(1, u "java/io/Serializable"), (0, .class_ 1), (0, u "java/lang/Object"), (0, .class_ 3)] 3

/-- java/io/Serializable -/
def k7 : Class := { plain "java/io/Serializable" (some 0) with
  accessFlags := 1537
  interfaces := #[]
  cf := some (fileOf pool7 2 #[] #[] 1537 4 #[] #[])
  fields := #[]
  methods := #[]
  instanceTypes := #[]
  staticTypes := #[]
  resolved := Array.replicate 8 none
  statics := none }

/-- the primitive byte -/
def k8 : Class := { plain "byte" none with kind := .primitive 'B', accessFlags := 0x411 }
/-- [B -/
def k9 : Class := { plain "[B" (some 0) with kind := .array 8 .byte, interfaces := #[6, 7], accessFlags := 1041 }

/-- the primitive int -/
def k10 : Class := { plain "int" none with kind := .primitive 'I', accessFlags := 0x411 }
/-- [I -/
def k11 : Class := { plain "[I" (some 0) with kind := .array 10 .int, interfaces := #[6, 7], accessFlags := 1041 }

/-- the primitive long -/
def k12 : Class := { plain "long" none with kind := .primitive 'J', accessFlags := 0x411 }
/-- [J -/
def k13 : Class := { plain "[J" (some 0) with kind := .array 12 .long, interfaces := #[6, 7], accessFlags := 1041 }

def heap : Heap := #[{ cls := 3, slots := #[.ref 1], vm := .statics 3 },
  { cls := 13, slots := #[], vm := .none }]
def classes : Array Class := #[k0, k1, k2, k3, k4, k5, k6, k7, k8, k9, k10, k11, k12, k13]
def interned : List (Array UInt16 × Addr) := []
def slotsUsed : Nat := 1
def theMethod : MethodId := ⟨1, 3⟩
def args0 : Array Value := #[.int 5, .long 5, .long 5, .long 5, .long 5, .long 5]
def aboutOver (below : List Frame) : State where
  vm := { classes := classes, interned := interned.toArray }
  heap := heap
  slotsUsed := slotsUsed
  threads := #[{ frames := .invoking theMethod args0 :: below }]
def below0 : List Frame := [.native { method := ⟨0, 0⟩, args := #[] }]
def about1 : State := aboutOver below0
def p0 : Program := .bare "" "" ""
def e0 : Env := launch0.env 0 0 0
theorem w_frames : about1.frames = Frame.invoking theMethod args0 :: below0 := rfl
set_option maxRecDepth 65536 in
theorem w_args : argsFit about1.vm theMethod args0 = true := by decide +kernel
set_option maxRecDepth 65536 in
theorem w_heap : heapFits about1 = true := by decide +kernel
set_option maxRecDepth 65536 in
theorem w_runnable : about1.curStatus? = some .runnable := by decide +kernel
set_option maxRecDepth 65536 in
theorem w_alone : about1.alone = true := by decide +kernel
set_option maxRecDepth 65536 in
theorem w_named : about1.methodNamed? x = some theMethod := by decide +kernel
set_option maxRecDepth 65536 in
theorem w_hears : about1.hears theMethod below0 = true := by decide +kernel
set_option maxRecDepth 65536 in
theorem w_ripe : about1.ripe theMethod args0 below0 = true := by decide +kernel
theorem w_running : about1.status = .running := rfl
set_option maxRecDepth 65536 in
theorem w_room : about1.hasRoom e0.platform room_1 = true :=
  launch0.hasRoom_least _ room_1 (by decide +kernel) (by decide +kernel) (by decide +kernel) (by decide +kernel) (by decide +kernel) (by decide +kernel)
theorem allAtoms_all (ts : List Jvm.Cond) (a : Array Jvm.Value) (st : Jvm.State) : (allAtoms ts).before a st = ts.all (fun c => c.before a st) := by
  induction ts with
  | nil => rfl
  | cons c t ih =>
    show (Jvm.Cond.and c (allAtoms t)).before a st = _
    rw [Jvm.Cond.before_and, ih, List.all_cons]
def words1 : List Jvm.Cond := Jvm.Cond.code x code maxLocals ret :: tables_1
/-- a 'code' word, met by the world's own term for the bytes: nothing is compared byte by byte -/
theorem code_word {y : MethodName} {bytes : ByteArray} {mx : Nat} {rt : Option FieldType} {a : Array Value} {s : State} {m : MethodId} {meth : Method} {c : Code} (h1 : s.methodNamed? y = some m) (h2 : s.vm.method? m = some meth) (h3 : meth.code = some c) (h4 : c.code = bytes)
    (h5 : (c.maxLocals == mx && c.exceptionTable.isEmpty && decide (c.maxStack ≤ mostOperands) && decide (meth.sig.returnType = rt) && !meth.locks && decide (parseMethodDescriptor y.desc = some meth.sig)) = true) : (Jvm.Cond.code y bytes mx rt).before a s = true := by
  simp only [Bool.and_eq_true, beq_iff_eq, Bool.not_eq_true', decide_eq_true_eq] at h5
  obtain ⟨⟨⟨⟨⟨g1, g2⟩, g3⟩, g4⟩, g5⟩, g6⟩ := h5
  simp [Cond.before, Cond.holds, Cond.value, h1, h2, h3, h4, g1, g2, g3, g4, g5, g6]
def isCode : Jvm.Cond → Bool
  | .code _ _ _ _ => true
  | _ => false
theorem all_split {L : List Jvm.Cond} {P : Jvm.Cond → Bool} (h1 : L.all (fun c => isCode c || P c) = true) (h2 : ∀ c ∈ L.filter isCode, P c = true) : L.all P = true := by
  refine List.all_eq_true.mpr fun c hc => ?_
  have h := List.all_eq_true.mp h1 c hc
  rcases Bool.eq_false_or_eq_true (isCode c) with hi | hi
  · exact h2 c (List.mem_filter.mpr ⟨hc, hi⟩)
  · simpa [hi] using h
set_option maxRecDepth 65536 in
theorem w_c0 : (Jvm.Cond.code x code maxLocals ret).before args0 about1 = true := code_word (m := ⟨1, 3⟩) (meth := k1m3) (c := k1c3) (by decide +kernel) rfl rfl rfl (by decide +kernel)
set_option maxRecDepth 65536 in
theorem w_c1 : (Jvm.Cond.code ({ cls := "com/example/tributary/tributary/model/RangeSetEndPinLaw", name := "clamp", desc := "(J)J" } : Jvm.MethodName) method_2_code (2 : Nat) (Option.some Jvm.ClassFile.FieldType.long)).before args0 about1 = true := code_word (m := ⟨1, 1⟩) (meth := k1m1) (c := k1c1) (by decide +kernel) rfl rfl rfl (by decide +kernel)
set_option maxRecDepth 65536 in
theorem w_c2 : (Jvm.Cond.code ({ cls := "java/lang/Math", name := "min", desc := "(JJ)J" } : Jvm.MethodName) jdk_29_method_70_code (4 : Nat) (Option.some Jvm.ClassFile.FieldType.long)).before args0 about1 = true := code_word (m := ⟨2, 4⟩) (meth := k2m4) (c := k2c4) (by decide +kernel) rfl rfl rfl (by decide +kernel)
set_option maxRecDepth 65536 in
theorem w_c3 : (Jvm.Cond.code ({ cls := "java/lang/Math", name := "max", desc := "(JJ)J" } : Jvm.MethodName) jdk_29_method_66_code (4 : Nat) (Option.some Jvm.ClassFile.FieldType.long)).before args0 about1 = true := code_word (m := ⟨2, 2⟩) (meth := k2m2) (c := k2c2) (by decide +kernel) rfl rfl rfl (by decide +kernel)
set_option maxRecDepth 65536 in
theorem w_c4 : (Jvm.Cond.code ({ cls := "com/example/tributary/tributary/model/RangeSet", name := "<init>", desc := "()V" } : Jvm.MethodName) prog_55_method_1_code (1 : Nat) (Option.none : Option Jvm.ClassFile.FieldType)).before args0 about1 = true := code_word (m := ⟨3, 0⟩) (meth := k3m0) (c := k3c0) (by decide +kernel) rfl rfl rfl (by decide +kernel)
set_option maxRecDepth 65536 in
theorem w_c5 : (Jvm.Cond.code ({ cls := "com/example/tributary/tributary/model/RangeSet", name := "<init>", desc := "(I)V" } : Jvm.MethodName) prog_55_method_2_code (2 : Nat) (Option.none : Option Jvm.ClassFile.FieldType)).before args0 about1 = true := code_word (m := ⟨3, 1⟩) (meth := k3m1) (c := k3c1) (by decide +kernel) rfl rfl rfl (by decide +kernel)
set_option maxRecDepth 65536 in
theorem w_c6 : (Jvm.Cond.code ({ cls := "java/lang/Object", name := "<init>", desc := "()V" } : Jvm.MethodName) object_method_1_code (1 : Nat) (Option.none : Option Jvm.ClassFile.FieldType)).before args0 about1 = true := code_word (m := ⟨0, 0⟩) (meth := k0m0) (c := k0c0) (by decide +kernel) rfl rfl rfl (by decide +kernel)
set_option maxRecDepth 65536 in
theorem w_c7 : (Jvm.Cond.code ({ cls := "com/example/tributary/tributary/model/RangeSet", name := "end", desc := "()J" } : Jvm.MethodName) prog_55_method_17_code (1 : Nat) (Option.some Jvm.ClassFile.FieldType.long)).before args0 about1 = true := code_word (m := ⟨3, 4⟩) (meth := k3m4) (c := k3c4) (by decide +kernel) rfl rfl rfl (by decide +kernel)
set_option maxRecDepth 65536 in
theorem w_c8 : (Jvm.Cond.code ({ cls := "com/example/tributary/tributary/model/RangeSet", name := "add", desc := "(JJ)Z" } : Jvm.MethodName) prog_55_method_8_code (13 : Nat) (Option.some Jvm.ClassFile.FieldType.boolean)).before args0 about1 = true := code_word (m := ⟨3, 2⟩) (meth := k3m2) (c := k3c2) (by decide +kernel) rfl rfl rfl (by decide +kernel)
set_option maxRecDepth 65536 in
theorem w_c9 : (Jvm.Cond.code ({ cls := "com/example/tributary/tributary/model/RangeSet", name := "checkRange", desc := "(JJ)V" } : Jvm.MethodName) prog_55_method_20_code (4 : Nat) (Option.none : Option Jvm.ClassFile.FieldType)).before args0 about1 = true := code_word (m := ⟨3, 6⟩) (meth := k3m6) (c := k3c6) (by decide +kernel) rfl rfl rfl (by decide +kernel)
set_option maxRecDepth 65536 in
theorem w_c10 : (Jvm.Cond.code ({ cls := "com/example/tributary/tributary/model/RangeSet", name := "rangeFrom", desc := "(J)I" } : Jvm.MethodName) prog_55_method_19_code (6 : Nat) (Option.some Jvm.ClassFile.FieldType.int)).before args0 about1 = true := code_word (m := ⟨3, 5⟩) (meth := k3m5) (c := k3c5) (by decide +kernel) rfl rfl rfl (by decide +kernel)
set_option maxRecDepth 65536 in
theorem w_c11 : (Jvm.Cond.code ({ cls := "com/example/tributary/tributary/model/RangeSet", name := "insert", desc := "(IJJ)V" } : Jvm.MethodName) prog_55_method_21_code (7 : Nat) (Option.none : Option Jvm.ClassFile.FieldType)).before args0 about1 = true := code_word (m := ⟨3, 7⟩) (meth := k3m7) (c := k3c7) (by decide +kernel) rfl rfl rfl (by decide +kernel)
set_option maxRecDepth 65536 in
theorem w_c12 : (Jvm.Cond.code ({ cls := "java/lang/Math", name := "max", desc := "(II)I" } : Jvm.MethodName) jdk_29_method_65_code (2 : Nat) (Option.some Jvm.ClassFile.FieldType.int)).before args0 about1 = true := code_word (m := ⟨2, 1⟩) (meth := k2m1) (c := k2c1) (by decide +kernel) rfl rfl rfl (by decide +kernel)
set_option maxRecDepth 65536 in
theorem w_c13 : (Jvm.Cond.code ({ cls := "java/util/Arrays", name := "copyOf", desc := "([JI)[J" } : Jvm.MethodName) jdk_65_method_124_code (3 : Nat) (Option.some (Jvm.ClassFile.FieldType.array Jvm.ClassFile.FieldType.long))).before args0 about1 = true := code_word (m := ⟨4, 1⟩) (meth := k4m1) (c := k4c1) (by decide +kernel) rfl rfl rfl (by decide +kernel)
set_option maxRecDepth 65536 in
theorem w_c14 : (Jvm.Cond.code ({ cls := "java/lang/Math", name := "min", desc := "(II)I" } : Jvm.MethodName) jdk_29_method_69_code (2 : Nat) (Option.some Jvm.ClassFile.FieldType.int)).before args0 about1 = true := code_word (m := ⟨2, 3⟩) (meth := k2m3) (c := k2c3) (by decide +kernel) rfl rfl rfl (by decide +kernel)
set_option maxRecDepth 65536 in
theorem w_c15 : (Jvm.Cond.code ({ cls := "com/example/tributary/tributary/model/RangeSetEndPinLaw", name := "part", desc := "(JJZJ)J" } : Jvm.MethodName) method_3_code (7 : Nat) (Option.some Jvm.ClassFile.FieldType.long)).before args0 about1 = true := code_word (m := ⟨1, 2⟩) (meth := k1m2) (c := k1c2) (by decide +kernel) rfl rfl rfl (by decide +kernel)
set_option maxRecDepth 65536 in
theorem w_c16 : (Jvm.Cond.code ({ cls := "com/example/tributary/tributary/model/RangeSet", name := "delete", desc := "(II)V" } : Jvm.MethodName) prog_55_method_22_code (3 : Nat) (Option.none : Option Jvm.ClassFile.FieldType)).before args0 about1 = true := code_word (m := ⟨3, 8⟩) (meth := k3m8) (c := k3c8) (by decide +kernel) rfl rfl rfl (by decide +kernel)
set_option maxRecDepth 65536 in
theorem w_c17 : (Jvm.Cond.code ({ cls := "com/example/tributary/tributary/model/RangeSet", name := "remove", desc := "(JJ)V" } : Jvm.MethodName) prog_55_method_10_code (12 : Nat) (Option.none : Option Jvm.ClassFile.FieldType)).before args0 about1 = true := code_word (m := ⟨3, 3⟩) (meth := k3m3) (c := k3c3) (by decide +kernel) rfl rfl rfl (by decide +kernel)
def codes1 : List Jvm.Cond := [Jvm.Cond.code x code maxLocals ret, Jvm.Cond.code ({ cls := "com/example/tributary/tributary/model/RangeSetEndPinLaw", name := "clamp", desc := "(J)J" } : Jvm.MethodName) method_2_code (2 : Nat) (Option.some Jvm.ClassFile.FieldType.long), Jvm.Cond.code ({ cls := "java/lang/Math", name := "min", desc := "(JJ)J" } : Jvm.MethodName) jdk_29_method_70_code (4 : Nat) (Option.some Jvm.ClassFile.FieldType.long), Jvm.Cond.code ({ cls := "java/lang/Math", name := "max", desc := "(JJ)J" } : Jvm.MethodName) jdk_29_method_66_code (4 : Nat) (Option.some Jvm.ClassFile.FieldType.long), Jvm.Cond.code ({ cls := "com/example/tributary/tributary/model/RangeSet", name := "<init>", desc := "()V" } : Jvm.MethodName) prog_55_method_1_code (1 : Nat) (Option.none : Option Jvm.ClassFile.FieldType), Jvm.Cond.code ({ cls := "com/example/tributary/tributary/model/RangeSet", name := "<init>", desc := "(I)V" } : Jvm.MethodName) prog_55_method_2_code (2 : Nat) (Option.none : Option Jvm.ClassFile.FieldType), Jvm.Cond.code ({ cls := "java/lang/Object", name := "<init>", desc := "()V" } : Jvm.MethodName) object_method_1_code (1 : Nat) (Option.none : Option Jvm.ClassFile.FieldType), Jvm.Cond.code ({ cls := "com/example/tributary/tributary/model/RangeSet", name := "end", desc := "()J" } : Jvm.MethodName) prog_55_method_17_code (1 : Nat) (Option.some Jvm.ClassFile.FieldType.long), Jvm.Cond.code ({ cls := "com/example/tributary/tributary/model/RangeSet", name := "add", desc := "(JJ)Z" } : Jvm.MethodName) prog_55_method_8_code (13 : Nat) (Option.some Jvm.ClassFile.FieldType.boolean), Jvm.Cond.code ({ cls := "com/example/tributary/tributary/model/RangeSet", name := "checkRange", desc := "(JJ)V" } : Jvm.MethodName) prog_55_method_20_code (4 : Nat) (Option.none : Option Jvm.ClassFile.FieldType), Jvm.Cond.code ({ cls := "com/example/tributary/tributary/model/RangeSet", name := "rangeFrom", desc := "(J)I" } : Jvm.MethodName) prog_55_method_19_code (6 : Nat) (Option.some Jvm.ClassFile.FieldType.int), Jvm.Cond.code ({ cls := "com/example/tributary/tributary/model/RangeSet", name := "insert", desc := "(IJJ)V" } : Jvm.MethodName) prog_55_method_21_code (7 : Nat) (Option.none : Option Jvm.ClassFile.FieldType), Jvm.Cond.code ({ cls := "java/lang/Math", name := "max", desc := "(II)I" } : Jvm.MethodName) jdk_29_method_65_code (2 : Nat) (Option.some Jvm.ClassFile.FieldType.int), Jvm.Cond.code ({ cls := "java/util/Arrays", name := "copyOf", desc := "([JI)[J" } : Jvm.MethodName) jdk_65_method_124_code (3 : Nat) (Option.some (Jvm.ClassFile.FieldType.array Jvm.ClassFile.FieldType.long)), Jvm.Cond.code ({ cls := "java/lang/Math", name := "min", desc := "(II)I" } : Jvm.MethodName) jdk_29_method_69_code (2 : Nat) (Option.some Jvm.ClassFile.FieldType.int), Jvm.Cond.code ({ cls := "com/example/tributary/tributary/model/RangeSetEndPinLaw", name := "part", desc := "(JJZJ)J" } : Jvm.MethodName) method_3_code (7 : Nat) (Option.some Jvm.ClassFile.FieldType.long), Jvm.Cond.code ({ cls := "com/example/tributary/tributary/model/RangeSet", name := "delete", desc := "(II)V" } : Jvm.MethodName) prog_55_method_22_code (3 : Nat) (Option.none : Option Jvm.ClassFile.FieldType), Jvm.Cond.code ({ cls := "com/example/tributary/tributary/model/RangeSet", name := "remove", desc := "(JJ)V" } : Jvm.MethodName) prog_55_method_10_code (12 : Nat) (Option.none : Option Jvm.ClassFile.FieldType)]
set_option maxRecDepth 65536 in
theorem codes_eq : words1.filter isCode = codes1 := rfl
theorem w_codes : ∀ c ∈ words1.filter isCode, c.before args0 about1 = true := by
  rw [codes_eq]
  intro c hc
  simp only [codes1, List.mem_cons, List.not_mem_nil, or_false] at hc
  rcases hc with rfl | rfl | rfl | rfl | rfl | rfl | rfl | rfl | rfl | rfl | rfl | rfl | rfl | rfl | rfl | rfl | rfl | rfl
  · exact w_c0
  · exact w_c1
  · exact w_c2
  · exact w_c3
  · exact w_c4
  · exact w_c5
  · exact w_c6
  · exact w_c7
  · exact w_c8
  · exact w_c9
  · exact w_c10
  · exact w_c11
  · exact w_c12
  · exact w_c13
  · exact w_c14
  · exact w_c15
  · exact w_c16
  · exact w_c17
set_option maxRecDepth 65536 in
theorem w_t1 : (words1.take 24).all (fun c => isCode c || c.before args0 about1) = true := by decide +kernel
set_option maxRecDepth 65536 in
theorem w_t2 : ((words1.drop 24).take 24).all (fun c => isCode c || c.before args0 about1) = true := by decide +kernel
set_option maxRecDepth 65536 in
theorem w_t3 : (((words1.drop 24).drop 24).take 24).all (fun c => isCode c || c.before args0 about1) = true := by decide +kernel
set_option maxRecDepth 65536 in
theorem w_t4 : (((words1.drop 24).drop 24).drop 24).all (fun c => isCode c || c.before args0 about1) = true := by decide +kernel
theorem w_tables : (allAtoms (Jvm.Cond.code x code maxLocals ret :: tables_1)).before args0 about1 = true := by
  rw [allAtoms_all]
  show words1.all (fun c => c.before args0 about1) = true
  refine all_split ?_ w_codes
  rw [← List.take_append_drop 24 words1, List.all_append, w_t1, ← List.take_append_drop 24 (words1.drop 24), List.all_append, w_t2, ← List.take_append_drop 24 ((words1.drop 24).drop 24), List.all_append, w_t3, w_t4]
  rfl
set_option maxRecDepth 65536 in
theorem w_case : (Jvm.Cond.and given_1 narrow_1).before args0 about1 = true := by decide +kernel
theorem w_applies : (headSpec (Jvm.Cond.code x code maxLocals ret :: tables_1) room_1).applies x e0.platform about1 = true :=
  (Spec.applies_iff w_frames).mpr ⟨w_running, w_runnable, w_alone, w_named, w_hears, w_ripe, w_room, w_tables⟩
theorem atStart : AtStart classFile x code maxLocals ret World_1 tables_1 room_1 Calls_1 rest_1 Pre_1 launch0 p0 e0 about1 theMethod args0 below0 :=
  ⟨lists_1, trivial, launch0.admits_env _ _ _, launch0.least_env, fairChoices_fair.cas, fairChoices_fair.clock, w_frames, w_args, w_heap, w_applies, trivial, trivial, w_case⟩
end start1
theorem witness_1 : WitnessClaimed_1 := ⟨start1.p0, start1.e0, start1.about1, start1.theMethod, start1.args0, start1.below0, start1.atStart⟩
end Jvm.Pilot.@@N@@
