import JvmDerived
import JvmDerived.Pilot.@@N@@Statement
import JvmDerived.Pilot.@@N@@Code
set_option linter.unusedVariables false
set_option linter.unusedSimpArgs false
set_option maxRecDepth 65536
set_option maxHeartbeats 400000000
@@BLOCK:NumsL.lean.txt@@
namespace Jvm.Pilot.@@N@@
open Jvm Jvm.ClassFile Sem Op Lib Jvm.Free Jvm.Stand Jvm.LawKit Jvm.RoadKit Bundle Jvm.Pilot.@@N@@.Jvm.D
abbrev cc (x : Int32) : Int32 := x.toUInt32.toUInt16.toUInt32.toInt32
abbrev bb (x : Int32) : Int32 := x.toInt8.toInt32
abbrev PayOf (F : State → Outcome → State → List Loc → Nat → Nat → Prop) (l : Launch) (Z : State) (y : MethodName) (ws : List Jvm.Cond) (bytes : ByteArray) (ml : Nat) (rt : Option FieldType) (as' : Array Value) (h0 : Heap) (rm : Room) (Q : Option Value → Heap → List Loc → Prop) : Prop :=
  MetFree l y (head1 (Jvm.Cond.code y bytes ml rt :: ws) rm) (fun a U => a = as' ∧ Z.Warmed39 U.vm ∧ U.heap = h0) (fun _ _ _ _ _ => True) (fun _ U o U' => ∃ v L, o = .returned v ∧ Q v U'.heap L ∧ F U o U' L rm.cells rm.slots)
abbrev Pay := PayOf FrameEnd
abbrev PayW := PayOf ReturnedEndW
theorem own_body {F : State → Outcome → State → List Loc → Nat → Nat → Prop} {l : Launch} {Z : State} {y : MethodName} {ws : List Jvm.Cond} {bytes : ByteArray} {ml : Nat} {rt : Option FieldType} {as' : Array Value} {h0 : Heap} {rm : Room} {Q : Option Value → Heap → List Loc → Prop} (hp : plainFor y = true) {L0 : Array Slot} (hent : ∀ m, entryFrame m as' ml = mkF m 0 L0 [])
    (body : ∀ (p : Program) (e : Env) (s : State) (m : MethodId) (below : List Frame) (meth : Method) (c : Code) (s₁ : State), meth.sig.returnType = rt → meth.locks = false → p.tables.exec = Jvm.exec → c.code = bytes → c.maxLocals = ml → Z.Warmed39 s.vm → s.vm.findClass y.cls = some m.cls → meth.name = y.name → Stand p l e rm s m as' below meth c s₁ [] 0 0 → s₁.heap = h0 →
      ∃ s₂ o, Steps p.tables e below (s₁.setTop (mkF m 0 L0 [])) s₂ ∧ s₂.status = .running ∧ Ended s₂ below o ∧ ∃ v L, o = .returned v ∧ Q v s₂.heap L ∧ F s o s₂ L rm.cells rm.slots) : PayOf F l Z y ws bytes ml rt as' h0 rm Q := by
  refine MetFree.of_bodySF hp hisR ?_
  intro p e s m args below meth c s₁ Bd hml hP hK
  obtain ⟨rfl, hZ, hh⟩ := hP
  obtain ⟨s₂, o, st, r⟩ := body p e s m below meth c s₁ Bd.returns Bd.notSynchronized Bd.exec Bd.bytes hml hZ (findClass_of_methodNamed Bd.named) (name_of_methodNamed Bd.named Bd.method).1 (Stand.of_body Bd) (by rw [← hh, Bd.state]; rfl)
  exact ⟨s₂, o, castTop (hent m) st, r⟩
abbrev HW (Z : State) (a0 : Array Value) : Prop := ∀ d ∈ tables_1, d.before a0 Z = true
abbrev vi (x : Int32) : Slot := .val (.int x)
abbrev vl (x : Int64) : Slot := .val (.long x)
abbrev va (x : Addr) : Slot := .val (.ref x)
abbrev uu : Slot := .unset
abbrev ss : Slot := .second
theorem ww {Z : State} {a0 : Array Value} (hw : ∀ d ∈ tables_1, d.before a0 Z = true) (i : Nat) {d : Jvm.Cond} (h : tables_1[i]? = some d) : d.before a0 Z = true := hw _ (List.mem_of_getElem? h)
theorem own_old {Z : State} {n0 : Nat} {h : Heap} (O : Old Z n0 h) : n0 ≤ h.size := O.1 ▸ O.2.1
theorem own_lc_ltT {x y : Int64} (h : x < y) : ifCond.holds .lt (lcmpW x y) = true ∧ ifCond.holds .ge (lcmpW x y) = false := by
  have q : lcmpW x y < 0 := by rw [lcW]; exact (lc_lt x y).mpr h
  exact ⟨(if0 _ _).trans (tlt q).1, (if0 _ _).trans (tlt q).2.1⟩
theorem own_lc_ltF {x y : Int64} (h : ¬ x < y) : ifCond.holds .lt (lcmpW x y) = false ∧ ifCond.holds .ge (lcmpW x y) = true := by
  have q : ¬ lcmpW x y < 0 := by rw [lcW]; exact fun z => h ((lc_lt x y).mp z)
  exact ⟨(if0 _ _).trans (flt q).1, (if0 _ _).trans (flt q).2.1⟩
theorem own_lc_gtT {x y : Int64} (h : y < x) : ifCond.holds .gt (lcmpW x y) = true ∧ ifCond.holds .le (lcmpW x y) = false := by
  have q : 0 < lcmpW x y := by rw [lcW]; exact (lc_gt x y).mpr h
  exact ⟨(if0 _ _).trans (tlt q).2.2.1, (if0 _ _).trans (tlt q).2.2.2⟩
theorem own_lc_gtF {x y : Int64} (h : ¬ y < x) : ifCond.holds .gt (lcmpW x y) = false ∧ ifCond.holds .le (lcmpW x y) = true := by
  have q : ¬ 0 < lcmpW x y := by rw [lcW]; exact fun z => h ((lc_gt x y).mp z)
  exact ⟨(if0 _ _).trans (flt q).2.2.1, (if0 _ _).trans (flt q).2.2.2⟩
theorem own_lc_eqT {x y : Int64} (h : x = y) : ifCond.holds .eq (lcmpW x y) = true ∧ ifCond.holds .ne (lcmpW x y) = false := by
  have q : lcmpW x y = 0 := by rw [lcW]; exact (lc_eq x y).mpr h
  exact ⟨(if0 _ _).trans (teq q).1, (if0 _ _).trans (teq q).2⟩
theorem own_lc_eqF {x y : Int64} (h : ¬ x = y) : ifCond.holds .eq (lcmpW x y) = false ∧ ifCond.holds .ne (lcmpW x y) = true := by
  have q : ¬ lcmpW x y = 0 := by rw [lcW]; exact fun z => h ((lc_eq x y).mp z)
  exact ⟨(if0 _ _).trans (feq q).1, (if0 _ _).trans (feq q).2⟩
theorem own_selp {y : MethodName} {s : State} {args : Array Value} {n : Nat} (hy : y.cls ≠ "java/lang/invoke/MethodHandle" ∧ y.cls ≠ "java/lang/invoke/VarHandle") (hins : (Jvm.Cond.instantiable y.cls n).before args s = true) (hpriv : (Jvm.Cond.privateMethod y).before args s = true) (hinst : (Jvm.Cond.instanceMethod y).before args s = true) : (Jvm.Cond.selects y.cls y y).before args s = true := by
  obtain ⟨c, k, hc, hk, -, hniab, -, -⟩ := Cond.instantiable_spec hins
  exact selects_self_of_private hc hk (Bool.or_eq_false_iff.mp hniab).1 (Cond.privateMethod_at hpriv) hinst hy
theorem own_rem (x k : Int32) (n : Int) (hk : k.toInt = n) (hx : 0 ≤ x.toInt) : (x % k).toInt = x.toInt % n := by
  rw [Int32.toInt_mod, hk, Int.tmod_eq_emod_of_nonneg hx]
theorem own_eqI {t : Term} {k : Int32} {args : Array Value} {Z : State} (h : (Jvm.Cond.eq t (Jvm.Term.int k)).value args Z none Z [] = some true) : t.eval args Z none [] Z = some (.int k) := by
  simp only [Cond.value, Term.eval] at h
  cases ht : t.eval args Z none [] Z with
  | none => simp [ht] at h
  | some v => cases v <;> simp [ht] at h ⊢; exact h
theorem own_ne0 {t : Term} {x : Int32} {args : Array Value} {Z : State} (e : t.eval args Z none [] Z = some (.int x)) (h : (Jvm.Cond.not (Jvm.Cond.eq t (Jvm.Term.int (0 : Int32)))).value args Z none Z [] = some true) : ¬ (x = (0 : Int32)) := by
  intro q
  subst q
  simp [Cond.value, Term.eval, e] at h
theorem own_arvStart {ty : FieldType} {Z : State} {args : Array Value} {t : Term} {a : Addr} {cl : Cell} {z : Int32} {vs : List Value} {dv : Value} (hf : Fit Z) (ev : t.eval args Z none [] Z = some (.ref a)) (A : Arr Z Z.heap a cl ty) (hl : (Term.length t).eval args Z none [] Z = some (.int z)) (hz : ¬ z < 0) (hn : z.toNatClampNeg = vs.length) (H : HasL cl 0 vs) : Arv Z Z.heap a cl.cls ty z vs dv := by
  have hq : cl.slots.size < 2 ^ 31 ∧ cl.slots.size.toInt32 = z := by
    have e := A.fin (Vm.Alike.refl _)
    simp only [Term.eval, ev, e, Option.bind_eq_bind, Option.bind_some] at hl
    by_cases q : cl.slots.size < 2 ^ 31
    · rw [if_pos q] at hl; exact ⟨q, Value.int.inj (Option.some.inj hl)⟩
    · rw [if_neg q] at hl; cases hl
  exact Arv.start hf A hq.1 hq.2 hz hn H

abbrev My1 : MethodName := ⟨"com/example/leafcutter/leafcutter/RunStateCanMoveToPinLaw", "state", "(I)Lcom/example/leafcutter/leafcutter/RunState;"⟩
abbrev My2 : MethodName := ⟨"com/example/leafcutter/leafcutter/RunState", "canMoveTo", "(Lcom/example/leafcutter/leafcutter/RunState;)Z"⟩
abbrev My3 : MethodName := ⟨"java/util/Objects", "requireNonNull", "(Ljava/lang/Object;Ljava/lang/String;)Ljava/lang/Object;"⟩
abbrev My4 : MethodName := ⟨"java/lang/Enum", "ordinal", "()I"⟩
abbrev My5 : MethodName := ⟨"com/example/leafcutter/leafcutter/RunStateCanMoveToPinLaw", "allowed", "(II)Z"⟩
abbrev My6 : MethodName := ⟨"com/example/leafcutter/leafcutter/RunState", "isFinal", "()Z"⟩
abbrev sC0 : String := "com/example/leafcutter/leafcutter/RunState"
abbrev sC1 : String := "com/example/leafcutter/leafcutter/RunStateCanMoveToPinLaw"
abbrev sC2 : String := "java/lang/Enum"
abbrev sC3 : String := "java/lang/Object"
/-- what the law's case says of the statics, at the start -/
def SF (Z : State) (w_QUEUED w_FAILED w_RUNNING w_CANCELLED w_SUCCEEDED : Addr) : Prop := (Sta Z Z.heap sC0 "QUEUED" "Lcom/example/leafcutter/leafcutter/RunState;" (.ref w_QUEUED)) ∧ (Exa Z Z.heap w_QUEUED sC0) ∧ (Sta Z Z.heap sC0 "FAILED" "Lcom/example/leafcutter/leafcutter/RunState;" (.ref w_FAILED)) ∧ (Exa Z Z.heap w_FAILED sC0) ∧ (Sta Z Z.heap sC0 "RUNNING" "Lcom/example/leafcutter/leafcutter/RunState;" (.ref w_RUNNING)) ∧ (Exa Z Z.heap w_RUNNING sC0) ∧ (Sta Z Z.heap sC0 "CANCELLED" "Lcom/example/leafcutter/leafcutter/RunState;" (.ref w_CANCELLED)) ∧ (Exa Z Z.heap w_CANCELLED sC0) ∧ (Sta Z Z.heap sC0 "SUCCEEDED" "Lcom/example/leafcutter/leafcutter/RunState;" (.ref w_SUCCEEDED)) ∧ (Exa Z Z.heap w_SUCCEEDED sC0) ∧ (Fld Z Z.heap w_QUEUED sC2 "ordinal" "I" (.int (0 : Int32))) ∧ (Fld Z Z.heap w_FAILED sC2 "ordinal" "I" (.int (3 : Int32))) ∧ (Fld Z Z.heap w_RUNNING sC2 "ordinal" "I" (.int (1 : Int32))) ∧ (Fld Z Z.heap w_CANCELLED sC2 "ordinal" "I" (.int (4 : Int32))) ∧ (Fld Z Z.heap w_SUCCEEDED sC2 "ordinal" "I" (.int (2 : Int32))) ∧ (w_QUEUED ≠ w_FAILED) ∧ (w_QUEUED ≠ w_RUNNING) ∧ (w_QUEUED ≠ w_CANCELLED) ∧ (w_QUEUED ≠ w_SUCCEEDED) ∧ (w_FAILED ≠ w_RUNNING) ∧ (w_FAILED ≠ w_CANCELLED) ∧ (w_FAILED ≠ w_SUCCEEDED) ∧ (w_RUNNING ≠ w_CANCELLED) ∧ (w_RUNNING ≠ w_SUCCEEDED) ∧ (w_CANCELLED ≠ w_SUCCEEDED) ∧ True
theorem own_wS {Z : State} {a0 : Array Value} (hw : ∀ d ∈ tables_1, d.before a0 Z = true) : ∀ a ∈ Bundle.stringAtoms, a.before a0 Z = true := by
  intro a ha
  simp only [Bundle.stringAtoms, List.mem_cons, List.not_mem_nil, or_false] at ha
  rcases ha with rfl | rfl | rfl | rfl | rfl | rfl | rfl
  · exact (ww hw 16 rfl)
  · exact (ww hw 17 rfl)
  · exact (ww hw 18 rfl)
  · exact (ww hw 19 rfl)
  · exact (ww hw 20 rfl)
  · exact (ww hw 21 rfl)
  · exact (ww hw 22 rfl)
theorem pn_0 : plainName "com/example/leafcutter/leafcutter/RunStateCanMoveToPinLaw" = true := by first | (simp [plainName, overriddenIn]; done) | decide +kernel
theorem d1_0 : decode method_2_code 0 = .ok (.iload_n 0, 1) := by decide +kernel
theorem d1_1 : decode method_2_code 1 = .ok (.ifCond .ne 7, 3) := by decide +kernel
theorem d1_4 : decode method_2_code 4 = .ok (.getstatic 7, 3) := by decide +kernel
theorem d1_7 : decode method_2_code 7 = .ok (.areturn, 1) := by decide +kernel
def Q1_0 (Z : State) (w_QUEUED w_FAILED w_RUNNING w_CANCELLED w_SUCCEEDED : Addr) (p0 : Int32) (h0 : Heap) (n0 : Nat) (v : Option Value) (h : Heap) (L : List Loc) : Prop := v = (some (.ref w_QUEUED)) ∧ Fr n0 L ∧ h = h0
theorem rm1_0 (l : Launch) (Z : State) (a0 : Array Value) (hw : HW Z a0) (ws : List Jvm.Cond) (w_QUEUED w_FAILED w_RUNNING w_CANCELLED w_SUCCEEDED : Addr) (p0 : Int32) (h0 : Heap) (n0 : Nat) (O0 : Old Z n0 h0) (S : SF Z w_QUEUED w_FAILED w_RUNNING w_CANCELLED w_SUCCEEDED) (hc0 : p0 = (0 : Int32)) :
    Pay l Z My1 ws method_2_code 1 (some (.object sC0)) #[(.int p0)] h0 ({ frames := 0, cells := 0, slots := 0, locals := 0 } : Room) (Q1_0 Z w_QUEUED w_FAILED w_RUNNING w_CANCELLED w_SUCCEEDED p0 h0 n0) := by
  obtain ⟨S_w_QUEUED, -⟩ := id S
  refine own_body (plainFor_of_name pn_0) (L0 := #[vi p0]) (fun _ => by first | rfl | (simp [entryFrame, mkF, argsToLocals, Value.category]; done)) ?_
  intro p e s m below meth c s₁ hrt hlk hx hby hml hZ hown0 hnm X0 e0
  have hown : s.vm.findClass sC1 = some m.cls := hown0
  have N0 := Fr.nil n0
  have K0 : Keep h0 h0 [] := Keep.refl _ _
  obtain ⟨T1, X1, e1, st1⟩ := getS2 X0 hx hZ hown (host := "") (Or.inl (ww hw 5 rfl)) Via.refl e0 (S_w_QUEUED.ext O0.2) (g := (mkF m 4 #[vi p0] [])) rfl (hb hby d1_4)
  obtain ⟨fs, hr, hrun, hended, hW, hsame⟩ := X1.leave (v := (some (.ref w_QUEUED))) (fun h => by rw [hrt] at h; cases h)
  refine ⟨_, _, ?_, hrun, hended, _, _, rfl, ?_, ⟨_, rfl⟩, hW, hsame.mono (by decide) (by decide)⟩
  · show Steps p.tables e below (s₁.setTop (mkF m 0 #[vi p0] [])) _
    refine XS.iloadN X0.here hx rfl (hb hby d1_0) rfl ?_
    refine XS.ifNo X0.here hx rfl (hb hby d1_1) rfl ((if0 _ _).trans (teq hc0).2) ?_
    refine st1 _ ?_
    exact retOut X1 hx (t := (.object sC0)) (i := .areturn) hrt rfl (Or.inr (Or.inr (Or.inr (Or.inr ⟨rfl, rfl, rfl⟩)))) (hb hby d1_7) hr
  · show Q1_0 Z w_QUEUED w_FAILED w_RUNNING w_CANCELLED w_SUCCEEDED p0 h0 n0 (some (.ref w_QUEUED)) T1.heap _
    exact (⟨rfl, N0, e1⟩)
theorem pd_0 : parseMethodDescriptor "(I)Lcom/example/leafcutter/leafcutter/RunState;" = some ⟨[.int], some (.object sC0)⟩ := by decide +kernel
theorem pn_1 : plainName "com/example/leafcutter/leafcutter/RunState" = true := by first | (simp [plainName, overriddenIn]; done) | decide +kernel
theorem d2_0 : decode prog_15_method_7_code 0 = .ok (.aload_n 1, 1) := by decide +kernel
theorem d2_1 : decode prog_15_method_7_code 1 = .ok (.ldc 76, 2) := by decide +kernel
theorem d2_3 : decode prog_15_method_7_code 3 = .ok (.invokestatic 78, 3) := by decide +kernel
theorem pn_2 : plainName "java/util/Objects" = true := by first | (simp [plainName, overriddenIn]; done) | decide +kernel
theorem d3_0 : decode jdk_31_method_11_code 0 = .ok (.aload_n 0, 1) := by decide +kernel
theorem d3_1 : decode jdk_31_method_11_code 1 = .ok (.ifnonnull 12, 3) := by decide +kernel
theorem d3_13 : decode jdk_31_method_11_code 13 = .ok (.aload_n 0, 1) := by decide +kernel
theorem d3_14 : decode jdk_31_method_11_code 14 = .ok (.areturn, 1) := by decide +kernel
def Q3_0 (Z : State) (w_QUEUED w_FAILED w_RUNNING w_CANCELLED w_SUCCEEDED : Addr) (o0 : Addr) (h0 : Heap) (n0 : Nat) (v : Option Value) (h : Heap) (L : List Loc) : Prop := v = (some (.ref w_QUEUED)) ∧ Fr n0 L ∧ h = h0
theorem rm3_0 (l : Launch) (Z : State) (a0 : Array Value) (hw : HW Z a0) (ws : List Jvm.Cond) (w_QUEUED w_FAILED w_RUNNING w_CANCELLED w_SUCCEEDED : Addr) (o0 : Addr) (h0 : Heap) (n0 : Nat) (O0 : Old Z n0 h0) (S : SF Z w_QUEUED w_FAILED w_RUNNING w_CANCELLED w_SUCCEEDED) :
    Pay l Z My3 ws jdk_31_method_11_code 2 (some (.object sC3)) #[(.ref w_QUEUED), (.ref o0)] h0 ({ frames := 0, cells := 0, slots := 0, locals := 0 } : Room) (Q3_0 Z w_QUEUED w_FAILED w_RUNNING w_CANCELLED w_SUCCEEDED o0 h0 n0) := by
  refine own_body (plainFor_of_name pn_2) (L0 := #[va w_QUEUED, va o0]) (fun _ => by first | rfl | (simp [entryFrame, mkF, argsToLocals, Value.category]; done)) ?_
  intro p e s m below meth c s₁ hrt hlk hx hby hml hZ hown0 hnm X0 e0
  have hown : s.vm.findClass "java/util/Objects" = some m.cls := hown0
  have N0 := Fr.nil n0
  have K0 : Keep h0 h0 [] := Keep.refl _ _
  obtain ⟨fs, hr, hrun, hended, hW, hsame⟩ := X0.leave (v := (some (.ref w_QUEUED))) (fun h => by rw [hrt] at h; cases h)
  refine ⟨_, _, ?_, hrun, hended, _, _, rfl, ?_, ⟨_, rfl⟩, hW, hsame.mono (by decide) (by decide)⟩
  · show Steps p.tables e below (s₁.setTop (mkF m 0 #[va w_QUEUED, va o0] [])) _
    refine XS.aloadN X0.here hx rfl (hb hby d3_0) rfl rfl ?_
    refine XS.ifnonnullYes X0.here hx rfl (pc0 := 1) (pc' := 13) rfl (hb hby d3_1) rfl (by decide) (by decide) ?_
    refine XS.aloadN X0.here hx rfl (hb hby d3_13) rfl rfl ?_
    exact retOut X0 hx (t := (.object sC3)) (i := .areturn) hrt rfl (Or.inr (Or.inr (Or.inr (Or.inr ⟨rfl, rfl, rfl⟩)))) (hb hby d3_14) hr
  · show Q3_0 Z w_QUEUED w_FAILED w_RUNNING w_CANCELLED w_SUCCEEDED o0 h0 n0 (some (.ref w_QUEUED)) s₁.heap _
    exact (⟨rfl, N0, e0⟩)
theorem pd_1 : parseMethodDescriptor "(Ljava/lang/Object;Ljava/lang/String;)Ljava/lang/Object;" = some ⟨[(.object sC3), (.object "java/lang/String")], some (.object sC3)⟩ := by decide +kernel
theorem d2_6 : decode prog_15_method_7_code 6 = .ok (.pop, 1) := by decide +kernel
theorem d2_7 : decode prog_15_method_7_code 7 = .ok (.aload_n 0, 1) := by decide +kernel
theorem d2_8 : decode prog_15_method_7_code 8 = .ok (.invokevirtual 84, 3) := by decide +kernel
theorem pn_3 : plainName "java/lang/Enum" = true := by first | (simp [plainName, overriddenIn]; done) | decide +kernel
theorem d4_0 : decode jdk_37_method_2_code 0 = .ok (.aload_n 0, 1) := by decide +kernel
theorem d4_1 : decode jdk_37_method_2_code 1 = .ok (.getfield 7, 3) := by decide +kernel
theorem d4_4 : decode jdk_37_method_2_code 4 = .ok (.ireturn, 1) := by decide +kernel
def Q4_0 (Z : State) (w_QUEUED w_FAILED w_RUNNING w_CANCELLED w_SUCCEEDED : Addr) (h0 : Heap) (n0 : Nat) (v : Option Value) (h : Heap) (L : List Loc) : Prop := v = (some (.int 0)) ∧ Fr n0 L ∧ h = h0
theorem rm4_0 (l : Launch) (Z : State) (a0 : Array Value) (hw : HW Z a0) (ws : List Jvm.Cond) (w_QUEUED w_FAILED w_RUNNING w_CANCELLED w_SUCCEEDED : Addr) (h0 : Heap) (n0 : Nat) (O0 : Old Z n0 h0) (S : SF Z w_QUEUED w_FAILED w_RUNNING w_CANCELLED w_SUCCEEDED) :
    Pay l Z My4 ws jdk_37_method_2_code 1 (some .int) #[(.ref w_QUEUED)] h0 ({ frames := 0, cells := 0, slots := 0, locals := 0 } : Room) (Q4_0 Z w_QUEUED w_FAILED w_RUNNING w_CANCELLED w_SUCCEEDED  h0 n0) := by
  obtain ⟨-, -, -, -, -, -, -, -, -, -, F_ordinal_w_QUEUED, -⟩ := id S
  refine own_body (plainFor_of_name pn_3) (L0 := #[va w_QUEUED]) (fun _ => by first | rfl | (simp [entryFrame, mkF, argsToLocals, Value.category]; done)) ?_
  intro p e s m below meth c s₁ hrt hlk hx hby hml hZ hown0 hnm X0 e0
  have hown : s.vm.findClass sC2 = some m.cls := hown0
  have N0 := Fr.nil n0
  have K0 : Keep h0 h0 [] := Keep.refl _ _
  obtain ⟨T1, X1, e1, st1⟩ := getF X0 hx hZ hown (host := "") (Or.inl (ww hw 34 rfl)) Via.refl e0 (F_ordinal_w_QUEUED.ext O0.2) (g := (mkF m 1 #[va w_QUEUED] [(.ref w_QUEUED)])) rfl rfl (hb hby d4_1)
  obtain ⟨fs, hr, hrun, hended, hW, hsame⟩ := X1.leave (v := (some (.int 0))) (fun h => by rw [hrt] at h; cases h)
  refine ⟨_, _, ?_, hrun, hended, _, _, rfl, ?_, ⟨_, rfl⟩, hW, hsame.mono (by decide) (by decide)⟩
  · show Steps p.tables e below (s₁.setTop (mkF m 0 #[va w_QUEUED] [])) _
    refine XS.aloadN X0.here hx rfl (hb hby d4_0) rfl rfl ?_
    refine st1 _ ?_
    exact retOut X1 hx (t := .int) (i := .ireturn) hrt rfl (Or.inl ⟨rfl, Or.inl rfl, _, rfl⟩) (hb hby d4_4) hr
  · show Q4_0 Z w_QUEUED w_FAILED w_RUNNING w_CANCELLED w_SUCCEEDED  h0 n0 (some (.int 0)) T1.heap _
    exact (⟨rfl, N0, e1⟩)
theorem pd_2 : parseMethodDescriptor "()I" = some ⟨[], some .int⟩ := by decide +kernel
theorem d2_11 : decode prog_15_method_7_code 11 = .ok (.tableswitch 33 0 4 #[43, 65, 102, 87, 102], 33) := by decide +kernel
theorem d2_54 : decode prog_15_method_7_code 54 = .ok (.aload_n 1, 1) := by decide +kernel
theorem d2_55 : decode prog_15_method_7_code 55 = .ok (.getstatic 7, 3) := by decide +kernel
theorem d2_58 : decode prog_15_method_7_code 58 = .ok (.if_acmp .eq 10, 3) := by decide +kernel
theorem d2_61 : decode prog_15_method_7_code 61 = .ok (.aload_n 1, 1) := by decide +kernel
theorem d2_62 : decode prog_15_method_7_code 62 = .ok (.getstatic 16, 3) := by decide +kernel
theorem d2_65 : decode prog_15_method_7_code 65 = .ok (.if_acmp .ne 7, 3) := by decide +kernel
theorem d2_72 : decode prog_15_method_7_code 72 = .ok (.iconst 0, 1) := by decide +kernel
theorem d2_73 : decode prog_15_method_7_code 73 = .ok (.goto 41, 3) := by decide +kernel
theorem d2_114 : decode prog_15_method_7_code 114 = .ok (.ireturn, 1) := by decide +kernel
def Q2_0 (Z : State) (w_QUEUED w_FAILED w_RUNNING w_CANCELLED w_SUCCEEDED : Addr) (h0 : Heap) (n0 : Nat) (v : Option Value) (h : Heap) (L : List Loc) : Prop := v = (some (.int 0)) ∧ Fr n0 L ∧ Keep h0 h []
theorem rm2_0 (l : Launch) (Z : State) (a0 : Array Value) (hw : HW Z a0) (ws : List Jvm.Cond) (w_QUEUED w_FAILED w_RUNNING w_CANCELLED w_SUCCEEDED : Addr) (h0 : Heap) (n0 : Nat) (O0 : Old Z n0 h0) (S : SF Z w_QUEUED w_FAILED w_RUNNING w_CANCELLED w_SUCCEEDED) :
    PayW l Z My2 ws prog_15_method_7_code 2 (some .boolean) #[(.ref w_QUEUED), (.ref w_QUEUED)] h0 ({ frames := 1, cells := 2, slots := 20, locals := 13 } : Room) (Q2_0 Z w_QUEUED w_FAILED w_RUNNING w_CANCELLED w_SUCCEEDED  h0 n0) := by
  obtain ⟨-, E_w_QUEUED, -, -, S_w_RUNNING, -, S_w_CANCELLED, -, -, -, -, -, -, -, -, -, hne_w_QUEUED_w_RUNNING, hne_w_QUEUED_w_CANCELLED, -⟩ := id S
  refine own_body (plainFor_of_name pn_1) (L0 := #[va w_QUEUED, va w_QUEUED]) (fun _ => by first | rfl | (simp [entryFrame, mkF, argsToLocals, Value.category]; done)) ?_
  intro p e s m below meth c s₁ hrt hlk hx hby hml hZ hown0 hnm X0 e0
  have hown : s.vm.findClass sC0 = some m.cls := hown0
  have N0 := Fr.nil n0
  have K0 : Keep h0 h0 [] := Keep.refl _ _
  obtain ⟨a1, T1, h1, kk1, X1, e1, E1, hS1, hk1, hZ1, hown1, st1⟩ := ldcS (s := s) (vm0 := s.vm) X0 hx hZ hown (ww hw 15 rfl) (own_wS hw) e0 (k0 := 0) ((State.WarmedH.refl s).since 0) (Nat.zero_le _) (g := (mkF m 1 #[va w_QUEUED, va w_QUEUED] [(.ref w_QUEUED)])) rfl (hb hby d2_1) (n := 16) (by decide +kernel) (by decide) (by decide) (by decide)
  have O1 := O0.ext E1
  have K1 : Keep h0 h1 [] := K0.ext E1
  obtain ⟨_, _, ⟨T2, L2, k2, n2⟩, -, X2, ⟨Lc2, hQ2, l2, y2, z2⟩, st2⟩ := Jvm.LawKit.callS X1 hx (y := My3) hown1 (mvT hZ1 (ww hw 23 rfl)) (mvT hZ1 (ww hw 24 rfl)) (mvT hZ1 (ww hw 25 rfl)) (mvT hZ1 (ww hw 26 rfl)) (by decide) (backOf (W := 0) (rm3_0 l Z a0 hw [] w_QUEUED w_FAILED w_RUNNING w_CANCELLED w_SUCCEEDED a1 h1 n0 O1 S) hZ1 (ww hw 26 rfl) (ww hw 25 rfl) (by decide) (by decide)) (g := (mkF m 3 #[va w_QUEUED, va w_QUEUED] [(.ref a1), (.ref w_QUEUED)])) rfl (by rw [hml]; rfl) (argsL := [(.ref w_QUEUED), (.ref a1)]) (rest := []) (lenOf pd_1 rfl) rfl (by show 2 * 0 + _ ≤ _; exact Nat.le_of_eq rfl) (hb hby d2_3) (fun _ _ => ⟨rfl, e1, (by decide : 2 + 0 ≤ _), (by decide : 20 + 0 ≤ _)⟩)
  dsimp only [Pt.U, Pt.locs, Pt.cells, Pt.slots] at X2 l2 y2 z2 st2 hQ2
  subst l2 y2 z2
  obtain ⟨rfl, Nq2, e2⟩ := hQ2
  have N2 := Fr.app N0 Nq2
  obtain ⟨cq3, kq3, q3a, q3b, q3c⟩ := isOf hZ1 e2 (E_w_QUEUED.ext O1.2)
  obtain ⟨_, _, ⟨T3, L3, k3, n3⟩, -, X3, ⟨Lc3, hQ3, l3, y3, z3⟩, st3⟩ := X2.virtualBackUp hx (x := (⟨sC0, "ordinal", "()I"⟩ : MethodName)) (y := My4) (owner := sC2) hown1 (mvT hZ1 (ww hw 27 rfl)) (mvT hZ1 (ww hw 28 rfl)) (mvT hZ1 (ww hw 29 rfl)) (by decide) (mvT hZ1 (ww hw 31 rfl)) (mvT hZ1 (ww hw 30 rfl)) (backOf (W := 0) (rm4_0 l Z a0 hw [] w_QUEUED w_FAILED w_RUNNING w_CANCELLED w_SUCCEEDED h1 n0 O1 S) hZ1 (ww hw 33 rfl) (ww hw 32 rfl) (by decide) (by decide)) q3a q3c (g := (mkF m 8 #[va w_QUEUED, va w_QUEUED] [(.ref w_QUEUED)])) rfl (by rw [hml]; rfl) (Steps.refl _) (argsL := []) (rest := []) (lenOf pd_2 rfl) rfl (by show 2 * 0 + _ ≤ _; exact Nat.le_of_eq rfl) (hb hby d2_8) (fun _ _ => ⟨rfl, e2, (by decide : 2 + 0 ≤ _), (by decide : 20 + 0 ≤ _)⟩)
  dsimp only [Pt.U, Pt.locs, Pt.cells, Pt.slots] at X3 l3 y3 z3 st3 hQ3
  subst l3 y3 z3
  obtain ⟨rfl, Nq3, e3⟩ := hQ3
  have N3 := Fr.app N2 Nq3
  obtain ⟨T4, X4, e4, st4⟩ := getS2 X3 hx hZ1 hown1 (host := "") (Or.inl (ww hw 36 rfl)) Via.refl e3 (S_w_RUNNING.ext O1.2) (g := (mkF m 55 #[va w_QUEUED, va w_QUEUED] [(.ref w_QUEUED)])) rfl (hb hby d2_55)
  obtain ⟨T5, X5, e5, st5⟩ := getS2 X4 hx hZ1 hown1 (host := "") (Or.inl (ww hw 38 rfl)) Via.refl e4 (S_w_CANCELLED.ext O1.2) (g := (mkF m 62 #[va w_QUEUED, va w_QUEUED] [(.ref w_QUEUED)])) rfl (hb hby d2_62)
  obtain ⟨fs, hr, hrun, hended, hRE⟩ := X5.leaveW (s := s) hS1 (by rw [e5]; exact hk1) (v := (some (.int 0))) (fun h => by rw [hrt] at h; cases h)
  refine ⟨_, _, ?_, hrun, hended, _, _, rfl, ?_, hRE.1, hRE.2.1, hRE.2.2.1, hRE.2.2.2.mono (by decide) (by decide)⟩
  · show Steps p.tables e below (s₁.setTop (mkF m 0 #[va w_QUEUED, va w_QUEUED] [])) _
    refine XS.aloadN X0.here hx rfl (hb hby d2_0) rfl rfl ?_
    refine st1 _ ?_
    refine st2 _ ?_
    refine XS.pop X2.here hx rfl (hb hby d2_6) rfl rfl ?_
    refine XS.aloadN X2.here hx rfl (hb hby d2_7) rfl rfl ?_
    refine st3.trans ?_
    refine XS.tswIn X3.here hx rfl (pc0 := 11) (pc' := 54) rfl (hb hby d2_11) rfl (by decide) (o := 43) (by decide) (by decide) (by decide) ?_
    refine XS.aloadN X3.here hx rfl (hb hby d2_54) rfl rfl ?_
    show Steps p.tables e below (T3.setTop (mkF m 55 #[va w_QUEUED, va w_QUEUED] [(.ref w_QUEUED)])) _
    refine st4 _ ?_
    refine Jvm.RoadKit.acmp (g := (mkF m 58 #[va w_QUEUED, va w_QUEUED] [(.ref w_RUNNING), (.ref w_QUEUED)])) X4 hx rfl rfl rfl (pc0 := 58) (pc' := 61) (same := false) rfl (hb hby d2_58) rfl (decide_eq_false fun q => hne_w_QUEUED_w_RUNNING (Value.ref.inj q)) (by decide) (by decide) ?_
    refine XS.aloadN X4.here hx rfl (hb hby d2_61) rfl rfl ?_
    refine st5 _ ?_
    refine Jvm.RoadKit.acmp (g := (mkF m 65 #[va w_QUEUED, va w_QUEUED] [(.ref w_CANCELLED), (.ref w_QUEUED)])) X5 hx rfl rfl rfl (pc0 := 65) (pc' := 72) (same := false) rfl (hb hby d2_65) rfl (decide_eq_false fun q => hne_w_QUEUED_w_CANCELLED (Value.ref.inj q)) (by decide) (by decide) ?_
    refine XS.iconst X5.here hx rfl (hb hby d2_72) ?_
    refine XS.goto X5.here hx rfl (pc0 := 73) (pc' := 114) rfl (hb hby d2_73) (by decide) (by decide) ?_
    exact retN X5 hx (t := .boolean) hrt (by simp) (hb hby d2_114) hr
  · show Q2_0 Z w_QUEUED w_FAILED w_RUNNING w_CANCELLED w_SUCCEEDED  h0 n0 (some (.int 0)) T5.heap _
    rw [e5]; exact ⟨rfl, N3, K1⟩
theorem pd_3 : parseMethodDescriptor "(Lcom/example/leafcutter/leafcutter/RunState;)Z" = some ⟨[(.object sC0)], some .boolean⟩ := by decide +kernel
theorem d5_0 : decode method_3_code 0 = .ok (.iload_n 0, 1) := by decide +kernel
theorem d5_1 : decode method_3_code 1 = .ok (.ifCond .ne 19, 3) := by decide +kernel
theorem d5_4 : decode method_3_code 4 = .ok (.iload_n 1, 1) := by decide +kernel
theorem d5_5 : decode method_3_code 5 = .ok (.iconst 1, 1) := by decide +kernel
theorem d5_6 : decode method_3_code 6 = .ok (.if_icmp .eq 8, 3) := by decide +kernel
theorem d5_9 : decode method_3_code 9 = .ok (.iload_n 1, 1) := by decide +kernel
theorem d5_10 : decode method_3_code 10 = .ok (.iconst 4, 1) := by decide +kernel
theorem d5_11 : decode method_3_code 11 = .ok (.if_icmp .ne 7, 3) := by decide +kernel
theorem d5_18 : decode method_3_code 18 = .ok (.iconst 0, 1) := by decide +kernel
theorem d5_19 : decode method_3_code 19 = .ok (.ireturn, 1) := by decide +kernel
def Q5_0 (Z : State) (w_QUEUED w_FAILED w_RUNNING w_CANCELLED w_SUCCEEDED : Addr) (p0 : Int32) (p1 : Int32) (h0 : Heap) (n0 : Nat) (v : Option Value) (h : Heap) (L : List Loc) : Prop := v = (some (.int 0)) ∧ Fr n0 L ∧ h = h0
theorem rm5_0 (l : Launch) (Z : State) (a0 : Array Value) (hw : HW Z a0) (ws : List Jvm.Cond) (w_QUEUED w_FAILED w_RUNNING w_CANCELLED w_SUCCEEDED : Addr) (p0 : Int32) (p1 : Int32) (h0 : Heap) (n0 : Nat) (O0 : Old Z n0 h0) (S : SF Z w_QUEUED w_FAILED w_RUNNING w_CANCELLED w_SUCCEEDED) (hc0 : p0 = (0 : Int32)) (hc1 : ¬ (p1 = (1 : Int32))) (hc2 : ¬ (p1 = (4 : Int32))) :
    Pay l Z My5 ws method_3_code 2 (some .boolean) #[(.int p0), (.int p1)] h0 ({ frames := 0, cells := 0, slots := 0, locals := 0 } : Room) (Q5_0 Z w_QUEUED w_FAILED w_RUNNING w_CANCELLED w_SUCCEEDED p0 p1 h0 n0) := by
  refine own_body (plainFor_of_name pn_0) (L0 := #[vi p0, vi p1]) (fun _ => by first | rfl | (simp [entryFrame, mkF, argsToLocals, Value.category]; done)) ?_
  intro p e s m below meth c s₁ hrt hlk hx hby hml hZ hown0 hnm X0 e0
  have hown : s.vm.findClass sC1 = some m.cls := hown0
  have N0 := Fr.nil n0
  have K0 : Keep h0 h0 [] := Keep.refl _ _
  obtain ⟨fs, hr, hrun, hended, hW, hsame⟩ := X0.leave (v := (some (.int 0))) (fun h => by rw [hrt] at h; cases h)
  refine ⟨_, _, ?_, hrun, hended, _, _, rfl, ?_, ⟨_, rfl⟩, hW, hsame.mono (by decide) (by decide)⟩
  · show Steps p.tables e below (s₁.setTop (mkF m 0 #[vi p0, vi p1] [])) _
    refine XS.iloadN X0.here hx rfl (hb hby d5_0) rfl ?_
    refine XS.ifNo X0.here hx rfl (hb hby d5_1) rfl ((if0 _ _).trans (teq hc0).2) ?_
    refine XS.iloadN X0.here hx rfl (hb hby d5_4) rfl ?_
    refine XS.iconst X0.here hx rfl (hb hby d5_5) ?_
    refine XS.icmpNo X0.here hx rfl (hb hby d5_6) rfl (feq hc1).1 ?_
    refine XS.iloadN X0.here hx rfl (hb hby d5_9) rfl ?_
    refine XS.iconst X0.here hx rfl (hb hby d5_10) ?_
    refine XS.icmpYes X0.here hx rfl (pc0 := 11) (pc' := 18) rfl (hb hby d5_11) rfl (feq hc2).2 (by decide) (by decide) ?_
    show Steps p.tables e below (s₁.setTop (mkF m 18 #[vi p0, vi p1] [])) _
    refine XS.iconst X0.here hx rfl (hb hby d5_18) ?_
    exact retN X0 hx (t := .boolean) hrt (by simp) (hb hby d5_19) hr
  · show Q5_0 Z w_QUEUED w_FAILED w_RUNNING w_CANCELLED w_SUCCEEDED p0 p1 h0 n0 (some (.int 0)) s₁.heap _
    exact (⟨rfl, N0, e0⟩)
theorem pd_4 : parseMethodDescriptor "(II)Z" = some ⟨[.int, .int], some .boolean⟩ := by decide +kernel
theorem d1_8 : decode method_2_code 8 = .ok (.iload_n 0, 1) := by decide +kernel
theorem d1_9 : decode method_2_code 9 = .ok (.iconst 1, 1) := by decide +kernel
theorem d1_10 : decode method_2_code 10 = .ok (.if_icmp .ne 7, 3) := by decide +kernel
theorem d1_13 : decode method_2_code 13 = .ok (.getstatic 13, 3) := by decide +kernel
theorem d1_16 : decode method_2_code 16 = .ok (.areturn, 1) := by decide +kernel
def Q1_1 (Z : State) (w_QUEUED w_FAILED w_RUNNING w_CANCELLED w_SUCCEEDED : Addr) (p0 : Int32) (h0 : Heap) (n0 : Nat) (v : Option Value) (h : Heap) (L : List Loc) : Prop := v = (some (.ref w_RUNNING)) ∧ Fr n0 L ∧ h = h0
theorem rm1_1 (l : Launch) (Z : State) (a0 : Array Value) (hw : HW Z a0) (ws : List Jvm.Cond) (w_QUEUED w_FAILED w_RUNNING w_CANCELLED w_SUCCEEDED : Addr) (p0 : Int32) (h0 : Heap) (n0 : Nat) (O0 : Old Z n0 h0) (S : SF Z w_QUEUED w_FAILED w_RUNNING w_CANCELLED w_SUCCEEDED) (hc0 : ¬ (p0 = (0 : Int32))) (hc1 : p0 = (1 : Int32)) :
    Pay l Z My1 ws method_2_code 1 (some (.object sC0)) #[(.int p0)] h0 ({ frames := 0, cells := 0, slots := 0, locals := 0 } : Room) (Q1_1 Z w_QUEUED w_FAILED w_RUNNING w_CANCELLED w_SUCCEEDED p0 h0 n0) := by
  obtain ⟨-, -, -, -, S_w_RUNNING, -⟩ := id S
  refine own_body (plainFor_of_name pn_0) (L0 := #[vi p0]) (fun _ => by first | rfl | (simp [entryFrame, mkF, argsToLocals, Value.category]; done)) ?_
  intro p e s m below meth c s₁ hrt hlk hx hby hml hZ hown0 hnm X0 e0
  have hown : s.vm.findClass sC1 = some m.cls := hown0
  have N0 := Fr.nil n0
  have K0 : Keep h0 h0 [] := Keep.refl _ _
  obtain ⟨T1, X1, e1, st1⟩ := getS2 X0 hx hZ hown (host := "") (Or.inl (ww hw 44 rfl)) Via.refl e0 (S_w_RUNNING.ext O0.2) (g := (mkF m 13 #[vi p0] [])) rfl (hb hby d1_13)
  obtain ⟨fs, hr, hrun, hended, hW, hsame⟩ := X1.leave (v := (some (.ref w_RUNNING))) (fun h => by rw [hrt] at h; cases h)
  refine ⟨_, _, ?_, hrun, hended, _, _, rfl, ?_, ⟨_, rfl⟩, hW, hsame.mono (by decide) (by decide)⟩
  · show Steps p.tables e below (s₁.setTop (mkF m 0 #[vi p0] [])) _
    refine XS.iloadN X0.here hx rfl (hb hby d1_0) rfl ?_
    refine XS.ifYes X0.here hx rfl (pc0 := 1) (pc' := 8) rfl (hb hby d1_1) rfl ((if0 _ _).trans (feq hc0).2) (by decide) (by decide) ?_
    refine XS.iloadN X0.here hx rfl (hb hby d1_8) rfl ?_
    refine XS.iconst X0.here hx rfl (hb hby d1_9) ?_
    refine XS.icmpNo X0.here hx rfl (hb hby d1_10) rfl (teq hc1).2 ?_
    refine st1 _ ?_
    exact retOut X1 hx (t := (.object sC0)) (i := .areturn) hrt rfl (Or.inr (Or.inr (Or.inr (Or.inr ⟨rfl, rfl, rfl⟩)))) (hb hby d1_16) hr
  · show Q1_1 Z w_QUEUED w_FAILED w_RUNNING w_CANCELLED w_SUCCEEDED p0 h0 n0 (some (.ref w_RUNNING)) T1.heap _
    exact (⟨rfl, N0, e1⟩)
def Q3_1 (Z : State) (w_QUEUED w_FAILED w_RUNNING w_CANCELLED w_SUCCEEDED : Addr) (o0 : Addr) (h0 : Heap) (n0 : Nat) (v : Option Value) (h : Heap) (L : List Loc) : Prop := v = (some (.ref w_RUNNING)) ∧ Fr n0 L ∧ h = h0
theorem rm3_1 (l : Launch) (Z : State) (a0 : Array Value) (hw : HW Z a0) (ws : List Jvm.Cond) (w_QUEUED w_FAILED w_RUNNING w_CANCELLED w_SUCCEEDED : Addr) (o0 : Addr) (h0 : Heap) (n0 : Nat) (O0 : Old Z n0 h0) (S : SF Z w_QUEUED w_FAILED w_RUNNING w_CANCELLED w_SUCCEEDED) :
    Pay l Z My3 ws jdk_31_method_11_code 2 (some (.object sC3)) #[(.ref w_RUNNING), (.ref o0)] h0 ({ frames := 0, cells := 0, slots := 0, locals := 0 } : Room) (Q3_1 Z w_QUEUED w_FAILED w_RUNNING w_CANCELLED w_SUCCEEDED o0 h0 n0) := by
  refine own_body (plainFor_of_name pn_2) (L0 := #[va w_RUNNING, va o0]) (fun _ => by first | rfl | (simp [entryFrame, mkF, argsToLocals, Value.category]; done)) ?_
  intro p e s m below meth c s₁ hrt hlk hx hby hml hZ hown0 hnm X0 e0
  have hown : s.vm.findClass "java/util/Objects" = some m.cls := hown0
  have N0 := Fr.nil n0
  have K0 : Keep h0 h0 [] := Keep.refl _ _
  obtain ⟨fs, hr, hrun, hended, hW, hsame⟩ := X0.leave (v := (some (.ref w_RUNNING))) (fun h => by rw [hrt] at h; cases h)
  refine ⟨_, _, ?_, hrun, hended, _, _, rfl, ?_, ⟨_, rfl⟩, hW, hsame.mono (by decide) (by decide)⟩
  · show Steps p.tables e below (s₁.setTop (mkF m 0 #[va w_RUNNING, va o0] [])) _
    refine XS.aloadN X0.here hx rfl (hb hby d3_0) rfl rfl ?_
    refine XS.ifnonnullYes X0.here hx rfl (pc0 := 1) (pc' := 13) rfl (hb hby d3_1) rfl (by decide) (by decide) ?_
    refine XS.aloadN X0.here hx rfl (hb hby d3_13) rfl rfl ?_
    exact retOut X0 hx (t := (.object sC3)) (i := .areturn) hrt rfl (Or.inr (Or.inr (Or.inr (Or.inr ⟨rfl, rfl, rfl⟩)))) (hb hby d3_14) hr
  · show Q3_1 Z w_QUEUED w_FAILED w_RUNNING w_CANCELLED w_SUCCEEDED o0 h0 n0 (some (.ref w_RUNNING)) s₁.heap _
    exact (⟨rfl, N0, e0⟩)
theorem d2_68 : decode prog_15_method_7_code 68 = .ok (.iconst 1, 1) := by decide +kernel
theorem d2_69 : decode prog_15_method_7_code 69 = .ok (.goto 45, 3) := by decide +kernel
def Q2_1 (Z : State) (w_QUEUED w_FAILED w_RUNNING w_CANCELLED w_SUCCEEDED : Addr) (h0 : Heap) (n0 : Nat) (v : Option Value) (h : Heap) (L : List Loc) : Prop := v = (some (.int 1)) ∧ Fr n0 L ∧ Keep h0 h []
theorem rm2_1 (l : Launch) (Z : State) (a0 : Array Value) (hw : HW Z a0) (ws : List Jvm.Cond) (w_QUEUED w_FAILED w_RUNNING w_CANCELLED w_SUCCEEDED : Addr) (h0 : Heap) (n0 : Nat) (O0 : Old Z n0 h0) (S : SF Z w_QUEUED w_FAILED w_RUNNING w_CANCELLED w_SUCCEEDED) :
    PayW l Z My2 ws prog_15_method_7_code 2 (some .boolean) #[(.ref w_QUEUED), (.ref w_RUNNING)] h0 ({ frames := 1, cells := 2, slots := 20, locals := 13 } : Room) (Q2_1 Z w_QUEUED w_FAILED w_RUNNING w_CANCELLED w_SUCCEEDED  h0 n0) := by
  obtain ⟨-, E_w_QUEUED, -, -, S_w_RUNNING, -⟩ := id S
  refine own_body (plainFor_of_name pn_1) (L0 := #[va w_QUEUED, va w_RUNNING]) (fun _ => by first | rfl | (simp [entryFrame, mkF, argsToLocals, Value.category]; done)) ?_
  intro p e s m below meth c s₁ hrt hlk hx hby hml hZ hown0 hnm X0 e0
  have hown : s.vm.findClass sC0 = some m.cls := hown0
  have N0 := Fr.nil n0
  have K0 : Keep h0 h0 [] := Keep.refl _ _
  obtain ⟨a1, T1, h1, kk1, X1, e1, E1, hS1, hk1, hZ1, hown1, st1⟩ := ldcS (s := s) (vm0 := s.vm) X0 hx hZ hown (ww hw 15 rfl) (own_wS hw) e0 (k0 := 0) ((State.WarmedH.refl s).since 0) (Nat.zero_le _) (g := (mkF m 1 #[va w_QUEUED, va w_RUNNING] [(.ref w_RUNNING)])) rfl (hb hby d2_1) (n := 16) (by decide +kernel) (by decide) (by decide) (by decide)
  have O1 := O0.ext E1
  have K1 : Keep h0 h1 [] := K0.ext E1
  obtain ⟨_, _, ⟨T2, L2, k2, n2⟩, -, X2, ⟨Lc2, hQ2, l2, y2, z2⟩, st2⟩ := Jvm.LawKit.callS X1 hx (y := My3) hown1 (mvT hZ1 (ww hw 23 rfl)) (mvT hZ1 (ww hw 24 rfl)) (mvT hZ1 (ww hw 25 rfl)) (mvT hZ1 (ww hw 26 rfl)) (by decide) (backOf (W := 0) (rm3_1 l Z a0 hw [] w_QUEUED w_FAILED w_RUNNING w_CANCELLED w_SUCCEEDED a1 h1 n0 O1 S) hZ1 (ww hw 26 rfl) (ww hw 25 rfl) (by decide) (by decide)) (g := (mkF m 3 #[va w_QUEUED, va w_RUNNING] [(.ref a1), (.ref w_RUNNING)])) rfl (by rw [hml]; rfl) (argsL := [(.ref w_RUNNING), (.ref a1)]) (rest := []) (lenOf pd_1 rfl) rfl (by show 2 * 0 + _ ≤ _; exact Nat.le_of_eq rfl) (hb hby d2_3) (fun _ _ => ⟨rfl, e1, (by decide : 2 + 0 ≤ _), (by decide : 20 + 0 ≤ _)⟩)
  dsimp only [Pt.U, Pt.locs, Pt.cells, Pt.slots] at X2 l2 y2 z2 st2 hQ2
  subst l2 y2 z2
  obtain ⟨rfl, Nq2, e2⟩ := hQ2
  have N2 := Fr.app N0 Nq2
  obtain ⟨cq3, kq3, q3a, q3b, q3c⟩ := isOf hZ1 e2 (E_w_QUEUED.ext O1.2)
  obtain ⟨_, _, ⟨T3, L3, k3, n3⟩, -, X3, ⟨Lc3, hQ3, l3, y3, z3⟩, st3⟩ := X2.virtualBackUp hx (x := (⟨sC0, "ordinal", "()I"⟩ : MethodName)) (y := My4) (owner := sC2) hown1 (mvT hZ1 (ww hw 27 rfl)) (mvT hZ1 (ww hw 28 rfl)) (mvT hZ1 (ww hw 29 rfl)) (by decide) (mvT hZ1 (ww hw 31 rfl)) (mvT hZ1 (ww hw 30 rfl)) (backOf (W := 0) (rm4_0 l Z a0 hw [] w_QUEUED w_FAILED w_RUNNING w_CANCELLED w_SUCCEEDED h1 n0 O1 S) hZ1 (ww hw 33 rfl) (ww hw 32 rfl) (by decide) (by decide)) q3a q3c (g := (mkF m 8 #[va w_QUEUED, va w_RUNNING] [(.ref w_QUEUED)])) rfl (by rw [hml]; rfl) (Steps.refl _) (argsL := []) (rest := []) (lenOf pd_2 rfl) rfl (by show 2 * 0 + _ ≤ _; exact Nat.le_of_eq rfl) (hb hby d2_8) (fun _ _ => ⟨rfl, e2, (by decide : 2 + 0 ≤ _), (by decide : 20 + 0 ≤ _)⟩)
  dsimp only [Pt.U, Pt.locs, Pt.cells, Pt.slots] at X3 l3 y3 z3 st3 hQ3
  subst l3 y3 z3
  obtain ⟨rfl, Nq3, e3⟩ := hQ3
  have N3 := Fr.app N2 Nq3
  obtain ⟨T4, X4, e4, st4⟩ := getS2 X3 hx hZ1 hown1 (host := "") (Or.inl (ww hw 36 rfl)) Via.refl e3 (S_w_RUNNING.ext O1.2) (g := (mkF m 55 #[va w_QUEUED, va w_RUNNING] [(.ref w_RUNNING)])) rfl (hb hby d2_55)
  obtain ⟨fs, hr, hrun, hended, hRE⟩ := X4.leaveW (s := s) hS1 (by rw [e4]; exact hk1) (v := (some (.int 1))) (fun h => by rw [hrt] at h; cases h)
  refine ⟨_, _, ?_, hrun, hended, _, _, rfl, ?_, hRE.1, hRE.2.1, hRE.2.2.1, hRE.2.2.2.mono (by decide) (by decide)⟩
  · show Steps p.tables e below (s₁.setTop (mkF m 0 #[va w_QUEUED, va w_RUNNING] [])) _
    refine XS.aloadN X0.here hx rfl (hb hby d2_0) rfl rfl ?_
    refine st1 _ ?_
    refine st2 _ ?_
    refine XS.pop X2.here hx rfl (hb hby d2_6) rfl rfl ?_
    refine XS.aloadN X2.here hx rfl (hb hby d2_7) rfl rfl ?_
    refine st3.trans ?_
    refine XS.tswIn X3.here hx rfl (pc0 := 11) (pc' := 54) rfl (hb hby d2_11) rfl (by decide) (o := 43) (by decide) (by decide) (by decide) ?_
    refine XS.aloadN X3.here hx rfl (hb hby d2_54) rfl rfl ?_
    show Steps p.tables e below (T3.setTop (mkF m 55 #[va w_QUEUED, va w_RUNNING] [(.ref w_RUNNING)])) _
    refine st4 _ ?_
    refine Jvm.RoadKit.acmp (g := (mkF m 58 #[va w_QUEUED, va w_RUNNING] [(.ref w_RUNNING), (.ref w_RUNNING)])) X4 hx rfl rfl rfl (pc0 := 58) (pc' := 68) (same := true) rfl (hb hby d2_58) rfl (decide_eq_true rfl) (by decide) (by decide) ?_
    refine XS.iconst X4.here hx rfl (hb hby d2_68) ?_
    refine XS.goto X4.here hx rfl (pc0 := 69) (pc' := 114) rfl (hb hby d2_69) (by decide) (by decide) ?_
    exact retN X4 hx (t := .boolean) hrt (by simp) (hb hby d2_114) hr
  · show Q2_1 Z w_QUEUED w_FAILED w_RUNNING w_CANCELLED w_SUCCEEDED  h0 n0 (some (.int 1)) T4.heap _
    rw [e4]; exact ⟨rfl, N3, K1⟩
theorem d5_14 : decode method_3_code 14 = .ok (.iconst 1, 1) := by decide +kernel
theorem d5_15 : decode method_3_code 15 = .ok (.goto 4, 3) := by decide +kernel
def Q5_1 (Z : State) (w_QUEUED w_FAILED w_RUNNING w_CANCELLED w_SUCCEEDED : Addr) (p0 : Int32) (p1 : Int32) (h0 : Heap) (n0 : Nat) (v : Option Value) (h : Heap) (L : List Loc) : Prop := v = (some (.int 1)) ∧ Fr n0 L ∧ h = h0
theorem rm5_1 (l : Launch) (Z : State) (a0 : Array Value) (hw : HW Z a0) (ws : List Jvm.Cond) (w_QUEUED w_FAILED w_RUNNING w_CANCELLED w_SUCCEEDED : Addr) (p0 : Int32) (p1 : Int32) (h0 : Heap) (n0 : Nat) (O0 : Old Z n0 h0) (S : SF Z w_QUEUED w_FAILED w_RUNNING w_CANCELLED w_SUCCEEDED) (hc0 : p0 = (0 : Int32)) (hc1 : p1 = (1 : Int32)) :
    Pay l Z My5 ws method_3_code 2 (some .boolean) #[(.int p0), (.int p1)] h0 ({ frames := 0, cells := 0, slots := 0, locals := 0 } : Room) (Q5_1 Z w_QUEUED w_FAILED w_RUNNING w_CANCELLED w_SUCCEEDED p0 p1 h0 n0) := by
  refine own_body (plainFor_of_name pn_0) (L0 := #[vi p0, vi p1]) (fun _ => by first | rfl | (simp [entryFrame, mkF, argsToLocals, Value.category]; done)) ?_
  intro p e s m below meth c s₁ hrt hlk hx hby hml hZ hown0 hnm X0 e0
  have hown : s.vm.findClass sC1 = some m.cls := hown0
  have N0 := Fr.nil n0
  have K0 : Keep h0 h0 [] := Keep.refl _ _
  obtain ⟨fs, hr, hrun, hended, hW, hsame⟩ := X0.leave (v := (some (.int 1))) (fun h => by rw [hrt] at h; cases h)
  refine ⟨_, _, ?_, hrun, hended, _, _, rfl, ?_, ⟨_, rfl⟩, hW, hsame.mono (by decide) (by decide)⟩
  · show Steps p.tables e below (s₁.setTop (mkF m 0 #[vi p0, vi p1] [])) _
    refine XS.iloadN X0.here hx rfl (hb hby d5_0) rfl ?_
    refine XS.ifNo X0.here hx rfl (hb hby d5_1) rfl ((if0 _ _).trans (teq hc0).2) ?_
    refine XS.iloadN X0.here hx rfl (hb hby d5_4) rfl ?_
    refine XS.iconst X0.here hx rfl (hb hby d5_5) ?_
    refine XS.icmpYes X0.here hx rfl (pc0 := 6) (pc' := 14) rfl (hb hby d5_6) rfl (teq hc1).1 (by decide) (by decide) ?_
    refine XS.iconst X0.here hx rfl (hb hby d5_14) ?_
    refine XS.goto X0.here hx rfl (pc0 := 15) (pc' := 19) rfl (hb hby d5_15) (by decide) (by decide) ?_
    exact retN X0 hx (t := .boolean) hrt (by simp) (hb hby d5_19) hr
  · show Q5_1 Z w_QUEUED w_FAILED w_RUNNING w_CANCELLED w_SUCCEEDED p0 p1 h0 n0 (some (.int 1)) s₁.heap _
    exact (⟨rfl, N0, e0⟩)
theorem d1_17 : decode method_2_code 17 = .ok (.iload_n 0, 1) := by decide +kernel
theorem d1_18 : decode method_2_code 18 = .ok (.iconst 2, 1) := by decide +kernel
theorem d1_19 : decode method_2_code 19 = .ok (.if_icmp .ne 7, 3) := by decide +kernel
theorem d1_22 : decode method_2_code 22 = .ok (.getstatic 16, 3) := by decide +kernel
theorem d1_25 : decode method_2_code 25 = .ok (.areturn, 1) := by decide +kernel
def Q1_2 (Z : State) (w_QUEUED w_FAILED w_RUNNING w_CANCELLED w_SUCCEEDED : Addr) (p0 : Int32) (h0 : Heap) (n0 : Nat) (v : Option Value) (h : Heap) (L : List Loc) : Prop := v = (some (.ref w_SUCCEEDED)) ∧ Fr n0 L ∧ h = h0
theorem rm1_2 (l : Launch) (Z : State) (a0 : Array Value) (hw : HW Z a0) (ws : List Jvm.Cond) (w_QUEUED w_FAILED w_RUNNING w_CANCELLED w_SUCCEEDED : Addr) (p0 : Int32) (h0 : Heap) (n0 : Nat) (O0 : Old Z n0 h0) (S : SF Z w_QUEUED w_FAILED w_RUNNING w_CANCELLED w_SUCCEEDED) (hc0 : ¬ (p0 = (0 : Int32))) (hc1 : ¬ (p0 = (1 : Int32))) (hc2 : p0 = (2 : Int32)) :
    Pay l Z My1 ws method_2_code 1 (some (.object sC0)) #[(.int p0)] h0 ({ frames := 0, cells := 0, slots := 0, locals := 0 } : Room) (Q1_2 Z w_QUEUED w_FAILED w_RUNNING w_CANCELLED w_SUCCEEDED p0 h0 n0) := by
  obtain ⟨-, -, -, -, -, -, -, -, S_w_SUCCEEDED, -⟩ := id S
  refine own_body (plainFor_of_name pn_0) (L0 := #[vi p0]) (fun _ => by first | rfl | (simp [entryFrame, mkF, argsToLocals, Value.category]; done)) ?_
  intro p e s m below meth c s₁ hrt hlk hx hby hml hZ hown0 hnm X0 e0
  have hown : s.vm.findClass sC1 = some m.cls := hown0
  have N0 := Fr.nil n0
  have K0 : Keep h0 h0 [] := Keep.refl _ _
  obtain ⟨T1, X1, e1, st1⟩ := getS2 X0 hx hZ hown (host := "") (Or.inl (ww hw 54 rfl)) Via.refl e0 (S_w_SUCCEEDED.ext O0.2) (g := (mkF m 22 #[vi p0] [])) rfl (hb hby d1_22)
  obtain ⟨fs, hr, hrun, hended, hW, hsame⟩ := X1.leave (v := (some (.ref w_SUCCEEDED))) (fun h => by rw [hrt] at h; cases h)
  refine ⟨_, _, ?_, hrun, hended, _, _, rfl, ?_, ⟨_, rfl⟩, hW, hsame.mono (by decide) (by decide)⟩
  · show Steps p.tables e below (s₁.setTop (mkF m 0 #[vi p0] [])) _
    refine XS.iloadN X0.here hx rfl (hb hby d1_0) rfl ?_
    refine XS.ifYes X0.here hx rfl (pc0 := 1) (pc' := 8) rfl (hb hby d1_1) rfl ((if0 _ _).trans (feq hc0).2) (by decide) (by decide) ?_
    refine XS.iloadN X0.here hx rfl (hb hby d1_8) rfl ?_
    refine XS.iconst X0.here hx rfl (hb hby d1_9) ?_
    refine XS.icmpYes X0.here hx rfl (pc0 := 10) (pc' := 17) rfl (hb hby d1_10) rfl (feq hc1).2 (by decide) (by decide) ?_
    refine XS.iloadN X0.here hx rfl (hb hby d1_17) rfl ?_
    refine XS.iconst X0.here hx rfl (hb hby d1_18) ?_
    refine XS.icmpNo X0.here hx rfl (hb hby d1_19) rfl (teq hc2).2 ?_
    show Steps p.tables e below (s₁.setTop (mkF m 22 #[vi p0] [])) _
    refine st1 _ ?_
    exact retOut X1 hx (t := (.object sC0)) (i := .areturn) hrt rfl (Or.inr (Or.inr (Or.inr (Or.inr ⟨rfl, rfl, rfl⟩)))) (hb hby d1_25) hr
  · show Q1_2 Z w_QUEUED w_FAILED w_RUNNING w_CANCELLED w_SUCCEEDED p0 h0 n0 (some (.ref w_SUCCEEDED)) T1.heap _
    exact (⟨rfl, N0, e1⟩)
def Q3_2 (Z : State) (w_QUEUED w_FAILED w_RUNNING w_CANCELLED w_SUCCEEDED : Addr) (o0 : Addr) (h0 : Heap) (n0 : Nat) (v : Option Value) (h : Heap) (L : List Loc) : Prop := v = (some (.ref w_SUCCEEDED)) ∧ Fr n0 L ∧ h = h0
theorem rm3_2 (l : Launch) (Z : State) (a0 : Array Value) (hw : HW Z a0) (ws : List Jvm.Cond) (w_QUEUED w_FAILED w_RUNNING w_CANCELLED w_SUCCEEDED : Addr) (o0 : Addr) (h0 : Heap) (n0 : Nat) (O0 : Old Z n0 h0) (S : SF Z w_QUEUED w_FAILED w_RUNNING w_CANCELLED w_SUCCEEDED) :
    Pay l Z My3 ws jdk_31_method_11_code 2 (some (.object sC3)) #[(.ref w_SUCCEEDED), (.ref o0)] h0 ({ frames := 0, cells := 0, slots := 0, locals := 0 } : Room) (Q3_2 Z w_QUEUED w_FAILED w_RUNNING w_CANCELLED w_SUCCEEDED o0 h0 n0) := by
  refine own_body (plainFor_of_name pn_2) (L0 := #[va w_SUCCEEDED, va o0]) (fun _ => by first | rfl | (simp [entryFrame, mkF, argsToLocals, Value.category]; done)) ?_
  intro p e s m below meth c s₁ hrt hlk hx hby hml hZ hown0 hnm X0 e0
  have hown : s.vm.findClass "java/util/Objects" = some m.cls := hown0
  have N0 := Fr.nil n0
  have K0 : Keep h0 h0 [] := Keep.refl _ _
  obtain ⟨fs, hr, hrun, hended, hW, hsame⟩ := X0.leave (v := (some (.ref w_SUCCEEDED))) (fun h => by rw [hrt] at h; cases h)
  refine ⟨_, _, ?_, hrun, hended, _, _, rfl, ?_, ⟨_, rfl⟩, hW, hsame.mono (by decide) (by decide)⟩
  · show Steps p.tables e below (s₁.setTop (mkF m 0 #[va w_SUCCEEDED, va o0] [])) _
    refine XS.aloadN X0.here hx rfl (hb hby d3_0) rfl rfl ?_
    refine XS.ifnonnullYes X0.here hx rfl (pc0 := 1) (pc' := 13) rfl (hb hby d3_1) rfl (by decide) (by decide) ?_
    refine XS.aloadN X0.here hx rfl (hb hby d3_13) rfl rfl ?_
    exact retOut X0 hx (t := (.object sC3)) (i := .areturn) hrt rfl (Or.inr (Or.inr (Or.inr (Or.inr ⟨rfl, rfl, rfl⟩)))) (hb hby d3_14) hr
  · show Q3_2 Z w_QUEUED w_FAILED w_RUNNING w_CANCELLED w_SUCCEEDED o0 h0 n0 (some (.ref w_SUCCEEDED)) s₁.heap _
    exact (⟨rfl, N0, e0⟩)
def Q2_2 (Z : State) (w_QUEUED w_FAILED w_RUNNING w_CANCELLED w_SUCCEEDED : Addr) (h0 : Heap) (n0 : Nat) (v : Option Value) (h : Heap) (L : List Loc) : Prop := v = (some (.int 0)) ∧ Fr n0 L ∧ Keep h0 h []
theorem rm2_2 (l : Launch) (Z : State) (a0 : Array Value) (hw : HW Z a0) (ws : List Jvm.Cond) (w_QUEUED w_FAILED w_RUNNING w_CANCELLED w_SUCCEEDED : Addr) (h0 : Heap) (n0 : Nat) (O0 : Old Z n0 h0) (S : SF Z w_QUEUED w_FAILED w_RUNNING w_CANCELLED w_SUCCEEDED) :
    PayW l Z My2 ws prog_15_method_7_code 2 (some .boolean) #[(.ref w_QUEUED), (.ref w_SUCCEEDED)] h0 ({ frames := 1, cells := 2, slots := 20, locals := 13 } : Room) (Q2_2 Z w_QUEUED w_FAILED w_RUNNING w_CANCELLED w_SUCCEEDED  h0 n0) := by
  obtain ⟨-, E_w_QUEUED, -, -, S_w_RUNNING, -, S_w_CANCELLED, -, -, -, -, -, -, -, -, -, -, -, -, -, -, -, -, hne_w_RUNNING_w_SUCCEEDED, hne_w_CANCELLED_w_SUCCEEDED, -⟩ := id S
  refine own_body (plainFor_of_name pn_1) (L0 := #[va w_QUEUED, va w_SUCCEEDED]) (fun _ => by first | rfl | (simp [entryFrame, mkF, argsToLocals, Value.category]; done)) ?_
  intro p e s m below meth c s₁ hrt hlk hx hby hml hZ hown0 hnm X0 e0
  have hown : s.vm.findClass sC0 = some m.cls := hown0
  have N0 := Fr.nil n0
  have K0 : Keep h0 h0 [] := Keep.refl _ _
  obtain ⟨a1, T1, h1, kk1, X1, e1, E1, hS1, hk1, hZ1, hown1, st1⟩ := ldcS (s := s) (vm0 := s.vm) X0 hx hZ hown (ww hw 15 rfl) (own_wS hw) e0 (k0 := 0) ((State.WarmedH.refl s).since 0) (Nat.zero_le _) (g := (mkF m 1 #[va w_QUEUED, va w_SUCCEEDED] [(.ref w_SUCCEEDED)])) rfl (hb hby d2_1) (n := 16) (by decide +kernel) (by decide) (by decide) (by decide)
  have O1 := O0.ext E1
  have K1 : Keep h0 h1 [] := K0.ext E1
  obtain ⟨_, _, ⟨T2, L2, k2, n2⟩, -, X2, ⟨Lc2, hQ2, l2, y2, z2⟩, st2⟩ := Jvm.LawKit.callS X1 hx (y := My3) hown1 (mvT hZ1 (ww hw 23 rfl)) (mvT hZ1 (ww hw 24 rfl)) (mvT hZ1 (ww hw 25 rfl)) (mvT hZ1 (ww hw 26 rfl)) (by decide) (backOf (W := 0) (rm3_2 l Z a0 hw [] w_QUEUED w_FAILED w_RUNNING w_CANCELLED w_SUCCEEDED a1 h1 n0 O1 S) hZ1 (ww hw 26 rfl) (ww hw 25 rfl) (by decide) (by decide)) (g := (mkF m 3 #[va w_QUEUED, va w_SUCCEEDED] [(.ref a1), (.ref w_SUCCEEDED)])) rfl (by rw [hml]; rfl) (argsL := [(.ref w_SUCCEEDED), (.ref a1)]) (rest := []) (lenOf pd_1 rfl) rfl (by show 2 * 0 + _ ≤ _; exact Nat.le_of_eq rfl) (hb hby d2_3) (fun _ _ => ⟨rfl, e1, (by decide : 2 + 0 ≤ _), (by decide : 20 + 0 ≤ _)⟩)
  dsimp only [Pt.U, Pt.locs, Pt.cells, Pt.slots] at X2 l2 y2 z2 st2 hQ2
  subst l2 y2 z2
  obtain ⟨rfl, Nq2, e2⟩ := hQ2
  have N2 := Fr.app N0 Nq2
  obtain ⟨cq3, kq3, q3a, q3b, q3c⟩ := isOf hZ1 e2 (E_w_QUEUED.ext O1.2)
  obtain ⟨_, _, ⟨T3, L3, k3, n3⟩, -, X3, ⟨Lc3, hQ3, l3, y3, z3⟩, st3⟩ := X2.virtualBackUp hx (x := (⟨sC0, "ordinal", "()I"⟩ : MethodName)) (y := My4) (owner := sC2) hown1 (mvT hZ1 (ww hw 27 rfl)) (mvT hZ1 (ww hw 28 rfl)) (mvT hZ1 (ww hw 29 rfl)) (by decide) (mvT hZ1 (ww hw 31 rfl)) (mvT hZ1 (ww hw 30 rfl)) (backOf (W := 0) (rm4_0 l Z a0 hw [] w_QUEUED w_FAILED w_RUNNING w_CANCELLED w_SUCCEEDED h1 n0 O1 S) hZ1 (ww hw 33 rfl) (ww hw 32 rfl) (by decide) (by decide)) q3a q3c (g := (mkF m 8 #[va w_QUEUED, va w_SUCCEEDED] [(.ref w_QUEUED)])) rfl (by rw [hml]; rfl) (Steps.refl _) (argsL := []) (rest := []) (lenOf pd_2 rfl) rfl (by show 2 * 0 + _ ≤ _; exact Nat.le_of_eq rfl) (hb hby d2_8) (fun _ _ => ⟨rfl, e2, (by decide : 2 + 0 ≤ _), (by decide : 20 + 0 ≤ _)⟩)
  dsimp only [Pt.U, Pt.locs, Pt.cells, Pt.slots] at X3 l3 y3 z3 st3 hQ3
  subst l3 y3 z3
  obtain ⟨rfl, Nq3, e3⟩ := hQ3
  have N3 := Fr.app N2 Nq3
  obtain ⟨T4, X4, e4, st4⟩ := getS2 X3 hx hZ1 hown1 (host := "") (Or.inl (ww hw 36 rfl)) Via.refl e3 (S_w_RUNNING.ext O1.2) (g := (mkF m 55 #[va w_QUEUED, va w_SUCCEEDED] [(.ref w_SUCCEEDED)])) rfl (hb hby d2_55)
  obtain ⟨T5, X5, e5, st5⟩ := getS2 X4 hx hZ1 hown1 (host := "") (Or.inl (ww hw 38 rfl)) Via.refl e4 (S_w_CANCELLED.ext O1.2) (g := (mkF m 62 #[va w_QUEUED, va w_SUCCEEDED] [(.ref w_SUCCEEDED)])) rfl (hb hby d2_62)
  obtain ⟨fs, hr, hrun, hended, hRE⟩ := X5.leaveW (s := s) hS1 (by rw [e5]; exact hk1) (v := (some (.int 0))) (fun h => by rw [hrt] at h; cases h)
  refine ⟨_, _, ?_, hrun, hended, _, _, rfl, ?_, hRE.1, hRE.2.1, hRE.2.2.1, hRE.2.2.2.mono (by decide) (by decide)⟩
  · show Steps p.tables e below (s₁.setTop (mkF m 0 #[va w_QUEUED, va w_SUCCEEDED] [])) _
    refine XS.aloadN X0.here hx rfl (hb hby d2_0) rfl rfl ?_
    refine st1 _ ?_
    refine st2 _ ?_
    refine XS.pop X2.here hx rfl (hb hby d2_6) rfl rfl ?_
    refine XS.aloadN X2.here hx rfl (hb hby d2_7) rfl rfl ?_
    refine st3.trans ?_
    refine XS.tswIn X3.here hx rfl (pc0 := 11) (pc' := 54) rfl (hb hby d2_11) rfl (by decide) (o := 43) (by decide) (by decide) (by decide) ?_
    refine XS.aloadN X3.here hx rfl (hb hby d2_54) rfl rfl ?_
    show Steps p.tables e below (T3.setTop (mkF m 55 #[va w_QUEUED, va w_SUCCEEDED] [(.ref w_SUCCEEDED)])) _
    refine st4 _ ?_
    refine Jvm.RoadKit.acmp (g := (mkF m 58 #[va w_QUEUED, va w_SUCCEEDED] [(.ref w_RUNNING), (.ref w_SUCCEEDED)])) X4 hx rfl rfl rfl (pc0 := 58) (pc' := 61) (same := false) rfl (hb hby d2_58) rfl (decide_eq_false fun q => (Ne.symm hne_w_RUNNING_w_SUCCEEDED) (Value.ref.inj q)) (by decide) (by decide) ?_
    refine XS.aloadN X4.here hx rfl (hb hby d2_61) rfl rfl ?_
    refine st5 _ ?_
    refine Jvm.RoadKit.acmp (g := (mkF m 65 #[va w_QUEUED, va w_SUCCEEDED] [(.ref w_CANCELLED), (.ref w_SUCCEEDED)])) X5 hx rfl rfl rfl (pc0 := 65) (pc' := 72) (same := false) rfl (hb hby d2_65) rfl (decide_eq_false fun q => (Ne.symm hne_w_CANCELLED_w_SUCCEEDED) (Value.ref.inj q)) (by decide) (by decide) ?_
    refine XS.iconst X5.here hx rfl (hb hby d2_72) ?_
    refine XS.goto X5.here hx rfl (pc0 := 73) (pc' := 114) rfl (hb hby d2_73) (by decide) (by decide) ?_
    exact retN X5 hx (t := .boolean) hrt (by simp) (hb hby d2_114) hr
  · show Q2_2 Z w_QUEUED w_FAILED w_RUNNING w_CANCELLED w_SUCCEEDED  h0 n0 (some (.int 0)) T5.heap _
    rw [e5]; exact ⟨rfl, N3, K1⟩
theorem d1_26 : decode method_2_code 26 = .ok (.iload_n 0, 1) := by decide +kernel
theorem d1_27 : decode method_2_code 27 = .ok (.iconst 3, 1) := by decide +kernel
theorem d1_28 : decode method_2_code 28 = .ok (.if_icmp .ne 7, 3) := by decide +kernel
theorem d1_31 : decode method_2_code 31 = .ok (.getstatic 19, 3) := by decide +kernel
theorem d1_34 : decode method_2_code 34 = .ok (.areturn, 1) := by decide +kernel
def Q1_3 (Z : State) (w_QUEUED w_FAILED w_RUNNING w_CANCELLED w_SUCCEEDED : Addr) (p0 : Int32) (h0 : Heap) (n0 : Nat) (v : Option Value) (h : Heap) (L : List Loc) : Prop := v = (some (.ref w_FAILED)) ∧ Fr n0 L ∧ h = h0
theorem rm1_3 (l : Launch) (Z : State) (a0 : Array Value) (hw : HW Z a0) (ws : List Jvm.Cond) (w_QUEUED w_FAILED w_RUNNING w_CANCELLED w_SUCCEEDED : Addr) (p0 : Int32) (h0 : Heap) (n0 : Nat) (O0 : Old Z n0 h0) (S : SF Z w_QUEUED w_FAILED w_RUNNING w_CANCELLED w_SUCCEEDED) (hc0 : ¬ (p0 = (0 : Int32))) (hc1 : ¬ (p0 = (1 : Int32))) (hc2 : ¬ (p0 = (2 : Int32))) (hc3 : p0 = (3 : Int32)) :
    Pay l Z My1 ws method_2_code 1 (some (.object sC0)) #[(.int p0)] h0 ({ frames := 0, cells := 0, slots := 0, locals := 0 } : Room) (Q1_3 Z w_QUEUED w_FAILED w_RUNNING w_CANCELLED w_SUCCEEDED p0 h0 n0) := by
  obtain ⟨-, -, S_w_FAILED, -⟩ := id S
  refine own_body (plainFor_of_name pn_0) (L0 := #[vi p0]) (fun _ => by first | rfl | (simp [entryFrame, mkF, argsToLocals, Value.category]; done)) ?_
  intro p e s m below meth c s₁ hrt hlk hx hby hml hZ hown0 hnm X0 e0
  have hown : s.vm.findClass sC1 = some m.cls := hown0
  have N0 := Fr.nil n0
  have K0 : Keep h0 h0 [] := Keep.refl _ _
  obtain ⟨T1, X1, e1, st1⟩ := getS2 X0 hx hZ hown (host := "") (Or.inl (ww hw 8 rfl)) Via.refl e0 (S_w_FAILED.ext O0.2) (g := (mkF m 31 #[vi p0] [])) rfl (hb hby d1_31)
  obtain ⟨fs, hr, hrun, hended, hW, hsame⟩ := X1.leave (v := (some (.ref w_FAILED))) (fun h => by rw [hrt] at h; cases h)
  refine ⟨_, _, ?_, hrun, hended, _, _, rfl, ?_, ⟨_, rfl⟩, hW, hsame.mono (by decide) (by decide)⟩
  · show Steps p.tables e below (s₁.setTop (mkF m 0 #[vi p0] [])) _
    refine XS.iloadN X0.here hx rfl (hb hby d1_0) rfl ?_
    refine XS.ifYes X0.here hx rfl (pc0 := 1) (pc' := 8) rfl (hb hby d1_1) rfl ((if0 _ _).trans (feq hc0).2) (by decide) (by decide) ?_
    refine XS.iloadN X0.here hx rfl (hb hby d1_8) rfl ?_
    refine XS.iconst X0.here hx rfl (hb hby d1_9) ?_
    refine XS.icmpYes X0.here hx rfl (pc0 := 10) (pc' := 17) rfl (hb hby d1_10) rfl (feq hc1).2 (by decide) (by decide) ?_
    refine XS.iloadN X0.here hx rfl (hb hby d1_17) rfl ?_
    refine XS.iconst X0.here hx rfl (hb hby d1_18) ?_
    refine XS.icmpYes X0.here hx rfl (pc0 := 19) (pc' := 26) rfl (hb hby d1_19) rfl (feq hc2).2 (by decide) (by decide) ?_
    show Steps p.tables e below (s₁.setTop (mkF m 26 #[vi p0] [])) _
    refine XS.iloadN X0.here hx rfl (hb hby d1_26) rfl ?_
    refine XS.iconst X0.here hx rfl (hb hby d1_27) ?_
    refine XS.icmpNo X0.here hx rfl (hb hby d1_28) rfl (teq hc3).2 ?_
    refine st1 _ ?_
    exact retOut X1 hx (t := (.object sC0)) (i := .areturn) hrt rfl (Or.inr (Or.inr (Or.inr (Or.inr ⟨rfl, rfl, rfl⟩)))) (hb hby d1_34) hr
  · show Q1_3 Z w_QUEUED w_FAILED w_RUNNING w_CANCELLED w_SUCCEEDED p0 h0 n0 (some (.ref w_FAILED)) T1.heap _
    exact (⟨rfl, N0, e1⟩)
def Q3_3 (Z : State) (w_QUEUED w_FAILED w_RUNNING w_CANCELLED w_SUCCEEDED : Addr) (o0 : Addr) (h0 : Heap) (n0 : Nat) (v : Option Value) (h : Heap) (L : List Loc) : Prop := v = (some (.ref w_FAILED)) ∧ Fr n0 L ∧ h = h0
theorem rm3_3 (l : Launch) (Z : State) (a0 : Array Value) (hw : HW Z a0) (ws : List Jvm.Cond) (w_QUEUED w_FAILED w_RUNNING w_CANCELLED w_SUCCEEDED : Addr) (o0 : Addr) (h0 : Heap) (n0 : Nat) (O0 : Old Z n0 h0) (S : SF Z w_QUEUED w_FAILED w_RUNNING w_CANCELLED w_SUCCEEDED) :
    Pay l Z My3 ws jdk_31_method_11_code 2 (some (.object sC3)) #[(.ref w_FAILED), (.ref o0)] h0 ({ frames := 0, cells := 0, slots := 0, locals := 0 } : Room) (Q3_3 Z w_QUEUED w_FAILED w_RUNNING w_CANCELLED w_SUCCEEDED o0 h0 n0) := by
  refine own_body (plainFor_of_name pn_2) (L0 := #[va w_FAILED, va o0]) (fun _ => by first | rfl | (simp [entryFrame, mkF, argsToLocals, Value.category]; done)) ?_
  intro p e s m below meth c s₁ hrt hlk hx hby hml hZ hown0 hnm X0 e0
  have hown : s.vm.findClass "java/util/Objects" = some m.cls := hown0
  have N0 := Fr.nil n0
  have K0 : Keep h0 h0 [] := Keep.refl _ _
  obtain ⟨fs, hr, hrun, hended, hW, hsame⟩ := X0.leave (v := (some (.ref w_FAILED))) (fun h => by rw [hrt] at h; cases h)
  refine ⟨_, _, ?_, hrun, hended, _, _, rfl, ?_, ⟨_, rfl⟩, hW, hsame.mono (by decide) (by decide)⟩
  · show Steps p.tables e below (s₁.setTop (mkF m 0 #[va w_FAILED, va o0] [])) _
    refine XS.aloadN X0.here hx rfl (hb hby d3_0) rfl rfl ?_
    refine XS.ifnonnullYes X0.here hx rfl (pc0 := 1) (pc' := 13) rfl (hb hby d3_1) rfl (by decide) (by decide) ?_
    refine XS.aloadN X0.here hx rfl (hb hby d3_13) rfl rfl ?_
    exact retOut X0 hx (t := (.object sC3)) (i := .areturn) hrt rfl (Or.inr (Or.inr (Or.inr (Or.inr ⟨rfl, rfl, rfl⟩)))) (hb hby d3_14) hr
  · show Q3_3 Z w_QUEUED w_FAILED w_RUNNING w_CANCELLED w_SUCCEEDED o0 h0 n0 (some (.ref w_FAILED)) s₁.heap _
    exact (⟨rfl, N0, e0⟩)
def Q2_3 (Z : State) (w_QUEUED w_FAILED w_RUNNING w_CANCELLED w_SUCCEEDED : Addr) (h0 : Heap) (n0 : Nat) (v : Option Value) (h : Heap) (L : List Loc) : Prop := v = (some (.int 0)) ∧ Fr n0 L ∧ Keep h0 h []
theorem rm2_3 (l : Launch) (Z : State) (a0 : Array Value) (hw : HW Z a0) (ws : List Jvm.Cond) (w_QUEUED w_FAILED w_RUNNING w_CANCELLED w_SUCCEEDED : Addr) (h0 : Heap) (n0 : Nat) (O0 : Old Z n0 h0) (S : SF Z w_QUEUED w_FAILED w_RUNNING w_CANCELLED w_SUCCEEDED) :
    PayW l Z My2 ws prog_15_method_7_code 2 (some .boolean) #[(.ref w_QUEUED), (.ref w_FAILED)] h0 ({ frames := 1, cells := 2, slots := 20, locals := 13 } : Room) (Q2_3 Z w_QUEUED w_FAILED w_RUNNING w_CANCELLED w_SUCCEEDED  h0 n0) := by
  obtain ⟨-, E_w_QUEUED, -, -, S_w_RUNNING, -, S_w_CANCELLED, -, -, -, -, -, -, -, -, -, -, -, -, hne_w_FAILED_w_RUNNING, hne_w_FAILED_w_CANCELLED, -⟩ := id S
  refine own_body (plainFor_of_name pn_1) (L0 := #[va w_QUEUED, va w_FAILED]) (fun _ => by first | rfl | (simp [entryFrame, mkF, argsToLocals, Value.category]; done)) ?_
  intro p e s m below meth c s₁ hrt hlk hx hby hml hZ hown0 hnm X0 e0
  have hown : s.vm.findClass sC0 = some m.cls := hown0
  have N0 := Fr.nil n0
  have K0 : Keep h0 h0 [] := Keep.refl _ _
  obtain ⟨a1, T1, h1, kk1, X1, e1, E1, hS1, hk1, hZ1, hown1, st1⟩ := ldcS (s := s) (vm0 := s.vm) X0 hx hZ hown (ww hw 15 rfl) (own_wS hw) e0 (k0 := 0) ((State.WarmedH.refl s).since 0) (Nat.zero_le _) (g := (mkF m 1 #[va w_QUEUED, va w_FAILED] [(.ref w_FAILED)])) rfl (hb hby d2_1) (n := 16) (by decide +kernel) (by decide) (by decide) (by decide)
  have O1 := O0.ext E1
  have K1 : Keep h0 h1 [] := K0.ext E1
  obtain ⟨_, _, ⟨T2, L2, k2, n2⟩, -, X2, ⟨Lc2, hQ2, l2, y2, z2⟩, st2⟩ := Jvm.LawKit.callS X1 hx (y := My3) hown1 (mvT hZ1 (ww hw 23 rfl)) (mvT hZ1 (ww hw 24 rfl)) (mvT hZ1 (ww hw 25 rfl)) (mvT hZ1 (ww hw 26 rfl)) (by decide) (backOf (W := 0) (rm3_3 l Z a0 hw [] w_QUEUED w_FAILED w_RUNNING w_CANCELLED w_SUCCEEDED a1 h1 n0 O1 S) hZ1 (ww hw 26 rfl) (ww hw 25 rfl) (by decide) (by decide)) (g := (mkF m 3 #[va w_QUEUED, va w_FAILED] [(.ref a1), (.ref w_FAILED)])) rfl (by rw [hml]; rfl) (argsL := [(.ref w_FAILED), (.ref a1)]) (rest := []) (lenOf pd_1 rfl) rfl (by show 2 * 0 + _ ≤ _; exact Nat.le_of_eq rfl) (hb hby d2_3) (fun _ _ => ⟨rfl, e1, (by decide : 2 + 0 ≤ _), (by decide : 20 + 0 ≤ _)⟩)
  dsimp only [Pt.U, Pt.locs, Pt.cells, Pt.slots] at X2 l2 y2 z2 st2 hQ2
  subst l2 y2 z2
  obtain ⟨rfl, Nq2, e2⟩ := hQ2
  have N2 := Fr.app N0 Nq2
  obtain ⟨cq3, kq3, q3a, q3b, q3c⟩ := isOf hZ1 e2 (E_w_QUEUED.ext O1.2)
  obtain ⟨_, _, ⟨T3, L3, k3, n3⟩, -, X3, ⟨Lc3, hQ3, l3, y3, z3⟩, st3⟩ := X2.virtualBackUp hx (x := (⟨sC0, "ordinal", "()I"⟩ : MethodName)) (y := My4) (owner := sC2) hown1 (mvT hZ1 (ww hw 27 rfl)) (mvT hZ1 (ww hw 28 rfl)) (mvT hZ1 (ww hw 29 rfl)) (by decide) (mvT hZ1 (ww hw 31 rfl)) (mvT hZ1 (ww hw 30 rfl)) (backOf (W := 0) (rm4_0 l Z a0 hw [] w_QUEUED w_FAILED w_RUNNING w_CANCELLED w_SUCCEEDED h1 n0 O1 S) hZ1 (ww hw 33 rfl) (ww hw 32 rfl) (by decide) (by decide)) q3a q3c (g := (mkF m 8 #[va w_QUEUED, va w_FAILED] [(.ref w_QUEUED)])) rfl (by rw [hml]; rfl) (Steps.refl _) (argsL := []) (rest := []) (lenOf pd_2 rfl) rfl (by show 2 * 0 + _ ≤ _; exact Nat.le_of_eq rfl) (hb hby d2_8) (fun _ _ => ⟨rfl, e2, (by decide : 2 + 0 ≤ _), (by decide : 20 + 0 ≤ _)⟩)
  dsimp only [Pt.U, Pt.locs, Pt.cells, Pt.slots] at X3 l3 y3 z3 st3 hQ3
  subst l3 y3 z3
  obtain ⟨rfl, Nq3, e3⟩ := hQ3
  have N3 := Fr.app N2 Nq3
  obtain ⟨T4, X4, e4, st4⟩ := getS2 X3 hx hZ1 hown1 (host := "") (Or.inl (ww hw 36 rfl)) Via.refl e3 (S_w_RUNNING.ext O1.2) (g := (mkF m 55 #[va w_QUEUED, va w_FAILED] [(.ref w_FAILED)])) rfl (hb hby d2_55)
  obtain ⟨T5, X5, e5, st5⟩ := getS2 X4 hx hZ1 hown1 (host := "") (Or.inl (ww hw 38 rfl)) Via.refl e4 (S_w_CANCELLED.ext O1.2) (g := (mkF m 62 #[va w_QUEUED, va w_FAILED] [(.ref w_FAILED)])) rfl (hb hby d2_62)
  obtain ⟨fs, hr, hrun, hended, hRE⟩ := X5.leaveW (s := s) hS1 (by rw [e5]; exact hk1) (v := (some (.int 0))) (fun h => by rw [hrt] at h; cases h)
  refine ⟨_, _, ?_, hrun, hended, _, _, rfl, ?_, hRE.1, hRE.2.1, hRE.2.2.1, hRE.2.2.2.mono (by decide) (by decide)⟩
  · show Steps p.tables e below (s₁.setTop (mkF m 0 #[va w_QUEUED, va w_FAILED] [])) _
    refine XS.aloadN X0.here hx rfl (hb hby d2_0) rfl rfl ?_
    refine st1 _ ?_
    refine st2 _ ?_
    refine XS.pop X2.here hx rfl (hb hby d2_6) rfl rfl ?_
    refine XS.aloadN X2.here hx rfl (hb hby d2_7) rfl rfl ?_
    refine st3.trans ?_
    refine XS.tswIn X3.here hx rfl (pc0 := 11) (pc' := 54) rfl (hb hby d2_11) rfl (by decide) (o := 43) (by decide) (by decide) (by decide) ?_
    refine XS.aloadN X3.here hx rfl (hb hby d2_54) rfl rfl ?_
    show Steps p.tables e below (T3.setTop (mkF m 55 #[va w_QUEUED, va w_FAILED] [(.ref w_FAILED)])) _
    refine st4 _ ?_
    refine Jvm.RoadKit.acmp (g := (mkF m 58 #[va w_QUEUED, va w_FAILED] [(.ref w_RUNNING), (.ref w_FAILED)])) X4 hx rfl rfl rfl (pc0 := 58) (pc' := 61) (same := false) rfl (hb hby d2_58) rfl (decide_eq_false fun q => hne_w_FAILED_w_RUNNING (Value.ref.inj q)) (by decide) (by decide) ?_
    refine XS.aloadN X4.here hx rfl (hb hby d2_61) rfl rfl ?_
    refine st5 _ ?_
    refine Jvm.RoadKit.acmp (g := (mkF m 65 #[va w_QUEUED, va w_FAILED] [(.ref w_CANCELLED), (.ref w_FAILED)])) X5 hx rfl rfl rfl (pc0 := 65) (pc' := 72) (same := false) rfl (hb hby d2_65) rfl (decide_eq_false fun q => hne_w_FAILED_w_CANCELLED (Value.ref.inj q)) (by decide) (by decide) ?_
    refine XS.iconst X5.here hx rfl (hb hby d2_72) ?_
    refine XS.goto X5.here hx rfl (pc0 := 73) (pc' := 114) rfl (hb hby d2_73) (by decide) (by decide) ?_
    exact retN X5 hx (t := .boolean) hrt (by simp) (hb hby d2_114) hr
  · show Q2_3 Z w_QUEUED w_FAILED w_RUNNING w_CANCELLED w_SUCCEEDED  h0 n0 (some (.int 0)) T5.heap _
    rw [e5]; exact ⟨rfl, N3, K1⟩
theorem d1_35 : decode method_2_code 35 = .ok (.getstatic 22, 3) := by decide +kernel
theorem d1_38 : decode method_2_code 38 = .ok (.areturn, 1) := by decide +kernel
def Q1_4 (Z : State) (w_QUEUED w_FAILED w_RUNNING w_CANCELLED w_SUCCEEDED : Addr) (p0 : Int32) (h0 : Heap) (n0 : Nat) (v : Option Value) (h : Heap) (L : List Loc) : Prop := v = (some (.ref w_CANCELLED)) ∧ Fr n0 L ∧ h = h0
theorem rm1_4 (l : Launch) (Z : State) (a0 : Array Value) (hw : HW Z a0) (ws : List Jvm.Cond) (w_QUEUED w_FAILED w_RUNNING w_CANCELLED w_SUCCEEDED : Addr) (p0 : Int32) (h0 : Heap) (n0 : Nat) (O0 : Old Z n0 h0) (S : SF Z w_QUEUED w_FAILED w_RUNNING w_CANCELLED w_SUCCEEDED) (hc0 : ¬ (p0 = (0 : Int32))) (hc1 : ¬ (p0 = (1 : Int32))) (hc2 : ¬ (p0 = (2 : Int32))) (hc3 : ¬ (p0 = (3 : Int32))) :
    Pay l Z My1 ws method_2_code 1 (some (.object sC0)) #[(.int p0)] h0 ({ frames := 0, cells := 0, slots := 0, locals := 0 } : Room) (Q1_4 Z w_QUEUED w_FAILED w_RUNNING w_CANCELLED w_SUCCEEDED p0 h0 n0) := by
  obtain ⟨-, -, -, -, -, -, S_w_CANCELLED, -⟩ := id S
  refine own_body (plainFor_of_name pn_0) (L0 := #[vi p0]) (fun _ => by first | rfl | (simp [entryFrame, mkF, argsToLocals, Value.category]; done)) ?_
  intro p e s m below meth c s₁ hrt hlk hx hby hml hZ hown0 hnm X0 e0
  have hown : s.vm.findClass sC1 = some m.cls := hown0
  have N0 := Fr.nil n0
  have K0 : Keep h0 h0 [] := Keep.refl _ _
  obtain ⟨T1, X1, e1, st1⟩ := getS2 X0 hx hZ hown (host := "") (Or.inl (ww hw 43 rfl)) Via.refl e0 (S_w_CANCELLED.ext O0.2) (g := (mkF m 35 #[vi p0] [])) rfl (hb hby d1_35)
  obtain ⟨fs, hr, hrun, hended, hW, hsame⟩ := X1.leave (v := (some (.ref w_CANCELLED))) (fun h => by rw [hrt] at h; cases h)
  refine ⟨_, _, ?_, hrun, hended, _, _, rfl, ?_, ⟨_, rfl⟩, hW, hsame.mono (by decide) (by decide)⟩
  · show Steps p.tables e below (s₁.setTop (mkF m 0 #[vi p0] [])) _
    refine XS.iloadN X0.here hx rfl (hb hby d1_0) rfl ?_
    refine XS.ifYes X0.here hx rfl (pc0 := 1) (pc' := 8) rfl (hb hby d1_1) rfl ((if0 _ _).trans (feq hc0).2) (by decide) (by decide) ?_
    refine XS.iloadN X0.here hx rfl (hb hby d1_8) rfl ?_
    refine XS.iconst X0.here hx rfl (hb hby d1_9) ?_
    refine XS.icmpYes X0.here hx rfl (pc0 := 10) (pc' := 17) rfl (hb hby d1_10) rfl (feq hc1).2 (by decide) (by decide) ?_
    refine XS.iloadN X0.here hx rfl (hb hby d1_17) rfl ?_
    refine XS.iconst X0.here hx rfl (hb hby d1_18) ?_
    refine XS.icmpYes X0.here hx rfl (pc0 := 19) (pc' := 26) rfl (hb hby d1_19) rfl (feq hc2).2 (by decide) (by decide) ?_
    show Steps p.tables e below (s₁.setTop (mkF m 26 #[vi p0] [])) _
    refine XS.iloadN X0.here hx rfl (hb hby d1_26) rfl ?_
    refine XS.iconst X0.here hx rfl (hb hby d1_27) ?_
    refine XS.icmpYes X0.here hx rfl (pc0 := 28) (pc' := 35) rfl (hb hby d1_28) rfl (feq hc3).2 (by decide) (by decide) ?_
    refine st1 _ ?_
    exact retOut X1 hx (t := (.object sC0)) (i := .areturn) hrt rfl (Or.inr (Or.inr (Or.inr (Or.inr ⟨rfl, rfl, rfl⟩)))) (hb hby d1_38) hr
  · show Q1_4 Z w_QUEUED w_FAILED w_RUNNING w_CANCELLED w_SUCCEEDED p0 h0 n0 (some (.ref w_CANCELLED)) T1.heap _
    exact (⟨rfl, N0, e1⟩)
def Q3_4 (Z : State) (w_QUEUED w_FAILED w_RUNNING w_CANCELLED w_SUCCEEDED : Addr) (o0 : Addr) (h0 : Heap) (n0 : Nat) (v : Option Value) (h : Heap) (L : List Loc) : Prop := v = (some (.ref w_CANCELLED)) ∧ Fr n0 L ∧ h = h0
theorem rm3_4 (l : Launch) (Z : State) (a0 : Array Value) (hw : HW Z a0) (ws : List Jvm.Cond) (w_QUEUED w_FAILED w_RUNNING w_CANCELLED w_SUCCEEDED : Addr) (o0 : Addr) (h0 : Heap) (n0 : Nat) (O0 : Old Z n0 h0) (S : SF Z w_QUEUED w_FAILED w_RUNNING w_CANCELLED w_SUCCEEDED) :
    Pay l Z My3 ws jdk_31_method_11_code 2 (some (.object sC3)) #[(.ref w_CANCELLED), (.ref o0)] h0 ({ frames := 0, cells := 0, slots := 0, locals := 0 } : Room) (Q3_4 Z w_QUEUED w_FAILED w_RUNNING w_CANCELLED w_SUCCEEDED o0 h0 n0) := by
  refine own_body (plainFor_of_name pn_2) (L0 := #[va w_CANCELLED, va o0]) (fun _ => by first | rfl | (simp [entryFrame, mkF, argsToLocals, Value.category]; done)) ?_
  intro p e s m below meth c s₁ hrt hlk hx hby hml hZ hown0 hnm X0 e0
  have hown : s.vm.findClass "java/util/Objects" = some m.cls := hown0
  have N0 := Fr.nil n0
  have K0 : Keep h0 h0 [] := Keep.refl _ _
  obtain ⟨fs, hr, hrun, hended, hW, hsame⟩ := X0.leave (v := (some (.ref w_CANCELLED))) (fun h => by rw [hrt] at h; cases h)
  refine ⟨_, _, ?_, hrun, hended, _, _, rfl, ?_, ⟨_, rfl⟩, hW, hsame.mono (by decide) (by decide)⟩
  · show Steps p.tables e below (s₁.setTop (mkF m 0 #[va w_CANCELLED, va o0] [])) _
    refine XS.aloadN X0.here hx rfl (hb hby d3_0) rfl rfl ?_
    refine XS.ifnonnullYes X0.here hx rfl (pc0 := 1) (pc' := 13) rfl (hb hby d3_1) rfl (by decide) (by decide) ?_
    refine XS.aloadN X0.here hx rfl (hb hby d3_13) rfl rfl ?_
    exact retOut X0 hx (t := (.object sC3)) (i := .areturn) hrt rfl (Or.inr (Or.inr (Or.inr (Or.inr ⟨rfl, rfl, rfl⟩)))) (hb hby d3_14) hr
  · show Q3_4 Z w_QUEUED w_FAILED w_RUNNING w_CANCELLED w_SUCCEEDED o0 h0 n0 (some (.ref w_CANCELLED)) s₁.heap _
    exact (⟨rfl, N0, e0⟩)
def Q2_4 (Z : State) (w_QUEUED w_FAILED w_RUNNING w_CANCELLED w_SUCCEEDED : Addr) (h0 : Heap) (n0 : Nat) (v : Option Value) (h : Heap) (L : List Loc) : Prop := v = (some (.int 1)) ∧ Fr n0 L ∧ Keep h0 h []
theorem rm2_4 (l : Launch) (Z : State) (a0 : Array Value) (hw : HW Z a0) (ws : List Jvm.Cond) (w_QUEUED w_FAILED w_RUNNING w_CANCELLED w_SUCCEEDED : Addr) (h0 : Heap) (n0 : Nat) (O0 : Old Z n0 h0) (S : SF Z w_QUEUED w_FAILED w_RUNNING w_CANCELLED w_SUCCEEDED) :
    PayW l Z My2 ws prog_15_method_7_code 2 (some .boolean) #[(.ref w_QUEUED), (.ref w_CANCELLED)] h0 ({ frames := 1, cells := 2, slots := 20, locals := 13 } : Room) (Q2_4 Z w_QUEUED w_FAILED w_RUNNING w_CANCELLED w_SUCCEEDED  h0 n0) := by
  obtain ⟨-, E_w_QUEUED, -, -, S_w_RUNNING, -, S_w_CANCELLED, -, -, -, -, -, -, -, -, -, -, -, -, -, -, -, hne_w_RUNNING_w_CANCELLED, -⟩ := id S
  refine own_body (plainFor_of_name pn_1) (L0 := #[va w_QUEUED, va w_CANCELLED]) (fun _ => by first | rfl | (simp [entryFrame, mkF, argsToLocals, Value.category]; done)) ?_
  intro p e s m below meth c s₁ hrt hlk hx hby hml hZ hown0 hnm X0 e0
  have hown : s.vm.findClass sC0 = some m.cls := hown0
  have N0 := Fr.nil n0
  have K0 : Keep h0 h0 [] := Keep.refl _ _
  obtain ⟨a1, T1, h1, kk1, X1, e1, E1, hS1, hk1, hZ1, hown1, st1⟩ := ldcS (s := s) (vm0 := s.vm) X0 hx hZ hown (ww hw 15 rfl) (own_wS hw) e0 (k0 := 0) ((State.WarmedH.refl s).since 0) (Nat.zero_le _) (g := (mkF m 1 #[va w_QUEUED, va w_CANCELLED] [(.ref w_CANCELLED)])) rfl (hb hby d2_1) (n := 16) (by decide +kernel) (by decide) (by decide) (by decide)
  have O1 := O0.ext E1
  have K1 : Keep h0 h1 [] := K0.ext E1
  obtain ⟨_, _, ⟨T2, L2, k2, n2⟩, -, X2, ⟨Lc2, hQ2, l2, y2, z2⟩, st2⟩ := Jvm.LawKit.callS X1 hx (y := My3) hown1 (mvT hZ1 (ww hw 23 rfl)) (mvT hZ1 (ww hw 24 rfl)) (mvT hZ1 (ww hw 25 rfl)) (mvT hZ1 (ww hw 26 rfl)) (by decide) (backOf (W := 0) (rm3_4 l Z a0 hw [] w_QUEUED w_FAILED w_RUNNING w_CANCELLED w_SUCCEEDED a1 h1 n0 O1 S) hZ1 (ww hw 26 rfl) (ww hw 25 rfl) (by decide) (by decide)) (g := (mkF m 3 #[va w_QUEUED, va w_CANCELLED] [(.ref a1), (.ref w_CANCELLED)])) rfl (by rw [hml]; rfl) (argsL := [(.ref w_CANCELLED), (.ref a1)]) (rest := []) (lenOf pd_1 rfl) rfl (by show 2 * 0 + _ ≤ _; exact Nat.le_of_eq rfl) (hb hby d2_3) (fun _ _ => ⟨rfl, e1, (by decide : 2 + 0 ≤ _), (by decide : 20 + 0 ≤ _)⟩)
  dsimp only [Pt.U, Pt.locs, Pt.cells, Pt.slots] at X2 l2 y2 z2 st2 hQ2
  subst l2 y2 z2
  obtain ⟨rfl, Nq2, e2⟩ := hQ2
  have N2 := Fr.app N0 Nq2
  obtain ⟨cq3, kq3, q3a, q3b, q3c⟩ := isOf hZ1 e2 (E_w_QUEUED.ext O1.2)
  obtain ⟨_, _, ⟨T3, L3, k3, n3⟩, -, X3, ⟨Lc3, hQ3, l3, y3, z3⟩, st3⟩ := X2.virtualBackUp hx (x := (⟨sC0, "ordinal", "()I"⟩ : MethodName)) (y := My4) (owner := sC2) hown1 (mvT hZ1 (ww hw 27 rfl)) (mvT hZ1 (ww hw 28 rfl)) (mvT hZ1 (ww hw 29 rfl)) (by decide) (mvT hZ1 (ww hw 31 rfl)) (mvT hZ1 (ww hw 30 rfl)) (backOf (W := 0) (rm4_0 l Z a0 hw [] w_QUEUED w_FAILED w_RUNNING w_CANCELLED w_SUCCEEDED h1 n0 O1 S) hZ1 (ww hw 33 rfl) (ww hw 32 rfl) (by decide) (by decide)) q3a q3c (g := (mkF m 8 #[va w_QUEUED, va w_CANCELLED] [(.ref w_QUEUED)])) rfl (by rw [hml]; rfl) (Steps.refl _) (argsL := []) (rest := []) (lenOf pd_2 rfl) rfl (by show 2 * 0 + _ ≤ _; exact Nat.le_of_eq rfl) (hb hby d2_8) (fun _ _ => ⟨rfl, e2, (by decide : 2 + 0 ≤ _), (by decide : 20 + 0 ≤ _)⟩)
  dsimp only [Pt.U, Pt.locs, Pt.cells, Pt.slots] at X3 l3 y3 z3 st3 hQ3
  subst l3 y3 z3
  obtain ⟨rfl, Nq3, e3⟩ := hQ3
  have N3 := Fr.app N2 Nq3
  obtain ⟨T4, X4, e4, st4⟩ := getS2 X3 hx hZ1 hown1 (host := "") (Or.inl (ww hw 36 rfl)) Via.refl e3 (S_w_RUNNING.ext O1.2) (g := (mkF m 55 #[va w_QUEUED, va w_CANCELLED] [(.ref w_CANCELLED)])) rfl (hb hby d2_55)
  obtain ⟨T5, X5, e5, st5⟩ := getS2 X4 hx hZ1 hown1 (host := "") (Or.inl (ww hw 38 rfl)) Via.refl e4 (S_w_CANCELLED.ext O1.2) (g := (mkF m 62 #[va w_QUEUED, va w_CANCELLED] [(.ref w_CANCELLED)])) rfl (hb hby d2_62)
  obtain ⟨fs, hr, hrun, hended, hRE⟩ := X5.leaveW (s := s) hS1 (by rw [e5]; exact hk1) (v := (some (.int 1))) (fun h => by rw [hrt] at h; cases h)
  refine ⟨_, _, ?_, hrun, hended, _, _, rfl, ?_, hRE.1, hRE.2.1, hRE.2.2.1, hRE.2.2.2.mono (by decide) (by decide)⟩
  · show Steps p.tables e below (s₁.setTop (mkF m 0 #[va w_QUEUED, va w_CANCELLED] [])) _
    refine XS.aloadN X0.here hx rfl (hb hby d2_0) rfl rfl ?_
    refine st1 _ ?_
    refine st2 _ ?_
    refine XS.pop X2.here hx rfl (hb hby d2_6) rfl rfl ?_
    refine XS.aloadN X2.here hx rfl (hb hby d2_7) rfl rfl ?_
    refine st3.trans ?_
    refine XS.tswIn X3.here hx rfl (pc0 := 11) (pc' := 54) rfl (hb hby d2_11) rfl (by decide) (o := 43) (by decide) (by decide) (by decide) ?_
    refine XS.aloadN X3.here hx rfl (hb hby d2_54) rfl rfl ?_
    show Steps p.tables e below (T3.setTop (mkF m 55 #[va w_QUEUED, va w_CANCELLED] [(.ref w_CANCELLED)])) _
    refine st4 _ ?_
    refine Jvm.RoadKit.acmp (g := (mkF m 58 #[va w_QUEUED, va w_CANCELLED] [(.ref w_RUNNING), (.ref w_CANCELLED)])) X4 hx rfl rfl rfl (pc0 := 58) (pc' := 61) (same := false) rfl (hb hby d2_58) rfl (decide_eq_false fun q => (Ne.symm hne_w_RUNNING_w_CANCELLED) (Value.ref.inj q)) (by decide) (by decide) ?_
    refine XS.aloadN X4.here hx rfl (hb hby d2_61) rfl rfl ?_
    refine st5 _ ?_
    refine Jvm.RoadKit.acmp (g := (mkF m 65 #[va w_QUEUED, va w_CANCELLED] [(.ref w_CANCELLED), (.ref w_CANCELLED)])) X5 hx rfl rfl rfl (pc0 := 65) (pc' := 68) (same := true) rfl (hb hby d2_65) rfl (decide_eq_true rfl) (by decide) (by decide) ?_
    refine XS.iconst X5.here hx rfl (hb hby d2_68) ?_
    refine XS.goto X5.here hx rfl (pc0 := 69) (pc' := 114) rfl (hb hby d2_69) (by decide) (by decide) ?_
    exact retN X5 hx (t := .boolean) hrt (by simp) (hb hby d2_114) hr
  · show Q2_4 Z w_QUEUED w_FAILED w_RUNNING w_CANCELLED w_SUCCEEDED  h0 n0 (some (.int 1)) T5.heap _
    rw [e5]; exact ⟨rfl, N3, K1⟩
def Q5_2 (Z : State) (w_QUEUED w_FAILED w_RUNNING w_CANCELLED w_SUCCEEDED : Addr) (p0 : Int32) (p1 : Int32) (h0 : Heap) (n0 : Nat) (v : Option Value) (h : Heap) (L : List Loc) : Prop := v = (some (.int 1)) ∧ Fr n0 L ∧ h = h0
theorem rm5_2 (l : Launch) (Z : State) (a0 : Array Value) (hw : HW Z a0) (ws : List Jvm.Cond) (w_QUEUED w_FAILED w_RUNNING w_CANCELLED w_SUCCEEDED : Addr) (p0 : Int32) (p1 : Int32) (h0 : Heap) (n0 : Nat) (O0 : Old Z n0 h0) (S : SF Z w_QUEUED w_FAILED w_RUNNING w_CANCELLED w_SUCCEEDED) (hc0 : p0 = (0 : Int32)) (hc1 : ¬ (p1 = (1 : Int32))) (hc2 : p1 = (4 : Int32)) :
    Pay l Z My5 ws method_3_code 2 (some .boolean) #[(.int p0), (.int p1)] h0 ({ frames := 0, cells := 0, slots := 0, locals := 0 } : Room) (Q5_2 Z w_QUEUED w_FAILED w_RUNNING w_CANCELLED w_SUCCEEDED p0 p1 h0 n0) := by
  refine own_body (plainFor_of_name pn_0) (L0 := #[vi p0, vi p1]) (fun _ => by first | rfl | (simp [entryFrame, mkF, argsToLocals, Value.category]; done)) ?_
  intro p e s m below meth c s₁ hrt hlk hx hby hml hZ hown0 hnm X0 e0
  have hown : s.vm.findClass sC1 = some m.cls := hown0
  have N0 := Fr.nil n0
  have K0 : Keep h0 h0 [] := Keep.refl _ _
  obtain ⟨fs, hr, hrun, hended, hW, hsame⟩ := X0.leave (v := (some (.int 1))) (fun h => by rw [hrt] at h; cases h)
  refine ⟨_, _, ?_, hrun, hended, _, _, rfl, ?_, ⟨_, rfl⟩, hW, hsame.mono (by decide) (by decide)⟩
  · show Steps p.tables e below (s₁.setTop (mkF m 0 #[vi p0, vi p1] [])) _
    refine XS.iloadN X0.here hx rfl (hb hby d5_0) rfl ?_
    refine XS.ifNo X0.here hx rfl (hb hby d5_1) rfl ((if0 _ _).trans (teq hc0).2) ?_
    refine XS.iloadN X0.here hx rfl (hb hby d5_4) rfl ?_
    refine XS.iconst X0.here hx rfl (hb hby d5_5) ?_
    refine XS.icmpNo X0.here hx rfl (hb hby d5_6) rfl (feq hc1).1 ?_
    refine XS.iloadN X0.here hx rfl (hb hby d5_9) rfl ?_
    refine XS.iconst X0.here hx rfl (hb hby d5_10) ?_
    refine XS.icmpNo X0.here hx rfl (hb hby d5_11) rfl (teq hc2).2 ?_
    show Steps p.tables e below (s₁.setTop (mkF m 14 #[vi p0, vi p1] [])) _
    refine XS.iconst X0.here hx rfl (hb hby d5_14) ?_
    refine XS.goto X0.here hx rfl (pc0 := 15) (pc' := 19) rfl (hb hby d5_15) (by decide) (by decide) ?_
    exact retN X0 hx (t := .boolean) hrt (by simp) (hb hby d5_19) hr
  · show Q5_2 Z w_QUEUED w_FAILED w_RUNNING w_CANCELLED w_SUCCEEDED p0 p1 h0 n0 (some (.int 1)) s₁.heap _
    exact (⟨rfl, N0, e0⟩)
def Q4_1 (Z : State) (w_QUEUED w_FAILED w_RUNNING w_CANCELLED w_SUCCEEDED : Addr) (h0 : Heap) (n0 : Nat) (v : Option Value) (h : Heap) (L : List Loc) : Prop := v = (some (.int 1)) ∧ Fr n0 L ∧ h = h0
theorem rm4_1 (l : Launch) (Z : State) (a0 : Array Value) (hw : HW Z a0) (ws : List Jvm.Cond) (w_QUEUED w_FAILED w_RUNNING w_CANCELLED w_SUCCEEDED : Addr) (h0 : Heap) (n0 : Nat) (O0 : Old Z n0 h0) (S : SF Z w_QUEUED w_FAILED w_RUNNING w_CANCELLED w_SUCCEEDED) :
    Pay l Z My4 ws jdk_37_method_2_code 1 (some .int) #[(.ref w_RUNNING)] h0 ({ frames := 0, cells := 0, slots := 0, locals := 0 } : Room) (Q4_1 Z w_QUEUED w_FAILED w_RUNNING w_CANCELLED w_SUCCEEDED  h0 n0) := by
  obtain ⟨-, -, -, -, -, -, -, -, -, -, -, -, F_ordinal_w_RUNNING, -⟩ := id S
  refine own_body (plainFor_of_name pn_3) (L0 := #[va w_RUNNING]) (fun _ => by first | rfl | (simp [entryFrame, mkF, argsToLocals, Value.category]; done)) ?_
  intro p e s m below meth c s₁ hrt hlk hx hby hml hZ hown0 hnm X0 e0
  have hown : s.vm.findClass sC2 = some m.cls := hown0
  have N0 := Fr.nil n0
  have K0 : Keep h0 h0 [] := Keep.refl _ _
  obtain ⟨T1, X1, e1, st1⟩ := getF X0 hx hZ hown (host := "") (Or.inl (ww hw 34 rfl)) Via.refl e0 (F_ordinal_w_RUNNING.ext O0.2) (g := (mkF m 1 #[va w_RUNNING] [(.ref w_RUNNING)])) rfl rfl (hb hby d4_1)
  obtain ⟨fs, hr, hrun, hended, hW, hsame⟩ := X1.leave (v := (some (.int 1))) (fun h => by rw [hrt] at h; cases h)
  refine ⟨_, _, ?_, hrun, hended, _, _, rfl, ?_, ⟨_, rfl⟩, hW, hsame.mono (by decide) (by decide)⟩
  · show Steps p.tables e below (s₁.setTop (mkF m 0 #[va w_RUNNING] [])) _
    refine XS.aloadN X0.here hx rfl (hb hby d4_0) rfl rfl ?_
    refine st1 _ ?_
    exact retOut X1 hx (t := .int) (i := .ireturn) hrt rfl (Or.inl ⟨rfl, Or.inl rfl, _, rfl⟩) (hb hby d4_4) hr
  · show Q4_1 Z w_QUEUED w_FAILED w_RUNNING w_CANCELLED w_SUCCEEDED  h0 n0 (some (.int 1)) T1.heap _
    exact (⟨rfl, N0, e1⟩)
theorem d2_76 : decode prog_15_method_7_code 76 = .ok (.aload_n 1, 1) := by decide +kernel
theorem d2_77 : decode prog_15_method_7_code 77 = .ok (.getstatic 3, 3) := by decide +kernel
theorem d2_80 : decode prog_15_method_7_code 80 = .ok (.if_acmp .eq 10, 3) := by decide +kernel
theorem d2_90 : decode prog_15_method_7_code 90 = .ok (.iconst 1, 1) := by decide +kernel
theorem d2_91 : decode prog_15_method_7_code 91 = .ok (.goto 23, 3) := by decide +kernel
def Q2_5 (Z : State) (w_QUEUED w_FAILED w_RUNNING w_CANCELLED w_SUCCEEDED : Addr) (h0 : Heap) (n0 : Nat) (v : Option Value) (h : Heap) (L : List Loc) : Prop := v = (some (.int 1)) ∧ Fr n0 L ∧ Keep h0 h []
theorem rm2_5 (l : Launch) (Z : State) (a0 : Array Value) (hw : HW Z a0) (ws : List Jvm.Cond) (w_QUEUED w_FAILED w_RUNNING w_CANCELLED w_SUCCEEDED : Addr) (h0 : Heap) (n0 : Nat) (O0 : Old Z n0 h0) (S : SF Z w_QUEUED w_FAILED w_RUNNING w_CANCELLED w_SUCCEEDED) :
    PayW l Z My2 ws prog_15_method_7_code 2 (some .boolean) #[(.ref w_RUNNING), (.ref w_QUEUED)] h0 ({ frames := 1, cells := 2, slots := 20, locals := 13 } : Room) (Q2_5 Z w_QUEUED w_FAILED w_RUNNING w_CANCELLED w_SUCCEEDED  h0 n0) := by
  obtain ⟨S_w_QUEUED, -, -, -, -, E_w_RUNNING, -⟩ := id S
  refine own_body (plainFor_of_name pn_1) (L0 := #[va w_RUNNING, va w_QUEUED]) (fun _ => by first | rfl | (simp [entryFrame, mkF, argsToLocals, Value.category]; done)) ?_
  intro p e s m below meth c s₁ hrt hlk hx hby hml hZ hown0 hnm X0 e0
  have hown : s.vm.findClass sC0 = some m.cls := hown0
  have N0 := Fr.nil n0
  have K0 : Keep h0 h0 [] := Keep.refl _ _
  obtain ⟨a1, T1, h1, kk1, X1, e1, E1, hS1, hk1, hZ1, hown1, st1⟩ := ldcS (s := s) (vm0 := s.vm) X0 hx hZ hown (ww hw 15 rfl) (own_wS hw) e0 (k0 := 0) ((State.WarmedH.refl s).since 0) (Nat.zero_le _) (g := (mkF m 1 #[va w_RUNNING, va w_QUEUED] [(.ref w_QUEUED)])) rfl (hb hby d2_1) (n := 16) (by decide +kernel) (by decide) (by decide) (by decide)
  have O1 := O0.ext E1
  have K1 : Keep h0 h1 [] := K0.ext E1
  obtain ⟨_, _, ⟨T2, L2, k2, n2⟩, -, X2, ⟨Lc2, hQ2, l2, y2, z2⟩, st2⟩ := Jvm.LawKit.callS X1 hx (y := My3) hown1 (mvT hZ1 (ww hw 23 rfl)) (mvT hZ1 (ww hw 24 rfl)) (mvT hZ1 (ww hw 25 rfl)) (mvT hZ1 (ww hw 26 rfl)) (by decide) (backOf (W := 0) (rm3_0 l Z a0 hw [] w_QUEUED w_FAILED w_RUNNING w_CANCELLED w_SUCCEEDED a1 h1 n0 O1 S) hZ1 (ww hw 26 rfl) (ww hw 25 rfl) (by decide) (by decide)) (g := (mkF m 3 #[va w_RUNNING, va w_QUEUED] [(.ref a1), (.ref w_QUEUED)])) rfl (by rw [hml]; rfl) (argsL := [(.ref w_QUEUED), (.ref a1)]) (rest := []) (lenOf pd_1 rfl) rfl (by show 2 * 0 + _ ≤ _; exact Nat.le_of_eq rfl) (hb hby d2_3) (fun _ _ => ⟨rfl, e1, (by decide : 2 + 0 ≤ _), (by decide : 20 + 0 ≤ _)⟩)
  dsimp only [Pt.U, Pt.locs, Pt.cells, Pt.slots] at X2 l2 y2 z2 st2 hQ2
  subst l2 y2 z2
  obtain ⟨rfl, Nq2, e2⟩ := hQ2
  have N2 := Fr.app N0 Nq2
  obtain ⟨cq3, kq3, q3a, q3b, q3c⟩ := isOf hZ1 e2 (E_w_RUNNING.ext O1.2)
  obtain ⟨_, _, ⟨T3, L3, k3, n3⟩, -, X3, ⟨Lc3, hQ3, l3, y3, z3⟩, st3⟩ := X2.virtualBackUp hx (x := (⟨sC0, "ordinal", "()I"⟩ : MethodName)) (y := My4) (owner := sC2) hown1 (mvT hZ1 (ww hw 27 rfl)) (mvT hZ1 (ww hw 28 rfl)) (mvT hZ1 (ww hw 29 rfl)) (by decide) (mvT hZ1 (ww hw 31 rfl)) (mvT hZ1 (ww hw 30 rfl)) (backOf (W := 0) (rm4_1 l Z a0 hw [] w_QUEUED w_FAILED w_RUNNING w_CANCELLED w_SUCCEEDED h1 n0 O1 S) hZ1 (ww hw 33 rfl) (ww hw 32 rfl) (by decide) (by decide)) q3a q3c (g := (mkF m 8 #[va w_RUNNING, va w_QUEUED] [(.ref w_RUNNING)])) rfl (by rw [hml]; rfl) (Steps.refl _) (argsL := []) (rest := []) (lenOf pd_2 rfl) rfl (by show 2 * 0 + _ ≤ _; exact Nat.le_of_eq rfl) (hb hby d2_8) (fun _ _ => ⟨rfl, e2, (by decide : 2 + 0 ≤ _), (by decide : 20 + 0 ≤ _)⟩)
  dsimp only [Pt.U, Pt.locs, Pt.cells, Pt.slots] at X3 l3 y3 z3 st3 hQ3
  subst l3 y3 z3
  obtain ⟨rfl, Nq3, e3⟩ := hQ3
  have N3 := Fr.app N2 Nq3
  obtain ⟨T4, X4, e4, st4⟩ := getS2 X3 hx hZ1 hown1 (host := "") (Or.inl (ww hw 45 rfl)) Via.refl e3 (S_w_QUEUED.ext O1.2) (g := (mkF m 77 #[va w_RUNNING, va w_QUEUED] [(.ref w_QUEUED)])) rfl (hb hby d2_77)
  obtain ⟨fs, hr, hrun, hended, hRE⟩ := X4.leaveW (s := s) hS1 (by rw [e4]; exact hk1) (v := (some (.int 1))) (fun h => by rw [hrt] at h; cases h)
  refine ⟨_, _, ?_, hrun, hended, _, _, rfl, ?_, hRE.1, hRE.2.1, hRE.2.2.1, hRE.2.2.2.mono (by decide) (by decide)⟩
  · show Steps p.tables e below (s₁.setTop (mkF m 0 #[va w_RUNNING, va w_QUEUED] [])) _
    refine XS.aloadN X0.here hx rfl (hb hby d2_0) rfl rfl ?_
    refine st1 _ ?_
    refine st2 _ ?_
    refine XS.pop X2.here hx rfl (hb hby d2_6) rfl rfl ?_
    refine XS.aloadN X2.here hx rfl (hb hby d2_7) rfl rfl ?_
    refine st3.trans ?_
    refine XS.tswIn X3.here hx rfl (pc0 := 11) (pc' := 76) rfl (hb hby d2_11) rfl (by decide) (o := 65) (by decide) (by decide) (by decide) ?_
    refine XS.aloadN X3.here hx rfl (hb hby d2_76) rfl rfl ?_
    show Steps p.tables e below (T3.setTop (mkF m 77 #[va w_RUNNING, va w_QUEUED] [(.ref w_QUEUED)])) _
    refine st4 _ ?_
    refine Jvm.RoadKit.acmp (g := (mkF m 80 #[va w_RUNNING, va w_QUEUED] [(.ref w_QUEUED), (.ref w_QUEUED)])) X4 hx rfl rfl rfl (pc0 := 80) (pc' := 90) (same := true) rfl (hb hby d2_80) rfl (decide_eq_true rfl) (by decide) (by decide) ?_
    refine XS.iconst X4.here hx rfl (hb hby d2_90) ?_
    refine XS.goto X4.here hx rfl (pc0 := 91) (pc' := 114) rfl (hb hby d2_91) (by decide) (by decide) ?_
    exact retN X4 hx (t := .boolean) hrt (by simp) (hb hby d2_114) hr
  · show Q2_5 Z w_QUEUED w_FAILED w_RUNNING w_CANCELLED w_SUCCEEDED  h0 n0 (some (.int 1)) T4.heap _
    rw [e4]; exact ⟨rfl, N3, K1⟩
theorem d5_20 : decode method_3_code 20 = .ok (.iload_n 0, 1) := by decide +kernel
theorem d5_21 : decode method_3_code 21 = .ok (.iconst 1, 1) := by decide +kernel
theorem d5_22 : decode method_3_code 22 = .ok (.if_icmp .ne 28, 3) := by decide +kernel
theorem d5_25 : decode method_3_code 25 = .ok (.iload_n 1, 1) := by decide +kernel
theorem d5_26 : decode method_3_code 26 = .ok (.ifCond .eq 18, 3) := by decide +kernel
theorem d5_44 : decode method_3_code 44 = .ok (.iconst 1, 1) := by decide +kernel
theorem d5_45 : decode method_3_code 45 = .ok (.goto 4, 3) := by decide +kernel
theorem d5_49 : decode method_3_code 49 = .ok (.ireturn, 1) := by decide +kernel
def Q5_3 (Z : State) (w_QUEUED w_FAILED w_RUNNING w_CANCELLED w_SUCCEEDED : Addr) (p0 : Int32) (p1 : Int32) (h0 : Heap) (n0 : Nat) (v : Option Value) (h : Heap) (L : List Loc) : Prop := v = (some (.int 1)) ∧ Fr n0 L ∧ h = h0
theorem rm5_3 (l : Launch) (Z : State) (a0 : Array Value) (hw : HW Z a0) (ws : List Jvm.Cond) (w_QUEUED w_FAILED w_RUNNING w_CANCELLED w_SUCCEEDED : Addr) (p0 : Int32) (p1 : Int32) (h0 : Heap) (n0 : Nat) (O0 : Old Z n0 h0) (S : SF Z w_QUEUED w_FAILED w_RUNNING w_CANCELLED w_SUCCEEDED) (hc0 : ¬ (p0 = (0 : Int32))) (hc1 : p0 = (1 : Int32)) (hc2 : p1 = (0 : Int32)) :
    Pay l Z My5 ws method_3_code 2 (some .boolean) #[(.int p0), (.int p1)] h0 ({ frames := 0, cells := 0, slots := 0, locals := 0 } : Room) (Q5_3 Z w_QUEUED w_FAILED w_RUNNING w_CANCELLED w_SUCCEEDED p0 p1 h0 n0) := by
  refine own_body (plainFor_of_name pn_0) (L0 := #[vi p0, vi p1]) (fun _ => by first | rfl | (simp [entryFrame, mkF, argsToLocals, Value.category]; done)) ?_
  intro p e s m below meth c s₁ hrt hlk hx hby hml hZ hown0 hnm X0 e0
  have hown : s.vm.findClass sC1 = some m.cls := hown0
  have N0 := Fr.nil n0
  have K0 : Keep h0 h0 [] := Keep.refl _ _
  obtain ⟨fs, hr, hrun, hended, hW, hsame⟩ := X0.leave (v := (some (.int 1))) (fun h => by rw [hrt] at h; cases h)
  refine ⟨_, _, ?_, hrun, hended, _, _, rfl, ?_, ⟨_, rfl⟩, hW, hsame.mono (by decide) (by decide)⟩
  · show Steps p.tables e below (s₁.setTop (mkF m 0 #[vi p0, vi p1] [])) _
    refine XS.iloadN X0.here hx rfl (hb hby d5_0) rfl ?_
    refine XS.ifYes X0.here hx rfl (pc0 := 1) (pc' := 20) rfl (hb hby d5_1) rfl ((if0 _ _).trans (feq hc0).2) (by decide) (by decide) ?_
    refine XS.iloadN X0.here hx rfl (hb hby d5_20) rfl ?_
    refine XS.iconst X0.here hx rfl (hb hby d5_21) ?_
    refine XS.icmpNo X0.here hx rfl (hb hby d5_22) rfl (teq hc1).2 ?_
    refine XS.iloadN X0.here hx rfl (hb hby d5_25) rfl ?_
    refine XS.ifYes X0.here hx rfl (pc0 := 26) (pc' := 44) rfl (hb hby d5_26) rfl ((if0 _ _).trans (teq hc2).1) (by decide) (by decide) ?_
    refine XS.iconst X0.here hx rfl (hb hby d5_44) ?_
    show Steps p.tables e below (s₁.setTop (mkF m 45 #[vi p0, vi p1] [(.int 1)])) _
    refine XS.goto X0.here hx rfl (pc0 := 45) (pc' := 49) rfl (hb hby d5_45) (by decide) (by decide) ?_
    exact retN X0 hx (t := .boolean) hrt (by simp) (hb hby d5_49) hr
  · show Q5_3 Z w_QUEUED w_FAILED w_RUNNING w_CANCELLED w_SUCCEEDED p0 p1 h0 n0 (some (.int 1)) s₁.heap _
    exact (⟨rfl, N0, e0⟩)
theorem d2_83 : decode prog_15_method_7_code 83 = .ok (.aload_n 1, 1) := by decide +kernel
theorem d2_84 : decode prog_15_method_7_code 84 = .ok (.invokevirtual 93, 3) := by decide +kernel
theorem d6_0 : decode prog_15_method_6_code 0 = .ok (.aload_n 0, 1) := by decide +kernel
theorem d6_1 : decode prog_15_method_6_code 1 = .ok (.getstatic 10, 3) := by decide +kernel
theorem d6_4 : decode prog_15_method_6_code 4 = .ok (.if_acmp .eq 17, 3) := by decide +kernel
theorem d6_7 : decode prog_15_method_6_code 7 = .ok (.aload_n 0, 1) := by decide +kernel
theorem d6_8 : decode prog_15_method_6_code 8 = .ok (.getstatic 13, 3) := by decide +kernel
theorem d6_11 : decode prog_15_method_6_code 11 = .ok (.if_acmp .eq 10, 3) := by decide +kernel
theorem d6_14 : decode prog_15_method_6_code 14 = .ok (.aload_n 0, 1) := by decide +kernel
theorem d6_15 : decode prog_15_method_6_code 15 = .ok (.getstatic 16, 3) := by decide +kernel
theorem d6_18 : decode prog_15_method_6_code 18 = .ok (.if_acmp .ne 7, 3) := by decide +kernel
theorem d6_25 : decode prog_15_method_6_code 25 = .ok (.iconst 0, 1) := by decide +kernel
theorem d6_26 : decode prog_15_method_6_code 26 = .ok (.ireturn, 1) := by decide +kernel
def Q6_0 (Z : State) (w_QUEUED w_FAILED w_RUNNING w_CANCELLED w_SUCCEEDED : Addr) (h0 : Heap) (n0 : Nat) (v : Option Value) (h : Heap) (L : List Loc) : Prop := v = (some (.int 0)) ∧ Fr n0 L ∧ h = h0
theorem rm6_0 (l : Launch) (Z : State) (a0 : Array Value) (hw : HW Z a0) (ws : List Jvm.Cond) (w_QUEUED w_FAILED w_RUNNING w_CANCELLED w_SUCCEEDED : Addr) (h0 : Heap) (n0 : Nat) (O0 : Old Z n0 h0) (S : SF Z w_QUEUED w_FAILED w_RUNNING w_CANCELLED w_SUCCEEDED) :
    Pay l Z My6 ws prog_15_method_6_code 1 (some .boolean) #[(.ref w_RUNNING)] h0 ({ frames := 0, cells := 0, slots := 0, locals := 0 } : Room) (Q6_0 Z w_QUEUED w_FAILED w_RUNNING w_CANCELLED w_SUCCEEDED  h0 n0) := by
  obtain ⟨-, -, S_w_FAILED, -, -, -, S_w_CANCELLED, -, S_w_SUCCEEDED, -, -, -, -, -, -, -, -, -, -, hne_w_FAILED_w_RUNNING, -, -, hne_w_RUNNING_w_CANCELLED, hne_w_RUNNING_w_SUCCEEDED, -⟩ := id S
  refine own_body (plainFor_of_name pn_1) (L0 := #[va w_RUNNING]) (fun _ => by first | rfl | (simp [entryFrame, mkF, argsToLocals, Value.category]; done)) ?_
  intro p e s m below meth c s₁ hrt hlk hx hby hml hZ hown0 hnm X0 e0
  have hown : s.vm.findClass sC0 = some m.cls := hown0
  have N0 := Fr.nil n0
  have K0 : Keep h0 h0 [] := Keep.refl _ _
  obtain ⟨T1, X1, e1, st1⟩ := getS2 X0 hx hZ hown (host := "") (Or.inl (ww hw 51 rfl)) Via.refl e0 (S_w_SUCCEEDED.ext O0.2) (g := (mkF m 1 #[va w_RUNNING] [(.ref w_RUNNING)])) rfl (hb hby d6_1)
  obtain ⟨T2, X2, e2, st2⟩ := getS2 X1 hx hZ hown (host := "") (Or.inl (ww hw 53 rfl)) Via.refl e1 (S_w_FAILED.ext O0.2) (g := (mkF m 8 #[va w_RUNNING] [(.ref w_RUNNING)])) rfl (hb hby d6_8)
  obtain ⟨T3, X3, e3, st3⟩ := getS2 X2 hx hZ hown (host := "") (Or.inl (ww hw 38 rfl)) Via.refl e2 (S_w_CANCELLED.ext O0.2) (g := (mkF m 15 #[va w_RUNNING] [(.ref w_RUNNING)])) rfl (hb hby d6_15)
  obtain ⟨fs, hr, hrun, hended, hW, hsame⟩ := X3.leave (v := (some (.int 0))) (fun h => by rw [hrt] at h; cases h)
  refine ⟨_, _, ?_, hrun, hended, _, _, rfl, ?_, ⟨_, rfl⟩, hW, hsame.mono (by decide) (by decide)⟩
  · show Steps p.tables e below (s₁.setTop (mkF m 0 #[va w_RUNNING] [])) _
    refine XS.aloadN X0.here hx rfl (hb hby d6_0) rfl rfl ?_
    refine st1 _ ?_
    refine Jvm.RoadKit.acmp (g := (mkF m 4 #[va w_RUNNING] [(.ref w_SUCCEEDED), (.ref w_RUNNING)])) X1 hx rfl rfl rfl (pc0 := 4) (pc' := 7) (same := false) rfl (hb hby d6_4) rfl (decide_eq_false fun q => hne_w_RUNNING_w_SUCCEEDED (Value.ref.inj q)) (by decide) (by decide) ?_
    refine XS.aloadN X1.here hx rfl (hb hby d6_7) rfl rfl ?_
    refine st2 _ ?_
    refine Jvm.RoadKit.acmp (g := (mkF m 11 #[va w_RUNNING] [(.ref w_FAILED), (.ref w_RUNNING)])) X2 hx rfl rfl rfl (pc0 := 11) (pc' := 14) (same := false) rfl (hb hby d6_11) rfl (decide_eq_false fun q => (Ne.symm hne_w_FAILED_w_RUNNING) (Value.ref.inj q)) (by decide) (by decide) ?_
    refine XS.aloadN X2.here hx rfl (hb hby d6_14) rfl rfl ?_
    refine st3 _ ?_
    show Steps p.tables e below (T3.setTop (mkF m 18 #[va w_RUNNING] [(.ref w_CANCELLED), (.ref w_RUNNING)])) _
    refine Jvm.RoadKit.acmp (g := (mkF m 18 #[va w_RUNNING] [(.ref w_CANCELLED), (.ref w_RUNNING)])) X3 hx rfl rfl rfl (pc0 := 18) (pc' := 25) (same := false) rfl (hb hby d6_18) rfl (decide_eq_false fun q => hne_w_RUNNING_w_CANCELLED (Value.ref.inj q)) (by decide) (by decide) ?_
    refine XS.iconst X3.here hx rfl (hb hby d6_25) ?_
    exact retN X3 hx (t := .boolean) hrt (by simp) (hb hby d6_26) hr
  · show Q6_0 Z w_QUEUED w_FAILED w_RUNNING w_CANCELLED w_SUCCEEDED  h0 n0 (some (.int 0)) T3.heap _
    exact (⟨rfl, N0, e3⟩)
theorem pd_5 : parseMethodDescriptor "()Z" = some ⟨[], some .boolean⟩ := by decide +kernel
theorem d2_87 : decode prog_15_method_7_code 87 = .ok (.ifCond .eq 7, 3) := by decide +kernel
theorem d2_94 : decode prog_15_method_7_code 94 = .ok (.iconst 0, 1) := by decide +kernel
theorem d2_95 : decode prog_15_method_7_code 95 = .ok (.goto 19, 3) := by decide +kernel
def Q2_6 (Z : State) (w_QUEUED w_FAILED w_RUNNING w_CANCELLED w_SUCCEEDED : Addr) (h0 : Heap) (n0 : Nat) (v : Option Value) (h : Heap) (L : List Loc) : Prop := v = (some (.int 0)) ∧ Fr n0 L ∧ Keep h0 h []
theorem rm2_6 (l : Launch) (Z : State) (a0 : Array Value) (hw : HW Z a0) (ws : List Jvm.Cond) (w_QUEUED w_FAILED w_RUNNING w_CANCELLED w_SUCCEEDED : Addr) (h0 : Heap) (n0 : Nat) (O0 : Old Z n0 h0) (S : SF Z w_QUEUED w_FAILED w_RUNNING w_CANCELLED w_SUCCEEDED) :
    PayW l Z My2 ws prog_15_method_7_code 2 (some .boolean) #[(.ref w_RUNNING), (.ref w_RUNNING)] h0 ({ frames := 1, cells := 2, slots := 20, locals := 13 } : Room) (Q2_6 Z w_QUEUED w_FAILED w_RUNNING w_CANCELLED w_SUCCEEDED  h0 n0) := by
  obtain ⟨S_w_QUEUED, -, -, -, -, E_w_RUNNING, -, -, -, -, -, -, -, -, -, -, hne_w_QUEUED_w_RUNNING, -⟩ := id S
  refine own_body (plainFor_of_name pn_1) (L0 := #[va w_RUNNING, va w_RUNNING]) (fun _ => by first | rfl | (simp [entryFrame, mkF, argsToLocals, Value.category]; done)) ?_
  intro p e s m below meth c s₁ hrt hlk hx hby hml hZ hown0 hnm X0 e0
  have hown : s.vm.findClass sC0 = some m.cls := hown0
  have N0 := Fr.nil n0
  have K0 : Keep h0 h0 [] := Keep.refl _ _
  obtain ⟨a1, T1, h1, kk1, X1, e1, E1, hS1, hk1, hZ1, hown1, st1⟩ := ldcS (s := s) (vm0 := s.vm) X0 hx hZ hown (ww hw 15 rfl) (own_wS hw) e0 (k0 := 0) ((State.WarmedH.refl s).since 0) (Nat.zero_le _) (g := (mkF m 1 #[va w_RUNNING, va w_RUNNING] [(.ref w_RUNNING)])) rfl (hb hby d2_1) (n := 16) (by decide +kernel) (by decide) (by decide) (by decide)
  have O1 := O0.ext E1
  have K1 : Keep h0 h1 [] := K0.ext E1
  obtain ⟨_, _, ⟨T2, L2, k2, n2⟩, -, X2, ⟨Lc2, hQ2, l2, y2, z2⟩, st2⟩ := Jvm.LawKit.callS X1 hx (y := My3) hown1 (mvT hZ1 (ww hw 23 rfl)) (mvT hZ1 (ww hw 24 rfl)) (mvT hZ1 (ww hw 25 rfl)) (mvT hZ1 (ww hw 26 rfl)) (by decide) (backOf (W := 0) (rm3_1 l Z a0 hw [] w_QUEUED w_FAILED w_RUNNING w_CANCELLED w_SUCCEEDED a1 h1 n0 O1 S) hZ1 (ww hw 26 rfl) (ww hw 25 rfl) (by decide) (by decide)) (g := (mkF m 3 #[va w_RUNNING, va w_RUNNING] [(.ref a1), (.ref w_RUNNING)])) rfl (by rw [hml]; rfl) (argsL := [(.ref w_RUNNING), (.ref a1)]) (rest := []) (lenOf pd_1 rfl) rfl (by show 2 * 0 + _ ≤ _; exact Nat.le_of_eq rfl) (hb hby d2_3) (fun _ _ => ⟨rfl, e1, (by decide : 2 + 0 ≤ _), (by decide : 20 + 0 ≤ _)⟩)
  dsimp only [Pt.U, Pt.locs, Pt.cells, Pt.slots] at X2 l2 y2 z2 st2 hQ2
  subst l2 y2 z2
  obtain ⟨rfl, Nq2, e2⟩ := hQ2
  have N2 := Fr.app N0 Nq2
  obtain ⟨cq3, kq3, q3a, q3b, q3c⟩ := isOf hZ1 e2 (E_w_RUNNING.ext O1.2)
  obtain ⟨_, _, ⟨T3, L3, k3, n3⟩, -, X3, ⟨Lc3, hQ3, l3, y3, z3⟩, st3⟩ := X2.virtualBackUp hx (x := (⟨sC0, "ordinal", "()I"⟩ : MethodName)) (y := My4) (owner := sC2) hown1 (mvT hZ1 (ww hw 27 rfl)) (mvT hZ1 (ww hw 28 rfl)) (mvT hZ1 (ww hw 29 rfl)) (by decide) (mvT hZ1 (ww hw 31 rfl)) (mvT hZ1 (ww hw 30 rfl)) (backOf (W := 0) (rm4_1 l Z a0 hw [] w_QUEUED w_FAILED w_RUNNING w_CANCELLED w_SUCCEEDED h1 n0 O1 S) hZ1 (ww hw 33 rfl) (ww hw 32 rfl) (by decide) (by decide)) q3a q3c (g := (mkF m 8 #[va w_RUNNING, va w_RUNNING] [(.ref w_RUNNING)])) rfl (by rw [hml]; rfl) (Steps.refl _) (argsL := []) (rest := []) (lenOf pd_2 rfl) rfl (by show 2 * 0 + _ ≤ _; exact Nat.le_of_eq rfl) (hb hby d2_8) (fun _ _ => ⟨rfl, e2, (by decide : 2 + 0 ≤ _), (by decide : 20 + 0 ≤ _)⟩)
  dsimp only [Pt.U, Pt.locs, Pt.cells, Pt.slots] at X3 l3 y3 z3 st3 hQ3
  subst l3 y3 z3
  obtain ⟨rfl, Nq3, e3⟩ := hQ3
  have N3 := Fr.app N2 Nq3
  obtain ⟨T4, X4, e4, st4⟩ := getS2 X3 hx hZ1 hown1 (host := "") (Or.inl (ww hw 45 rfl)) Via.refl e3 (S_w_QUEUED.ext O1.2) (g := (mkF m 77 #[va w_RUNNING, va w_RUNNING] [(.ref w_RUNNING)])) rfl (hb hby d2_77)
  obtain ⟨cq5, kq5, q5a, q5b, q5c⟩ := isOf hZ1 e4 (E_w_RUNNING.ext O1.2)
  obtain ⟨_, _, ⟨T5, L5, k5, n5⟩, -, X5, ⟨Lc5, hQ5, l5, y5, z5⟩, st5⟩ := X4.virtualBack hx (y := My6) (z := My6) hown1 (mvT hZ1 (ww hw 46 rfl)) (mvT hZ1 (ww hw 47 rfl)) (notFace_of_selects (args := #[]) (mvT hZ1 (ww hw 49 rfl))) (mvT hZ1 (ww hw 49 rfl)) (mvT hZ1 (ww hw 48 rfl)) (by decide) (backOf (W := 0) (rm6_0 l Z a0 hw [] w_QUEUED w_FAILED w_RUNNING w_CANCELLED w_SUCCEEDED h1 n0 O1 S) hZ1 (ww hw 50 rfl) (ww hw 6 rfl) (by decide) (by decide)) q5a q5c (g := (mkF m 84 #[va w_RUNNING, va w_RUNNING] [(.ref w_RUNNING)])) rfl (by rw [hml]; rfl) (Steps.refl _) (argsL := []) (rest := []) (lenOf pd_5 rfl) rfl (by show 2 * 0 + _ ≤ _; exact Nat.le_of_eq rfl) (hb hby d2_84) (fun _ _ => ⟨rfl, e4, (by decide : 2 + 0 ≤ _), (by decide : 20 + 0 ≤ _)⟩)
  dsimp only [Pt.U, Pt.locs, Pt.cells, Pt.slots] at X5 l5 y5 z5 st5 hQ5
  subst l5 y5 z5
  obtain ⟨rfl, Nq5, e5⟩ := hQ5
  have N5 := Fr.app N3 Nq5
  obtain ⟨fs, hr, hrun, hended, hRE⟩ := X5.leaveW (s := s) hS1 (by rw [e5]; exact hk1) (v := (some (.int 0))) (fun h => by rw [hrt] at h; cases h)
  refine ⟨_, _, ?_, hrun, hended, _, _, rfl, ?_, hRE.1, hRE.2.1, hRE.2.2.1, hRE.2.2.2.mono (by decide) (by decide)⟩
  · show Steps p.tables e below (s₁.setTop (mkF m 0 #[va w_RUNNING, va w_RUNNING] [])) _
    refine XS.aloadN X0.here hx rfl (hb hby d2_0) rfl rfl ?_
    refine st1 _ ?_
    refine st2 _ ?_
    refine XS.pop X2.here hx rfl (hb hby d2_6) rfl rfl ?_
    refine XS.aloadN X2.here hx rfl (hb hby d2_7) rfl rfl ?_
    refine st3.trans ?_
    refine XS.tswIn X3.here hx rfl (pc0 := 11) (pc' := 76) rfl (hb hby d2_11) rfl (by decide) (o := 65) (by decide) (by decide) (by decide) ?_
    refine XS.aloadN X3.here hx rfl (hb hby d2_76) rfl rfl ?_
    show Steps p.tables e below (T3.setTop (mkF m 77 #[va w_RUNNING, va w_RUNNING] [(.ref w_RUNNING)])) _
    refine st4 _ ?_
    refine Jvm.RoadKit.acmp (g := (mkF m 80 #[va w_RUNNING, va w_RUNNING] [(.ref w_QUEUED), (.ref w_RUNNING)])) X4 hx rfl rfl rfl (pc0 := 80) (pc' := 83) (same := false) rfl (hb hby d2_80) rfl (decide_eq_false fun q => (Ne.symm hne_w_QUEUED_w_RUNNING) (Value.ref.inj q)) (by decide) (by decide) ?_
    refine XS.aloadN X4.here hx rfl (hb hby d2_83) rfl rfl ?_
    refine st5.trans ?_
    refine XS.ifYes X5.here hx rfl (pc0 := 87) (pc' := 94) rfl (hb hby d2_87) rfl ((if0 _ _).trans (teq (by decide : (0 : Int32) = (0 : Int32))).1) (by decide) (by decide) ?_
    refine XS.iconst X5.here hx rfl (hb hby d2_94) ?_
    refine XS.goto X5.here hx rfl (pc0 := 95) (pc' := 114) rfl (hb hby d2_95) (by decide) (by decide) ?_
    exact retN X5 hx (t := .boolean) hrt (by simp) (hb hby d2_114) hr
  · show Q2_6 Z w_QUEUED w_FAILED w_RUNNING w_CANCELLED w_SUCCEEDED  h0 n0 (some (.int 0)) T5.heap _
    rw [e5]; exact ⟨rfl, N5, K1⟩
theorem d5_29 : decode method_3_code 29 = .ok (.iload_n 1, 1) := by decide +kernel
theorem d5_30 : decode method_3_code 30 = .ok (.iconst 2, 1) := by decide +kernel
theorem d5_31 : decode method_3_code 31 = .ok (.if_icmp .eq 13, 3) := by decide +kernel
theorem d5_34 : decode method_3_code 34 = .ok (.iload_n 1, 1) := by decide +kernel
theorem d5_35 : decode method_3_code 35 = .ok (.iconst 3, 1) := by decide +kernel
theorem d5_36 : decode method_3_code 36 = .ok (.if_icmp .eq 8, 3) := by decide +kernel
theorem d5_39 : decode method_3_code 39 = .ok (.iload_n 1, 1) := by decide +kernel
theorem d5_40 : decode method_3_code 40 = .ok (.iconst 4, 1) := by decide +kernel
theorem d5_41 : decode method_3_code 41 = .ok (.if_icmp .ne 7, 3) := by decide +kernel
theorem d5_48 : decode method_3_code 48 = .ok (.iconst 0, 1) := by decide +kernel
def Q5_4 (Z : State) (w_QUEUED w_FAILED w_RUNNING w_CANCELLED w_SUCCEEDED : Addr) (p0 : Int32) (p1 : Int32) (h0 : Heap) (n0 : Nat) (v : Option Value) (h : Heap) (L : List Loc) : Prop := v = (some (.int 0)) ∧ Fr n0 L ∧ h = h0
theorem rm5_4 (l : Launch) (Z : State) (a0 : Array Value) (hw : HW Z a0) (ws : List Jvm.Cond) (w_QUEUED w_FAILED w_RUNNING w_CANCELLED w_SUCCEEDED : Addr) (p0 : Int32) (p1 : Int32) (h0 : Heap) (n0 : Nat) (O0 : Old Z n0 h0) (S : SF Z w_QUEUED w_FAILED w_RUNNING w_CANCELLED w_SUCCEEDED) (hc0 : ¬ (p0 = (0 : Int32))) (hc1 : p0 = (1 : Int32)) (hc2 : ¬ (p1 = (0 : Int32))) (hc3 : ¬ (p1 = (2 : Int32))) (hc4 : ¬ (p1 = (3 : Int32))) (hc5 : ¬ (p1 = (4 : Int32))) :
    Pay l Z My5 ws method_3_code 2 (some .boolean) #[(.int p0), (.int p1)] h0 ({ frames := 0, cells := 0, slots := 0, locals := 0 } : Room) (Q5_4 Z w_QUEUED w_FAILED w_RUNNING w_CANCELLED w_SUCCEEDED p0 p1 h0 n0) := by
  refine own_body (plainFor_of_name pn_0) (L0 := #[vi p0, vi p1]) (fun _ => by first | rfl | (simp [entryFrame, mkF, argsToLocals, Value.category]; done)) ?_
  intro p e s m below meth c s₁ hrt hlk hx hby hml hZ hown0 hnm X0 e0
  have hown : s.vm.findClass sC1 = some m.cls := hown0
  have N0 := Fr.nil n0
  have K0 : Keep h0 h0 [] := Keep.refl _ _
  obtain ⟨fs, hr, hrun, hended, hW, hsame⟩ := X0.leave (v := (some (.int 0))) (fun h => by rw [hrt] at h; cases h)
  refine ⟨_, _, ?_, hrun, hended, _, _, rfl, ?_, ⟨_, rfl⟩, hW, hsame.mono (by decide) (by decide)⟩
  · show Steps p.tables e below (s₁.setTop (mkF m 0 #[vi p0, vi p1] [])) _
    refine XS.iloadN X0.here hx rfl (hb hby d5_0) rfl ?_
    refine XS.ifYes X0.here hx rfl (pc0 := 1) (pc' := 20) rfl (hb hby d5_1) rfl ((if0 _ _).trans (feq hc0).2) (by decide) (by decide) ?_
    refine XS.iloadN X0.here hx rfl (hb hby d5_20) rfl ?_
    refine XS.iconst X0.here hx rfl (hb hby d5_21) ?_
    refine XS.icmpNo X0.here hx rfl (hb hby d5_22) rfl (teq hc1).2 ?_
    refine XS.iloadN X0.here hx rfl (hb hby d5_25) rfl ?_
    refine XS.ifNo X0.here hx rfl (hb hby d5_26) rfl ((if0 _ _).trans (feq hc2).1) ?_
    refine XS.iloadN X0.here hx rfl (hb hby d5_29) rfl ?_
    show Steps p.tables e below (s₁.setTop (mkF m 30 #[vi p0, vi p1] [(.int p1)])) _
    refine XS.iconst X0.here hx rfl (hb hby d5_30) ?_
    refine XS.icmpNo X0.here hx rfl (hb hby d5_31) rfl (feq hc3).1 ?_
    refine XS.iloadN X0.here hx rfl (hb hby d5_34) rfl ?_
    refine XS.iconst X0.here hx rfl (hb hby d5_35) ?_
    refine XS.icmpNo X0.here hx rfl (hb hby d5_36) rfl (feq hc4).1 ?_
    refine XS.iloadN X0.here hx rfl (hb hby d5_39) rfl ?_
    refine XS.iconst X0.here hx rfl (hb hby d5_40) ?_
    refine XS.icmpYes X0.here hx rfl (pc0 := 41) (pc' := 48) rfl (hb hby d5_41) rfl (feq hc5).2 (by decide) (by decide) ?_
    show Steps p.tables e below (s₁.setTop (mkF m 48 #[vi p0, vi p1] [])) _
    refine XS.iconst X0.here hx rfl (hb hby d5_48) ?_
    exact retN X0 hx (t := .boolean) hrt (by simp) (hb hby d5_49) hr
  · show Q5_4 Z w_QUEUED w_FAILED w_RUNNING w_CANCELLED w_SUCCEEDED p0 p1 h0 n0 (some (.int 0)) s₁.heap _
    exact (⟨rfl, N0, e0⟩)
theorem d6_21 : decode prog_15_method_6_code 21 = .ok (.iconst 1, 1) := by decide +kernel
theorem d6_22 : decode prog_15_method_6_code 22 = .ok (.goto 4, 3) := by decide +kernel
def Q6_1 (Z : State) (w_QUEUED w_FAILED w_RUNNING w_CANCELLED w_SUCCEEDED : Addr) (h0 : Heap) (n0 : Nat) (v : Option Value) (h : Heap) (L : List Loc) : Prop := v = (some (.int 1)) ∧ Fr n0 L ∧ h = h0
theorem rm6_1 (l : Launch) (Z : State) (a0 : Array Value) (hw : HW Z a0) (ws : List Jvm.Cond) (w_QUEUED w_FAILED w_RUNNING w_CANCELLED w_SUCCEEDED : Addr) (h0 : Heap) (n0 : Nat) (O0 : Old Z n0 h0) (S : SF Z w_QUEUED w_FAILED w_RUNNING w_CANCELLED w_SUCCEEDED) :
    Pay l Z My6 ws prog_15_method_6_code 1 (some .boolean) #[(.ref w_SUCCEEDED)] h0 ({ frames := 0, cells := 0, slots := 0, locals := 0 } : Room) (Q6_1 Z w_QUEUED w_FAILED w_RUNNING w_CANCELLED w_SUCCEEDED  h0 n0) := by
  obtain ⟨-, -, -, -, -, -, -, -, S_w_SUCCEEDED, -⟩ := id S
  refine own_body (plainFor_of_name pn_1) (L0 := #[va w_SUCCEEDED]) (fun _ => by first | rfl | (simp [entryFrame, mkF, argsToLocals, Value.category]; done)) ?_
  intro p e s m below meth c s₁ hrt hlk hx hby hml hZ hown0 hnm X0 e0
  have hown : s.vm.findClass sC0 = some m.cls := hown0
  have N0 := Fr.nil n0
  have K0 : Keep h0 h0 [] := Keep.refl _ _
  obtain ⟨T1, X1, e1, st1⟩ := getS2 X0 hx hZ hown (host := "") (Or.inl (ww hw 51 rfl)) Via.refl e0 (S_w_SUCCEEDED.ext O0.2) (g := (mkF m 1 #[va w_SUCCEEDED] [(.ref w_SUCCEEDED)])) rfl (hb hby d6_1)
  obtain ⟨fs, hr, hrun, hended, hW, hsame⟩ := X1.leave (v := (some (.int 1))) (fun h => by rw [hrt] at h; cases h)
  refine ⟨_, _, ?_, hrun, hended, _, _, rfl, ?_, ⟨_, rfl⟩, hW, hsame.mono (by decide) (by decide)⟩
  · show Steps p.tables e below (s₁.setTop (mkF m 0 #[va w_SUCCEEDED] [])) _
    refine XS.aloadN X0.here hx rfl (hb hby d6_0) rfl rfl ?_
    refine st1 _ ?_
    refine Jvm.RoadKit.acmp (g := (mkF m 4 #[va w_SUCCEEDED] [(.ref w_SUCCEEDED), (.ref w_SUCCEEDED)])) X1 hx rfl rfl rfl (pc0 := 4) (pc' := 21) (same := true) rfl (hb hby d6_4) rfl (decide_eq_true rfl) (by decide) (by decide) ?_
    refine XS.iconst X1.here hx rfl (hb hby d6_21) ?_
    refine XS.goto X1.here hx rfl (pc0 := 22) (pc' := 26) rfl (hb hby d6_22) (by decide) (by decide) ?_
    exact retN X1 hx (t := .boolean) hrt (by simp) (hb hby d6_26) hr
  · show Q6_1 Z w_QUEUED w_FAILED w_RUNNING w_CANCELLED w_SUCCEEDED  h0 n0 (some (.int 1)) T1.heap _
    exact (⟨rfl, N0, e1⟩)
def Q2_7 (Z : State) (w_QUEUED w_FAILED w_RUNNING w_CANCELLED w_SUCCEEDED : Addr) (h0 : Heap) (n0 : Nat) (v : Option Value) (h : Heap) (L : List Loc) : Prop := v = (some (.int 1)) ∧ Fr n0 L ∧ Keep h0 h []
theorem rm2_7 (l : Launch) (Z : State) (a0 : Array Value) (hw : HW Z a0) (ws : List Jvm.Cond) (w_QUEUED w_FAILED w_RUNNING w_CANCELLED w_SUCCEEDED : Addr) (h0 : Heap) (n0 : Nat) (O0 : Old Z n0 h0) (S : SF Z w_QUEUED w_FAILED w_RUNNING w_CANCELLED w_SUCCEEDED) :
    PayW l Z My2 ws prog_15_method_7_code 2 (some .boolean) #[(.ref w_RUNNING), (.ref w_SUCCEEDED)] h0 ({ frames := 1, cells := 2, slots := 20, locals := 13 } : Room) (Q2_7 Z w_QUEUED w_FAILED w_RUNNING w_CANCELLED w_SUCCEEDED  h0 n0) := by
  obtain ⟨S_w_QUEUED, -, -, -, -, E_w_RUNNING, -, -, -, E_w_SUCCEEDED, -, -, -, -, -, -, -, -, hne_w_QUEUED_w_SUCCEEDED, -⟩ := id S
  refine own_body (plainFor_of_name pn_1) (L0 := #[va w_RUNNING, va w_SUCCEEDED]) (fun _ => by first | rfl | (simp [entryFrame, mkF, argsToLocals, Value.category]; done)) ?_
  intro p e s m below meth c s₁ hrt hlk hx hby hml hZ hown0 hnm X0 e0
  have hown : s.vm.findClass sC0 = some m.cls := hown0
  have N0 := Fr.nil n0
  have K0 : Keep h0 h0 [] := Keep.refl _ _
  obtain ⟨a1, T1, h1, kk1, X1, e1, E1, hS1, hk1, hZ1, hown1, st1⟩ := ldcS (s := s) (vm0 := s.vm) X0 hx hZ hown (ww hw 15 rfl) (own_wS hw) e0 (k0 := 0) ((State.WarmedH.refl s).since 0) (Nat.zero_le _) (g := (mkF m 1 #[va w_RUNNING, va w_SUCCEEDED] [(.ref w_SUCCEEDED)])) rfl (hb hby d2_1) (n := 16) (by decide +kernel) (by decide) (by decide) (by decide)
  have O1 := O0.ext E1
  have K1 : Keep h0 h1 [] := K0.ext E1
  obtain ⟨_, _, ⟨T2, L2, k2, n2⟩, -, X2, ⟨Lc2, hQ2, l2, y2, z2⟩, st2⟩ := Jvm.LawKit.callS X1 hx (y := My3) hown1 (mvT hZ1 (ww hw 23 rfl)) (mvT hZ1 (ww hw 24 rfl)) (mvT hZ1 (ww hw 25 rfl)) (mvT hZ1 (ww hw 26 rfl)) (by decide) (backOf (W := 0) (rm3_2 l Z a0 hw [] w_QUEUED w_FAILED w_RUNNING w_CANCELLED w_SUCCEEDED a1 h1 n0 O1 S) hZ1 (ww hw 26 rfl) (ww hw 25 rfl) (by decide) (by decide)) (g := (mkF m 3 #[va w_RUNNING, va w_SUCCEEDED] [(.ref a1), (.ref w_SUCCEEDED)])) rfl (by rw [hml]; rfl) (argsL := [(.ref w_SUCCEEDED), (.ref a1)]) (rest := []) (lenOf pd_1 rfl) rfl (by show 2 * 0 + _ ≤ _; exact Nat.le_of_eq rfl) (hb hby d2_3) (fun _ _ => ⟨rfl, e1, (by decide : 2 + 0 ≤ _), (by decide : 20 + 0 ≤ _)⟩)
  dsimp only [Pt.U, Pt.locs, Pt.cells, Pt.slots] at X2 l2 y2 z2 st2 hQ2
  subst l2 y2 z2
  obtain ⟨rfl, Nq2, e2⟩ := hQ2
  have N2 := Fr.app N0 Nq2
  obtain ⟨cq3, kq3, q3a, q3b, q3c⟩ := isOf hZ1 e2 (E_w_RUNNING.ext O1.2)
  obtain ⟨_, _, ⟨T3, L3, k3, n3⟩, -, X3, ⟨Lc3, hQ3, l3, y3, z3⟩, st3⟩ := X2.virtualBackUp hx (x := (⟨sC0, "ordinal", "()I"⟩ : MethodName)) (y := My4) (owner := sC2) hown1 (mvT hZ1 (ww hw 27 rfl)) (mvT hZ1 (ww hw 28 rfl)) (mvT hZ1 (ww hw 29 rfl)) (by decide) (mvT hZ1 (ww hw 31 rfl)) (mvT hZ1 (ww hw 30 rfl)) (backOf (W := 0) (rm4_1 l Z a0 hw [] w_QUEUED w_FAILED w_RUNNING w_CANCELLED w_SUCCEEDED h1 n0 O1 S) hZ1 (ww hw 33 rfl) (ww hw 32 rfl) (by decide) (by decide)) q3a q3c (g := (mkF m 8 #[va w_RUNNING, va w_SUCCEEDED] [(.ref w_RUNNING)])) rfl (by rw [hml]; rfl) (Steps.refl _) (argsL := []) (rest := []) (lenOf pd_2 rfl) rfl (by show 2 * 0 + _ ≤ _; exact Nat.le_of_eq rfl) (hb hby d2_8) (fun _ _ => ⟨rfl, e2, (by decide : 2 + 0 ≤ _), (by decide : 20 + 0 ≤ _)⟩)
  dsimp only [Pt.U, Pt.locs, Pt.cells, Pt.slots] at X3 l3 y3 z3 st3 hQ3
  subst l3 y3 z3
  obtain ⟨rfl, Nq3, e3⟩ := hQ3
  have N3 := Fr.app N2 Nq3
  obtain ⟨T4, X4, e4, st4⟩ := getS2 X3 hx hZ1 hown1 (host := "") (Or.inl (ww hw 45 rfl)) Via.refl e3 (S_w_QUEUED.ext O1.2) (g := (mkF m 77 #[va w_RUNNING, va w_SUCCEEDED] [(.ref w_SUCCEEDED)])) rfl (hb hby d2_77)
  obtain ⟨cq5, kq5, q5a, q5b, q5c⟩ := isOf hZ1 e4 (E_w_SUCCEEDED.ext O1.2)
  obtain ⟨_, _, ⟨T5, L5, k5, n5⟩, -, X5, ⟨Lc5, hQ5, l5, y5, z5⟩, st5⟩ := X4.virtualBack hx (y := My6) (z := My6) hown1 (mvT hZ1 (ww hw 46 rfl)) (mvT hZ1 (ww hw 47 rfl)) (notFace_of_selects (args := #[]) (mvT hZ1 (ww hw 49 rfl))) (mvT hZ1 (ww hw 49 rfl)) (mvT hZ1 (ww hw 48 rfl)) (by decide) (backOf (W := 0) (rm6_1 l Z a0 hw [] w_QUEUED w_FAILED w_RUNNING w_CANCELLED w_SUCCEEDED h1 n0 O1 S) hZ1 (ww hw 50 rfl) (ww hw 6 rfl) (by decide) (by decide)) q5a q5c (g := (mkF m 84 #[va w_RUNNING, va w_SUCCEEDED] [(.ref w_SUCCEEDED)])) rfl (by rw [hml]; rfl) (Steps.refl _) (argsL := []) (rest := []) (lenOf pd_5 rfl) rfl (by show 2 * 0 + _ ≤ _; exact Nat.le_of_eq rfl) (hb hby d2_84) (fun _ _ => ⟨rfl, e4, (by decide : 2 + 0 ≤ _), (by decide : 20 + 0 ≤ _)⟩)
  dsimp only [Pt.U, Pt.locs, Pt.cells, Pt.slots] at X5 l5 y5 z5 st5 hQ5
  subst l5 y5 z5
  obtain ⟨rfl, Nq5, e5⟩ := hQ5
  have N5 := Fr.app N3 Nq5
  obtain ⟨fs, hr, hrun, hended, hRE⟩ := X5.leaveW (s := s) hS1 (by rw [e5]; exact hk1) (v := (some (.int 1))) (fun h => by rw [hrt] at h; cases h)
  refine ⟨_, _, ?_, hrun, hended, _, _, rfl, ?_, hRE.1, hRE.2.1, hRE.2.2.1, hRE.2.2.2.mono (by decide) (by decide)⟩
  · show Steps p.tables e below (s₁.setTop (mkF m 0 #[va w_RUNNING, va w_SUCCEEDED] [])) _
    refine XS.aloadN X0.here hx rfl (hb hby d2_0) rfl rfl ?_
    refine st1 _ ?_
    refine st2 _ ?_
    refine XS.pop X2.here hx rfl (hb hby d2_6) rfl rfl ?_
    refine XS.aloadN X2.here hx rfl (hb hby d2_7) rfl rfl ?_
    refine st3.trans ?_
    refine XS.tswIn X3.here hx rfl (pc0 := 11) (pc' := 76) rfl (hb hby d2_11) rfl (by decide) (o := 65) (by decide) (by decide) (by decide) ?_
    refine XS.aloadN X3.here hx rfl (hb hby d2_76) rfl rfl ?_
    show Steps p.tables e below (T3.setTop (mkF m 77 #[va w_RUNNING, va w_SUCCEEDED] [(.ref w_SUCCEEDED)])) _
    refine st4 _ ?_
    refine Jvm.RoadKit.acmp (g := (mkF m 80 #[va w_RUNNING, va w_SUCCEEDED] [(.ref w_QUEUED), (.ref w_SUCCEEDED)])) X4 hx rfl rfl rfl (pc0 := 80) (pc' := 83) (same := false) rfl (hb hby d2_80) rfl (decide_eq_false fun q => (Ne.symm hne_w_QUEUED_w_SUCCEEDED) (Value.ref.inj q)) (by decide) (by decide) ?_
    refine XS.aloadN X4.here hx rfl (hb hby d2_83) rfl rfl ?_
    refine st5.trans ?_
    refine XS.ifNo X5.here hx rfl (hb hby d2_87) rfl ((if0 _ _).trans (feq (by decide : ¬ ((1 : Int32) = (0 : Int32)))).1) ?_
    refine XS.iconst X5.here hx rfl (hb hby d2_90) ?_
    refine XS.goto X5.here hx rfl (pc0 := 91) (pc' := 114) rfl (hb hby d2_91) (by decide) (by decide) ?_
    exact retN X5 hx (t := .boolean) hrt (by simp) (hb hby d2_114) hr
  · show Q2_7 Z w_QUEUED w_FAILED w_RUNNING w_CANCELLED w_SUCCEEDED  h0 n0 (some (.int 1)) T5.heap _
    rw [e5]; exact ⟨rfl, N5, K1⟩
def Q5_5 (Z : State) (w_QUEUED w_FAILED w_RUNNING w_CANCELLED w_SUCCEEDED : Addr) (p0 : Int32) (p1 : Int32) (h0 : Heap) (n0 : Nat) (v : Option Value) (h : Heap) (L : List Loc) : Prop := v = (some (.int 1)) ∧ Fr n0 L ∧ h = h0
theorem rm5_5 (l : Launch) (Z : State) (a0 : Array Value) (hw : HW Z a0) (ws : List Jvm.Cond) (w_QUEUED w_FAILED w_RUNNING w_CANCELLED w_SUCCEEDED : Addr) (p0 : Int32) (p1 : Int32) (h0 : Heap) (n0 : Nat) (O0 : Old Z n0 h0) (S : SF Z w_QUEUED w_FAILED w_RUNNING w_CANCELLED w_SUCCEEDED) (hc0 : ¬ (p0 = (0 : Int32))) (hc1 : p0 = (1 : Int32)) (hc2 : ¬ (p1 = (0 : Int32))) (hc3 : p1 = (2 : Int32)) :
    Pay l Z My5 ws method_3_code 2 (some .boolean) #[(.int p0), (.int p1)] h0 ({ frames := 0, cells := 0, slots := 0, locals := 0 } : Room) (Q5_5 Z w_QUEUED w_FAILED w_RUNNING w_CANCELLED w_SUCCEEDED p0 p1 h0 n0) := by
  refine own_body (plainFor_of_name pn_0) (L0 := #[vi p0, vi p1]) (fun _ => by first | rfl | (simp [entryFrame, mkF, argsToLocals, Value.category]; done)) ?_
  intro p e s m below meth c s₁ hrt hlk hx hby hml hZ hown0 hnm X0 e0
  have hown : s.vm.findClass sC1 = some m.cls := hown0
  have N0 := Fr.nil n0
  have K0 : Keep h0 h0 [] := Keep.refl _ _
  obtain ⟨fs, hr, hrun, hended, hW, hsame⟩ := X0.leave (v := (some (.int 1))) (fun h => by rw [hrt] at h; cases h)
  refine ⟨_, _, ?_, hrun, hended, _, _, rfl, ?_, ⟨_, rfl⟩, hW, hsame.mono (by decide) (by decide)⟩
  · show Steps p.tables e below (s₁.setTop (mkF m 0 #[vi p0, vi p1] [])) _
    refine XS.iloadN X0.here hx rfl (hb hby d5_0) rfl ?_
    refine XS.ifYes X0.here hx rfl (pc0 := 1) (pc' := 20) rfl (hb hby d5_1) rfl ((if0 _ _).trans (feq hc0).2) (by decide) (by decide) ?_
    refine XS.iloadN X0.here hx rfl (hb hby d5_20) rfl ?_
    refine XS.iconst X0.here hx rfl (hb hby d5_21) ?_
    refine XS.icmpNo X0.here hx rfl (hb hby d5_22) rfl (teq hc1).2 ?_
    refine XS.iloadN X0.here hx rfl (hb hby d5_25) rfl ?_
    refine XS.ifNo X0.here hx rfl (hb hby d5_26) rfl ((if0 _ _).trans (feq hc2).1) ?_
    refine XS.iloadN X0.here hx rfl (hb hby d5_29) rfl ?_
    show Steps p.tables e below (s₁.setTop (mkF m 30 #[vi p0, vi p1] [(.int p1)])) _
    refine XS.iconst X0.here hx rfl (hb hby d5_30) ?_
    refine XS.icmpYes X0.here hx rfl (pc0 := 31) (pc' := 44) rfl (hb hby d5_31) rfl (teq hc3).1 (by decide) (by decide) ?_
    refine XS.iconst X0.here hx rfl (hb hby d5_44) ?_
    refine XS.goto X0.here hx rfl (pc0 := 45) (pc' := 49) rfl (hb hby d5_45) (by decide) (by decide) ?_
    exact retN X0 hx (t := .boolean) hrt (by simp) (hb hby d5_49) hr
  · show Q5_5 Z w_QUEUED w_FAILED w_RUNNING w_CANCELLED w_SUCCEEDED p0 p1 h0 n0 (some (.int 1)) s₁.heap _
    exact (⟨rfl, N0, e0⟩)
def Q6_2 (Z : State) (w_QUEUED w_FAILED w_RUNNING w_CANCELLED w_SUCCEEDED : Addr) (h0 : Heap) (n0 : Nat) (v : Option Value) (h : Heap) (L : List Loc) : Prop := v = (some (.int 1)) ∧ Fr n0 L ∧ h = h0
theorem rm6_2 (l : Launch) (Z : State) (a0 : Array Value) (hw : HW Z a0) (ws : List Jvm.Cond) (w_QUEUED w_FAILED w_RUNNING w_CANCELLED w_SUCCEEDED : Addr) (h0 : Heap) (n0 : Nat) (O0 : Old Z n0 h0) (S : SF Z w_QUEUED w_FAILED w_RUNNING w_CANCELLED w_SUCCEEDED) :
    Pay l Z My6 ws prog_15_method_6_code 1 (some .boolean) #[(.ref w_FAILED)] h0 ({ frames := 0, cells := 0, slots := 0, locals := 0 } : Room) (Q6_2 Z w_QUEUED w_FAILED w_RUNNING w_CANCELLED w_SUCCEEDED  h0 n0) := by
  obtain ⟨-, -, S_w_FAILED, -, -, -, -, -, S_w_SUCCEEDED, -, -, -, -, -, -, -, -, -, -, -, -, hne_w_FAILED_w_SUCCEEDED, -⟩ := id S
  refine own_body (plainFor_of_name pn_1) (L0 := #[va w_FAILED]) (fun _ => by first | rfl | (simp [entryFrame, mkF, argsToLocals, Value.category]; done)) ?_
  intro p e s m below meth c s₁ hrt hlk hx hby hml hZ hown0 hnm X0 e0
  have hown : s.vm.findClass sC0 = some m.cls := hown0
  have N0 := Fr.nil n0
  have K0 : Keep h0 h0 [] := Keep.refl _ _
  obtain ⟨T1, X1, e1, st1⟩ := getS2 X0 hx hZ hown (host := "") (Or.inl (ww hw 51 rfl)) Via.refl e0 (S_w_SUCCEEDED.ext O0.2) (g := (mkF m 1 #[va w_FAILED] [(.ref w_FAILED)])) rfl (hb hby d6_1)
  obtain ⟨T2, X2, e2, st2⟩ := getS2 X1 hx hZ hown (host := "") (Or.inl (ww hw 53 rfl)) Via.refl e1 (S_w_FAILED.ext O0.2) (g := (mkF m 8 #[va w_FAILED] [(.ref w_FAILED)])) rfl (hb hby d6_8)
  obtain ⟨fs, hr, hrun, hended, hW, hsame⟩ := X2.leave (v := (some (.int 1))) (fun h => by rw [hrt] at h; cases h)
  refine ⟨_, _, ?_, hrun, hended, _, _, rfl, ?_, ⟨_, rfl⟩, hW, hsame.mono (by decide) (by decide)⟩
  · show Steps p.tables e below (s₁.setTop (mkF m 0 #[va w_FAILED] [])) _
    refine XS.aloadN X0.here hx rfl (hb hby d6_0) rfl rfl ?_
    refine st1 _ ?_
    refine Jvm.RoadKit.acmp (g := (mkF m 4 #[va w_FAILED] [(.ref w_SUCCEEDED), (.ref w_FAILED)])) X1 hx rfl rfl rfl (pc0 := 4) (pc' := 7) (same := false) rfl (hb hby d6_4) rfl (decide_eq_false fun q => hne_w_FAILED_w_SUCCEEDED (Value.ref.inj q)) (by decide) (by decide) ?_
    refine XS.aloadN X1.here hx rfl (hb hby d6_7) rfl rfl ?_
    refine st2 _ ?_
    refine Jvm.RoadKit.acmp (g := (mkF m 11 #[va w_FAILED] [(.ref w_FAILED), (.ref w_FAILED)])) X2 hx rfl rfl rfl (pc0 := 11) (pc' := 21) (same := true) rfl (hb hby d6_11) rfl (decide_eq_true rfl) (by decide) (by decide) ?_
    refine XS.iconst X2.here hx rfl (hb hby d6_21) ?_
    refine XS.goto X2.here hx rfl (pc0 := 22) (pc' := 26) rfl (hb hby d6_22) (by decide) (by decide) ?_
    show Steps p.tables e below (T2.setTop (mkF m 26 #[va w_FAILED] [(.int 1)])) _
    exact retN X2 hx (t := .boolean) hrt (by simp) (hb hby d6_26) hr
  · show Q6_2 Z w_QUEUED w_FAILED w_RUNNING w_CANCELLED w_SUCCEEDED  h0 n0 (some (.int 1)) T2.heap _
    exact (⟨rfl, N0, e2⟩)
def Q2_8 (Z : State) (w_QUEUED w_FAILED w_RUNNING w_CANCELLED w_SUCCEEDED : Addr) (h0 : Heap) (n0 : Nat) (v : Option Value) (h : Heap) (L : List Loc) : Prop := v = (some (.int 1)) ∧ Fr n0 L ∧ Keep h0 h []
theorem rm2_8 (l : Launch) (Z : State) (a0 : Array Value) (hw : HW Z a0) (ws : List Jvm.Cond) (w_QUEUED w_FAILED w_RUNNING w_CANCELLED w_SUCCEEDED : Addr) (h0 : Heap) (n0 : Nat) (O0 : Old Z n0 h0) (S : SF Z w_QUEUED w_FAILED w_RUNNING w_CANCELLED w_SUCCEEDED) :
    PayW l Z My2 ws prog_15_method_7_code 2 (some .boolean) #[(.ref w_RUNNING), (.ref w_FAILED)] h0 ({ frames := 1, cells := 2, slots := 20, locals := 13 } : Room) (Q2_8 Z w_QUEUED w_FAILED w_RUNNING w_CANCELLED w_SUCCEEDED  h0 n0) := by
  obtain ⟨S_w_QUEUED, -, -, E_w_FAILED, -, E_w_RUNNING, -, -, -, -, -, -, -, -, -, hne_w_QUEUED_w_FAILED, -⟩ := id S
  refine own_body (plainFor_of_name pn_1) (L0 := #[va w_RUNNING, va w_FAILED]) (fun _ => by first | rfl | (simp [entryFrame, mkF, argsToLocals, Value.category]; done)) ?_
  intro p e s m below meth c s₁ hrt hlk hx hby hml hZ hown0 hnm X0 e0
  have hown : s.vm.findClass sC0 = some m.cls := hown0
  have N0 := Fr.nil n0
  have K0 : Keep h0 h0 [] := Keep.refl _ _
  obtain ⟨a1, T1, h1, kk1, X1, e1, E1, hS1, hk1, hZ1, hown1, st1⟩ := ldcS (s := s) (vm0 := s.vm) X0 hx hZ hown (ww hw 15 rfl) (own_wS hw) e0 (k0 := 0) ((State.WarmedH.refl s).since 0) (Nat.zero_le _) (g := (mkF m 1 #[va w_RUNNING, va w_FAILED] [(.ref w_FAILED)])) rfl (hb hby d2_1) (n := 16) (by decide +kernel) (by decide) (by decide) (by decide)
  have O1 := O0.ext E1
  have K1 : Keep h0 h1 [] := K0.ext E1
  obtain ⟨_, _, ⟨T2, L2, k2, n2⟩, -, X2, ⟨Lc2, hQ2, l2, y2, z2⟩, st2⟩ := Jvm.LawKit.callS X1 hx (y := My3) hown1 (mvT hZ1 (ww hw 23 rfl)) (mvT hZ1 (ww hw 24 rfl)) (mvT hZ1 (ww hw 25 rfl)) (mvT hZ1 (ww hw 26 rfl)) (by decide) (backOf (W := 0) (rm3_3 l Z a0 hw [] w_QUEUED w_FAILED w_RUNNING w_CANCELLED w_SUCCEEDED a1 h1 n0 O1 S) hZ1 (ww hw 26 rfl) (ww hw 25 rfl) (by decide) (by decide)) (g := (mkF m 3 #[va w_RUNNING, va w_FAILED] [(.ref a1), (.ref w_FAILED)])) rfl (by rw [hml]; rfl) (argsL := [(.ref w_FAILED), (.ref a1)]) (rest := []) (lenOf pd_1 rfl) rfl (by show 2 * 0 + _ ≤ _; exact Nat.le_of_eq rfl) (hb hby d2_3) (fun _ _ => ⟨rfl, e1, (by decide : 2 + 0 ≤ _), (by decide : 20 + 0 ≤ _)⟩)
  dsimp only [Pt.U, Pt.locs, Pt.cells, Pt.slots] at X2 l2 y2 z2 st2 hQ2
  subst l2 y2 z2
  obtain ⟨rfl, Nq2, e2⟩ := hQ2
  have N2 := Fr.app N0 Nq2
  obtain ⟨cq3, kq3, q3a, q3b, q3c⟩ := isOf hZ1 e2 (E_w_RUNNING.ext O1.2)
  obtain ⟨_, _, ⟨T3, L3, k3, n3⟩, -, X3, ⟨Lc3, hQ3, l3, y3, z3⟩, st3⟩ := X2.virtualBackUp hx (x := (⟨sC0, "ordinal", "()I"⟩ : MethodName)) (y := My4) (owner := sC2) hown1 (mvT hZ1 (ww hw 27 rfl)) (mvT hZ1 (ww hw 28 rfl)) (mvT hZ1 (ww hw 29 rfl)) (by decide) (mvT hZ1 (ww hw 31 rfl)) (mvT hZ1 (ww hw 30 rfl)) (backOf (W := 0) (rm4_1 l Z a0 hw [] w_QUEUED w_FAILED w_RUNNING w_CANCELLED w_SUCCEEDED h1 n0 O1 S) hZ1 (ww hw 33 rfl) (ww hw 32 rfl) (by decide) (by decide)) q3a q3c (g := (mkF m 8 #[va w_RUNNING, va w_FAILED] [(.ref w_RUNNING)])) rfl (by rw [hml]; rfl) (Steps.refl _) (argsL := []) (rest := []) (lenOf pd_2 rfl) rfl (by show 2 * 0 + _ ≤ _; exact Nat.le_of_eq rfl) (hb hby d2_8) (fun _ _ => ⟨rfl, e2, (by decide : 2 + 0 ≤ _), (by decide : 20 + 0 ≤ _)⟩)
  dsimp only [Pt.U, Pt.locs, Pt.cells, Pt.slots] at X3 l3 y3 z3 st3 hQ3
  subst l3 y3 z3
  obtain ⟨rfl, Nq3, e3⟩ := hQ3
  have N3 := Fr.app N2 Nq3
  obtain ⟨T4, X4, e4, st4⟩ := getS2 X3 hx hZ1 hown1 (host := "") (Or.inl (ww hw 45 rfl)) Via.refl e3 (S_w_QUEUED.ext O1.2) (g := (mkF m 77 #[va w_RUNNING, va w_FAILED] [(.ref w_FAILED)])) rfl (hb hby d2_77)
  obtain ⟨cq5, kq5, q5a, q5b, q5c⟩ := isOf hZ1 e4 (E_w_FAILED.ext O1.2)
  obtain ⟨_, _, ⟨T5, L5, k5, n5⟩, -, X5, ⟨Lc5, hQ5, l5, y5, z5⟩, st5⟩ := X4.virtualBack hx (y := My6) (z := My6) hown1 (mvT hZ1 (ww hw 46 rfl)) (mvT hZ1 (ww hw 47 rfl)) (notFace_of_selects (args := #[]) (mvT hZ1 (ww hw 49 rfl))) (mvT hZ1 (ww hw 49 rfl)) (mvT hZ1 (ww hw 48 rfl)) (by decide) (backOf (W := 0) (rm6_2 l Z a0 hw [] w_QUEUED w_FAILED w_RUNNING w_CANCELLED w_SUCCEEDED h1 n0 O1 S) hZ1 (ww hw 50 rfl) (ww hw 6 rfl) (by decide) (by decide)) q5a q5c (g := (mkF m 84 #[va w_RUNNING, va w_FAILED] [(.ref w_FAILED)])) rfl (by rw [hml]; rfl) (Steps.refl _) (argsL := []) (rest := []) (lenOf pd_5 rfl) rfl (by show 2 * 0 + _ ≤ _; exact Nat.le_of_eq rfl) (hb hby d2_84) (fun _ _ => ⟨rfl, e4, (by decide : 2 + 0 ≤ _), (by decide : 20 + 0 ≤ _)⟩)
  dsimp only [Pt.U, Pt.locs, Pt.cells, Pt.slots] at X5 l5 y5 z5 st5 hQ5
  subst l5 y5 z5
  obtain ⟨rfl, Nq5, e5⟩ := hQ5
  have N5 := Fr.app N3 Nq5
  obtain ⟨fs, hr, hrun, hended, hRE⟩ := X5.leaveW (s := s) hS1 (by rw [e5]; exact hk1) (v := (some (.int 1))) (fun h => by rw [hrt] at h; cases h)
  refine ⟨_, _, ?_, hrun, hended, _, _, rfl, ?_, hRE.1, hRE.2.1, hRE.2.2.1, hRE.2.2.2.mono (by decide) (by decide)⟩
  · show Steps p.tables e below (s₁.setTop (mkF m 0 #[va w_RUNNING, va w_FAILED] [])) _
    refine XS.aloadN X0.here hx rfl (hb hby d2_0) rfl rfl ?_
    refine st1 _ ?_
    refine st2 _ ?_
    refine XS.pop X2.here hx rfl (hb hby d2_6) rfl rfl ?_
    refine XS.aloadN X2.here hx rfl (hb hby d2_7) rfl rfl ?_
    refine st3.trans ?_
    refine XS.tswIn X3.here hx rfl (pc0 := 11) (pc' := 76) rfl (hb hby d2_11) rfl (by decide) (o := 65) (by decide) (by decide) (by decide) ?_
    refine XS.aloadN X3.here hx rfl (hb hby d2_76) rfl rfl ?_
    show Steps p.tables e below (T3.setTop (mkF m 77 #[va w_RUNNING, va w_FAILED] [(.ref w_FAILED)])) _
    refine st4 _ ?_
    refine Jvm.RoadKit.acmp (g := (mkF m 80 #[va w_RUNNING, va w_FAILED] [(.ref w_QUEUED), (.ref w_FAILED)])) X4 hx rfl rfl rfl (pc0 := 80) (pc' := 83) (same := false) rfl (hb hby d2_80) rfl (decide_eq_false fun q => (Ne.symm hne_w_QUEUED_w_FAILED) (Value.ref.inj q)) (by decide) (by decide) ?_
    refine XS.aloadN X4.here hx rfl (hb hby d2_83) rfl rfl ?_
    refine st5.trans ?_
    refine XS.ifNo X5.here hx rfl (hb hby d2_87) rfl ((if0 _ _).trans (feq (by decide : ¬ ((1 : Int32) = (0 : Int32)))).1) ?_
    refine XS.iconst X5.here hx rfl (hb hby d2_90) ?_
    refine XS.goto X5.here hx rfl (pc0 := 91) (pc' := 114) rfl (hb hby d2_91) (by decide) (by decide) ?_
    exact retN X5 hx (t := .boolean) hrt (by simp) (hb hby d2_114) hr
  · show Q2_8 Z w_QUEUED w_FAILED w_RUNNING w_CANCELLED w_SUCCEEDED  h0 n0 (some (.int 1)) T5.heap _
    rw [e5]; exact ⟨rfl, N5, K1⟩
def Q5_6 (Z : State) (w_QUEUED w_FAILED w_RUNNING w_CANCELLED w_SUCCEEDED : Addr) (p0 : Int32) (p1 : Int32) (h0 : Heap) (n0 : Nat) (v : Option Value) (h : Heap) (L : List Loc) : Prop := v = (some (.int 1)) ∧ Fr n0 L ∧ h = h0
theorem rm5_6 (l : Launch) (Z : State) (a0 : Array Value) (hw : HW Z a0) (ws : List Jvm.Cond) (w_QUEUED w_FAILED w_RUNNING w_CANCELLED w_SUCCEEDED : Addr) (p0 : Int32) (p1 : Int32) (h0 : Heap) (n0 : Nat) (O0 : Old Z n0 h0) (S : SF Z w_QUEUED w_FAILED w_RUNNING w_CANCELLED w_SUCCEEDED) (hc0 : ¬ (p0 = (0 : Int32))) (hc1 : p0 = (1 : Int32)) (hc2 : ¬ (p1 = (0 : Int32))) (hc3 : ¬ (p1 = (2 : Int32))) (hc4 : p1 = (3 : Int32)) :
    Pay l Z My5 ws method_3_code 2 (some .boolean) #[(.int p0), (.int p1)] h0 ({ frames := 0, cells := 0, slots := 0, locals := 0 } : Room) (Q5_6 Z w_QUEUED w_FAILED w_RUNNING w_CANCELLED w_SUCCEEDED p0 p1 h0 n0) := by
  refine own_body (plainFor_of_name pn_0) (L0 := #[vi p0, vi p1]) (fun _ => by first | rfl | (simp [entryFrame, mkF, argsToLocals, Value.category]; done)) ?_
  intro p e s m below meth c s₁ hrt hlk hx hby hml hZ hown0 hnm X0 e0
  have hown : s.vm.findClass sC1 = some m.cls := hown0
  have N0 := Fr.nil n0
  have K0 : Keep h0 h0 [] := Keep.refl _ _
  obtain ⟨fs, hr, hrun, hended, hW, hsame⟩ := X0.leave (v := (some (.int 1))) (fun h => by rw [hrt] at h; cases h)
  refine ⟨_, _, ?_, hrun, hended, _, _, rfl, ?_, ⟨_, rfl⟩, hW, hsame.mono (by decide) (by decide)⟩
  · show Steps p.tables e below (s₁.setTop (mkF m 0 #[vi p0, vi p1] [])) _
    refine XS.iloadN X0.here hx rfl (hb hby d5_0) rfl ?_
    refine XS.ifYes X0.here hx rfl (pc0 := 1) (pc' := 20) rfl (hb hby d5_1) rfl ((if0 _ _).trans (feq hc0).2) (by decide) (by decide) ?_
    refine XS.iloadN X0.here hx rfl (hb hby d5_20) rfl ?_
    refine XS.iconst X0.here hx rfl (hb hby d5_21) ?_
    refine XS.icmpNo X0.here hx rfl (hb hby d5_22) rfl (teq hc1).2 ?_
    refine XS.iloadN X0.here hx rfl (hb hby d5_25) rfl ?_
    refine XS.ifNo X0.here hx rfl (hb hby d5_26) rfl ((if0 _ _).trans (feq hc2).1) ?_
    refine XS.iloadN X0.here hx rfl (hb hby d5_29) rfl ?_
    show Steps p.tables e below (s₁.setTop (mkF m 30 #[vi p0, vi p1] [(.int p1)])) _
    refine XS.iconst X0.here hx rfl (hb hby d5_30) ?_
    refine XS.icmpNo X0.here hx rfl (hb hby d5_31) rfl (feq hc3).1 ?_
    refine XS.iloadN X0.here hx rfl (hb hby d5_34) rfl ?_
    refine XS.iconst X0.here hx rfl (hb hby d5_35) ?_
    refine XS.icmpYes X0.here hx rfl (pc0 := 36) (pc' := 44) rfl (hb hby d5_36) rfl (teq hc4).1 (by decide) (by decide) ?_
    refine XS.iconst X0.here hx rfl (hb hby d5_44) ?_
    refine XS.goto X0.here hx rfl (pc0 := 45) (pc' := 49) rfl (hb hby d5_45) (by decide) (by decide) ?_
    exact retN X0 hx (t := .boolean) hrt (by simp) (hb hby d5_49) hr
  · show Q5_6 Z w_QUEUED w_FAILED w_RUNNING w_CANCELLED w_SUCCEEDED p0 p1 h0 n0 (some (.int 1)) s₁.heap _
    exact (⟨rfl, N0, e0⟩)
def Q6_3 (Z : State) (w_QUEUED w_FAILED w_RUNNING w_CANCELLED w_SUCCEEDED : Addr) (h0 : Heap) (n0 : Nat) (v : Option Value) (h : Heap) (L : List Loc) : Prop := v = (some (.int 1)) ∧ Fr n0 L ∧ h = h0
theorem rm6_3 (l : Launch) (Z : State) (a0 : Array Value) (hw : HW Z a0) (ws : List Jvm.Cond) (w_QUEUED w_FAILED w_RUNNING w_CANCELLED w_SUCCEEDED : Addr) (h0 : Heap) (n0 : Nat) (O0 : Old Z n0 h0) (S : SF Z w_QUEUED w_FAILED w_RUNNING w_CANCELLED w_SUCCEEDED) :
    Pay l Z My6 ws prog_15_method_6_code 1 (some .boolean) #[(.ref w_CANCELLED)] h0 ({ frames := 0, cells := 0, slots := 0, locals := 0 } : Room) (Q6_3 Z w_QUEUED w_FAILED w_RUNNING w_CANCELLED w_SUCCEEDED  h0 n0) := by
  obtain ⟨-, -, S_w_FAILED, -, -, -, S_w_CANCELLED, -, S_w_SUCCEEDED, -, -, -, -, -, -, -, -, -, -, -, hne_w_FAILED_w_CANCELLED, -, -, -, hne_w_CANCELLED_w_SUCCEEDED, -⟩ := id S
  refine own_body (plainFor_of_name pn_1) (L0 := #[va w_CANCELLED]) (fun _ => by first | rfl | (simp [entryFrame, mkF, argsToLocals, Value.category]; done)) ?_
  intro p e s m below meth c s₁ hrt hlk hx hby hml hZ hown0 hnm X0 e0
  have hown : s.vm.findClass sC0 = some m.cls := hown0
  have N0 := Fr.nil n0
  have K0 : Keep h0 h0 [] := Keep.refl _ _
  obtain ⟨T1, X1, e1, st1⟩ := getS2 X0 hx hZ hown (host := "") (Or.inl (ww hw 51 rfl)) Via.refl e0 (S_w_SUCCEEDED.ext O0.2) (g := (mkF m 1 #[va w_CANCELLED] [(.ref w_CANCELLED)])) rfl (hb hby d6_1)
  obtain ⟨T2, X2, e2, st2⟩ := getS2 X1 hx hZ hown (host := "") (Or.inl (ww hw 53 rfl)) Via.refl e1 (S_w_FAILED.ext O0.2) (g := (mkF m 8 #[va w_CANCELLED] [(.ref w_CANCELLED)])) rfl (hb hby d6_8)
  obtain ⟨T3, X3, e3, st3⟩ := getS2 X2 hx hZ hown (host := "") (Or.inl (ww hw 38 rfl)) Via.refl e2 (S_w_CANCELLED.ext O0.2) (g := (mkF m 15 #[va w_CANCELLED] [(.ref w_CANCELLED)])) rfl (hb hby d6_15)
  obtain ⟨fs, hr, hrun, hended, hW, hsame⟩ := X3.leave (v := (some (.int 1))) (fun h => by rw [hrt] at h; cases h)
  refine ⟨_, _, ?_, hrun, hended, _, _, rfl, ?_, ⟨_, rfl⟩, hW, hsame.mono (by decide) (by decide)⟩
  · show Steps p.tables e below (s₁.setTop (mkF m 0 #[va w_CANCELLED] [])) _
    refine XS.aloadN X0.here hx rfl (hb hby d6_0) rfl rfl ?_
    refine st1 _ ?_
    refine Jvm.RoadKit.acmp (g := (mkF m 4 #[va w_CANCELLED] [(.ref w_SUCCEEDED), (.ref w_CANCELLED)])) X1 hx rfl rfl rfl (pc0 := 4) (pc' := 7) (same := false) rfl (hb hby d6_4) rfl (decide_eq_false fun q => hne_w_CANCELLED_w_SUCCEEDED (Value.ref.inj q)) (by decide) (by decide) ?_
    refine XS.aloadN X1.here hx rfl (hb hby d6_7) rfl rfl ?_
    refine st2 _ ?_
    refine Jvm.RoadKit.acmp (g := (mkF m 11 #[va w_CANCELLED] [(.ref w_FAILED), (.ref w_CANCELLED)])) X2 hx rfl rfl rfl (pc0 := 11) (pc' := 14) (same := false) rfl (hb hby d6_11) rfl (decide_eq_false fun q => (Ne.symm hne_w_FAILED_w_CANCELLED) (Value.ref.inj q)) (by decide) (by decide) ?_
    refine XS.aloadN X2.here hx rfl (hb hby d6_14) rfl rfl ?_
    refine st3 _ ?_
    show Steps p.tables e below (T3.setTop (mkF m 18 #[va w_CANCELLED] [(.ref w_CANCELLED), (.ref w_CANCELLED)])) _
    refine Jvm.RoadKit.acmp (g := (mkF m 18 #[va w_CANCELLED] [(.ref w_CANCELLED), (.ref w_CANCELLED)])) X3 hx rfl rfl rfl (pc0 := 18) (pc' := 21) (same := true) rfl (hb hby d6_18) rfl (decide_eq_true rfl) (by decide) (by decide) ?_
    refine XS.iconst X3.here hx rfl (hb hby d6_21) ?_
    refine XS.goto X3.here hx rfl (pc0 := 22) (pc' := 26) rfl (hb hby d6_22) (by decide) (by decide) ?_
    exact retN X3 hx (t := .boolean) hrt (by simp) (hb hby d6_26) hr
  · show Q6_3 Z w_QUEUED w_FAILED w_RUNNING w_CANCELLED w_SUCCEEDED  h0 n0 (some (.int 1)) T3.heap _
    exact (⟨rfl, N0, e3⟩)
def Q2_9 (Z : State) (w_QUEUED w_FAILED w_RUNNING w_CANCELLED w_SUCCEEDED : Addr) (h0 : Heap) (n0 : Nat) (v : Option Value) (h : Heap) (L : List Loc) : Prop := v = (some (.int 1)) ∧ Fr n0 L ∧ Keep h0 h []
theorem rm2_9 (l : Launch) (Z : State) (a0 : Array Value) (hw : HW Z a0) (ws : List Jvm.Cond) (w_QUEUED w_FAILED w_RUNNING w_CANCELLED w_SUCCEEDED : Addr) (h0 : Heap) (n0 : Nat) (O0 : Old Z n0 h0) (S : SF Z w_QUEUED w_FAILED w_RUNNING w_CANCELLED w_SUCCEEDED) :
    PayW l Z My2 ws prog_15_method_7_code 2 (some .boolean) #[(.ref w_RUNNING), (.ref w_CANCELLED)] h0 ({ frames := 1, cells := 2, slots := 20, locals := 13 } : Room) (Q2_9 Z w_QUEUED w_FAILED w_RUNNING w_CANCELLED w_SUCCEEDED  h0 n0) := by
  obtain ⟨S_w_QUEUED, -, -, -, -, E_w_RUNNING, -, E_w_CANCELLED, -, -, -, -, -, -, -, -, -, hne_w_QUEUED_w_CANCELLED, -⟩ := id S
  refine own_body (plainFor_of_name pn_1) (L0 := #[va w_RUNNING, va w_CANCELLED]) (fun _ => by first | rfl | (simp [entryFrame, mkF, argsToLocals, Value.category]; done)) ?_
  intro p e s m below meth c s₁ hrt hlk hx hby hml hZ hown0 hnm X0 e0
  have hown : s.vm.findClass sC0 = some m.cls := hown0
  have N0 := Fr.nil n0
  have K0 : Keep h0 h0 [] := Keep.refl _ _
  obtain ⟨a1, T1, h1, kk1, X1, e1, E1, hS1, hk1, hZ1, hown1, st1⟩ := ldcS (s := s) (vm0 := s.vm) X0 hx hZ hown (ww hw 15 rfl) (own_wS hw) e0 (k0 := 0) ((State.WarmedH.refl s).since 0) (Nat.zero_le _) (g := (mkF m 1 #[va w_RUNNING, va w_CANCELLED] [(.ref w_CANCELLED)])) rfl (hb hby d2_1) (n := 16) (by decide +kernel) (by decide) (by decide) (by decide)
  have O1 := O0.ext E1
  have K1 : Keep h0 h1 [] := K0.ext E1
  obtain ⟨_, _, ⟨T2, L2, k2, n2⟩, -, X2, ⟨Lc2, hQ2, l2, y2, z2⟩, st2⟩ := Jvm.LawKit.callS X1 hx (y := My3) hown1 (mvT hZ1 (ww hw 23 rfl)) (mvT hZ1 (ww hw 24 rfl)) (mvT hZ1 (ww hw 25 rfl)) (mvT hZ1 (ww hw 26 rfl)) (by decide) (backOf (W := 0) (rm3_4 l Z a0 hw [] w_QUEUED w_FAILED w_RUNNING w_CANCELLED w_SUCCEEDED a1 h1 n0 O1 S) hZ1 (ww hw 26 rfl) (ww hw 25 rfl) (by decide) (by decide)) (g := (mkF m 3 #[va w_RUNNING, va w_CANCELLED] [(.ref a1), (.ref w_CANCELLED)])) rfl (by rw [hml]; rfl) (argsL := [(.ref w_CANCELLED), (.ref a1)]) (rest := []) (lenOf pd_1 rfl) rfl (by show 2 * 0 + _ ≤ _; exact Nat.le_of_eq rfl) (hb hby d2_3) (fun _ _ => ⟨rfl, e1, (by decide : 2 + 0 ≤ _), (by decide : 20 + 0 ≤ _)⟩)
  dsimp only [Pt.U, Pt.locs, Pt.cells, Pt.slots] at X2 l2 y2 z2 st2 hQ2
  subst l2 y2 z2
  obtain ⟨rfl, Nq2, e2⟩ := hQ2
  have N2 := Fr.app N0 Nq2
  obtain ⟨cq3, kq3, q3a, q3b, q3c⟩ := isOf hZ1 e2 (E_w_RUNNING.ext O1.2)
  obtain ⟨_, _, ⟨T3, L3, k3, n3⟩, -, X3, ⟨Lc3, hQ3, l3, y3, z3⟩, st3⟩ := X2.virtualBackUp hx (x := (⟨sC0, "ordinal", "()I"⟩ : MethodName)) (y := My4) (owner := sC2) hown1 (mvT hZ1 (ww hw 27 rfl)) (mvT hZ1 (ww hw 28 rfl)) (mvT hZ1 (ww hw 29 rfl)) (by decide) (mvT hZ1 (ww hw 31 rfl)) (mvT hZ1 (ww hw 30 rfl)) (backOf (W := 0) (rm4_1 l Z a0 hw [] w_QUEUED w_FAILED w_RUNNING w_CANCELLED w_SUCCEEDED h1 n0 O1 S) hZ1 (ww hw 33 rfl) (ww hw 32 rfl) (by decide) (by decide)) q3a q3c (g := (mkF m 8 #[va w_RUNNING, va w_CANCELLED] [(.ref w_RUNNING)])) rfl (by rw [hml]; rfl) (Steps.refl _) (argsL := []) (rest := []) (lenOf pd_2 rfl) rfl (by show 2 * 0 + _ ≤ _; exact Nat.le_of_eq rfl) (hb hby d2_8) (fun _ _ => ⟨rfl, e2, (by decide : 2 + 0 ≤ _), (by decide : 20 + 0 ≤ _)⟩)
  dsimp only [Pt.U, Pt.locs, Pt.cells, Pt.slots] at X3 l3 y3 z3 st3 hQ3
  subst l3 y3 z3
  obtain ⟨rfl, Nq3, e3⟩ := hQ3
  have N3 := Fr.app N2 Nq3
  obtain ⟨T4, X4, e4, st4⟩ := getS2 X3 hx hZ1 hown1 (host := "") (Or.inl (ww hw 45 rfl)) Via.refl e3 (S_w_QUEUED.ext O1.2) (g := (mkF m 77 #[va w_RUNNING, va w_CANCELLED] [(.ref w_CANCELLED)])) rfl (hb hby d2_77)
  obtain ⟨cq5, kq5, q5a, q5b, q5c⟩ := isOf hZ1 e4 (E_w_CANCELLED.ext O1.2)
  obtain ⟨_, _, ⟨T5, L5, k5, n5⟩, -, X5, ⟨Lc5, hQ5, l5, y5, z5⟩, st5⟩ := X4.virtualBack hx (y := My6) (z := My6) hown1 (mvT hZ1 (ww hw 46 rfl)) (mvT hZ1 (ww hw 47 rfl)) (notFace_of_selects (args := #[]) (mvT hZ1 (ww hw 49 rfl))) (mvT hZ1 (ww hw 49 rfl)) (mvT hZ1 (ww hw 48 rfl)) (by decide) (backOf (W := 0) (rm6_3 l Z a0 hw [] w_QUEUED w_FAILED w_RUNNING w_CANCELLED w_SUCCEEDED h1 n0 O1 S) hZ1 (ww hw 50 rfl) (ww hw 6 rfl) (by decide) (by decide)) q5a q5c (g := (mkF m 84 #[va w_RUNNING, va w_CANCELLED] [(.ref w_CANCELLED)])) rfl (by rw [hml]; rfl) (Steps.refl _) (argsL := []) (rest := []) (lenOf pd_5 rfl) rfl (by show 2 * 0 + _ ≤ _; exact Nat.le_of_eq rfl) (hb hby d2_84) (fun _ _ => ⟨rfl, e4, (by decide : 2 + 0 ≤ _), (by decide : 20 + 0 ≤ _)⟩)
  dsimp only [Pt.U, Pt.locs, Pt.cells, Pt.slots] at X5 l5 y5 z5 st5 hQ5
  subst l5 y5 z5
  obtain ⟨rfl, Nq5, e5⟩ := hQ5
  have N5 := Fr.app N3 Nq5
  obtain ⟨fs, hr, hrun, hended, hRE⟩ := X5.leaveW (s := s) hS1 (by rw [e5]; exact hk1) (v := (some (.int 1))) (fun h => by rw [hrt] at h; cases h)
  refine ⟨_, _, ?_, hrun, hended, _, _, rfl, ?_, hRE.1, hRE.2.1, hRE.2.2.1, hRE.2.2.2.mono (by decide) (by decide)⟩
  · show Steps p.tables e below (s₁.setTop (mkF m 0 #[va w_RUNNING, va w_CANCELLED] [])) _
    refine XS.aloadN X0.here hx rfl (hb hby d2_0) rfl rfl ?_
    refine st1 _ ?_
    refine st2 _ ?_
    refine XS.pop X2.here hx rfl (hb hby d2_6) rfl rfl ?_
    refine XS.aloadN X2.here hx rfl (hb hby d2_7) rfl rfl ?_
    refine st3.trans ?_
    refine XS.tswIn X3.here hx rfl (pc0 := 11) (pc' := 76) rfl (hb hby d2_11) rfl (by decide) (o := 65) (by decide) (by decide) (by decide) ?_
    refine XS.aloadN X3.here hx rfl (hb hby d2_76) rfl rfl ?_
    show Steps p.tables e below (T3.setTop (mkF m 77 #[va w_RUNNING, va w_CANCELLED] [(.ref w_CANCELLED)])) _
    refine st4 _ ?_
    refine Jvm.RoadKit.acmp (g := (mkF m 80 #[va w_RUNNING, va w_CANCELLED] [(.ref w_QUEUED), (.ref w_CANCELLED)])) X4 hx rfl rfl rfl (pc0 := 80) (pc' := 83) (same := false) rfl (hb hby d2_80) rfl (decide_eq_false fun q => (Ne.symm hne_w_QUEUED_w_CANCELLED) (Value.ref.inj q)) (by decide) (by decide) ?_
    refine XS.aloadN X4.here hx rfl (hb hby d2_83) rfl rfl ?_
    refine st5.trans ?_
    refine XS.ifNo X5.here hx rfl (hb hby d2_87) rfl ((if0 _ _).trans (feq (by decide : ¬ ((1 : Int32) = (0 : Int32)))).1) ?_
    refine XS.iconst X5.here hx rfl (hb hby d2_90) ?_
    refine XS.goto X5.here hx rfl (pc0 := 91) (pc' := 114) rfl (hb hby d2_91) (by decide) (by decide) ?_
    exact retN X5 hx (t := .boolean) hrt (by simp) (hb hby d2_114) hr
  · show Q2_9 Z w_QUEUED w_FAILED w_RUNNING w_CANCELLED w_SUCCEEDED  h0 n0 (some (.int 1)) T5.heap _
    rw [e5]; exact ⟨rfl, N5, K1⟩
def Q5_7 (Z : State) (w_QUEUED w_FAILED w_RUNNING w_CANCELLED w_SUCCEEDED : Addr) (p0 : Int32) (p1 : Int32) (h0 : Heap) (n0 : Nat) (v : Option Value) (h : Heap) (L : List Loc) : Prop := v = (some (.int 1)) ∧ Fr n0 L ∧ h = h0
theorem rm5_7 (l : Launch) (Z : State) (a0 : Array Value) (hw : HW Z a0) (ws : List Jvm.Cond) (w_QUEUED w_FAILED w_RUNNING w_CANCELLED w_SUCCEEDED : Addr) (p0 : Int32) (p1 : Int32) (h0 : Heap) (n0 : Nat) (O0 : Old Z n0 h0) (S : SF Z w_QUEUED w_FAILED w_RUNNING w_CANCELLED w_SUCCEEDED) (hc0 : ¬ (p0 = (0 : Int32))) (hc1 : p0 = (1 : Int32)) (hc2 : ¬ (p1 = (0 : Int32))) (hc3 : ¬ (p1 = (2 : Int32))) (hc4 : ¬ (p1 = (3 : Int32))) (hc5 : p1 = (4 : Int32)) :
    Pay l Z My5 ws method_3_code 2 (some .boolean) #[(.int p0), (.int p1)] h0 ({ frames := 0, cells := 0, slots := 0, locals := 0 } : Room) (Q5_7 Z w_QUEUED w_FAILED w_RUNNING w_CANCELLED w_SUCCEEDED p0 p1 h0 n0) := by
  refine own_body (plainFor_of_name pn_0) (L0 := #[vi p0, vi p1]) (fun _ => by first | rfl | (simp [entryFrame, mkF, argsToLocals, Value.category]; done)) ?_
  intro p e s m below meth c s₁ hrt hlk hx hby hml hZ hown0 hnm X0 e0
  have hown : s.vm.findClass sC1 = some m.cls := hown0
  have N0 := Fr.nil n0
  have K0 : Keep h0 h0 [] := Keep.refl _ _
  obtain ⟨fs, hr, hrun, hended, hW, hsame⟩ := X0.leave (v := (some (.int 1))) (fun h => by rw [hrt] at h; cases h)
  refine ⟨_, _, ?_, hrun, hended, _, _, rfl, ?_, ⟨_, rfl⟩, hW, hsame.mono (by decide) (by decide)⟩
  · show Steps p.tables e below (s₁.setTop (mkF m 0 #[vi p0, vi p1] [])) _
    refine XS.iloadN X0.here hx rfl (hb hby d5_0) rfl ?_
    refine XS.ifYes X0.here hx rfl (pc0 := 1) (pc' := 20) rfl (hb hby d5_1) rfl ((if0 _ _).trans (feq hc0).2) (by decide) (by decide) ?_
    refine XS.iloadN X0.here hx rfl (hb hby d5_20) rfl ?_
    refine XS.iconst X0.here hx rfl (hb hby d5_21) ?_
    refine XS.icmpNo X0.here hx rfl (hb hby d5_22) rfl (teq hc1).2 ?_
    refine XS.iloadN X0.here hx rfl (hb hby d5_25) rfl ?_
    refine XS.ifNo X0.here hx rfl (hb hby d5_26) rfl ((if0 _ _).trans (feq hc2).1) ?_
    refine XS.iloadN X0.here hx rfl (hb hby d5_29) rfl ?_
    show Steps p.tables e below (s₁.setTop (mkF m 30 #[vi p0, vi p1] [(.int p1)])) _
    refine XS.iconst X0.here hx rfl (hb hby d5_30) ?_
    refine XS.icmpNo X0.here hx rfl (hb hby d5_31) rfl (feq hc3).1 ?_
    refine XS.iloadN X0.here hx rfl (hb hby d5_34) rfl ?_
    refine XS.iconst X0.here hx rfl (hb hby d5_35) ?_
    refine XS.icmpNo X0.here hx rfl (hb hby d5_36) rfl (feq hc4).1 ?_
    refine XS.iloadN X0.here hx rfl (hb hby d5_39) rfl ?_
    refine XS.iconst X0.here hx rfl (hb hby d5_40) ?_
    refine XS.icmpNo X0.here hx rfl (hb hby d5_41) rfl (teq hc5).2 ?_
    show Steps p.tables e below (s₁.setTop (mkF m 44 #[vi p0, vi p1] [])) _
    refine XS.iconst X0.here hx rfl (hb hby d5_44) ?_
    refine XS.goto X0.here hx rfl (pc0 := 45) (pc' := 49) rfl (hb hby d5_45) (by decide) (by decide) ?_
    exact retN X0 hx (t := .boolean) hrt (by simp) (hb hby d5_49) hr
  · show Q5_7 Z w_QUEUED w_FAILED w_RUNNING w_CANCELLED w_SUCCEEDED p0 p1 h0 n0 (some (.int 1)) s₁.heap _
    exact (⟨rfl, N0, e0⟩)
def Q4_2 (Z : State) (w_QUEUED w_FAILED w_RUNNING w_CANCELLED w_SUCCEEDED : Addr) (h0 : Heap) (n0 : Nat) (v : Option Value) (h : Heap) (L : List Loc) : Prop := v = (some (.int 2)) ∧ Fr n0 L ∧ h = h0
theorem rm4_2 (l : Launch) (Z : State) (a0 : Array Value) (hw : HW Z a0) (ws : List Jvm.Cond) (w_QUEUED w_FAILED w_RUNNING w_CANCELLED w_SUCCEEDED : Addr) (h0 : Heap) (n0 : Nat) (O0 : Old Z n0 h0) (S : SF Z w_QUEUED w_FAILED w_RUNNING w_CANCELLED w_SUCCEEDED) :
    Pay l Z My4 ws jdk_37_method_2_code 1 (some .int) #[(.ref w_SUCCEEDED)] h0 ({ frames := 0, cells := 0, slots := 0, locals := 0 } : Room) (Q4_2 Z w_QUEUED w_FAILED w_RUNNING w_CANCELLED w_SUCCEEDED  h0 n0) := by
  obtain ⟨-, -, -, -, -, -, -, -, -, -, -, -, -, -, F_ordinal_w_SUCCEEDED, -⟩ := id S
  refine own_body (plainFor_of_name pn_3) (L0 := #[va w_SUCCEEDED]) (fun _ => by first | rfl | (simp [entryFrame, mkF, argsToLocals, Value.category]; done)) ?_
  intro p e s m below meth c s₁ hrt hlk hx hby hml hZ hown0 hnm X0 e0
  have hown : s.vm.findClass sC2 = some m.cls := hown0
  have N0 := Fr.nil n0
  have K0 : Keep h0 h0 [] := Keep.refl _ _
  obtain ⟨T1, X1, e1, st1⟩ := getF X0 hx hZ hown (host := "") (Or.inl (ww hw 34 rfl)) Via.refl e0 (F_ordinal_w_SUCCEEDED.ext O0.2) (g := (mkF m 1 #[va w_SUCCEEDED] [(.ref w_SUCCEEDED)])) rfl rfl (hb hby d4_1)
  obtain ⟨fs, hr, hrun, hended, hW, hsame⟩ := X1.leave (v := (some (.int 2))) (fun h => by rw [hrt] at h; cases h)
  refine ⟨_, _, ?_, hrun, hended, _, _, rfl, ?_, ⟨_, rfl⟩, hW, hsame.mono (by decide) (by decide)⟩
  · show Steps p.tables e below (s₁.setTop (mkF m 0 #[va w_SUCCEEDED] [])) _
    refine XS.aloadN X0.here hx rfl (hb hby d4_0) rfl rfl ?_
    refine st1 _ ?_
    exact retOut X1 hx (t := .int) (i := .ireturn) hrt rfl (Or.inl ⟨rfl, Or.inl rfl, _, rfl⟩) (hb hby d4_4) hr
  · show Q4_2 Z w_QUEUED w_FAILED w_RUNNING w_CANCELLED w_SUCCEEDED  h0 n0 (some (.int 2)) T1.heap _
    exact (⟨rfl, N0, e1⟩)
theorem d2_113 : decode prog_15_method_7_code 113 = .ok (.iconst 0, 1) := by decide +kernel
def Q2_10 (Z : State) (w_QUEUED w_FAILED w_RUNNING w_CANCELLED w_SUCCEEDED : Addr) (h0 : Heap) (n0 : Nat) (v : Option Value) (h : Heap) (L : List Loc) : Prop := v = (some (.int 0)) ∧ Fr n0 L ∧ Keep h0 h []
theorem rm2_10 (l : Launch) (Z : State) (a0 : Array Value) (hw : HW Z a0) (ws : List Jvm.Cond) (w_QUEUED w_FAILED w_RUNNING w_CANCELLED w_SUCCEEDED : Addr) (h0 : Heap) (n0 : Nat) (O0 : Old Z n0 h0) (S : SF Z w_QUEUED w_FAILED w_RUNNING w_CANCELLED w_SUCCEEDED) :
    PayW l Z My2 ws prog_15_method_7_code 2 (some .boolean) #[(.ref w_SUCCEEDED), (.ref w_QUEUED)] h0 ({ frames := 1, cells := 2, slots := 20, locals := 13 } : Room) (Q2_10 Z w_QUEUED w_FAILED w_RUNNING w_CANCELLED w_SUCCEEDED  h0 n0) := by
  obtain ⟨-, -, -, -, -, -, -, -, -, E_w_SUCCEEDED, -⟩ := id S
  refine own_body (plainFor_of_name pn_1) (L0 := #[va w_SUCCEEDED, va w_QUEUED]) (fun _ => by first | rfl | (simp [entryFrame, mkF, argsToLocals, Value.category]; done)) ?_
  intro p e s m below meth c s₁ hrt hlk hx hby hml hZ hown0 hnm X0 e0
  have hown : s.vm.findClass sC0 = some m.cls := hown0
  have N0 := Fr.nil n0
  have K0 : Keep h0 h0 [] := Keep.refl _ _
  obtain ⟨a1, T1, h1, kk1, X1, e1, E1, hS1, hk1, hZ1, hown1, st1⟩ := ldcS (s := s) (vm0 := s.vm) X0 hx hZ hown (ww hw 15 rfl) (own_wS hw) e0 (k0 := 0) ((State.WarmedH.refl s).since 0) (Nat.zero_le _) (g := (mkF m 1 #[va w_SUCCEEDED, va w_QUEUED] [(.ref w_QUEUED)])) rfl (hb hby d2_1) (n := 16) (by decide +kernel) (by decide) (by decide) (by decide)
  have O1 := O0.ext E1
  have K1 : Keep h0 h1 [] := K0.ext E1
  obtain ⟨_, _, ⟨T2, L2, k2, n2⟩, -, X2, ⟨Lc2, hQ2, l2, y2, z2⟩, st2⟩ := Jvm.LawKit.callS X1 hx (y := My3) hown1 (mvT hZ1 (ww hw 23 rfl)) (mvT hZ1 (ww hw 24 rfl)) (mvT hZ1 (ww hw 25 rfl)) (mvT hZ1 (ww hw 26 rfl)) (by decide) (backOf (W := 0) (rm3_0 l Z a0 hw [] w_QUEUED w_FAILED w_RUNNING w_CANCELLED w_SUCCEEDED a1 h1 n0 O1 S) hZ1 (ww hw 26 rfl) (ww hw 25 rfl) (by decide) (by decide)) (g := (mkF m 3 #[va w_SUCCEEDED, va w_QUEUED] [(.ref a1), (.ref w_QUEUED)])) rfl (by rw [hml]; rfl) (argsL := [(.ref w_QUEUED), (.ref a1)]) (rest := []) (lenOf pd_1 rfl) rfl (by show 2 * 0 + _ ≤ _; exact Nat.le_of_eq rfl) (hb hby d2_3) (fun _ _ => ⟨rfl, e1, (by decide : 2 + 0 ≤ _), (by decide : 20 + 0 ≤ _)⟩)
  dsimp only [Pt.U, Pt.locs, Pt.cells, Pt.slots] at X2 l2 y2 z2 st2 hQ2
  subst l2 y2 z2
  obtain ⟨rfl, Nq2, e2⟩ := hQ2
  have N2 := Fr.app N0 Nq2
  obtain ⟨cq3, kq3, q3a, q3b, q3c⟩ := isOf hZ1 e2 (E_w_SUCCEEDED.ext O1.2)
  obtain ⟨_, _, ⟨T3, L3, k3, n3⟩, -, X3, ⟨Lc3, hQ3, l3, y3, z3⟩, st3⟩ := X2.virtualBackUp hx (x := (⟨sC0, "ordinal", "()I"⟩ : MethodName)) (y := My4) (owner := sC2) hown1 (mvT hZ1 (ww hw 27 rfl)) (mvT hZ1 (ww hw 28 rfl)) (mvT hZ1 (ww hw 29 rfl)) (by decide) (mvT hZ1 (ww hw 31 rfl)) (mvT hZ1 (ww hw 30 rfl)) (backOf (W := 0) (rm4_2 l Z a0 hw [] w_QUEUED w_FAILED w_RUNNING w_CANCELLED w_SUCCEEDED h1 n0 O1 S) hZ1 (ww hw 33 rfl) (ww hw 32 rfl) (by decide) (by decide)) q3a q3c (g := (mkF m 8 #[va w_SUCCEEDED, va w_QUEUED] [(.ref w_SUCCEEDED)])) rfl (by rw [hml]; rfl) (Steps.refl _) (argsL := []) (rest := []) (lenOf pd_2 rfl) rfl (by show 2 * 0 + _ ≤ _; exact Nat.le_of_eq rfl) (hb hby d2_8) (fun _ _ => ⟨rfl, e2, (by decide : 2 + 0 ≤ _), (by decide : 20 + 0 ≤ _)⟩)
  dsimp only [Pt.U, Pt.locs, Pt.cells, Pt.slots] at X3 l3 y3 z3 st3 hQ3
  subst l3 y3 z3
  obtain ⟨rfl, Nq3, e3⟩ := hQ3
  have N3 := Fr.app N2 Nq3
  obtain ⟨fs, hr, hrun, hended, hRE⟩ := X3.leaveW (s := s) hS1 (by rw [e3]; exact hk1) (v := (some (.int 0))) (fun h => by rw [hrt] at h; cases h)
  refine ⟨_, _, ?_, hrun, hended, _, _, rfl, ?_, hRE.1, hRE.2.1, hRE.2.2.1, hRE.2.2.2.mono (by decide) (by decide)⟩
  · show Steps p.tables e below (s₁.setTop (mkF m 0 #[va w_SUCCEEDED, va w_QUEUED] [])) _
    refine XS.aloadN X0.here hx rfl (hb hby d2_0) rfl rfl ?_
    refine st1 _ ?_
    refine st2 _ ?_
    refine XS.pop X2.here hx rfl (hb hby d2_6) rfl rfl ?_
    refine XS.aloadN X2.here hx rfl (hb hby d2_7) rfl rfl ?_
    refine st3.trans ?_
    refine XS.tswIn X3.here hx rfl (pc0 := 11) (pc' := 113) rfl (hb hby d2_11) rfl (by decide) (o := 102) (by decide) (by decide) (by decide) ?_
    refine XS.iconst X3.here hx rfl (hb hby d2_113) ?_
    show Steps p.tables e below (T3.setTop (mkF m 114 #[va w_SUCCEEDED, va w_QUEUED] [(.int 0)])) _
    exact retN X3 hx (t := .boolean) hrt (by simp) (hb hby d2_114) hr
  · show Q2_10 Z w_QUEUED w_FAILED w_RUNNING w_CANCELLED w_SUCCEEDED  h0 n0 (some (.int 0)) T3.heap _
    rw [e3]; exact ⟨rfl, N3, K1⟩
theorem d5_50 : decode method_3_code 50 = .ok (.iload_n 0, 1) := by decide +kernel
theorem d5_51 : decode method_3_code 51 = .ok (.iconst 3, 1) := by decide +kernel
theorem d5_52 : decode method_3_code 52 = .ok (.if_icmp .ne 13, 3) := by decide +kernel
theorem d5_65 : decode method_3_code 65 = .ok (.iconst 0, 1) := by decide +kernel
theorem d5_66 : decode method_3_code 66 = .ok (.ireturn, 1) := by decide +kernel
def Q5_8 (Z : State) (w_QUEUED w_FAILED w_RUNNING w_CANCELLED w_SUCCEEDED : Addr) (p0 : Int32) (p1 : Int32) (h0 : Heap) (n0 : Nat) (v : Option Value) (h : Heap) (L : List Loc) : Prop := v = (some (.int 0)) ∧ Fr n0 L ∧ h = h0
theorem rm5_8 (l : Launch) (Z : State) (a0 : Array Value) (hw : HW Z a0) (ws : List Jvm.Cond) (w_QUEUED w_FAILED w_RUNNING w_CANCELLED w_SUCCEEDED : Addr) (p0 : Int32) (p1 : Int32) (h0 : Heap) (n0 : Nat) (O0 : Old Z n0 h0) (S : SF Z w_QUEUED w_FAILED w_RUNNING w_CANCELLED w_SUCCEEDED) (hc0 : ¬ (p0 = (0 : Int32))) (hc1 : ¬ (p0 = (1 : Int32))) (hc2 : ¬ (p0 = (3 : Int32))) :
    Pay l Z My5 ws method_3_code 2 (some .boolean) #[(.int p0), (.int p1)] h0 ({ frames := 0, cells := 0, slots := 0, locals := 0 } : Room) (Q5_8 Z w_QUEUED w_FAILED w_RUNNING w_CANCELLED w_SUCCEEDED p0 p1 h0 n0) := by
  refine own_body (plainFor_of_name pn_0) (L0 := #[vi p0, vi p1]) (fun _ => by first | rfl | (simp [entryFrame, mkF, argsToLocals, Value.category]; done)) ?_
  intro p e s m below meth c s₁ hrt hlk hx hby hml hZ hown0 hnm X0 e0
  have hown : s.vm.findClass sC1 = some m.cls := hown0
  have N0 := Fr.nil n0
  have K0 : Keep h0 h0 [] := Keep.refl _ _
  obtain ⟨fs, hr, hrun, hended, hW, hsame⟩ := X0.leave (v := (some (.int 0))) (fun h => by rw [hrt] at h; cases h)
  refine ⟨_, _, ?_, hrun, hended, _, _, rfl, ?_, ⟨_, rfl⟩, hW, hsame.mono (by decide) (by decide)⟩
  · show Steps p.tables e below (s₁.setTop (mkF m 0 #[vi p0, vi p1] [])) _
    refine XS.iloadN X0.here hx rfl (hb hby d5_0) rfl ?_
    refine XS.ifYes X0.here hx rfl (pc0 := 1) (pc' := 20) rfl (hb hby d5_1) rfl ((if0 _ _).trans (feq hc0).2) (by decide) (by decide) ?_
    refine XS.iloadN X0.here hx rfl (hb hby d5_20) rfl ?_
    refine XS.iconst X0.here hx rfl (hb hby d5_21) ?_
    refine XS.icmpYes X0.here hx rfl (pc0 := 22) (pc' := 50) rfl (hb hby d5_22) rfl (feq hc1).2 (by decide) (by decide) ?_
    refine XS.iloadN X0.here hx rfl (hb hby d5_50) rfl ?_
    refine XS.iconst X0.here hx rfl (hb hby d5_51) ?_
    refine XS.icmpYes X0.here hx rfl (pc0 := 52) (pc' := 65) rfl (hb hby d5_52) rfl (feq hc2).2 (by decide) (by decide) ?_
    show Steps p.tables e below (s₁.setTop (mkF m 65 #[vi p0, vi p1] [])) _
    refine XS.iconst X0.here hx rfl (hb hby d5_65) ?_
    exact retN X0 hx (t := .boolean) hrt (by simp) (hb hby d5_66) hr
  · show Q5_8 Z w_QUEUED w_FAILED w_RUNNING w_CANCELLED w_SUCCEEDED p0 p1 h0 n0 (some (.int 0)) s₁.heap _
    exact (⟨rfl, N0, e0⟩)
def Q2_11 (Z : State) (w_QUEUED w_FAILED w_RUNNING w_CANCELLED w_SUCCEEDED : Addr) (h0 : Heap) (n0 : Nat) (v : Option Value) (h : Heap) (L : List Loc) : Prop := v = (some (.int 0)) ∧ Fr n0 L ∧ Keep h0 h []
theorem rm2_11 (l : Launch) (Z : State) (a0 : Array Value) (hw : HW Z a0) (ws : List Jvm.Cond) (w_QUEUED w_FAILED w_RUNNING w_CANCELLED w_SUCCEEDED : Addr) (h0 : Heap) (n0 : Nat) (O0 : Old Z n0 h0) (S : SF Z w_QUEUED w_FAILED w_RUNNING w_CANCELLED w_SUCCEEDED) :
    PayW l Z My2 ws prog_15_method_7_code 2 (some .boolean) #[(.ref w_SUCCEEDED), (.ref w_RUNNING)] h0 ({ frames := 1, cells := 2, slots := 20, locals := 13 } : Room) (Q2_11 Z w_QUEUED w_FAILED w_RUNNING w_CANCELLED w_SUCCEEDED  h0 n0) := by
  obtain ⟨-, -, -, -, -, -, -, -, -, E_w_SUCCEEDED, -⟩ := id S
  refine own_body (plainFor_of_name pn_1) (L0 := #[va w_SUCCEEDED, va w_RUNNING]) (fun _ => by first | rfl | (simp [entryFrame, mkF, argsToLocals, Value.category]; done)) ?_
  intro p e s m below meth c s₁ hrt hlk hx hby hml hZ hown0 hnm X0 e0
  have hown : s.vm.findClass sC0 = some m.cls := hown0
  have N0 := Fr.nil n0
  have K0 : Keep h0 h0 [] := Keep.refl _ _
  obtain ⟨a1, T1, h1, kk1, X1, e1, E1, hS1, hk1, hZ1, hown1, st1⟩ := ldcS (s := s) (vm0 := s.vm) X0 hx hZ hown (ww hw 15 rfl) (own_wS hw) e0 (k0 := 0) ((State.WarmedH.refl s).since 0) (Nat.zero_le _) (g := (mkF m 1 #[va w_SUCCEEDED, va w_RUNNING] [(.ref w_RUNNING)])) rfl (hb hby d2_1) (n := 16) (by decide +kernel) (by decide) (by decide) (by decide)
  have O1 := O0.ext E1
  have K1 : Keep h0 h1 [] := K0.ext E1
  obtain ⟨_, _, ⟨T2, L2, k2, n2⟩, -, X2, ⟨Lc2, hQ2, l2, y2, z2⟩, st2⟩ := Jvm.LawKit.callS X1 hx (y := My3) hown1 (mvT hZ1 (ww hw 23 rfl)) (mvT hZ1 (ww hw 24 rfl)) (mvT hZ1 (ww hw 25 rfl)) (mvT hZ1 (ww hw 26 rfl)) (by decide) (backOf (W := 0) (rm3_1 l Z a0 hw [] w_QUEUED w_FAILED w_RUNNING w_CANCELLED w_SUCCEEDED a1 h1 n0 O1 S) hZ1 (ww hw 26 rfl) (ww hw 25 rfl) (by decide) (by decide)) (g := (mkF m 3 #[va w_SUCCEEDED, va w_RUNNING] [(.ref a1), (.ref w_RUNNING)])) rfl (by rw [hml]; rfl) (argsL := [(.ref w_RUNNING), (.ref a1)]) (rest := []) (lenOf pd_1 rfl) rfl (by show 2 * 0 + _ ≤ _; exact Nat.le_of_eq rfl) (hb hby d2_3) (fun _ _ => ⟨rfl, e1, (by decide : 2 + 0 ≤ _), (by decide : 20 + 0 ≤ _)⟩)
  dsimp only [Pt.U, Pt.locs, Pt.cells, Pt.slots] at X2 l2 y2 z2 st2 hQ2
  subst l2 y2 z2
  obtain ⟨rfl, Nq2, e2⟩ := hQ2
  have N2 := Fr.app N0 Nq2
  obtain ⟨cq3, kq3, q3a, q3b, q3c⟩ := isOf hZ1 e2 (E_w_SUCCEEDED.ext O1.2)
  obtain ⟨_, _, ⟨T3, L3, k3, n3⟩, -, X3, ⟨Lc3, hQ3, l3, y3, z3⟩, st3⟩ := X2.virtualBackUp hx (x := (⟨sC0, "ordinal", "()I"⟩ : MethodName)) (y := My4) (owner := sC2) hown1 (mvT hZ1 (ww hw 27 rfl)) (mvT hZ1 (ww hw 28 rfl)) (mvT hZ1 (ww hw 29 rfl)) (by decide) (mvT hZ1 (ww hw 31 rfl)) (mvT hZ1 (ww hw 30 rfl)) (backOf (W := 0) (rm4_2 l Z a0 hw [] w_QUEUED w_FAILED w_RUNNING w_CANCELLED w_SUCCEEDED h1 n0 O1 S) hZ1 (ww hw 33 rfl) (ww hw 32 rfl) (by decide) (by decide)) q3a q3c (g := (mkF m 8 #[va w_SUCCEEDED, va w_RUNNING] [(.ref w_SUCCEEDED)])) rfl (by rw [hml]; rfl) (Steps.refl _) (argsL := []) (rest := []) (lenOf pd_2 rfl) rfl (by show 2 * 0 + _ ≤ _; exact Nat.le_of_eq rfl) (hb hby d2_8) (fun _ _ => ⟨rfl, e2, (by decide : 2 + 0 ≤ _), (by decide : 20 + 0 ≤ _)⟩)
  dsimp only [Pt.U, Pt.locs, Pt.cells, Pt.slots] at X3 l3 y3 z3 st3 hQ3
  subst l3 y3 z3
  obtain ⟨rfl, Nq3, e3⟩ := hQ3
  have N3 := Fr.app N2 Nq3
  obtain ⟨fs, hr, hrun, hended, hRE⟩ := X3.leaveW (s := s) hS1 (by rw [e3]; exact hk1) (v := (some (.int 0))) (fun h => by rw [hrt] at h; cases h)
  refine ⟨_, _, ?_, hrun, hended, _, _, rfl, ?_, hRE.1, hRE.2.1, hRE.2.2.1, hRE.2.2.2.mono (by decide) (by decide)⟩
  · show Steps p.tables e below (s₁.setTop (mkF m 0 #[va w_SUCCEEDED, va w_RUNNING] [])) _
    refine XS.aloadN X0.here hx rfl (hb hby d2_0) rfl rfl ?_
    refine st1 _ ?_
    refine st2 _ ?_
    refine XS.pop X2.here hx rfl (hb hby d2_6) rfl rfl ?_
    refine XS.aloadN X2.here hx rfl (hb hby d2_7) rfl rfl ?_
    refine st3.trans ?_
    refine XS.tswIn X3.here hx rfl (pc0 := 11) (pc' := 113) rfl (hb hby d2_11) rfl (by decide) (o := 102) (by decide) (by decide) (by decide) ?_
    refine XS.iconst X3.here hx rfl (hb hby d2_113) ?_
    show Steps p.tables e below (T3.setTop (mkF m 114 #[va w_SUCCEEDED, va w_RUNNING] [(.int 0)])) _
    exact retN X3 hx (t := .boolean) hrt (by simp) (hb hby d2_114) hr
  · show Q2_11 Z w_QUEUED w_FAILED w_RUNNING w_CANCELLED w_SUCCEEDED  h0 n0 (some (.int 0)) T3.heap _
    rw [e3]; exact ⟨rfl, N3, K1⟩
def Q2_12 (Z : State) (w_QUEUED w_FAILED w_RUNNING w_CANCELLED w_SUCCEEDED : Addr) (h0 : Heap) (n0 : Nat) (v : Option Value) (h : Heap) (L : List Loc) : Prop := v = (some (.int 0)) ∧ Fr n0 L ∧ Keep h0 h []
theorem rm2_12 (l : Launch) (Z : State) (a0 : Array Value) (hw : HW Z a0) (ws : List Jvm.Cond) (w_QUEUED w_FAILED w_RUNNING w_CANCELLED w_SUCCEEDED : Addr) (h0 : Heap) (n0 : Nat) (O0 : Old Z n0 h0) (S : SF Z w_QUEUED w_FAILED w_RUNNING w_CANCELLED w_SUCCEEDED) :
    PayW l Z My2 ws prog_15_method_7_code 2 (some .boolean) #[(.ref w_SUCCEEDED), (.ref w_SUCCEEDED)] h0 ({ frames := 1, cells := 2, slots := 20, locals := 13 } : Room) (Q2_12 Z w_QUEUED w_FAILED w_RUNNING w_CANCELLED w_SUCCEEDED  h0 n0) := by
  obtain ⟨-, -, -, -, -, -, -, -, -, E_w_SUCCEEDED, -⟩ := id S
  refine own_body (plainFor_of_name pn_1) (L0 := #[va w_SUCCEEDED, va w_SUCCEEDED]) (fun _ => by first | rfl | (simp [entryFrame, mkF, argsToLocals, Value.category]; done)) ?_
  intro p e s m below meth c s₁ hrt hlk hx hby hml hZ hown0 hnm X0 e0
  have hown : s.vm.findClass sC0 = some m.cls := hown0
  have N0 := Fr.nil n0
  have K0 : Keep h0 h0 [] := Keep.refl _ _
  obtain ⟨a1, T1, h1, kk1, X1, e1, E1, hS1, hk1, hZ1, hown1, st1⟩ := ldcS (s := s) (vm0 := s.vm) X0 hx hZ hown (ww hw 15 rfl) (own_wS hw) e0 (k0 := 0) ((State.WarmedH.refl s).since 0) (Nat.zero_le _) (g := (mkF m 1 #[va w_SUCCEEDED, va w_SUCCEEDED] [(.ref w_SUCCEEDED)])) rfl (hb hby d2_1) (n := 16) (by decide +kernel) (by decide) (by decide) (by decide)
  have O1 := O0.ext E1
  have K1 : Keep h0 h1 [] := K0.ext E1
  obtain ⟨_, _, ⟨T2, L2, k2, n2⟩, -, X2, ⟨Lc2, hQ2, l2, y2, z2⟩, st2⟩ := Jvm.LawKit.callS X1 hx (y := My3) hown1 (mvT hZ1 (ww hw 23 rfl)) (mvT hZ1 (ww hw 24 rfl)) (mvT hZ1 (ww hw 25 rfl)) (mvT hZ1 (ww hw 26 rfl)) (by decide) (backOf (W := 0) (rm3_2 l Z a0 hw [] w_QUEUED w_FAILED w_RUNNING w_CANCELLED w_SUCCEEDED a1 h1 n0 O1 S) hZ1 (ww hw 26 rfl) (ww hw 25 rfl) (by decide) (by decide)) (g := (mkF m 3 #[va w_SUCCEEDED, va w_SUCCEEDED] [(.ref a1), (.ref w_SUCCEEDED)])) rfl (by rw [hml]; rfl) (argsL := [(.ref w_SUCCEEDED), (.ref a1)]) (rest := []) (lenOf pd_1 rfl) rfl (by show 2 * 0 + _ ≤ _; exact Nat.le_of_eq rfl) (hb hby d2_3) (fun _ _ => ⟨rfl, e1, (by decide : 2 + 0 ≤ _), (by decide : 20 + 0 ≤ _)⟩)
  dsimp only [Pt.U, Pt.locs, Pt.cells, Pt.slots] at X2 l2 y2 z2 st2 hQ2
  subst l2 y2 z2
  obtain ⟨rfl, Nq2, e2⟩ := hQ2
  have N2 := Fr.app N0 Nq2
  obtain ⟨cq3, kq3, q3a, q3b, q3c⟩ := isOf hZ1 e2 (E_w_SUCCEEDED.ext O1.2)
  obtain ⟨_, _, ⟨T3, L3, k3, n3⟩, -, X3, ⟨Lc3, hQ3, l3, y3, z3⟩, st3⟩ := X2.virtualBackUp hx (x := (⟨sC0, "ordinal", "()I"⟩ : MethodName)) (y := My4) (owner := sC2) hown1 (mvT hZ1 (ww hw 27 rfl)) (mvT hZ1 (ww hw 28 rfl)) (mvT hZ1 (ww hw 29 rfl)) (by decide) (mvT hZ1 (ww hw 31 rfl)) (mvT hZ1 (ww hw 30 rfl)) (backOf (W := 0) (rm4_2 l Z a0 hw [] w_QUEUED w_FAILED w_RUNNING w_CANCELLED w_SUCCEEDED h1 n0 O1 S) hZ1 (ww hw 33 rfl) (ww hw 32 rfl) (by decide) (by decide)) q3a q3c (g := (mkF m 8 #[va w_SUCCEEDED, va w_SUCCEEDED] [(.ref w_SUCCEEDED)])) rfl (by rw [hml]; rfl) (Steps.refl _) (argsL := []) (rest := []) (lenOf pd_2 rfl) rfl (by show 2 * 0 + _ ≤ _; exact Nat.le_of_eq rfl) (hb hby d2_8) (fun _ _ => ⟨rfl, e2, (by decide : 2 + 0 ≤ _), (by decide : 20 + 0 ≤ _)⟩)
  dsimp only [Pt.U, Pt.locs, Pt.cells, Pt.slots] at X3 l3 y3 z3 st3 hQ3
  subst l3 y3 z3
  obtain ⟨rfl, Nq3, e3⟩ := hQ3
  have N3 := Fr.app N2 Nq3
  obtain ⟨fs, hr, hrun, hended, hRE⟩ := X3.leaveW (s := s) hS1 (by rw [e3]; exact hk1) (v := (some (.int 0))) (fun h => by rw [hrt] at h; cases h)
  refine ⟨_, _, ?_, hrun, hended, _, _, rfl, ?_, hRE.1, hRE.2.1, hRE.2.2.1, hRE.2.2.2.mono (by decide) (by decide)⟩
  · show Steps p.tables e below (s₁.setTop (mkF m 0 #[va w_SUCCEEDED, va w_SUCCEEDED] [])) _
    refine XS.aloadN X0.here hx rfl (hb hby d2_0) rfl rfl ?_
    refine st1 _ ?_
    refine st2 _ ?_
    refine XS.pop X2.here hx rfl (hb hby d2_6) rfl rfl ?_
    refine XS.aloadN X2.here hx rfl (hb hby d2_7) rfl rfl ?_
    refine st3.trans ?_
    refine XS.tswIn X3.here hx rfl (pc0 := 11) (pc' := 113) rfl (hb hby d2_11) rfl (by decide) (o := 102) (by decide) (by decide) (by decide) ?_
    refine XS.iconst X3.here hx rfl (hb hby d2_113) ?_
    show Steps p.tables e below (T3.setTop (mkF m 114 #[va w_SUCCEEDED, va w_SUCCEEDED] [(.int 0)])) _
    exact retN X3 hx (t := .boolean) hrt (by simp) (hb hby d2_114) hr
  · show Q2_12 Z w_QUEUED w_FAILED w_RUNNING w_CANCELLED w_SUCCEEDED  h0 n0 (some (.int 0)) T3.heap _
    rw [e3]; exact ⟨rfl, N3, K1⟩
def Q2_13 (Z : State) (w_QUEUED w_FAILED w_RUNNING w_CANCELLED w_SUCCEEDED : Addr) (h0 : Heap) (n0 : Nat) (v : Option Value) (h : Heap) (L : List Loc) : Prop := v = (some (.int 0)) ∧ Fr n0 L ∧ Keep h0 h []
theorem rm2_13 (l : Launch) (Z : State) (a0 : Array Value) (hw : HW Z a0) (ws : List Jvm.Cond) (w_QUEUED w_FAILED w_RUNNING w_CANCELLED w_SUCCEEDED : Addr) (h0 : Heap) (n0 : Nat) (O0 : Old Z n0 h0) (S : SF Z w_QUEUED w_FAILED w_RUNNING w_CANCELLED w_SUCCEEDED) :
    PayW l Z My2 ws prog_15_method_7_code 2 (some .boolean) #[(.ref w_SUCCEEDED), (.ref w_FAILED)] h0 ({ frames := 1, cells := 2, slots := 20, locals := 13 } : Room) (Q2_13 Z w_QUEUED w_FAILED w_RUNNING w_CANCELLED w_SUCCEEDED  h0 n0) := by
  obtain ⟨-, -, -, -, -, -, -, -, -, E_w_SUCCEEDED, -⟩ := id S
  refine own_body (plainFor_of_name pn_1) (L0 := #[va w_SUCCEEDED, va w_FAILED]) (fun _ => by first | rfl | (simp [entryFrame, mkF, argsToLocals, Value.category]; done)) ?_
  intro p e s m below meth c s₁ hrt hlk hx hby hml hZ hown0 hnm X0 e0
  have hown : s.vm.findClass sC0 = some m.cls := hown0
  have N0 := Fr.nil n0
  have K0 : Keep h0 h0 [] := Keep.refl _ _
  obtain ⟨a1, T1, h1, kk1, X1, e1, E1, hS1, hk1, hZ1, hown1, st1⟩ := ldcS (s := s) (vm0 := s.vm) X0 hx hZ hown (ww hw 15 rfl) (own_wS hw) e0 (k0 := 0) ((State.WarmedH.refl s).since 0) (Nat.zero_le _) (g := (mkF m 1 #[va w_SUCCEEDED, va w_FAILED] [(.ref w_FAILED)])) rfl (hb hby d2_1) (n := 16) (by decide +kernel) (by decide) (by decide) (by decide)
  have O1 := O0.ext E1
  have K1 : Keep h0 h1 [] := K0.ext E1
  obtain ⟨_, _, ⟨T2, L2, k2, n2⟩, -, X2, ⟨Lc2, hQ2, l2, y2, z2⟩, st2⟩ := Jvm.LawKit.callS X1 hx (y := My3) hown1 (mvT hZ1 (ww hw 23 rfl)) (mvT hZ1 (ww hw 24 rfl)) (mvT hZ1 (ww hw 25 rfl)) (mvT hZ1 (ww hw 26 rfl)) (by decide) (backOf (W := 0) (rm3_3 l Z a0 hw [] w_QUEUED w_FAILED w_RUNNING w_CANCELLED w_SUCCEEDED a1 h1 n0 O1 S) hZ1 (ww hw 26 rfl) (ww hw 25 rfl) (by decide) (by decide)) (g := (mkF m 3 #[va w_SUCCEEDED, va w_FAILED] [(.ref a1), (.ref w_FAILED)])) rfl (by rw [hml]; rfl) (argsL := [(.ref w_FAILED), (.ref a1)]) (rest := []) (lenOf pd_1 rfl) rfl (by show 2 * 0 + _ ≤ _; exact Nat.le_of_eq rfl) (hb hby d2_3) (fun _ _ => ⟨rfl, e1, (by decide : 2 + 0 ≤ _), (by decide : 20 + 0 ≤ _)⟩)
  dsimp only [Pt.U, Pt.locs, Pt.cells, Pt.slots] at X2 l2 y2 z2 st2 hQ2
  subst l2 y2 z2
  obtain ⟨rfl, Nq2, e2⟩ := hQ2
  have N2 := Fr.app N0 Nq2
  obtain ⟨cq3, kq3, q3a, q3b, q3c⟩ := isOf hZ1 e2 (E_w_SUCCEEDED.ext O1.2)
  obtain ⟨_, _, ⟨T3, L3, k3, n3⟩, -, X3, ⟨Lc3, hQ3, l3, y3, z3⟩, st3⟩ := X2.virtualBackUp hx (x := (⟨sC0, "ordinal", "()I"⟩ : MethodName)) (y := My4) (owner := sC2) hown1 (mvT hZ1 (ww hw 27 rfl)) (mvT hZ1 (ww hw 28 rfl)) (mvT hZ1 (ww hw 29 rfl)) (by decide) (mvT hZ1 (ww hw 31 rfl)) (mvT hZ1 (ww hw 30 rfl)) (backOf (W := 0) (rm4_2 l Z a0 hw [] w_QUEUED w_FAILED w_RUNNING w_CANCELLED w_SUCCEEDED h1 n0 O1 S) hZ1 (ww hw 33 rfl) (ww hw 32 rfl) (by decide) (by decide)) q3a q3c (g := (mkF m 8 #[va w_SUCCEEDED, va w_FAILED] [(.ref w_SUCCEEDED)])) rfl (by rw [hml]; rfl) (Steps.refl _) (argsL := []) (rest := []) (lenOf pd_2 rfl) rfl (by show 2 * 0 + _ ≤ _; exact Nat.le_of_eq rfl) (hb hby d2_8) (fun _ _ => ⟨rfl, e2, (by decide : 2 + 0 ≤ _), (by decide : 20 + 0 ≤ _)⟩)
  dsimp only [Pt.U, Pt.locs, Pt.cells, Pt.slots] at X3 l3 y3 z3 st3 hQ3
  subst l3 y3 z3
  obtain ⟨rfl, Nq3, e3⟩ := hQ3
  have N3 := Fr.app N2 Nq3
  obtain ⟨fs, hr, hrun, hended, hRE⟩ := X3.leaveW (s := s) hS1 (by rw [e3]; exact hk1) (v := (some (.int 0))) (fun h => by rw [hrt] at h; cases h)
  refine ⟨_, _, ?_, hrun, hended, _, _, rfl, ?_, hRE.1, hRE.2.1, hRE.2.2.1, hRE.2.2.2.mono (by decide) (by decide)⟩
  · show Steps p.tables e below (s₁.setTop (mkF m 0 #[va w_SUCCEEDED, va w_FAILED] [])) _
    refine XS.aloadN X0.here hx rfl (hb hby d2_0) rfl rfl ?_
    refine st1 _ ?_
    refine st2 _ ?_
    refine XS.pop X2.here hx rfl (hb hby d2_6) rfl rfl ?_
    refine XS.aloadN X2.here hx rfl (hb hby d2_7) rfl rfl ?_
    refine st3.trans ?_
    refine XS.tswIn X3.here hx rfl (pc0 := 11) (pc' := 113) rfl (hb hby d2_11) rfl (by decide) (o := 102) (by decide) (by decide) (by decide) ?_
    refine XS.iconst X3.here hx rfl (hb hby d2_113) ?_
    show Steps p.tables e below (T3.setTop (mkF m 114 #[va w_SUCCEEDED, va w_FAILED] [(.int 0)])) _
    exact retN X3 hx (t := .boolean) hrt (by simp) (hb hby d2_114) hr
  · show Q2_13 Z w_QUEUED w_FAILED w_RUNNING w_CANCELLED w_SUCCEEDED  h0 n0 (some (.int 0)) T3.heap _
    rw [e3]; exact ⟨rfl, N3, K1⟩
def Q2_14 (Z : State) (w_QUEUED w_FAILED w_RUNNING w_CANCELLED w_SUCCEEDED : Addr) (h0 : Heap) (n0 : Nat) (v : Option Value) (h : Heap) (L : List Loc) : Prop := v = (some (.int 0)) ∧ Fr n0 L ∧ Keep h0 h []
theorem rm2_14 (l : Launch) (Z : State) (a0 : Array Value) (hw : HW Z a0) (ws : List Jvm.Cond) (w_QUEUED w_FAILED w_RUNNING w_CANCELLED w_SUCCEEDED : Addr) (h0 : Heap) (n0 : Nat) (O0 : Old Z n0 h0) (S : SF Z w_QUEUED w_FAILED w_RUNNING w_CANCELLED w_SUCCEEDED) :
    PayW l Z My2 ws prog_15_method_7_code 2 (some .boolean) #[(.ref w_SUCCEEDED), (.ref w_CANCELLED)] h0 ({ frames := 1, cells := 2, slots := 20, locals := 13 } : Room) (Q2_14 Z w_QUEUED w_FAILED w_RUNNING w_CANCELLED w_SUCCEEDED  h0 n0) := by
  obtain ⟨-, -, -, -, -, -, -, -, -, E_w_SUCCEEDED, -⟩ := id S
  refine own_body (plainFor_of_name pn_1) (L0 := #[va w_SUCCEEDED, va w_CANCELLED]) (fun _ => by first | rfl | (simp [entryFrame, mkF, argsToLocals, Value.category]; done)) ?_
  intro p e s m below meth c s₁ hrt hlk hx hby hml hZ hown0 hnm X0 e0
  have hown : s.vm.findClass sC0 = some m.cls := hown0
  have N0 := Fr.nil n0
  have K0 : Keep h0 h0 [] := Keep.refl _ _
  obtain ⟨a1, T1, h1, kk1, X1, e1, E1, hS1, hk1, hZ1, hown1, st1⟩ := ldcS (s := s) (vm0 := s.vm) X0 hx hZ hown (ww hw 15 rfl) (own_wS hw) e0 (k0 := 0) ((State.WarmedH.refl s).since 0) (Nat.zero_le _) (g := (mkF m 1 #[va w_SUCCEEDED, va w_CANCELLED] [(.ref w_CANCELLED)])) rfl (hb hby d2_1) (n := 16) (by decide +kernel) (by decide) (by decide) (by decide)
  have O1 := O0.ext E1
  have K1 : Keep h0 h1 [] := K0.ext E1
  obtain ⟨_, _, ⟨T2, L2, k2, n2⟩, -, X2, ⟨Lc2, hQ2, l2, y2, z2⟩, st2⟩ := Jvm.LawKit.callS X1 hx (y := My3) hown1 (mvT hZ1 (ww hw 23 rfl)) (mvT hZ1 (ww hw 24 rfl)) (mvT hZ1 (ww hw 25 rfl)) (mvT hZ1 (ww hw 26 rfl)) (by decide) (backOf (W := 0) (rm3_4 l Z a0 hw [] w_QUEUED w_FAILED w_RUNNING w_CANCELLED w_SUCCEEDED a1 h1 n0 O1 S) hZ1 (ww hw 26 rfl) (ww hw 25 rfl) (by decide) (by decide)) (g := (mkF m 3 #[va w_SUCCEEDED, va w_CANCELLED] [(.ref a1), (.ref w_CANCELLED)])) rfl (by rw [hml]; rfl) (argsL := [(.ref w_CANCELLED), (.ref a1)]) (rest := []) (lenOf pd_1 rfl) rfl (by show 2 * 0 + _ ≤ _; exact Nat.le_of_eq rfl) (hb hby d2_3) (fun _ _ => ⟨rfl, e1, (by decide : 2 + 0 ≤ _), (by decide : 20 + 0 ≤ _)⟩)
  dsimp only [Pt.U, Pt.locs, Pt.cells, Pt.slots] at X2 l2 y2 z2 st2 hQ2
  subst l2 y2 z2
  obtain ⟨rfl, Nq2, e2⟩ := hQ2
  have N2 := Fr.app N0 Nq2
  obtain ⟨cq3, kq3, q3a, q3b, q3c⟩ := isOf hZ1 e2 (E_w_SUCCEEDED.ext O1.2)
  obtain ⟨_, _, ⟨T3, L3, k3, n3⟩, -, X3, ⟨Lc3, hQ3, l3, y3, z3⟩, st3⟩ := X2.virtualBackUp hx (x := (⟨sC0, "ordinal", "()I"⟩ : MethodName)) (y := My4) (owner := sC2) hown1 (mvT hZ1 (ww hw 27 rfl)) (mvT hZ1 (ww hw 28 rfl)) (mvT hZ1 (ww hw 29 rfl)) (by decide) (mvT hZ1 (ww hw 31 rfl)) (mvT hZ1 (ww hw 30 rfl)) (backOf (W := 0) (rm4_2 l Z a0 hw [] w_QUEUED w_FAILED w_RUNNING w_CANCELLED w_SUCCEEDED h1 n0 O1 S) hZ1 (ww hw 33 rfl) (ww hw 32 rfl) (by decide) (by decide)) q3a q3c (g := (mkF m 8 #[va w_SUCCEEDED, va w_CANCELLED] [(.ref w_SUCCEEDED)])) rfl (by rw [hml]; rfl) (Steps.refl _) (argsL := []) (rest := []) (lenOf pd_2 rfl) rfl (by show 2 * 0 + _ ≤ _; exact Nat.le_of_eq rfl) (hb hby d2_8) (fun _ _ => ⟨rfl, e2, (by decide : 2 + 0 ≤ _), (by decide : 20 + 0 ≤ _)⟩)
  dsimp only [Pt.U, Pt.locs, Pt.cells, Pt.slots] at X3 l3 y3 z3 st3 hQ3
  subst l3 y3 z3
  obtain ⟨rfl, Nq3, e3⟩ := hQ3
  have N3 := Fr.app N2 Nq3
  obtain ⟨fs, hr, hrun, hended, hRE⟩ := X3.leaveW (s := s) hS1 (by rw [e3]; exact hk1) (v := (some (.int 0))) (fun h => by rw [hrt] at h; cases h)
  refine ⟨_, _, ?_, hrun, hended, _, _, rfl, ?_, hRE.1, hRE.2.1, hRE.2.2.1, hRE.2.2.2.mono (by decide) (by decide)⟩
  · show Steps p.tables e below (s₁.setTop (mkF m 0 #[va w_SUCCEEDED, va w_CANCELLED] [])) _
    refine XS.aloadN X0.here hx rfl (hb hby d2_0) rfl rfl ?_
    refine st1 _ ?_
    refine st2 _ ?_
    refine XS.pop X2.here hx rfl (hb hby d2_6) rfl rfl ?_
    refine XS.aloadN X2.here hx rfl (hb hby d2_7) rfl rfl ?_
    refine st3.trans ?_
    refine XS.tswIn X3.here hx rfl (pc0 := 11) (pc' := 113) rfl (hb hby d2_11) rfl (by decide) (o := 102) (by decide) (by decide) (by decide) ?_
    refine XS.iconst X3.here hx rfl (hb hby d2_113) ?_
    show Steps p.tables e below (T3.setTop (mkF m 114 #[va w_SUCCEEDED, va w_CANCELLED] [(.int 0)])) _
    exact retN X3 hx (t := .boolean) hrt (by simp) (hb hby d2_114) hr
  · show Q2_14 Z w_QUEUED w_FAILED w_RUNNING w_CANCELLED w_SUCCEEDED  h0 n0 (some (.int 0)) T3.heap _
    rw [e3]; exact ⟨rfl, N3, K1⟩
def Q4_3 (Z : State) (w_QUEUED w_FAILED w_RUNNING w_CANCELLED w_SUCCEEDED : Addr) (h0 : Heap) (n0 : Nat) (v : Option Value) (h : Heap) (L : List Loc) : Prop := v = (some (.int 3)) ∧ Fr n0 L ∧ h = h0
theorem rm4_3 (l : Launch) (Z : State) (a0 : Array Value) (hw : HW Z a0) (ws : List Jvm.Cond) (w_QUEUED w_FAILED w_RUNNING w_CANCELLED w_SUCCEEDED : Addr) (h0 : Heap) (n0 : Nat) (O0 : Old Z n0 h0) (S : SF Z w_QUEUED w_FAILED w_RUNNING w_CANCELLED w_SUCCEEDED) :
    Pay l Z My4 ws jdk_37_method_2_code 1 (some .int) #[(.ref w_FAILED)] h0 ({ frames := 0, cells := 0, slots := 0, locals := 0 } : Room) (Q4_3 Z w_QUEUED w_FAILED w_RUNNING w_CANCELLED w_SUCCEEDED  h0 n0) := by
  obtain ⟨-, -, -, -, -, -, -, -, -, -, -, F_ordinal_w_FAILED, -⟩ := id S
  refine own_body (plainFor_of_name pn_3) (L0 := #[va w_FAILED]) (fun _ => by first | rfl | (simp [entryFrame, mkF, argsToLocals, Value.category]; done)) ?_
  intro p e s m below meth c s₁ hrt hlk hx hby hml hZ hown0 hnm X0 e0
  have hown : s.vm.findClass sC2 = some m.cls := hown0
  have N0 := Fr.nil n0
  have K0 : Keep h0 h0 [] := Keep.refl _ _
  obtain ⟨T1, X1, e1, st1⟩ := getF X0 hx hZ hown (host := "") (Or.inl (ww hw 34 rfl)) Via.refl e0 (F_ordinal_w_FAILED.ext O0.2) (g := (mkF m 1 #[va w_FAILED] [(.ref w_FAILED)])) rfl rfl (hb hby d4_1)
  obtain ⟨fs, hr, hrun, hended, hW, hsame⟩ := X1.leave (v := (some (.int 3))) (fun h => by rw [hrt] at h; cases h)
  refine ⟨_, _, ?_, hrun, hended, _, _, rfl, ?_, ⟨_, rfl⟩, hW, hsame.mono (by decide) (by decide)⟩
  · show Steps p.tables e below (s₁.setTop (mkF m 0 #[va w_FAILED] [])) _
    refine XS.aloadN X0.here hx rfl (hb hby d4_0) rfl rfl ?_
    refine st1 _ ?_
    exact retOut X1 hx (t := .int) (i := .ireturn) hrt rfl (Or.inl ⟨rfl, Or.inl rfl, _, rfl⟩) (hb hby d4_4) hr
  · show Q4_3 Z w_QUEUED w_FAILED w_RUNNING w_CANCELLED w_SUCCEEDED  h0 n0 (some (.int 3)) T1.heap _
    exact (⟨rfl, N0, e1⟩)
theorem d2_98 : decode prog_15_method_7_code 98 = .ok (.aload_n 1, 1) := by decide +kernel
theorem d2_99 : decode prog_15_method_7_code 99 = .ok (.getstatic 3, 3) := by decide +kernel
theorem d2_102 : decode prog_15_method_7_code 102 = .ok (.if_acmp .ne 7, 3) := by decide +kernel
theorem d2_105 : decode prog_15_method_7_code 105 = .ok (.iconst 1, 1) := by decide +kernel
theorem d2_106 : decode prog_15_method_7_code 106 = .ok (.goto 8, 3) := by decide +kernel
def Q2_15 (Z : State) (w_QUEUED w_FAILED w_RUNNING w_CANCELLED w_SUCCEEDED : Addr) (h0 : Heap) (n0 : Nat) (v : Option Value) (h : Heap) (L : List Loc) : Prop := v = (some (.int 1)) ∧ Fr n0 L ∧ Keep h0 h []
theorem rm2_15 (l : Launch) (Z : State) (a0 : Array Value) (hw : HW Z a0) (ws : List Jvm.Cond) (w_QUEUED w_FAILED w_RUNNING w_CANCELLED w_SUCCEEDED : Addr) (h0 : Heap) (n0 : Nat) (O0 : Old Z n0 h0) (S : SF Z w_QUEUED w_FAILED w_RUNNING w_CANCELLED w_SUCCEEDED) :
    PayW l Z My2 ws prog_15_method_7_code 2 (some .boolean) #[(.ref w_FAILED), (.ref w_QUEUED)] h0 ({ frames := 1, cells := 2, slots := 20, locals := 13 } : Room) (Q2_15 Z w_QUEUED w_FAILED w_RUNNING w_CANCELLED w_SUCCEEDED  h0 n0) := by
  obtain ⟨S_w_QUEUED, -, -, E_w_FAILED, -⟩ := id S
  refine own_body (plainFor_of_name pn_1) (L0 := #[va w_FAILED, va w_QUEUED]) (fun _ => by first | rfl | (simp [entryFrame, mkF, argsToLocals, Value.category]; done)) ?_
  intro p e s m below meth c s₁ hrt hlk hx hby hml hZ hown0 hnm X0 e0
  have hown : s.vm.findClass sC0 = some m.cls := hown0
  have N0 := Fr.nil n0
  have K0 : Keep h0 h0 [] := Keep.refl _ _
  obtain ⟨a1, T1, h1, kk1, X1, e1, E1, hS1, hk1, hZ1, hown1, st1⟩ := ldcS (s := s) (vm0 := s.vm) X0 hx hZ hown (ww hw 15 rfl) (own_wS hw) e0 (k0 := 0) ((State.WarmedH.refl s).since 0) (Nat.zero_le _) (g := (mkF m 1 #[va w_FAILED, va w_QUEUED] [(.ref w_QUEUED)])) rfl (hb hby d2_1) (n := 16) (by decide +kernel) (by decide) (by decide) (by decide)
  have O1 := O0.ext E1
  have K1 : Keep h0 h1 [] := K0.ext E1
  obtain ⟨_, _, ⟨T2, L2, k2, n2⟩, -, X2, ⟨Lc2, hQ2, l2, y2, z2⟩, st2⟩ := Jvm.LawKit.callS X1 hx (y := My3) hown1 (mvT hZ1 (ww hw 23 rfl)) (mvT hZ1 (ww hw 24 rfl)) (mvT hZ1 (ww hw 25 rfl)) (mvT hZ1 (ww hw 26 rfl)) (by decide) (backOf (W := 0) (rm3_0 l Z a0 hw [] w_QUEUED w_FAILED w_RUNNING w_CANCELLED w_SUCCEEDED a1 h1 n0 O1 S) hZ1 (ww hw 26 rfl) (ww hw 25 rfl) (by decide) (by decide)) (g := (mkF m 3 #[va w_FAILED, va w_QUEUED] [(.ref a1), (.ref w_QUEUED)])) rfl (by rw [hml]; rfl) (argsL := [(.ref w_QUEUED), (.ref a1)]) (rest := []) (lenOf pd_1 rfl) rfl (by show 2 * 0 + _ ≤ _; exact Nat.le_of_eq rfl) (hb hby d2_3) (fun _ _ => ⟨rfl, e1, (by decide : 2 + 0 ≤ _), (by decide : 20 + 0 ≤ _)⟩)
  dsimp only [Pt.U, Pt.locs, Pt.cells, Pt.slots] at X2 l2 y2 z2 st2 hQ2
  subst l2 y2 z2
  obtain ⟨rfl, Nq2, e2⟩ := hQ2
  have N2 := Fr.app N0 Nq2
  obtain ⟨cq3, kq3, q3a, q3b, q3c⟩ := isOf hZ1 e2 (E_w_FAILED.ext O1.2)
  obtain ⟨_, _, ⟨T3, L3, k3, n3⟩, -, X3, ⟨Lc3, hQ3, l3, y3, z3⟩, st3⟩ := X2.virtualBackUp hx (x := (⟨sC0, "ordinal", "()I"⟩ : MethodName)) (y := My4) (owner := sC2) hown1 (mvT hZ1 (ww hw 27 rfl)) (mvT hZ1 (ww hw 28 rfl)) (mvT hZ1 (ww hw 29 rfl)) (by decide) (mvT hZ1 (ww hw 31 rfl)) (mvT hZ1 (ww hw 30 rfl)) (backOf (W := 0) (rm4_3 l Z a0 hw [] w_QUEUED w_FAILED w_RUNNING w_CANCELLED w_SUCCEEDED h1 n0 O1 S) hZ1 (ww hw 33 rfl) (ww hw 32 rfl) (by decide) (by decide)) q3a q3c (g := (mkF m 8 #[va w_FAILED, va w_QUEUED] [(.ref w_FAILED)])) rfl (by rw [hml]; rfl) (Steps.refl _) (argsL := []) (rest := []) (lenOf pd_2 rfl) rfl (by show 2 * 0 + _ ≤ _; exact Nat.le_of_eq rfl) (hb hby d2_8) (fun _ _ => ⟨rfl, e2, (by decide : 2 + 0 ≤ _), (by decide : 20 + 0 ≤ _)⟩)
  dsimp only [Pt.U, Pt.locs, Pt.cells, Pt.slots] at X3 l3 y3 z3 st3 hQ3
  subst l3 y3 z3
  obtain ⟨rfl, Nq3, e3⟩ := hQ3
  have N3 := Fr.app N2 Nq3
  obtain ⟨T4, X4, e4, st4⟩ := getS2 X3 hx hZ1 hown1 (host := "") (Or.inl (ww hw 45 rfl)) Via.refl e3 (S_w_QUEUED.ext O1.2) (g := (mkF m 99 #[va w_FAILED, va w_QUEUED] [(.ref w_QUEUED)])) rfl (hb hby d2_99)
  obtain ⟨fs, hr, hrun, hended, hRE⟩ := X4.leaveW (s := s) hS1 (by rw [e4]; exact hk1) (v := (some (.int 1))) (fun h => by rw [hrt] at h; cases h)
  refine ⟨_, _, ?_, hrun, hended, _, _, rfl, ?_, hRE.1, hRE.2.1, hRE.2.2.1, hRE.2.2.2.mono (by decide) (by decide)⟩
  · show Steps p.tables e below (s₁.setTop (mkF m 0 #[va w_FAILED, va w_QUEUED] [])) _
    refine XS.aloadN X0.here hx rfl (hb hby d2_0) rfl rfl ?_
    refine st1 _ ?_
    refine st2 _ ?_
    refine XS.pop X2.here hx rfl (hb hby d2_6) rfl rfl ?_
    refine XS.aloadN X2.here hx rfl (hb hby d2_7) rfl rfl ?_
    refine st3.trans ?_
    refine XS.tswIn X3.here hx rfl (pc0 := 11) (pc' := 98) rfl (hb hby d2_11) rfl (by decide) (o := 87) (by decide) (by decide) (by decide) ?_
    refine XS.aloadN X3.here hx rfl (hb hby d2_98) rfl rfl ?_
    show Steps p.tables e below (T3.setTop (mkF m 99 #[va w_FAILED, va w_QUEUED] [(.ref w_QUEUED)])) _
    refine st4 _ ?_
    refine Jvm.RoadKit.acmp (g := (mkF m 102 #[va w_FAILED, va w_QUEUED] [(.ref w_QUEUED), (.ref w_QUEUED)])) X4 hx rfl rfl rfl (pc0 := 102) (pc' := 105) (same := true) rfl (hb hby d2_102) rfl (decide_eq_true rfl) (by decide) (by decide) ?_
    refine XS.iconst X4.here hx rfl (hb hby d2_105) ?_
    refine XS.goto X4.here hx rfl (pc0 := 106) (pc' := 114) rfl (hb hby d2_106) (by decide) (by decide) ?_
    exact retN X4 hx (t := .boolean) hrt (by simp) (hb hby d2_114) hr
  · show Q2_15 Z w_QUEUED w_FAILED w_RUNNING w_CANCELLED w_SUCCEEDED  h0 n0 (some (.int 1)) T4.heap _
    rw [e4]; exact ⟨rfl, N3, K1⟩
theorem d5_55 : decode method_3_code 55 = .ok (.iload_n 1, 1) := by decide +kernel
theorem d5_56 : decode method_3_code 56 = .ok (.ifCond .ne 7, 3) := by decide +kernel
theorem d5_59 : decode method_3_code 59 = .ok (.iconst 1, 1) := by decide +kernel
theorem d5_60 : decode method_3_code 60 = .ok (.goto 4, 3) := by decide +kernel
theorem d5_64 : decode method_3_code 64 = .ok (.ireturn, 1) := by decide +kernel
def Q5_9 (Z : State) (w_QUEUED w_FAILED w_RUNNING w_CANCELLED w_SUCCEEDED : Addr) (p0 : Int32) (p1 : Int32) (h0 : Heap) (n0 : Nat) (v : Option Value) (h : Heap) (L : List Loc) : Prop := v = (some (.int 1)) ∧ Fr n0 L ∧ h = h0
theorem rm5_9 (l : Launch) (Z : State) (a0 : Array Value) (hw : HW Z a0) (ws : List Jvm.Cond) (w_QUEUED w_FAILED w_RUNNING w_CANCELLED w_SUCCEEDED : Addr) (p0 : Int32) (p1 : Int32) (h0 : Heap) (n0 : Nat) (O0 : Old Z n0 h0) (S : SF Z w_QUEUED w_FAILED w_RUNNING w_CANCELLED w_SUCCEEDED) (hc0 : ¬ (p0 = (0 : Int32))) (hc1 : ¬ (p0 = (1 : Int32))) (hc2 : p0 = (3 : Int32)) (hc3 : p1 = (0 : Int32)) :
    Pay l Z My5 ws method_3_code 2 (some .boolean) #[(.int p0), (.int p1)] h0 ({ frames := 0, cells := 0, slots := 0, locals := 0 } : Room) (Q5_9 Z w_QUEUED w_FAILED w_RUNNING w_CANCELLED w_SUCCEEDED p0 p1 h0 n0) := by
  refine own_body (plainFor_of_name pn_0) (L0 := #[vi p0, vi p1]) (fun _ => by first | rfl | (simp [entryFrame, mkF, argsToLocals, Value.category]; done)) ?_
  intro p e s m below meth c s₁ hrt hlk hx hby hml hZ hown0 hnm X0 e0
  have hown : s.vm.findClass sC1 = some m.cls := hown0
  have N0 := Fr.nil n0
  have K0 : Keep h0 h0 [] := Keep.refl _ _
  obtain ⟨fs, hr, hrun, hended, hW, hsame⟩ := X0.leave (v := (some (.int 1))) (fun h => by rw [hrt] at h; cases h)
  refine ⟨_, _, ?_, hrun, hended, _, _, rfl, ?_, ⟨_, rfl⟩, hW, hsame.mono (by decide) (by decide)⟩
  · show Steps p.tables e below (s₁.setTop (mkF m 0 #[vi p0, vi p1] [])) _
    refine XS.iloadN X0.here hx rfl (hb hby d5_0) rfl ?_
    refine XS.ifYes X0.here hx rfl (pc0 := 1) (pc' := 20) rfl (hb hby d5_1) rfl ((if0 _ _).trans (feq hc0).2) (by decide) (by decide) ?_
    refine XS.iloadN X0.here hx rfl (hb hby d5_20) rfl ?_
    refine XS.iconst X0.here hx rfl (hb hby d5_21) ?_
    refine XS.icmpYes X0.here hx rfl (pc0 := 22) (pc' := 50) rfl (hb hby d5_22) rfl (feq hc1).2 (by decide) (by decide) ?_
    refine XS.iloadN X0.here hx rfl (hb hby d5_50) rfl ?_
    refine XS.iconst X0.here hx rfl (hb hby d5_51) ?_
    refine XS.icmpNo X0.here hx rfl (hb hby d5_52) rfl (teq hc2).2 ?_
    show Steps p.tables e below (s₁.setTop (mkF m 55 #[vi p0, vi p1] [])) _
    refine XS.iloadN X0.here hx rfl (hb hby d5_55) rfl ?_
    refine XS.ifNo X0.here hx rfl (hb hby d5_56) rfl ((if0 _ _).trans (teq hc3).2) ?_
    refine XS.iconst X0.here hx rfl (hb hby d5_59) ?_
    refine XS.goto X0.here hx rfl (pc0 := 60) (pc' := 64) rfl (hb hby d5_60) (by decide) (by decide) ?_
    exact retN X0 hx (t := .boolean) hrt (by simp) (hb hby d5_64) hr
  · show Q5_9 Z w_QUEUED w_FAILED w_RUNNING w_CANCELLED w_SUCCEEDED p0 p1 h0 n0 (some (.int 1)) s₁.heap _
    exact (⟨rfl, N0, e0⟩)
theorem d2_109 : decode prog_15_method_7_code 109 = .ok (.iconst 0, 1) := by decide +kernel
theorem d2_110 : decode prog_15_method_7_code 110 = .ok (.goto 4, 3) := by decide +kernel
def Q2_16 (Z : State) (w_QUEUED w_FAILED w_RUNNING w_CANCELLED w_SUCCEEDED : Addr) (h0 : Heap) (n0 : Nat) (v : Option Value) (h : Heap) (L : List Loc) : Prop := v = (some (.int 0)) ∧ Fr n0 L ∧ Keep h0 h []
theorem rm2_16 (l : Launch) (Z : State) (a0 : Array Value) (hw : HW Z a0) (ws : List Jvm.Cond) (w_QUEUED w_FAILED w_RUNNING w_CANCELLED w_SUCCEEDED : Addr) (h0 : Heap) (n0 : Nat) (O0 : Old Z n0 h0) (S : SF Z w_QUEUED w_FAILED w_RUNNING w_CANCELLED w_SUCCEEDED) :
    PayW l Z My2 ws prog_15_method_7_code 2 (some .boolean) #[(.ref w_FAILED), (.ref w_RUNNING)] h0 ({ frames := 1, cells := 2, slots := 20, locals := 13 } : Room) (Q2_16 Z w_QUEUED w_FAILED w_RUNNING w_CANCELLED w_SUCCEEDED  h0 n0) := by
  obtain ⟨S_w_QUEUED, -, -, E_w_FAILED, -, -, -, -, -, -, -, -, -, -, -, -, hne_w_QUEUED_w_RUNNING, -⟩ := id S
  refine own_body (plainFor_of_name pn_1) (L0 := #[va w_FAILED, va w_RUNNING]) (fun _ => by first | rfl | (simp [entryFrame, mkF, argsToLocals, Value.category]; done)) ?_
  intro p e s m below meth c s₁ hrt hlk hx hby hml hZ hown0 hnm X0 e0
  have hown : s.vm.findClass sC0 = some m.cls := hown0
  have N0 := Fr.nil n0
  have K0 : Keep h0 h0 [] := Keep.refl _ _
  obtain ⟨a1, T1, h1, kk1, X1, e1, E1, hS1, hk1, hZ1, hown1, st1⟩ := ldcS (s := s) (vm0 := s.vm) X0 hx hZ hown (ww hw 15 rfl) (own_wS hw) e0 (k0 := 0) ((State.WarmedH.refl s).since 0) (Nat.zero_le _) (g := (mkF m 1 #[va w_FAILED, va w_RUNNING] [(.ref w_RUNNING)])) rfl (hb hby d2_1) (n := 16) (by decide +kernel) (by decide) (by decide) (by decide)
  have O1 := O0.ext E1
  have K1 : Keep h0 h1 [] := K0.ext E1
  obtain ⟨_, _, ⟨T2, L2, k2, n2⟩, -, X2, ⟨Lc2, hQ2, l2, y2, z2⟩, st2⟩ := Jvm.LawKit.callS X1 hx (y := My3) hown1 (mvT hZ1 (ww hw 23 rfl)) (mvT hZ1 (ww hw 24 rfl)) (mvT hZ1 (ww hw 25 rfl)) (mvT hZ1 (ww hw 26 rfl)) (by decide) (backOf (W := 0) (rm3_1 l Z a0 hw [] w_QUEUED w_FAILED w_RUNNING w_CANCELLED w_SUCCEEDED a1 h1 n0 O1 S) hZ1 (ww hw 26 rfl) (ww hw 25 rfl) (by decide) (by decide)) (g := (mkF m 3 #[va w_FAILED, va w_RUNNING] [(.ref a1), (.ref w_RUNNING)])) rfl (by rw [hml]; rfl) (argsL := [(.ref w_RUNNING), (.ref a1)]) (rest := []) (lenOf pd_1 rfl) rfl (by show 2 * 0 + _ ≤ _; exact Nat.le_of_eq rfl) (hb hby d2_3) (fun _ _ => ⟨rfl, e1, (by decide : 2 + 0 ≤ _), (by decide : 20 + 0 ≤ _)⟩)
  dsimp only [Pt.U, Pt.locs, Pt.cells, Pt.slots] at X2 l2 y2 z2 st2 hQ2
  subst l2 y2 z2
  obtain ⟨rfl, Nq2, e2⟩ := hQ2
  have N2 := Fr.app N0 Nq2
  obtain ⟨cq3, kq3, q3a, q3b, q3c⟩ := isOf hZ1 e2 (E_w_FAILED.ext O1.2)
  obtain ⟨_, _, ⟨T3, L3, k3, n3⟩, -, X3, ⟨Lc3, hQ3, l3, y3, z3⟩, st3⟩ := X2.virtualBackUp hx (x := (⟨sC0, "ordinal", "()I"⟩ : MethodName)) (y := My4) (owner := sC2) hown1 (mvT hZ1 (ww hw 27 rfl)) (mvT hZ1 (ww hw 28 rfl)) (mvT hZ1 (ww hw 29 rfl)) (by decide) (mvT hZ1 (ww hw 31 rfl)) (mvT hZ1 (ww hw 30 rfl)) (backOf (W := 0) (rm4_3 l Z a0 hw [] w_QUEUED w_FAILED w_RUNNING w_CANCELLED w_SUCCEEDED h1 n0 O1 S) hZ1 (ww hw 33 rfl) (ww hw 32 rfl) (by decide) (by decide)) q3a q3c (g := (mkF m 8 #[va w_FAILED, va w_RUNNING] [(.ref w_FAILED)])) rfl (by rw [hml]; rfl) (Steps.refl _) (argsL := []) (rest := []) (lenOf pd_2 rfl) rfl (by show 2 * 0 + _ ≤ _; exact Nat.le_of_eq rfl) (hb hby d2_8) (fun _ _ => ⟨rfl, e2, (by decide : 2 + 0 ≤ _), (by decide : 20 + 0 ≤ _)⟩)
  dsimp only [Pt.U, Pt.locs, Pt.cells, Pt.slots] at X3 l3 y3 z3 st3 hQ3
  subst l3 y3 z3
  obtain ⟨rfl, Nq3, e3⟩ := hQ3
  have N3 := Fr.app N2 Nq3
  obtain ⟨T4, X4, e4, st4⟩ := getS2 X3 hx hZ1 hown1 (host := "") (Or.inl (ww hw 45 rfl)) Via.refl e3 (S_w_QUEUED.ext O1.2) (g := (mkF m 99 #[va w_FAILED, va w_RUNNING] [(.ref w_RUNNING)])) rfl (hb hby d2_99)
  obtain ⟨fs, hr, hrun, hended, hRE⟩ := X4.leaveW (s := s) hS1 (by rw [e4]; exact hk1) (v := (some (.int 0))) (fun h => by rw [hrt] at h; cases h)
  refine ⟨_, _, ?_, hrun, hended, _, _, rfl, ?_, hRE.1, hRE.2.1, hRE.2.2.1, hRE.2.2.2.mono (by decide) (by decide)⟩
  · show Steps p.tables e below (s₁.setTop (mkF m 0 #[va w_FAILED, va w_RUNNING] [])) _
    refine XS.aloadN X0.here hx rfl (hb hby d2_0) rfl rfl ?_
    refine st1 _ ?_
    refine st2 _ ?_
    refine XS.pop X2.here hx rfl (hb hby d2_6) rfl rfl ?_
    refine XS.aloadN X2.here hx rfl (hb hby d2_7) rfl rfl ?_
    refine st3.trans ?_
    refine XS.tswIn X3.here hx rfl (pc0 := 11) (pc' := 98) rfl (hb hby d2_11) rfl (by decide) (o := 87) (by decide) (by decide) (by decide) ?_
    refine XS.aloadN X3.here hx rfl (hb hby d2_98) rfl rfl ?_
    show Steps p.tables e below (T3.setTop (mkF m 99 #[va w_FAILED, va w_RUNNING] [(.ref w_RUNNING)])) _
    refine st4 _ ?_
    refine Jvm.RoadKit.acmp (g := (mkF m 102 #[va w_FAILED, va w_RUNNING] [(.ref w_QUEUED), (.ref w_RUNNING)])) X4 hx rfl rfl rfl (pc0 := 102) (pc' := 109) (same := false) rfl (hb hby d2_102) rfl (decide_eq_false fun q => (Ne.symm hne_w_QUEUED_w_RUNNING) (Value.ref.inj q)) (by decide) (by decide) ?_
    refine XS.iconst X4.here hx rfl (hb hby d2_109) ?_
    refine XS.goto X4.here hx rfl (pc0 := 110) (pc' := 114) rfl (hb hby d2_110) (by decide) (by decide) ?_
    exact retN X4 hx (t := .boolean) hrt (by simp) (hb hby d2_114) hr
  · show Q2_16 Z w_QUEUED w_FAILED w_RUNNING w_CANCELLED w_SUCCEEDED  h0 n0 (some (.int 0)) T4.heap _
    rw [e4]; exact ⟨rfl, N3, K1⟩
theorem d5_63 : decode method_3_code 63 = .ok (.iconst 0, 1) := by decide +kernel
def Q5_10 (Z : State) (w_QUEUED w_FAILED w_RUNNING w_CANCELLED w_SUCCEEDED : Addr) (p0 : Int32) (p1 : Int32) (h0 : Heap) (n0 : Nat) (v : Option Value) (h : Heap) (L : List Loc) : Prop := v = (some (.int 0)) ∧ Fr n0 L ∧ h = h0
theorem rm5_10 (l : Launch) (Z : State) (a0 : Array Value) (hw : HW Z a0) (ws : List Jvm.Cond) (w_QUEUED w_FAILED w_RUNNING w_CANCELLED w_SUCCEEDED : Addr) (p0 : Int32) (p1 : Int32) (h0 : Heap) (n0 : Nat) (O0 : Old Z n0 h0) (S : SF Z w_QUEUED w_FAILED w_RUNNING w_CANCELLED w_SUCCEEDED) (hc0 : ¬ (p0 = (0 : Int32))) (hc1 : ¬ (p0 = (1 : Int32))) (hc2 : p0 = (3 : Int32)) (hc3 : ¬ (p1 = (0 : Int32))) :
    Pay l Z My5 ws method_3_code 2 (some .boolean) #[(.int p0), (.int p1)] h0 ({ frames := 0, cells := 0, slots := 0, locals := 0 } : Room) (Q5_10 Z w_QUEUED w_FAILED w_RUNNING w_CANCELLED w_SUCCEEDED p0 p1 h0 n0) := by
  refine own_body (plainFor_of_name pn_0) (L0 := #[vi p0, vi p1]) (fun _ => by first | rfl | (simp [entryFrame, mkF, argsToLocals, Value.category]; done)) ?_
  intro p e s m below meth c s₁ hrt hlk hx hby hml hZ hown0 hnm X0 e0
  have hown : s.vm.findClass sC1 = some m.cls := hown0
  have N0 := Fr.nil n0
  have K0 : Keep h0 h0 [] := Keep.refl _ _
  obtain ⟨fs, hr, hrun, hended, hW, hsame⟩ := X0.leave (v := (some (.int 0))) (fun h => by rw [hrt] at h; cases h)
  refine ⟨_, _, ?_, hrun, hended, _, _, rfl, ?_, ⟨_, rfl⟩, hW, hsame.mono (by decide) (by decide)⟩
  · show Steps p.tables e below (s₁.setTop (mkF m 0 #[vi p0, vi p1] [])) _
    refine XS.iloadN X0.here hx rfl (hb hby d5_0) rfl ?_
    refine XS.ifYes X0.here hx rfl (pc0 := 1) (pc' := 20) rfl (hb hby d5_1) rfl ((if0 _ _).trans (feq hc0).2) (by decide) (by decide) ?_
    refine XS.iloadN X0.here hx rfl (hb hby d5_20) rfl ?_
    refine XS.iconst X0.here hx rfl (hb hby d5_21) ?_
    refine XS.icmpYes X0.here hx rfl (pc0 := 22) (pc' := 50) rfl (hb hby d5_22) rfl (feq hc1).2 (by decide) (by decide) ?_
    refine XS.iloadN X0.here hx rfl (hb hby d5_50) rfl ?_
    refine XS.iconst X0.here hx rfl (hb hby d5_51) ?_
    refine XS.icmpNo X0.here hx rfl (hb hby d5_52) rfl (teq hc2).2 ?_
    show Steps p.tables e below (s₁.setTop (mkF m 55 #[vi p0, vi p1] [])) _
    refine XS.iloadN X0.here hx rfl (hb hby d5_55) rfl ?_
    refine XS.ifYes X0.here hx rfl (pc0 := 56) (pc' := 63) rfl (hb hby d5_56) rfl ((if0 _ _).trans (feq hc3).2) (by decide) (by decide) ?_
    refine XS.iconst X0.here hx rfl (hb hby d5_63) ?_
    exact retN X0 hx (t := .boolean) hrt (by simp) (hb hby d5_64) hr
  · show Q5_10 Z w_QUEUED w_FAILED w_RUNNING w_CANCELLED w_SUCCEEDED p0 p1 h0 n0 (some (.int 0)) s₁.heap _
    exact (⟨rfl, N0, e0⟩)
def Q2_17 (Z : State) (w_QUEUED w_FAILED w_RUNNING w_CANCELLED w_SUCCEEDED : Addr) (h0 : Heap) (n0 : Nat) (v : Option Value) (h : Heap) (L : List Loc) : Prop := v = (some (.int 0)) ∧ Fr n0 L ∧ Keep h0 h []
theorem rm2_17 (l : Launch) (Z : State) (a0 : Array Value) (hw : HW Z a0) (ws : List Jvm.Cond) (w_QUEUED w_FAILED w_RUNNING w_CANCELLED w_SUCCEEDED : Addr) (h0 : Heap) (n0 : Nat) (O0 : Old Z n0 h0) (S : SF Z w_QUEUED w_FAILED w_RUNNING w_CANCELLED w_SUCCEEDED) :
    PayW l Z My2 ws prog_15_method_7_code 2 (some .boolean) #[(.ref w_FAILED), (.ref w_SUCCEEDED)] h0 ({ frames := 1, cells := 2, slots := 20, locals := 13 } : Room) (Q2_17 Z w_QUEUED w_FAILED w_RUNNING w_CANCELLED w_SUCCEEDED  h0 n0) := by
  obtain ⟨S_w_QUEUED, -, -, E_w_FAILED, -, -, -, -, -, -, -, -, -, -, -, -, -, -, hne_w_QUEUED_w_SUCCEEDED, -⟩ := id S
  refine own_body (plainFor_of_name pn_1) (L0 := #[va w_FAILED, va w_SUCCEEDED]) (fun _ => by first | rfl | (simp [entryFrame, mkF, argsToLocals, Value.category]; done)) ?_
  intro p e s m below meth c s₁ hrt hlk hx hby hml hZ hown0 hnm X0 e0
  have hown : s.vm.findClass sC0 = some m.cls := hown0
  have N0 := Fr.nil n0
  have K0 : Keep h0 h0 [] := Keep.refl _ _
  obtain ⟨a1, T1, h1, kk1, X1, e1, E1, hS1, hk1, hZ1, hown1, st1⟩ := ldcS (s := s) (vm0 := s.vm) X0 hx hZ hown (ww hw 15 rfl) (own_wS hw) e0 (k0 := 0) ((State.WarmedH.refl s).since 0) (Nat.zero_le _) (g := (mkF m 1 #[va w_FAILED, va w_SUCCEEDED] [(.ref w_SUCCEEDED)])) rfl (hb hby d2_1) (n := 16) (by decide +kernel) (by decide) (by decide) (by decide)
  have O1 := O0.ext E1
  have K1 : Keep h0 h1 [] := K0.ext E1
  obtain ⟨_, _, ⟨T2, L2, k2, n2⟩, -, X2, ⟨Lc2, hQ2, l2, y2, z2⟩, st2⟩ := Jvm.LawKit.callS X1 hx (y := My3) hown1 (mvT hZ1 (ww hw 23 rfl)) (mvT hZ1 (ww hw 24 rfl)) (mvT hZ1 (ww hw 25 rfl)) (mvT hZ1 (ww hw 26 rfl)) (by decide) (backOf (W := 0) (rm3_2 l Z a0 hw [] w_QUEUED w_FAILED w_RUNNING w_CANCELLED w_SUCCEEDED a1 h1 n0 O1 S) hZ1 (ww hw 26 rfl) (ww hw 25 rfl) (by decide) (by decide)) (g := (mkF m 3 #[va w_FAILED, va w_SUCCEEDED] [(.ref a1), (.ref w_SUCCEEDED)])) rfl (by rw [hml]; rfl) (argsL := [(.ref w_SUCCEEDED), (.ref a1)]) (rest := []) (lenOf pd_1 rfl) rfl (by show 2 * 0 + _ ≤ _; exact Nat.le_of_eq rfl) (hb hby d2_3) (fun _ _ => ⟨rfl, e1, (by decide : 2 + 0 ≤ _), (by decide : 20 + 0 ≤ _)⟩)
  dsimp only [Pt.U, Pt.locs, Pt.cells, Pt.slots] at X2 l2 y2 z2 st2 hQ2
  subst l2 y2 z2
  obtain ⟨rfl, Nq2, e2⟩ := hQ2
  have N2 := Fr.app N0 Nq2
  obtain ⟨cq3, kq3, q3a, q3b, q3c⟩ := isOf hZ1 e2 (E_w_FAILED.ext O1.2)
  obtain ⟨_, _, ⟨T3, L3, k3, n3⟩, -, X3, ⟨Lc3, hQ3, l3, y3, z3⟩, st3⟩ := X2.virtualBackUp hx (x := (⟨sC0, "ordinal", "()I"⟩ : MethodName)) (y := My4) (owner := sC2) hown1 (mvT hZ1 (ww hw 27 rfl)) (mvT hZ1 (ww hw 28 rfl)) (mvT hZ1 (ww hw 29 rfl)) (by decide) (mvT hZ1 (ww hw 31 rfl)) (mvT hZ1 (ww hw 30 rfl)) (backOf (W := 0) (rm4_3 l Z a0 hw [] w_QUEUED w_FAILED w_RUNNING w_CANCELLED w_SUCCEEDED h1 n0 O1 S) hZ1 (ww hw 33 rfl) (ww hw 32 rfl) (by decide) (by decide)) q3a q3c (g := (mkF m 8 #[va w_FAILED, va w_SUCCEEDED] [(.ref w_FAILED)])) rfl (by rw [hml]; rfl) (Steps.refl _) (argsL := []) (rest := []) (lenOf pd_2 rfl) rfl (by show 2 * 0 + _ ≤ _; exact Nat.le_of_eq rfl) (hb hby d2_8) (fun _ _ => ⟨rfl, e2, (by decide : 2 + 0 ≤ _), (by decide : 20 + 0 ≤ _)⟩)
  dsimp only [Pt.U, Pt.locs, Pt.cells, Pt.slots] at X3 l3 y3 z3 st3 hQ3
  subst l3 y3 z3
  obtain ⟨rfl, Nq3, e3⟩ := hQ3
  have N3 := Fr.app N2 Nq3
  obtain ⟨T4, X4, e4, st4⟩ := getS2 X3 hx hZ1 hown1 (host := "") (Or.inl (ww hw 45 rfl)) Via.refl e3 (S_w_QUEUED.ext O1.2) (g := (mkF m 99 #[va w_FAILED, va w_SUCCEEDED] [(.ref w_SUCCEEDED)])) rfl (hb hby d2_99)
  obtain ⟨fs, hr, hrun, hended, hRE⟩ := X4.leaveW (s := s) hS1 (by rw [e4]; exact hk1) (v := (some (.int 0))) (fun h => by rw [hrt] at h; cases h)
  refine ⟨_, _, ?_, hrun, hended, _, _, rfl, ?_, hRE.1, hRE.2.1, hRE.2.2.1, hRE.2.2.2.mono (by decide) (by decide)⟩
  · show Steps p.tables e below (s₁.setTop (mkF m 0 #[va w_FAILED, va w_SUCCEEDED] [])) _
    refine XS.aloadN X0.here hx rfl (hb hby d2_0) rfl rfl ?_
    refine st1 _ ?_
    refine st2 _ ?_
    refine XS.pop X2.here hx rfl (hb hby d2_6) rfl rfl ?_
    refine XS.aloadN X2.here hx rfl (hb hby d2_7) rfl rfl ?_
    refine st3.trans ?_
    refine XS.tswIn X3.here hx rfl (pc0 := 11) (pc' := 98) rfl (hb hby d2_11) rfl (by decide) (o := 87) (by decide) (by decide) (by decide) ?_
    refine XS.aloadN X3.here hx rfl (hb hby d2_98) rfl rfl ?_
    show Steps p.tables e below (T3.setTop (mkF m 99 #[va w_FAILED, va w_SUCCEEDED] [(.ref w_SUCCEEDED)])) _
    refine st4 _ ?_
    refine Jvm.RoadKit.acmp (g := (mkF m 102 #[va w_FAILED, va w_SUCCEEDED] [(.ref w_QUEUED), (.ref w_SUCCEEDED)])) X4 hx rfl rfl rfl (pc0 := 102) (pc' := 109) (same := false) rfl (hb hby d2_102) rfl (decide_eq_false fun q => (Ne.symm hne_w_QUEUED_w_SUCCEEDED) (Value.ref.inj q)) (by decide) (by decide) ?_
    refine XS.iconst X4.here hx rfl (hb hby d2_109) ?_
    refine XS.goto X4.here hx rfl (pc0 := 110) (pc' := 114) rfl (hb hby d2_110) (by decide) (by decide) ?_
    exact retN X4 hx (t := .boolean) hrt (by simp) (hb hby d2_114) hr
  · show Q2_17 Z w_QUEUED w_FAILED w_RUNNING w_CANCELLED w_SUCCEEDED  h0 n0 (some (.int 0)) T4.heap _
    rw [e4]; exact ⟨rfl, N3, K1⟩
def Q2_18 (Z : State) (w_QUEUED w_FAILED w_RUNNING w_CANCELLED w_SUCCEEDED : Addr) (h0 : Heap) (n0 : Nat) (v : Option Value) (h : Heap) (L : List Loc) : Prop := v = (some (.int 0)) ∧ Fr n0 L ∧ Keep h0 h []
theorem rm2_18 (l : Launch) (Z : State) (a0 : Array Value) (hw : HW Z a0) (ws : List Jvm.Cond) (w_QUEUED w_FAILED w_RUNNING w_CANCELLED w_SUCCEEDED : Addr) (h0 : Heap) (n0 : Nat) (O0 : Old Z n0 h0) (S : SF Z w_QUEUED w_FAILED w_RUNNING w_CANCELLED w_SUCCEEDED) :
    PayW l Z My2 ws prog_15_method_7_code 2 (some .boolean) #[(.ref w_FAILED), (.ref w_FAILED)] h0 ({ frames := 1, cells := 2, slots := 20, locals := 13 } : Room) (Q2_18 Z w_QUEUED w_FAILED w_RUNNING w_CANCELLED w_SUCCEEDED  h0 n0) := by
  obtain ⟨S_w_QUEUED, -, -, E_w_FAILED, -, -, -, -, -, -, -, -, -, -, -, hne_w_QUEUED_w_FAILED, -⟩ := id S
  refine own_body (plainFor_of_name pn_1) (L0 := #[va w_FAILED, va w_FAILED]) (fun _ => by first | rfl | (simp [entryFrame, mkF, argsToLocals, Value.category]; done)) ?_
  intro p e s m below meth c s₁ hrt hlk hx hby hml hZ hown0 hnm X0 e0
  have hown : s.vm.findClass sC0 = some m.cls := hown0
  have N0 := Fr.nil n0
  have K0 : Keep h0 h0 [] := Keep.refl _ _
  obtain ⟨a1, T1, h1, kk1, X1, e1, E1, hS1, hk1, hZ1, hown1, st1⟩ := ldcS (s := s) (vm0 := s.vm) X0 hx hZ hown (ww hw 15 rfl) (own_wS hw) e0 (k0 := 0) ((State.WarmedH.refl s).since 0) (Nat.zero_le _) (g := (mkF m 1 #[va w_FAILED, va w_FAILED] [(.ref w_FAILED)])) rfl (hb hby d2_1) (n := 16) (by decide +kernel) (by decide) (by decide) (by decide)
  have O1 := O0.ext E1
  have K1 : Keep h0 h1 [] := K0.ext E1
  obtain ⟨_, _, ⟨T2, L2, k2, n2⟩, -, X2, ⟨Lc2, hQ2, l2, y2, z2⟩, st2⟩ := Jvm.LawKit.callS X1 hx (y := My3) hown1 (mvT hZ1 (ww hw 23 rfl)) (mvT hZ1 (ww hw 24 rfl)) (mvT hZ1 (ww hw 25 rfl)) (mvT hZ1 (ww hw 26 rfl)) (by decide) (backOf (W := 0) (rm3_3 l Z a0 hw [] w_QUEUED w_FAILED w_RUNNING w_CANCELLED w_SUCCEEDED a1 h1 n0 O1 S) hZ1 (ww hw 26 rfl) (ww hw 25 rfl) (by decide) (by decide)) (g := (mkF m 3 #[va w_FAILED, va w_FAILED] [(.ref a1), (.ref w_FAILED)])) rfl (by rw [hml]; rfl) (argsL := [(.ref w_FAILED), (.ref a1)]) (rest := []) (lenOf pd_1 rfl) rfl (by show 2 * 0 + _ ≤ _; exact Nat.le_of_eq rfl) (hb hby d2_3) (fun _ _ => ⟨rfl, e1, (by decide : 2 + 0 ≤ _), (by decide : 20 + 0 ≤ _)⟩)
  dsimp only [Pt.U, Pt.locs, Pt.cells, Pt.slots] at X2 l2 y2 z2 st2 hQ2
  subst l2 y2 z2
  obtain ⟨rfl, Nq2, e2⟩ := hQ2
  have N2 := Fr.app N0 Nq2
  obtain ⟨cq3, kq3, q3a, q3b, q3c⟩ := isOf hZ1 e2 (E_w_FAILED.ext O1.2)
  obtain ⟨_, _, ⟨T3, L3, k3, n3⟩, -, X3, ⟨Lc3, hQ3, l3, y3, z3⟩, st3⟩ := X2.virtualBackUp hx (x := (⟨sC0, "ordinal", "()I"⟩ : MethodName)) (y := My4) (owner := sC2) hown1 (mvT hZ1 (ww hw 27 rfl)) (mvT hZ1 (ww hw 28 rfl)) (mvT hZ1 (ww hw 29 rfl)) (by decide) (mvT hZ1 (ww hw 31 rfl)) (mvT hZ1 (ww hw 30 rfl)) (backOf (W := 0) (rm4_3 l Z a0 hw [] w_QUEUED w_FAILED w_RUNNING w_CANCELLED w_SUCCEEDED h1 n0 O1 S) hZ1 (ww hw 33 rfl) (ww hw 32 rfl) (by decide) (by decide)) q3a q3c (g := (mkF m 8 #[va w_FAILED, va w_FAILED] [(.ref w_FAILED)])) rfl (by rw [hml]; rfl) (Steps.refl _) (argsL := []) (rest := []) (lenOf pd_2 rfl) rfl (by show 2 * 0 + _ ≤ _; exact Nat.le_of_eq rfl) (hb hby d2_8) (fun _ _ => ⟨rfl, e2, (by decide : 2 + 0 ≤ _), (by decide : 20 + 0 ≤ _)⟩)
  dsimp only [Pt.U, Pt.locs, Pt.cells, Pt.slots] at X3 l3 y3 z3 st3 hQ3
  subst l3 y3 z3
  obtain ⟨rfl, Nq3, e3⟩ := hQ3
  have N3 := Fr.app N2 Nq3
  obtain ⟨T4, X4, e4, st4⟩ := getS2 X3 hx hZ1 hown1 (host := "") (Or.inl (ww hw 45 rfl)) Via.refl e3 (S_w_QUEUED.ext O1.2) (g := (mkF m 99 #[va w_FAILED, va w_FAILED] [(.ref w_FAILED)])) rfl (hb hby d2_99)
  obtain ⟨fs, hr, hrun, hended, hRE⟩ := X4.leaveW (s := s) hS1 (by rw [e4]; exact hk1) (v := (some (.int 0))) (fun h => by rw [hrt] at h; cases h)
  refine ⟨_, _, ?_, hrun, hended, _, _, rfl, ?_, hRE.1, hRE.2.1, hRE.2.2.1, hRE.2.2.2.mono (by decide) (by decide)⟩
  · show Steps p.tables e below (s₁.setTop (mkF m 0 #[va w_FAILED, va w_FAILED] [])) _
    refine XS.aloadN X0.here hx rfl (hb hby d2_0) rfl rfl ?_
    refine st1 _ ?_
    refine st2 _ ?_
    refine XS.pop X2.here hx rfl (hb hby d2_6) rfl rfl ?_
    refine XS.aloadN X2.here hx rfl (hb hby d2_7) rfl rfl ?_
    refine st3.trans ?_
    refine XS.tswIn X3.here hx rfl (pc0 := 11) (pc' := 98) rfl (hb hby d2_11) rfl (by decide) (o := 87) (by decide) (by decide) (by decide) ?_
    refine XS.aloadN X3.here hx rfl (hb hby d2_98) rfl rfl ?_
    show Steps p.tables e below (T3.setTop (mkF m 99 #[va w_FAILED, va w_FAILED] [(.ref w_FAILED)])) _
    refine st4 _ ?_
    refine Jvm.RoadKit.acmp (g := (mkF m 102 #[va w_FAILED, va w_FAILED] [(.ref w_QUEUED), (.ref w_FAILED)])) X4 hx rfl rfl rfl (pc0 := 102) (pc' := 109) (same := false) rfl (hb hby d2_102) rfl (decide_eq_false fun q => (Ne.symm hne_w_QUEUED_w_FAILED) (Value.ref.inj q)) (by decide) (by decide) ?_
    refine XS.iconst X4.here hx rfl (hb hby d2_109) ?_
    refine XS.goto X4.here hx rfl (pc0 := 110) (pc' := 114) rfl (hb hby d2_110) (by decide) (by decide) ?_
    exact retN X4 hx (t := .boolean) hrt (by simp) (hb hby d2_114) hr
  · show Q2_18 Z w_QUEUED w_FAILED w_RUNNING w_CANCELLED w_SUCCEEDED  h0 n0 (some (.int 0)) T4.heap _
    rw [e4]; exact ⟨rfl, N3, K1⟩
def Q2_19 (Z : State) (w_QUEUED w_FAILED w_RUNNING w_CANCELLED w_SUCCEEDED : Addr) (h0 : Heap) (n0 : Nat) (v : Option Value) (h : Heap) (L : List Loc) : Prop := v = (some (.int 0)) ∧ Fr n0 L ∧ Keep h0 h []
theorem rm2_19 (l : Launch) (Z : State) (a0 : Array Value) (hw : HW Z a0) (ws : List Jvm.Cond) (w_QUEUED w_FAILED w_RUNNING w_CANCELLED w_SUCCEEDED : Addr) (h0 : Heap) (n0 : Nat) (O0 : Old Z n0 h0) (S : SF Z w_QUEUED w_FAILED w_RUNNING w_CANCELLED w_SUCCEEDED) :
    PayW l Z My2 ws prog_15_method_7_code 2 (some .boolean) #[(.ref w_FAILED), (.ref w_CANCELLED)] h0 ({ frames := 1, cells := 2, slots := 20, locals := 13 } : Room) (Q2_19 Z w_QUEUED w_FAILED w_RUNNING w_CANCELLED w_SUCCEEDED  h0 n0) := by
  obtain ⟨S_w_QUEUED, -, -, E_w_FAILED, -, -, -, -, -, -, -, -, -, -, -, -, -, hne_w_QUEUED_w_CANCELLED, -⟩ := id S
  refine own_body (plainFor_of_name pn_1) (L0 := #[va w_FAILED, va w_CANCELLED]) (fun _ => by first | rfl | (simp [entryFrame, mkF, argsToLocals, Value.category]; done)) ?_
  intro p e s m below meth c s₁ hrt hlk hx hby hml hZ hown0 hnm X0 e0
  have hown : s.vm.findClass sC0 = some m.cls := hown0
  have N0 := Fr.nil n0
  have K0 : Keep h0 h0 [] := Keep.refl _ _
  obtain ⟨a1, T1, h1, kk1, X1, e1, E1, hS1, hk1, hZ1, hown1, st1⟩ := ldcS (s := s) (vm0 := s.vm) X0 hx hZ hown (ww hw 15 rfl) (own_wS hw) e0 (k0 := 0) ((State.WarmedH.refl s).since 0) (Nat.zero_le _) (g := (mkF m 1 #[va w_FAILED, va w_CANCELLED] [(.ref w_CANCELLED)])) rfl (hb hby d2_1) (n := 16) (by decide +kernel) (by decide) (by decide) (by decide)
  have O1 := O0.ext E1
  have K1 : Keep h0 h1 [] := K0.ext E1
  obtain ⟨_, _, ⟨T2, L2, k2, n2⟩, -, X2, ⟨Lc2, hQ2, l2, y2, z2⟩, st2⟩ := Jvm.LawKit.callS X1 hx (y := My3) hown1 (mvT hZ1 (ww hw 23 rfl)) (mvT hZ1 (ww hw 24 rfl)) (mvT hZ1 (ww hw 25 rfl)) (mvT hZ1 (ww hw 26 rfl)) (by decide) (backOf (W := 0) (rm3_4 l Z a0 hw [] w_QUEUED w_FAILED w_RUNNING w_CANCELLED w_SUCCEEDED a1 h1 n0 O1 S) hZ1 (ww hw 26 rfl) (ww hw 25 rfl) (by decide) (by decide)) (g := (mkF m 3 #[va w_FAILED, va w_CANCELLED] [(.ref a1), (.ref w_CANCELLED)])) rfl (by rw [hml]; rfl) (argsL := [(.ref w_CANCELLED), (.ref a1)]) (rest := []) (lenOf pd_1 rfl) rfl (by show 2 * 0 + _ ≤ _; exact Nat.le_of_eq rfl) (hb hby d2_3) (fun _ _ => ⟨rfl, e1, (by decide : 2 + 0 ≤ _), (by decide : 20 + 0 ≤ _)⟩)
  dsimp only [Pt.U, Pt.locs, Pt.cells, Pt.slots] at X2 l2 y2 z2 st2 hQ2
  subst l2 y2 z2
  obtain ⟨rfl, Nq2, e2⟩ := hQ2
  have N2 := Fr.app N0 Nq2
  obtain ⟨cq3, kq3, q3a, q3b, q3c⟩ := isOf hZ1 e2 (E_w_FAILED.ext O1.2)
  obtain ⟨_, _, ⟨T3, L3, k3, n3⟩, -, X3, ⟨Lc3, hQ3, l3, y3, z3⟩, st3⟩ := X2.virtualBackUp hx (x := (⟨sC0, "ordinal", "()I"⟩ : MethodName)) (y := My4) (owner := sC2) hown1 (mvT hZ1 (ww hw 27 rfl)) (mvT hZ1 (ww hw 28 rfl)) (mvT hZ1 (ww hw 29 rfl)) (by decide) (mvT hZ1 (ww hw 31 rfl)) (mvT hZ1 (ww hw 30 rfl)) (backOf (W := 0) (rm4_3 l Z a0 hw [] w_QUEUED w_FAILED w_RUNNING w_CANCELLED w_SUCCEEDED h1 n0 O1 S) hZ1 (ww hw 33 rfl) (ww hw 32 rfl) (by decide) (by decide)) q3a q3c (g := (mkF m 8 #[va w_FAILED, va w_CANCELLED] [(.ref w_FAILED)])) rfl (by rw [hml]; rfl) (Steps.refl _) (argsL := []) (rest := []) (lenOf pd_2 rfl) rfl (by show 2 * 0 + _ ≤ _; exact Nat.le_of_eq rfl) (hb hby d2_8) (fun _ _ => ⟨rfl, e2, (by decide : 2 + 0 ≤ _), (by decide : 20 + 0 ≤ _)⟩)
  dsimp only [Pt.U, Pt.locs, Pt.cells, Pt.slots] at X3 l3 y3 z3 st3 hQ3
  subst l3 y3 z3
  obtain ⟨rfl, Nq3, e3⟩ := hQ3
  have N3 := Fr.app N2 Nq3
  obtain ⟨T4, X4, e4, st4⟩ := getS2 X3 hx hZ1 hown1 (host := "") (Or.inl (ww hw 45 rfl)) Via.refl e3 (S_w_QUEUED.ext O1.2) (g := (mkF m 99 #[va w_FAILED, va w_CANCELLED] [(.ref w_CANCELLED)])) rfl (hb hby d2_99)
  obtain ⟨fs, hr, hrun, hended, hRE⟩ := X4.leaveW (s := s) hS1 (by rw [e4]; exact hk1) (v := (some (.int 0))) (fun h => by rw [hrt] at h; cases h)
  refine ⟨_, _, ?_, hrun, hended, _, _, rfl, ?_, hRE.1, hRE.2.1, hRE.2.2.1, hRE.2.2.2.mono (by decide) (by decide)⟩
  · show Steps p.tables e below (s₁.setTop (mkF m 0 #[va w_FAILED, va w_CANCELLED] [])) _
    refine XS.aloadN X0.here hx rfl (hb hby d2_0) rfl rfl ?_
    refine st1 _ ?_
    refine st2 _ ?_
    refine XS.pop X2.here hx rfl (hb hby d2_6) rfl rfl ?_
    refine XS.aloadN X2.here hx rfl (hb hby d2_7) rfl rfl ?_
    refine st3.trans ?_
    refine XS.tswIn X3.here hx rfl (pc0 := 11) (pc' := 98) rfl (hb hby d2_11) rfl (by decide) (o := 87) (by decide) (by decide) (by decide) ?_
    refine XS.aloadN X3.here hx rfl (hb hby d2_98) rfl rfl ?_
    show Steps p.tables e below (T3.setTop (mkF m 99 #[va w_FAILED, va w_CANCELLED] [(.ref w_CANCELLED)])) _
    refine st4 _ ?_
    refine Jvm.RoadKit.acmp (g := (mkF m 102 #[va w_FAILED, va w_CANCELLED] [(.ref w_QUEUED), (.ref w_CANCELLED)])) X4 hx rfl rfl rfl (pc0 := 102) (pc' := 109) (same := false) rfl (hb hby d2_102) rfl (decide_eq_false fun q => (Ne.symm hne_w_QUEUED_w_CANCELLED) (Value.ref.inj q)) (by decide) (by decide) ?_
    refine XS.iconst X4.here hx rfl (hb hby d2_109) ?_
    refine XS.goto X4.here hx rfl (pc0 := 110) (pc' := 114) rfl (hb hby d2_110) (by decide) (by decide) ?_
    exact retN X4 hx (t := .boolean) hrt (by simp) (hb hby d2_114) hr
  · show Q2_19 Z w_QUEUED w_FAILED w_RUNNING w_CANCELLED w_SUCCEEDED  h0 n0 (some (.int 0)) T4.heap _
    rw [e4]; exact ⟨rfl, N3, K1⟩
def Q4_4 (Z : State) (w_QUEUED w_FAILED w_RUNNING w_CANCELLED w_SUCCEEDED : Addr) (h0 : Heap) (n0 : Nat) (v : Option Value) (h : Heap) (L : List Loc) : Prop := v = (some (.int 4)) ∧ Fr n0 L ∧ h = h0
theorem rm4_4 (l : Launch) (Z : State) (a0 : Array Value) (hw : HW Z a0) (ws : List Jvm.Cond) (w_QUEUED w_FAILED w_RUNNING w_CANCELLED w_SUCCEEDED : Addr) (h0 : Heap) (n0 : Nat) (O0 : Old Z n0 h0) (S : SF Z w_QUEUED w_FAILED w_RUNNING w_CANCELLED w_SUCCEEDED) :
    Pay l Z My4 ws jdk_37_method_2_code 1 (some .int) #[(.ref w_CANCELLED)] h0 ({ frames := 0, cells := 0, slots := 0, locals := 0 } : Room) (Q4_4 Z w_QUEUED w_FAILED w_RUNNING w_CANCELLED w_SUCCEEDED  h0 n0) := by
  obtain ⟨-, -, -, -, -, -, -, -, -, -, -, -, -, F_ordinal_w_CANCELLED, -⟩ := id S
  refine own_body (plainFor_of_name pn_3) (L0 := #[va w_CANCELLED]) (fun _ => by first | rfl | (simp [entryFrame, mkF, argsToLocals, Value.category]; done)) ?_
  intro p e s m below meth c s₁ hrt hlk hx hby hml hZ hown0 hnm X0 e0
  have hown : s.vm.findClass sC2 = some m.cls := hown0
  have N0 := Fr.nil n0
  have K0 : Keep h0 h0 [] := Keep.refl _ _
  obtain ⟨T1, X1, e1, st1⟩ := getF X0 hx hZ hown (host := "") (Or.inl (ww hw 34 rfl)) Via.refl e0 (F_ordinal_w_CANCELLED.ext O0.2) (g := (mkF m 1 #[va w_CANCELLED] [(.ref w_CANCELLED)])) rfl rfl (hb hby d4_1)
  obtain ⟨fs, hr, hrun, hended, hW, hsame⟩ := X1.leave (v := (some (.int 4))) (fun h => by rw [hrt] at h; cases h)
  refine ⟨_, _, ?_, hrun, hended, _, _, rfl, ?_, ⟨_, rfl⟩, hW, hsame.mono (by decide) (by decide)⟩
  · show Steps p.tables e below (s₁.setTop (mkF m 0 #[va w_CANCELLED] [])) _
    refine XS.aloadN X0.here hx rfl (hb hby d4_0) rfl rfl ?_
    refine st1 _ ?_
    exact retOut X1 hx (t := .int) (i := .ireturn) hrt rfl (Or.inl ⟨rfl, Or.inl rfl, _, rfl⟩) (hb hby d4_4) hr
  · show Q4_4 Z w_QUEUED w_FAILED w_RUNNING w_CANCELLED w_SUCCEEDED  h0 n0 (some (.int 4)) T1.heap _
    exact (⟨rfl, N0, e1⟩)
def Q2_20 (Z : State) (w_QUEUED w_FAILED w_RUNNING w_CANCELLED w_SUCCEEDED : Addr) (h0 : Heap) (n0 : Nat) (v : Option Value) (h : Heap) (L : List Loc) : Prop := v = (some (.int 0)) ∧ Fr n0 L ∧ Keep h0 h []
theorem rm2_20 (l : Launch) (Z : State) (a0 : Array Value) (hw : HW Z a0) (ws : List Jvm.Cond) (w_QUEUED w_FAILED w_RUNNING w_CANCELLED w_SUCCEEDED : Addr) (h0 : Heap) (n0 : Nat) (O0 : Old Z n0 h0) (S : SF Z w_QUEUED w_FAILED w_RUNNING w_CANCELLED w_SUCCEEDED) :
    PayW l Z My2 ws prog_15_method_7_code 2 (some .boolean) #[(.ref w_CANCELLED), (.ref w_QUEUED)] h0 ({ frames := 1, cells := 2, slots := 20, locals := 13 } : Room) (Q2_20 Z w_QUEUED w_FAILED w_RUNNING w_CANCELLED w_SUCCEEDED  h0 n0) := by
  obtain ⟨-, -, -, -, -, -, -, E_w_CANCELLED, -⟩ := id S
  refine own_body (plainFor_of_name pn_1) (L0 := #[va w_CANCELLED, va w_QUEUED]) (fun _ => by first | rfl | (simp [entryFrame, mkF, argsToLocals, Value.category]; done)) ?_
  intro p e s m below meth c s₁ hrt hlk hx hby hml hZ hown0 hnm X0 e0
  have hown : s.vm.findClass sC0 = some m.cls := hown0
  have N0 := Fr.nil n0
  have K0 : Keep h0 h0 [] := Keep.refl _ _
  obtain ⟨a1, T1, h1, kk1, X1, e1, E1, hS1, hk1, hZ1, hown1, st1⟩ := ldcS (s := s) (vm0 := s.vm) X0 hx hZ hown (ww hw 15 rfl) (own_wS hw) e0 (k0 := 0) ((State.WarmedH.refl s).since 0) (Nat.zero_le _) (g := (mkF m 1 #[va w_CANCELLED, va w_QUEUED] [(.ref w_QUEUED)])) rfl (hb hby d2_1) (n := 16) (by decide +kernel) (by decide) (by decide) (by decide)
  have O1 := O0.ext E1
  have K1 : Keep h0 h1 [] := K0.ext E1
  obtain ⟨_, _, ⟨T2, L2, k2, n2⟩, -, X2, ⟨Lc2, hQ2, l2, y2, z2⟩, st2⟩ := Jvm.LawKit.callS X1 hx (y := My3) hown1 (mvT hZ1 (ww hw 23 rfl)) (mvT hZ1 (ww hw 24 rfl)) (mvT hZ1 (ww hw 25 rfl)) (mvT hZ1 (ww hw 26 rfl)) (by decide) (backOf (W := 0) (rm3_0 l Z a0 hw [] w_QUEUED w_FAILED w_RUNNING w_CANCELLED w_SUCCEEDED a1 h1 n0 O1 S) hZ1 (ww hw 26 rfl) (ww hw 25 rfl) (by decide) (by decide)) (g := (mkF m 3 #[va w_CANCELLED, va w_QUEUED] [(.ref a1), (.ref w_QUEUED)])) rfl (by rw [hml]; rfl) (argsL := [(.ref w_QUEUED), (.ref a1)]) (rest := []) (lenOf pd_1 rfl) rfl (by show 2 * 0 + _ ≤ _; exact Nat.le_of_eq rfl) (hb hby d2_3) (fun _ _ => ⟨rfl, e1, (by decide : 2 + 0 ≤ _), (by decide : 20 + 0 ≤ _)⟩)
  dsimp only [Pt.U, Pt.locs, Pt.cells, Pt.slots] at X2 l2 y2 z2 st2 hQ2
  subst l2 y2 z2
  obtain ⟨rfl, Nq2, e2⟩ := hQ2
  have N2 := Fr.app N0 Nq2
  obtain ⟨cq3, kq3, q3a, q3b, q3c⟩ := isOf hZ1 e2 (E_w_CANCELLED.ext O1.2)
  obtain ⟨_, _, ⟨T3, L3, k3, n3⟩, -, X3, ⟨Lc3, hQ3, l3, y3, z3⟩, st3⟩ := X2.virtualBackUp hx (x := (⟨sC0, "ordinal", "()I"⟩ : MethodName)) (y := My4) (owner := sC2) hown1 (mvT hZ1 (ww hw 27 rfl)) (mvT hZ1 (ww hw 28 rfl)) (mvT hZ1 (ww hw 29 rfl)) (by decide) (mvT hZ1 (ww hw 31 rfl)) (mvT hZ1 (ww hw 30 rfl)) (backOf (W := 0) (rm4_4 l Z a0 hw [] w_QUEUED w_FAILED w_RUNNING w_CANCELLED w_SUCCEEDED h1 n0 O1 S) hZ1 (ww hw 33 rfl) (ww hw 32 rfl) (by decide) (by decide)) q3a q3c (g := (mkF m 8 #[va w_CANCELLED, va w_QUEUED] [(.ref w_CANCELLED)])) rfl (by rw [hml]; rfl) (Steps.refl _) (argsL := []) (rest := []) (lenOf pd_2 rfl) rfl (by show 2 * 0 + _ ≤ _; exact Nat.le_of_eq rfl) (hb hby d2_8) (fun _ _ => ⟨rfl, e2, (by decide : 2 + 0 ≤ _), (by decide : 20 + 0 ≤ _)⟩)
  dsimp only [Pt.U, Pt.locs, Pt.cells, Pt.slots] at X3 l3 y3 z3 st3 hQ3
  subst l3 y3 z3
  obtain ⟨rfl, Nq3, e3⟩ := hQ3
  have N3 := Fr.app N2 Nq3
  obtain ⟨fs, hr, hrun, hended, hRE⟩ := X3.leaveW (s := s) hS1 (by rw [e3]; exact hk1) (v := (some (.int 0))) (fun h => by rw [hrt] at h; cases h)
  refine ⟨_, _, ?_, hrun, hended, _, _, rfl, ?_, hRE.1, hRE.2.1, hRE.2.2.1, hRE.2.2.2.mono (by decide) (by decide)⟩
  · show Steps p.tables e below (s₁.setTop (mkF m 0 #[va w_CANCELLED, va w_QUEUED] [])) _
    refine XS.aloadN X0.here hx rfl (hb hby d2_0) rfl rfl ?_
    refine st1 _ ?_
    refine st2 _ ?_
    refine XS.pop X2.here hx rfl (hb hby d2_6) rfl rfl ?_
    refine XS.aloadN X2.here hx rfl (hb hby d2_7) rfl rfl ?_
    refine st3.trans ?_
    refine XS.tswIn X3.here hx rfl (pc0 := 11) (pc' := 113) rfl (hb hby d2_11) rfl (by decide) (o := 102) (by decide) (by decide) (by decide) ?_
    refine XS.iconst X3.here hx rfl (hb hby d2_113) ?_
    show Steps p.tables e below (T3.setTop (mkF m 114 #[va w_CANCELLED, va w_QUEUED] [(.int 0)])) _
    exact retN X3 hx (t := .boolean) hrt (by simp) (hb hby d2_114) hr
  · show Q2_20 Z w_QUEUED w_FAILED w_RUNNING w_CANCELLED w_SUCCEEDED  h0 n0 (some (.int 0)) T3.heap _
    rw [e3]; exact ⟨rfl, N3, K1⟩
def Q2_21 (Z : State) (w_QUEUED w_FAILED w_RUNNING w_CANCELLED w_SUCCEEDED : Addr) (h0 : Heap) (n0 : Nat) (v : Option Value) (h : Heap) (L : List Loc) : Prop := v = (some (.int 0)) ∧ Fr n0 L ∧ Keep h0 h []
theorem rm2_21 (l : Launch) (Z : State) (a0 : Array Value) (hw : HW Z a0) (ws : List Jvm.Cond) (w_QUEUED w_FAILED w_RUNNING w_CANCELLED w_SUCCEEDED : Addr) (h0 : Heap) (n0 : Nat) (O0 : Old Z n0 h0) (S : SF Z w_QUEUED w_FAILED w_RUNNING w_CANCELLED w_SUCCEEDED) :
    PayW l Z My2 ws prog_15_method_7_code 2 (some .boolean) #[(.ref w_CANCELLED), (.ref w_RUNNING)] h0 ({ frames := 1, cells := 2, slots := 20, locals := 13 } : Room) (Q2_21 Z w_QUEUED w_FAILED w_RUNNING w_CANCELLED w_SUCCEEDED  h0 n0) := by
  obtain ⟨-, -, -, -, -, -, -, E_w_CANCELLED, -⟩ := id S
  refine own_body (plainFor_of_name pn_1) (L0 := #[va w_CANCELLED, va w_RUNNING]) (fun _ => by first | rfl | (simp [entryFrame, mkF, argsToLocals, Value.category]; done)) ?_
  intro p e s m below meth c s₁ hrt hlk hx hby hml hZ hown0 hnm X0 e0
  have hown : s.vm.findClass sC0 = some m.cls := hown0
  have N0 := Fr.nil n0
  have K0 : Keep h0 h0 [] := Keep.refl _ _
  obtain ⟨a1, T1, h1, kk1, X1, e1, E1, hS1, hk1, hZ1, hown1, st1⟩ := ldcS (s := s) (vm0 := s.vm) X0 hx hZ hown (ww hw 15 rfl) (own_wS hw) e0 (k0 := 0) ((State.WarmedH.refl s).since 0) (Nat.zero_le _) (g := (mkF m 1 #[va w_CANCELLED, va w_RUNNING] [(.ref w_RUNNING)])) rfl (hb hby d2_1) (n := 16) (by decide +kernel) (by decide) (by decide) (by decide)
  have O1 := O0.ext E1
  have K1 : Keep h0 h1 [] := K0.ext E1
  obtain ⟨_, _, ⟨T2, L2, k2, n2⟩, -, X2, ⟨Lc2, hQ2, l2, y2, z2⟩, st2⟩ := Jvm.LawKit.callS X1 hx (y := My3) hown1 (mvT hZ1 (ww hw 23 rfl)) (mvT hZ1 (ww hw 24 rfl)) (mvT hZ1 (ww hw 25 rfl)) (mvT hZ1 (ww hw 26 rfl)) (by decide) (backOf (W := 0) (rm3_1 l Z a0 hw [] w_QUEUED w_FAILED w_RUNNING w_CANCELLED w_SUCCEEDED a1 h1 n0 O1 S) hZ1 (ww hw 26 rfl) (ww hw 25 rfl) (by decide) (by decide)) (g := (mkF m 3 #[va w_CANCELLED, va w_RUNNING] [(.ref a1), (.ref w_RUNNING)])) rfl (by rw [hml]; rfl) (argsL := [(.ref w_RUNNING), (.ref a1)]) (rest := []) (lenOf pd_1 rfl) rfl (by show 2 * 0 + _ ≤ _; exact Nat.le_of_eq rfl) (hb hby d2_3) (fun _ _ => ⟨rfl, e1, (by decide : 2 + 0 ≤ _), (by decide : 20 + 0 ≤ _)⟩)
  dsimp only [Pt.U, Pt.locs, Pt.cells, Pt.slots] at X2 l2 y2 z2 st2 hQ2
  subst l2 y2 z2
  obtain ⟨rfl, Nq2, e2⟩ := hQ2
  have N2 := Fr.app N0 Nq2
  obtain ⟨cq3, kq3, q3a, q3b, q3c⟩ := isOf hZ1 e2 (E_w_CANCELLED.ext O1.2)
  obtain ⟨_, _, ⟨T3, L3, k3, n3⟩, -, X3, ⟨Lc3, hQ3, l3, y3, z3⟩, st3⟩ := X2.virtualBackUp hx (x := (⟨sC0, "ordinal", "()I"⟩ : MethodName)) (y := My4) (owner := sC2) hown1 (mvT hZ1 (ww hw 27 rfl)) (mvT hZ1 (ww hw 28 rfl)) (mvT hZ1 (ww hw 29 rfl)) (by decide) (mvT hZ1 (ww hw 31 rfl)) (mvT hZ1 (ww hw 30 rfl)) (backOf (W := 0) (rm4_4 l Z a0 hw [] w_QUEUED w_FAILED w_RUNNING w_CANCELLED w_SUCCEEDED h1 n0 O1 S) hZ1 (ww hw 33 rfl) (ww hw 32 rfl) (by decide) (by decide)) q3a q3c (g := (mkF m 8 #[va w_CANCELLED, va w_RUNNING] [(.ref w_CANCELLED)])) rfl (by rw [hml]; rfl) (Steps.refl _) (argsL := []) (rest := []) (lenOf pd_2 rfl) rfl (by show 2 * 0 + _ ≤ _; exact Nat.le_of_eq rfl) (hb hby d2_8) (fun _ _ => ⟨rfl, e2, (by decide : 2 + 0 ≤ _), (by decide : 20 + 0 ≤ _)⟩)
  dsimp only [Pt.U, Pt.locs, Pt.cells, Pt.slots] at X3 l3 y3 z3 st3 hQ3
  subst l3 y3 z3
  obtain ⟨rfl, Nq3, e3⟩ := hQ3
  have N3 := Fr.app N2 Nq3
  obtain ⟨fs, hr, hrun, hended, hRE⟩ := X3.leaveW (s := s) hS1 (by rw [e3]; exact hk1) (v := (some (.int 0))) (fun h => by rw [hrt] at h; cases h)
  refine ⟨_, _, ?_, hrun, hended, _, _, rfl, ?_, hRE.1, hRE.2.1, hRE.2.2.1, hRE.2.2.2.mono (by decide) (by decide)⟩
  · show Steps p.tables e below (s₁.setTop (mkF m 0 #[va w_CANCELLED, va w_RUNNING] [])) _
    refine XS.aloadN X0.here hx rfl (hb hby d2_0) rfl rfl ?_
    refine st1 _ ?_
    refine st2 _ ?_
    refine XS.pop X2.here hx rfl (hb hby d2_6) rfl rfl ?_
    refine XS.aloadN X2.here hx rfl (hb hby d2_7) rfl rfl ?_
    refine st3.trans ?_
    refine XS.tswIn X3.here hx rfl (pc0 := 11) (pc' := 113) rfl (hb hby d2_11) rfl (by decide) (o := 102) (by decide) (by decide) (by decide) ?_
    refine XS.iconst X3.here hx rfl (hb hby d2_113) ?_
    show Steps p.tables e below (T3.setTop (mkF m 114 #[va w_CANCELLED, va w_RUNNING] [(.int 0)])) _
    exact retN X3 hx (t := .boolean) hrt (by simp) (hb hby d2_114) hr
  · show Q2_21 Z w_QUEUED w_FAILED w_RUNNING w_CANCELLED w_SUCCEEDED  h0 n0 (some (.int 0)) T3.heap _
    rw [e3]; exact ⟨rfl, N3, K1⟩
def Q2_22 (Z : State) (w_QUEUED w_FAILED w_RUNNING w_CANCELLED w_SUCCEEDED : Addr) (h0 : Heap) (n0 : Nat) (v : Option Value) (h : Heap) (L : List Loc) : Prop := v = (some (.int 0)) ∧ Fr n0 L ∧ Keep h0 h []
theorem rm2_22 (l : Launch) (Z : State) (a0 : Array Value) (hw : HW Z a0) (ws : List Jvm.Cond) (w_QUEUED w_FAILED w_RUNNING w_CANCELLED w_SUCCEEDED : Addr) (h0 : Heap) (n0 : Nat) (O0 : Old Z n0 h0) (S : SF Z w_QUEUED w_FAILED w_RUNNING w_CANCELLED w_SUCCEEDED) :
    PayW l Z My2 ws prog_15_method_7_code 2 (some .boolean) #[(.ref w_CANCELLED), (.ref w_SUCCEEDED)] h0 ({ frames := 1, cells := 2, slots := 20, locals := 13 } : Room) (Q2_22 Z w_QUEUED w_FAILED w_RUNNING w_CANCELLED w_SUCCEEDED  h0 n0) := by
  obtain ⟨-, -, -, -, -, -, -, E_w_CANCELLED, -⟩ := id S
  refine own_body (plainFor_of_name pn_1) (L0 := #[va w_CANCELLED, va w_SUCCEEDED]) (fun _ => by first | rfl | (simp [entryFrame, mkF, argsToLocals, Value.category]; done)) ?_
  intro p e s m below meth c s₁ hrt hlk hx hby hml hZ hown0 hnm X0 e0
  have hown : s.vm.findClass sC0 = some m.cls := hown0
  have N0 := Fr.nil n0
  have K0 : Keep h0 h0 [] := Keep.refl _ _
  obtain ⟨a1, T1, h1, kk1, X1, e1, E1, hS1, hk1, hZ1, hown1, st1⟩ := ldcS (s := s) (vm0 := s.vm) X0 hx hZ hown (ww hw 15 rfl) (own_wS hw) e0 (k0 := 0) ((State.WarmedH.refl s).since 0) (Nat.zero_le _) (g := (mkF m 1 #[va w_CANCELLED, va w_SUCCEEDED] [(.ref w_SUCCEEDED)])) rfl (hb hby d2_1) (n := 16) (by decide +kernel) (by decide) (by decide) (by decide)
  have O1 := O0.ext E1
  have K1 : Keep h0 h1 [] := K0.ext E1
  obtain ⟨_, _, ⟨T2, L2, k2, n2⟩, -, X2, ⟨Lc2, hQ2, l2, y2, z2⟩, st2⟩ := Jvm.LawKit.callS X1 hx (y := My3) hown1 (mvT hZ1 (ww hw 23 rfl)) (mvT hZ1 (ww hw 24 rfl)) (mvT hZ1 (ww hw 25 rfl)) (mvT hZ1 (ww hw 26 rfl)) (by decide) (backOf (W := 0) (rm3_2 l Z a0 hw [] w_QUEUED w_FAILED w_RUNNING w_CANCELLED w_SUCCEEDED a1 h1 n0 O1 S) hZ1 (ww hw 26 rfl) (ww hw 25 rfl) (by decide) (by decide)) (g := (mkF m 3 #[va w_CANCELLED, va w_SUCCEEDED] [(.ref a1), (.ref w_SUCCEEDED)])) rfl (by rw [hml]; rfl) (argsL := [(.ref w_SUCCEEDED), (.ref a1)]) (rest := []) (lenOf pd_1 rfl) rfl (by show 2 * 0 + _ ≤ _; exact Nat.le_of_eq rfl) (hb hby d2_3) (fun _ _ => ⟨rfl, e1, (by decide : 2 + 0 ≤ _), (by decide : 20 + 0 ≤ _)⟩)
  dsimp only [Pt.U, Pt.locs, Pt.cells, Pt.slots] at X2 l2 y2 z2 st2 hQ2
  subst l2 y2 z2
  obtain ⟨rfl, Nq2, e2⟩ := hQ2
  have N2 := Fr.app N0 Nq2
  obtain ⟨cq3, kq3, q3a, q3b, q3c⟩ := isOf hZ1 e2 (E_w_CANCELLED.ext O1.2)
  obtain ⟨_, _, ⟨T3, L3, k3, n3⟩, -, X3, ⟨Lc3, hQ3, l3, y3, z3⟩, st3⟩ := X2.virtualBackUp hx (x := (⟨sC0, "ordinal", "()I"⟩ : MethodName)) (y := My4) (owner := sC2) hown1 (mvT hZ1 (ww hw 27 rfl)) (mvT hZ1 (ww hw 28 rfl)) (mvT hZ1 (ww hw 29 rfl)) (by decide) (mvT hZ1 (ww hw 31 rfl)) (mvT hZ1 (ww hw 30 rfl)) (backOf (W := 0) (rm4_4 l Z a0 hw [] w_QUEUED w_FAILED w_RUNNING w_CANCELLED w_SUCCEEDED h1 n0 O1 S) hZ1 (ww hw 33 rfl) (ww hw 32 rfl) (by decide) (by decide)) q3a q3c (g := (mkF m 8 #[va w_CANCELLED, va w_SUCCEEDED] [(.ref w_CANCELLED)])) rfl (by rw [hml]; rfl) (Steps.refl _) (argsL := []) (rest := []) (lenOf pd_2 rfl) rfl (by show 2 * 0 + _ ≤ _; exact Nat.le_of_eq rfl) (hb hby d2_8) (fun _ _ => ⟨rfl, e2, (by decide : 2 + 0 ≤ _), (by decide : 20 + 0 ≤ _)⟩)
  dsimp only [Pt.U, Pt.locs, Pt.cells, Pt.slots] at X3 l3 y3 z3 st3 hQ3
  subst l3 y3 z3
  obtain ⟨rfl, Nq3, e3⟩ := hQ3
  have N3 := Fr.app N2 Nq3
  obtain ⟨fs, hr, hrun, hended, hRE⟩ := X3.leaveW (s := s) hS1 (by rw [e3]; exact hk1) (v := (some (.int 0))) (fun h => by rw [hrt] at h; cases h)
  refine ⟨_, _, ?_, hrun, hended, _, _, rfl, ?_, hRE.1, hRE.2.1, hRE.2.2.1, hRE.2.2.2.mono (by decide) (by decide)⟩
  · show Steps p.tables e below (s₁.setTop (mkF m 0 #[va w_CANCELLED, va w_SUCCEEDED] [])) _
    refine XS.aloadN X0.here hx rfl (hb hby d2_0) rfl rfl ?_
    refine st1 _ ?_
    refine st2 _ ?_
    refine XS.pop X2.here hx rfl (hb hby d2_6) rfl rfl ?_
    refine XS.aloadN X2.here hx rfl (hb hby d2_7) rfl rfl ?_
    refine st3.trans ?_
    refine XS.tswIn X3.here hx rfl (pc0 := 11) (pc' := 113) rfl (hb hby d2_11) rfl (by decide) (o := 102) (by decide) (by decide) (by decide) ?_
    refine XS.iconst X3.here hx rfl (hb hby d2_113) ?_
    show Steps p.tables e below (T3.setTop (mkF m 114 #[va w_CANCELLED, va w_SUCCEEDED] [(.int 0)])) _
    exact retN X3 hx (t := .boolean) hrt (by simp) (hb hby d2_114) hr
  · show Q2_22 Z w_QUEUED w_FAILED w_RUNNING w_CANCELLED w_SUCCEEDED  h0 n0 (some (.int 0)) T3.heap _
    rw [e3]; exact ⟨rfl, N3, K1⟩
def Q2_23 (Z : State) (w_QUEUED w_FAILED w_RUNNING w_CANCELLED w_SUCCEEDED : Addr) (h0 : Heap) (n0 : Nat) (v : Option Value) (h : Heap) (L : List Loc) : Prop := v = (some (.int 0)) ∧ Fr n0 L ∧ Keep h0 h []
theorem rm2_23 (l : Launch) (Z : State) (a0 : Array Value) (hw : HW Z a0) (ws : List Jvm.Cond) (w_QUEUED w_FAILED w_RUNNING w_CANCELLED w_SUCCEEDED : Addr) (h0 : Heap) (n0 : Nat) (O0 : Old Z n0 h0) (S : SF Z w_QUEUED w_FAILED w_RUNNING w_CANCELLED w_SUCCEEDED) :
    PayW l Z My2 ws prog_15_method_7_code 2 (some .boolean) #[(.ref w_CANCELLED), (.ref w_FAILED)] h0 ({ frames := 1, cells := 2, slots := 20, locals := 13 } : Room) (Q2_23 Z w_QUEUED w_FAILED w_RUNNING w_CANCELLED w_SUCCEEDED  h0 n0) := by
  obtain ⟨-, -, -, -, -, -, -, E_w_CANCELLED, -⟩ := id S
  refine own_body (plainFor_of_name pn_1) (L0 := #[va w_CANCELLED, va w_FAILED]) (fun _ => by first | rfl | (simp [entryFrame, mkF, argsToLocals, Value.category]; done)) ?_
  intro p e s m below meth c s₁ hrt hlk hx hby hml hZ hown0 hnm X0 e0
  have hown : s.vm.findClass sC0 = some m.cls := hown0
  have N0 := Fr.nil n0
  have K0 : Keep h0 h0 [] := Keep.refl _ _
  obtain ⟨a1, T1, h1, kk1, X1, e1, E1, hS1, hk1, hZ1, hown1, st1⟩ := ldcS (s := s) (vm0 := s.vm) X0 hx hZ hown (ww hw 15 rfl) (own_wS hw) e0 (k0 := 0) ((State.WarmedH.refl s).since 0) (Nat.zero_le _) (g := (mkF m 1 #[va w_CANCELLED, va w_FAILED] [(.ref w_FAILED)])) rfl (hb hby d2_1) (n := 16) (by decide +kernel) (by decide) (by decide) (by decide)
  have O1 := O0.ext E1
  have K1 : Keep h0 h1 [] := K0.ext E1
  obtain ⟨_, _, ⟨T2, L2, k2, n2⟩, -, X2, ⟨Lc2, hQ2, l2, y2, z2⟩, st2⟩ := Jvm.LawKit.callS X1 hx (y := My3) hown1 (mvT hZ1 (ww hw 23 rfl)) (mvT hZ1 (ww hw 24 rfl)) (mvT hZ1 (ww hw 25 rfl)) (mvT hZ1 (ww hw 26 rfl)) (by decide) (backOf (W := 0) (rm3_3 l Z a0 hw [] w_QUEUED w_FAILED w_RUNNING w_CANCELLED w_SUCCEEDED a1 h1 n0 O1 S) hZ1 (ww hw 26 rfl) (ww hw 25 rfl) (by decide) (by decide)) (g := (mkF m 3 #[va w_CANCELLED, va w_FAILED] [(.ref a1), (.ref w_FAILED)])) rfl (by rw [hml]; rfl) (argsL := [(.ref w_FAILED), (.ref a1)]) (rest := []) (lenOf pd_1 rfl) rfl (by show 2 * 0 + _ ≤ _; exact Nat.le_of_eq rfl) (hb hby d2_3) (fun _ _ => ⟨rfl, e1, (by decide : 2 + 0 ≤ _), (by decide : 20 + 0 ≤ _)⟩)
  dsimp only [Pt.U, Pt.locs, Pt.cells, Pt.slots] at X2 l2 y2 z2 st2 hQ2
  subst l2 y2 z2
  obtain ⟨rfl, Nq2, e2⟩ := hQ2
  have N2 := Fr.app N0 Nq2
  obtain ⟨cq3, kq3, q3a, q3b, q3c⟩ := isOf hZ1 e2 (E_w_CANCELLED.ext O1.2)
  obtain ⟨_, _, ⟨T3, L3, k3, n3⟩, -, X3, ⟨Lc3, hQ3, l3, y3, z3⟩, st3⟩ := X2.virtualBackUp hx (x := (⟨sC0, "ordinal", "()I"⟩ : MethodName)) (y := My4) (owner := sC2) hown1 (mvT hZ1 (ww hw 27 rfl)) (mvT hZ1 (ww hw 28 rfl)) (mvT hZ1 (ww hw 29 rfl)) (by decide) (mvT hZ1 (ww hw 31 rfl)) (mvT hZ1 (ww hw 30 rfl)) (backOf (W := 0) (rm4_4 l Z a0 hw [] w_QUEUED w_FAILED w_RUNNING w_CANCELLED w_SUCCEEDED h1 n0 O1 S) hZ1 (ww hw 33 rfl) (ww hw 32 rfl) (by decide) (by decide)) q3a q3c (g := (mkF m 8 #[va w_CANCELLED, va w_FAILED] [(.ref w_CANCELLED)])) rfl (by rw [hml]; rfl) (Steps.refl _) (argsL := []) (rest := []) (lenOf pd_2 rfl) rfl (by show 2 * 0 + _ ≤ _; exact Nat.le_of_eq rfl) (hb hby d2_8) (fun _ _ => ⟨rfl, e2, (by decide : 2 + 0 ≤ _), (by decide : 20 + 0 ≤ _)⟩)
  dsimp only [Pt.U, Pt.locs, Pt.cells, Pt.slots] at X3 l3 y3 z3 st3 hQ3
  subst l3 y3 z3
  obtain ⟨rfl, Nq3, e3⟩ := hQ3
  have N3 := Fr.app N2 Nq3
  obtain ⟨fs, hr, hrun, hended, hRE⟩ := X3.leaveW (s := s) hS1 (by rw [e3]; exact hk1) (v := (some (.int 0))) (fun h => by rw [hrt] at h; cases h)
  refine ⟨_, _, ?_, hrun, hended, _, _, rfl, ?_, hRE.1, hRE.2.1, hRE.2.2.1, hRE.2.2.2.mono (by decide) (by decide)⟩
  · show Steps p.tables e below (s₁.setTop (mkF m 0 #[va w_CANCELLED, va w_FAILED] [])) _
    refine XS.aloadN X0.here hx rfl (hb hby d2_0) rfl rfl ?_
    refine st1 _ ?_
    refine st2 _ ?_
    refine XS.pop X2.here hx rfl (hb hby d2_6) rfl rfl ?_
    refine XS.aloadN X2.here hx rfl (hb hby d2_7) rfl rfl ?_
    refine st3.trans ?_
    refine XS.tswIn X3.here hx rfl (pc0 := 11) (pc' := 113) rfl (hb hby d2_11) rfl (by decide) (o := 102) (by decide) (by decide) (by decide) ?_
    refine XS.iconst X3.here hx rfl (hb hby d2_113) ?_
    show Steps p.tables e below (T3.setTop (mkF m 114 #[va w_CANCELLED, va w_FAILED] [(.int 0)])) _
    exact retN X3 hx (t := .boolean) hrt (by simp) (hb hby d2_114) hr
  · show Q2_23 Z w_QUEUED w_FAILED w_RUNNING w_CANCELLED w_SUCCEEDED  h0 n0 (some (.int 0)) T3.heap _
    rw [e3]; exact ⟨rfl, N3, K1⟩
def Q2_24 (Z : State) (w_QUEUED w_FAILED w_RUNNING w_CANCELLED w_SUCCEEDED : Addr) (h0 : Heap) (n0 : Nat) (v : Option Value) (h : Heap) (L : List Loc) : Prop := v = (some (.int 0)) ∧ Fr n0 L ∧ Keep h0 h []
theorem rm2_24 (l : Launch) (Z : State) (a0 : Array Value) (hw : HW Z a0) (ws : List Jvm.Cond) (w_QUEUED w_FAILED w_RUNNING w_CANCELLED w_SUCCEEDED : Addr) (h0 : Heap) (n0 : Nat) (O0 : Old Z n0 h0) (S : SF Z w_QUEUED w_FAILED w_RUNNING w_CANCELLED w_SUCCEEDED) :
    PayW l Z My2 ws prog_15_method_7_code 2 (some .boolean) #[(.ref w_CANCELLED), (.ref w_CANCELLED)] h0 ({ frames := 1, cells := 2, slots := 20, locals := 13 } : Room) (Q2_24 Z w_QUEUED w_FAILED w_RUNNING w_CANCELLED w_SUCCEEDED  h0 n0) := by
  obtain ⟨-, -, -, -, -, -, -, E_w_CANCELLED, -⟩ := id S
  refine own_body (plainFor_of_name pn_1) (L0 := #[va w_CANCELLED, va w_CANCELLED]) (fun _ => by first | rfl | (simp [entryFrame, mkF, argsToLocals, Value.category]; done)) ?_
  intro p e s m below meth c s₁ hrt hlk hx hby hml hZ hown0 hnm X0 e0
  have hown : s.vm.findClass sC0 = some m.cls := hown0
  have N0 := Fr.nil n0
  have K0 : Keep h0 h0 [] := Keep.refl _ _
  obtain ⟨a1, T1, h1, kk1, X1, e1, E1, hS1, hk1, hZ1, hown1, st1⟩ := ldcS (s := s) (vm0 := s.vm) X0 hx hZ hown (ww hw 15 rfl) (own_wS hw) e0 (k0 := 0) ((State.WarmedH.refl s).since 0) (Nat.zero_le _) (g := (mkF m 1 #[va w_CANCELLED, va w_CANCELLED] [(.ref w_CANCELLED)])) rfl (hb hby d2_1) (n := 16) (by decide +kernel) (by decide) (by decide) (by decide)
  have O1 := O0.ext E1
  have K1 : Keep h0 h1 [] := K0.ext E1
  obtain ⟨_, _, ⟨T2, L2, k2, n2⟩, -, X2, ⟨Lc2, hQ2, l2, y2, z2⟩, st2⟩ := Jvm.LawKit.callS X1 hx (y := My3) hown1 (mvT hZ1 (ww hw 23 rfl)) (mvT hZ1 (ww hw 24 rfl)) (mvT hZ1 (ww hw 25 rfl)) (mvT hZ1 (ww hw 26 rfl)) (by decide) (backOf (W := 0) (rm3_4 l Z a0 hw [] w_QUEUED w_FAILED w_RUNNING w_CANCELLED w_SUCCEEDED a1 h1 n0 O1 S) hZ1 (ww hw 26 rfl) (ww hw 25 rfl) (by decide) (by decide)) (g := (mkF m 3 #[va w_CANCELLED, va w_CANCELLED] [(.ref a1), (.ref w_CANCELLED)])) rfl (by rw [hml]; rfl) (argsL := [(.ref w_CANCELLED), (.ref a1)]) (rest := []) (lenOf pd_1 rfl) rfl (by show 2 * 0 + _ ≤ _; exact Nat.le_of_eq rfl) (hb hby d2_3) (fun _ _ => ⟨rfl, e1, (by decide : 2 + 0 ≤ _), (by decide : 20 + 0 ≤ _)⟩)
  dsimp only [Pt.U, Pt.locs, Pt.cells, Pt.slots] at X2 l2 y2 z2 st2 hQ2
  subst l2 y2 z2
  obtain ⟨rfl, Nq2, e2⟩ := hQ2
  have N2 := Fr.app N0 Nq2
  obtain ⟨cq3, kq3, q3a, q3b, q3c⟩ := isOf hZ1 e2 (E_w_CANCELLED.ext O1.2)
  obtain ⟨_, _, ⟨T3, L3, k3, n3⟩, -, X3, ⟨Lc3, hQ3, l3, y3, z3⟩, st3⟩ := X2.virtualBackUp hx (x := (⟨sC0, "ordinal", "()I"⟩ : MethodName)) (y := My4) (owner := sC2) hown1 (mvT hZ1 (ww hw 27 rfl)) (mvT hZ1 (ww hw 28 rfl)) (mvT hZ1 (ww hw 29 rfl)) (by decide) (mvT hZ1 (ww hw 31 rfl)) (mvT hZ1 (ww hw 30 rfl)) (backOf (W := 0) (rm4_4 l Z a0 hw [] w_QUEUED w_FAILED w_RUNNING w_CANCELLED w_SUCCEEDED h1 n0 O1 S) hZ1 (ww hw 33 rfl) (ww hw 32 rfl) (by decide) (by decide)) q3a q3c (g := (mkF m 8 #[va w_CANCELLED, va w_CANCELLED] [(.ref w_CANCELLED)])) rfl (by rw [hml]; rfl) (Steps.refl _) (argsL := []) (rest := []) (lenOf pd_2 rfl) rfl (by show 2 * 0 + _ ≤ _; exact Nat.le_of_eq rfl) (hb hby d2_8) (fun _ _ => ⟨rfl, e2, (by decide : 2 + 0 ≤ _), (by decide : 20 + 0 ≤ _)⟩)
  dsimp only [Pt.U, Pt.locs, Pt.cells, Pt.slots] at X3 l3 y3 z3 st3 hQ3
  subst l3 y3 z3
  obtain ⟨rfl, Nq3, e3⟩ := hQ3
  have N3 := Fr.app N2 Nq3
  obtain ⟨fs, hr, hrun, hended, hRE⟩ := X3.leaveW (s := s) hS1 (by rw [e3]; exact hk1) (v := (some (.int 0))) (fun h => by rw [hrt] at h; cases h)
  refine ⟨_, _, ?_, hrun, hended, _, _, rfl, ?_, hRE.1, hRE.2.1, hRE.2.2.1, hRE.2.2.2.mono (by decide) (by decide)⟩
  · show Steps p.tables e below (s₁.setTop (mkF m 0 #[va w_CANCELLED, va w_CANCELLED] [])) _
    refine XS.aloadN X0.here hx rfl (hb hby d2_0) rfl rfl ?_
    refine st1 _ ?_
    refine st2 _ ?_
    refine XS.pop X2.here hx rfl (hb hby d2_6) rfl rfl ?_
    refine XS.aloadN X2.here hx rfl (hb hby d2_7) rfl rfl ?_
    refine st3.trans ?_
    refine XS.tswIn X3.here hx rfl (pc0 := 11) (pc' := 113) rfl (hb hby d2_11) rfl (by decide) (o := 102) (by decide) (by decide) (by decide) ?_
    refine XS.iconst X3.here hx rfl (hb hby d2_113) ?_
    show Steps p.tables e below (T3.setTop (mkF m 114 #[va w_CANCELLED, va w_CANCELLED] [(.int 0)])) _
    exact retN X3 hx (t := .boolean) hrt (by simp) (hb hby d2_114) hr
  · show Q2_24 Z w_QUEUED w_FAILED w_RUNNING w_CANCELLED w_SUCCEEDED  h0 n0 (some (.int 0)) T3.heap _
    rw [e3]; exact ⟨rfl, N3, K1⟩
theorem ow1 (p1 : Int32) (v1 : Int32) (hv1 : v1 = ((p1 &&& (2147483647 : Int32)) % (5 : Int32))) (hc4 : v1 = (0 : Int32)) : ¬ (v1 = (1 : Int32)) := by
  rw [← Int32.toInt_inj] at hc4
  rw [← Int32.toInt_inj]
  have u_v1 := congrArg Int32.toInt hv1
  have t1a := Int32.toInt_lt p1
  have t1b := Int32.le_toInt p1
  have t2 : ((2147483647 : Int32) : Int32).toInt = 2147483647 := by decide
  have t3 := Jvm.Kit.i32_mask p1 (2147483647 : Int32) (k := 31) (by decide) (by decide)
  have t4 : ((5 : Int32) : Int32).toInt = 5 := by decide
  have t5 := own_rem (p1 &&& (2147483647 : Int32)) (5 : Int32) 5 (by decide) (by omega)
  have t6a := Int32.toInt_lt v1
  have t6b := Int32.le_toInt v1
  have t7 : ((0 : Int32) : Int32).toInt = 0 := by decide
  have t8 : ((1 : Int32) : Int32).toInt = 1 := by decide
  omega
theorem ow2 (p1 : Int32) (v1 : Int32) (hv1 : v1 = ((p1 &&& (2147483647 : Int32)) % (5 : Int32))) (hc4 : v1 = (0 : Int32)) (hc8 : ¬ (v1 = (1 : Int32))) : ¬ (v1 = (4 : Int32)) := by
  rw [← Int32.toInt_inj] at hc4 hc8
  rw [← Int32.toInt_inj]
  have u_v1 := congrArg Int32.toInt hv1
  have t1a := Int32.toInt_lt p1
  have t1b := Int32.le_toInt p1
  have t2 : ((2147483647 : Int32) : Int32).toInt = 2147483647 := by decide
  have t3 := Jvm.Kit.i32_mask p1 (2147483647 : Int32) (k := 31) (by decide) (by decide)
  have t4 : ((5 : Int32) : Int32).toInt = 5 := by decide
  have t5 := own_rem (p1 &&& (2147483647 : Int32)) (5 : Int32) 5 (by decide) (by omega)
  have t6a := Int32.toInt_lt v1
  have t6b := Int32.le_toInt v1
  have t7 : ((0 : Int32) : Int32).toInt = 0 := by decide
  have t8 : ((1 : Int32) : Int32).toInt = 1 := by decide
  have t9 : ((4 : Int32) : Int32).toInt = 4 := by decide
  omega
theorem ow3 (p1 : Int32) (v1 : Int32) (hv1 : v1 = ((p1 &&& (2147483647 : Int32)) % (5 : Int32))) (hc4 : ¬ (v1 = (0 : Int32))) (hc6 : ¬ (v1 = (1 : Int32))) (hc7 : v1 = (2 : Int32)) : ¬ (v1 = (4 : Int32)) := by
  rw [← Int32.toInt_inj] at hc4 hc6 hc7
  rw [← Int32.toInt_inj]
  have u_v1 := congrArg Int32.toInt hv1
  have t1a := Int32.toInt_lt p1
  have t1b := Int32.le_toInt p1
  have t2 : ((2147483647 : Int32) : Int32).toInt = 2147483647 := by decide
  have t3 := Jvm.Kit.i32_mask p1 (2147483647 : Int32) (k := 31) (by decide) (by decide)
  have t4 : ((5 : Int32) : Int32).toInt = 5 := by decide
  have t5 := own_rem (p1 &&& (2147483647 : Int32)) (5 : Int32) 5 (by decide) (by omega)
  have t6a := Int32.toInt_lt v1
  have t6b := Int32.le_toInt v1
  have t7 : ((0 : Int32) : Int32).toInt = 0 := by decide
  have t8 : ((1 : Int32) : Int32).toInt = 1 := by decide
  have t9 : ((2 : Int32) : Int32).toInt = 2 := by decide
  have t10 : ((4 : Int32) : Int32).toInt = 4 := by decide
  omega
theorem ow4 (p1 : Int32) (v1 : Int32) (hv1 : v1 = ((p1 &&& (2147483647 : Int32)) % (5 : Int32))) (hc4 : ¬ (v1 = (0 : Int32))) (hc6 : ¬ (v1 = (1 : Int32))) (hc7 : ¬ (v1 = (2 : Int32))) (hc8 : v1 = (3 : Int32)) : ¬ (v1 = (4 : Int32)) := by
  rw [← Int32.toInt_inj] at hc4 hc6 hc7 hc8
  rw [← Int32.toInt_inj]
  have u_v1 := congrArg Int32.toInt hv1
  have t1a := Int32.toInt_lt p1
  have t1b := Int32.le_toInt p1
  have t2 : ((2147483647 : Int32) : Int32).toInt = 2147483647 := by decide
  have t3 := Jvm.Kit.i32_mask p1 (2147483647 : Int32) (k := 31) (by decide) (by decide)
  have t4 : ((5 : Int32) : Int32).toInt = 5 := by decide
  have t5 := own_rem (p1 &&& (2147483647 : Int32)) (5 : Int32) 5 (by decide) (by omega)
  have t6a := Int32.toInt_lt v1
  have t6b := Int32.le_toInt v1
  have t7 : ((0 : Int32) : Int32).toInt = 0 := by decide
  have t8 : ((1 : Int32) : Int32).toInt = 1 := by decide
  have t9 : ((2 : Int32) : Int32).toInt = 2 := by decide
  have t10 : ((3 : Int32) : Int32).toInt = 3 := by decide
  have t11 : ((4 : Int32) : Int32).toInt = 4 := by decide
  omega
theorem ow5 (p1 : Int32) (v1 : Int32) (hv1 : v1 = ((p1 &&& (2147483647 : Int32)) % (5 : Int32))) (hc4 : ¬ (v1 = (0 : Int32))) (hc6 : ¬ (v1 = (1 : Int32))) (hc7 : ¬ (v1 = (2 : Int32))) (hc8 : ¬ (v1 = (3 : Int32))) : v1 = (4 : Int32) := by
  rw [← Int32.toInt_inj] at hc4 hc6 hc7 hc8
  rw [← Int32.toInt_inj]
  have u_v1 := congrArg Int32.toInt hv1
  have t1a := Int32.toInt_lt p1
  have t1b := Int32.le_toInt p1
  have t2 : ((2147483647 : Int32) : Int32).toInt = 2147483647 := by decide
  have t3 := Jvm.Kit.i32_mask p1 (2147483647 : Int32) (k := 31) (by decide) (by decide)
  have t4 : ((5 : Int32) : Int32).toInt = 5 := by decide
  have t5 := own_rem (p1 &&& (2147483647 : Int32)) (5 : Int32) 5 (by decide) (by omega)
  have t6a := Int32.toInt_lt v1
  have t6b := Int32.le_toInt v1
  have t7 : ((0 : Int32) : Int32).toInt = 0 := by decide
  have t8 : ((1 : Int32) : Int32).toInt = 1 := by decide
  have t9 : ((2 : Int32) : Int32).toInt = 2 := by decide
  have t10 : ((3 : Int32) : Int32).toInt = 3 := by decide
  have t11 : ((4 : Int32) : Int32).toInt = 4 := by decide
  omega
theorem ow6 (p1 : Int32) (v1 : Int32) (hv1 : v1 = ((p1 &&& (2147483647 : Int32)) % (5 : Int32))) (hc5 : ¬ (v1 = (0 : Int32))) (hc7 : v1 = (1 : Int32)) : ¬ (v1 = (2 : Int32)) := by
  rw [← Int32.toInt_inj] at hc5 hc7
  rw [← Int32.toInt_inj]
  have u_v1 := congrArg Int32.toInt hv1
  have t1a := Int32.toInt_lt p1
  have t1b := Int32.le_toInt p1
  have t2 : ((2147483647 : Int32) : Int32).toInt = 2147483647 := by decide
  have t3 := Jvm.Kit.i32_mask p1 (2147483647 : Int32) (k := 31) (by decide) (by decide)
  have t4 : ((5 : Int32) : Int32).toInt = 5 := by decide
  have t5 := own_rem (p1 &&& (2147483647 : Int32)) (5 : Int32) 5 (by decide) (by omega)
  have t6a := Int32.toInt_lt v1
  have t6b := Int32.le_toInt v1
  have t7 : ((0 : Int32) : Int32).toInt = 0 := by decide
  have t8 : ((1 : Int32) : Int32).toInt = 1 := by decide
  have t9 : ((2 : Int32) : Int32).toInt = 2 := by decide
  omega
theorem ow7 (p1 : Int32) (v1 : Int32) (hv1 : v1 = ((p1 &&& (2147483647 : Int32)) % (5 : Int32))) (hc5 : ¬ (v1 = (0 : Int32))) (hc7 : v1 = (1 : Int32)) (hc10 : ¬ (v1 = (2 : Int32))) : ¬ (v1 = (3 : Int32)) := by
  rw [← Int32.toInt_inj] at hc5 hc7 hc10
  rw [← Int32.toInt_inj]
  have u_v1 := congrArg Int32.toInt hv1
  have t1a := Int32.toInt_lt p1
  have t1b := Int32.le_toInt p1
  have t2 : ((2147483647 : Int32) : Int32).toInt = 2147483647 := by decide
  have t3 := Jvm.Kit.i32_mask p1 (2147483647 : Int32) (k := 31) (by decide) (by decide)
  have t4 : ((5 : Int32) : Int32).toInt = 5 := by decide
  have t5 := own_rem (p1 &&& (2147483647 : Int32)) (5 : Int32) 5 (by decide) (by omega)
  have t6a := Int32.toInt_lt v1
  have t6b := Int32.le_toInt v1
  have t7 : ((0 : Int32) : Int32).toInt = 0 := by decide
  have t8 : ((1 : Int32) : Int32).toInt = 1 := by decide
  have t9 : ((2 : Int32) : Int32).toInt = 2 := by decide
  have t10 : ((3 : Int32) : Int32).toInt = 3 := by decide
  omega
theorem ow8 (p1 : Int32) (v1 : Int32) (hv1 : v1 = ((p1 &&& (2147483647 : Int32)) % (5 : Int32))) (hc5 : ¬ (v1 = (0 : Int32))) (hc7 : v1 = (1 : Int32)) (hc10 : ¬ (v1 = (2 : Int32))) (hc11 : ¬ (v1 = (3 : Int32))) : ¬ (v1 = (4 : Int32)) := by
  rw [← Int32.toInt_inj] at hc5 hc7 hc10 hc11
  rw [← Int32.toInt_inj]
  have u_v1 := congrArg Int32.toInt hv1
  have t1a := Int32.toInt_lt p1
  have t1b := Int32.le_toInt p1
  have t2 : ((2147483647 : Int32) : Int32).toInt = 2147483647 := by decide
  have t3 := Jvm.Kit.i32_mask p1 (2147483647 : Int32) (k := 31) (by decide) (by decide)
  have t4 : ((5 : Int32) : Int32).toInt = 5 := by decide
  have t5 := own_rem (p1 &&& (2147483647 : Int32)) (5 : Int32) 5 (by decide) (by omega)
  have t6a := Int32.toInt_lt v1
  have t6b := Int32.le_toInt v1
  have t7 : ((0 : Int32) : Int32).toInt = 0 := by decide
  have t8 : ((1 : Int32) : Int32).toInt = 1 := by decide
  have t9 : ((2 : Int32) : Int32).toInt = 2 := by decide
  have t10 : ((3 : Int32) : Int32).toInt = 3 := by decide
  have t11 : ((4 : Int32) : Int32).toInt = 4 := by decide
  omega
theorem ow9 (p1 : Int32) (v1 : Int32) (hv1 : v1 = ((p1 &&& (2147483647 : Int32)) % (5 : Int32))) (hc5 : ¬ (v1 = (0 : Int32))) (hc7 : ¬ (v1 = (1 : Int32))) (hc8 : ¬ (v1 = (2 : Int32))) (hc9 : ¬ (v1 = (3 : Int32))) : v1 = (4 : Int32) := by
  rw [← Int32.toInt_inj] at hc5 hc7 hc8 hc9
  rw [← Int32.toInt_inj]
  have u_v1 := congrArg Int32.toInt hv1
  have t1a := Int32.toInt_lt p1
  have t1b := Int32.le_toInt p1
  have t2 : ((2147483647 : Int32) : Int32).toInt = 2147483647 := by decide
  have t3 := Jvm.Kit.i32_mask p1 (2147483647 : Int32) (k := 31) (by decide) (by decide)
  have t4 : ((5 : Int32) : Int32).toInt = 5 := by decide
  have t5 := own_rem (p1 &&& (2147483647 : Int32)) (5 : Int32) 5 (by decide) (by omega)
  have t6a := Int32.toInt_lt v1
  have t6b := Int32.le_toInt v1
  have t7 : ((0 : Int32) : Int32).toInt = 0 := by decide
  have t8 : ((1 : Int32) : Int32).toInt = 1 := by decide
  have t9 : ((2 : Int32) : Int32).toInt = 2 := by decide
  have t10 : ((3 : Int32) : Int32).toInt = 3 := by decide
  have t11 : ((4 : Int32) : Int32).toInt = 4 := by decide
  omega
theorem ow10 (p0 : Int32) (v0 : Int32) (hv0 : v0 = ((p0 &&& (2147483647 : Int32)) % (5 : Int32))) (hc1 : ¬ (v0 = (0 : Int32))) (hc3 : ¬ (v0 = (1 : Int32))) (hc4 : v0 = (2 : Int32)) : ¬ (v0 = (3 : Int32)) := by
  rw [← Int32.toInt_inj] at hc1 hc3 hc4
  rw [← Int32.toInt_inj]
  have u_v0 := congrArg Int32.toInt hv0
  have t1a := Int32.toInt_lt p0
  have t1b := Int32.le_toInt p0
  have t2 : ((2147483647 : Int32) : Int32).toInt = 2147483647 := by decide
  have t3 := Jvm.Kit.i32_mask p0 (2147483647 : Int32) (k := 31) (by decide) (by decide)
  have t4 : ((5 : Int32) : Int32).toInt = 5 := by decide
  have t5 := own_rem (p0 &&& (2147483647 : Int32)) (5 : Int32) 5 (by decide) (by omega)
  have t6a := Int32.toInt_lt v0
  have t6b := Int32.le_toInt v0
  have t7 : ((0 : Int32) : Int32).toInt = 0 := by decide
  have t8 : ((1 : Int32) : Int32).toInt = 1 := by decide
  have t9 : ((2 : Int32) : Int32).toInt = 2 := by decide
  have t10 : ((3 : Int32) : Int32).toInt = 3 := by decide
  omega
def Q0 (n0 : Nat) (v : Option Value) (h : Heap) (L : List Loc) : Prop := v = (some (.int (1 : Int32))) ∧ Fr n0 L
theorem rm0 (l : Launch) (Z : State) (a0 : Array Value) (hw : HW Z a0) (ws : List Jvm.Cond) (w_QUEUED w_FAILED w_RUNNING w_CANCELLED w_SUCCEEDED : Addr) (h0 : Heap) (n0 : Nat) (O0 : Old Z n0 h0) (S : SF Z w_QUEUED w_FAILED w_RUNNING w_CANCELLED w_SUCCEEDED) (p0 : Int32) (p1 : Int32) :
    PayW l Z x ws code maxLocals ret #[(.int p0), (.int p1)] h0 room_1 (Q0 n0) := by
  obtain ⟨-, E_w_QUEUED, -, E_w_FAILED, -, E_w_RUNNING, -, E_w_CANCELLED, -, E_w_SUCCEEDED, -⟩ := id S
  refine own_body (plainFor_of_name pn_0) (L0 := #[vi p0, vi p1, uu, uu, uu, uu]) (fun _ => by first | rfl | (simp [entryFrame, mkF, argsToLocals, Value.category, maxLocals]; done)) ?_
  intro p e s m below meth c s₁ hrt hlk hx hby hml hZ hown0 hnm X0 e0
  have hown : s.vm.findClass sC1 = some m.cls := hown0
  have N0 := Fr.nil n0
  have K0 : Keep h0 h0 [] := Keep.refl _ _
  obtain ⟨v0, hv0⟩ : ∃ z : Int32, z = ((p0 &&& (2147483647 : Int32)) % (5 : Int32)) := ⟨_, rfl⟩
  obtain ⟨v1, hv1⟩ : ∃ z : Int32, z = ((p1 &&& (2147483647 : Int32)) % (5 : Int32)) := ⟨_, rfl⟩
  have pre_2 : ∀ t, Steps p.tables e below (s₁.setTop (mkF m 15 #[vi p0, vi p1, vi v0, vi v1, uu, uu] [(.int v0)])) t → Steps p.tables e below (s₁.setTop (mkF m 0 #[vi p0, vi p1, uu, uu, uu, uu] [])) t := fun t k => (by
    show Steps p.tables e below (s₁.setTop (mkF m 0 #[vi p0, vi p1, uu, uu, uu, uu] [])) _
    refine XS.iloadN X0.here hx rfl (hb hby at_0) rfl ?_
    refine X0.ldcInt hx hown (mvT hZ (ww hw 0 rfl)) (g := (mkF m 1 #[vi p0, vi p1, uu, uu, uu, uu] [(.int p0)])) rfl (hb hby at_1) _ ?_
    refine XS.iand X0.here hx rfl (hb hby at_3) rfl ?_
    refine XS.iconst X0.here hx rfl (hb hby at_4) ?_
    refine iremM X0 hx rfl (hb hby at_5) rfl (by decide) ?_
    show Steps p.tables e below (s₁.setTop (mkF m 6 #[vi p0, vi p1, uu, uu, uu, uu] [(.int ((p0 &&& (2147483647 : Int32)) % (5 : Int32)))])) _
    rw [← hv0]
    refine XS.istoreN X0.here hx rfl (hb hby at_6) rfl (l' := #[vi p0, vi p1, vi v0, uu, uu, uu]) rfl ?_
    refine XS.iloadN X0.here hx rfl (hb hby at_7) rfl ?_
    refine X0.ldcInt hx hown (mvT hZ (ww hw 0 rfl)) (g := (mkF m 8 #[vi p0, vi p1, vi v0, uu, uu, uu] [(.int p1)])) rfl (hb hby at_8) _ ?_
    refine XS.iand X0.here hx rfl (hb hby at_10) rfl ?_
    refine XS.iconst X0.here hx rfl (hb hby at_11) ?_
    refine iremM X0 hx rfl (hb hby at_12) rfl (by decide) ?_
    show Steps p.tables e below (s₁.setTop (mkF m 13 #[vi p0, vi p1, vi v0, uu, uu, uu] [(.int ((p1 &&& (2147483647 : Int32)) % (5 : Int32)))])) _
    rw [← hv1]
    refine XS.istoreN X0.here hx rfl (hb hby at_13) rfl (l' := #[vi p0, vi p1, vi v0, vi v1, uu, uu]) rfl ?_
    refine XS.iloadN X0.here hx rfl (hb hby at_14) rfl ?_
    exact k)
  by_cases hc1 : v0 = (0 : Int32)
  · obtain ⟨_, _, ⟨T3, L3, k3, n3⟩, -, X3, ⟨Lc3, hQ3, l3, y3, z3⟩, st3⟩ := Jvm.LawKit.callS X0 hx (y := My1) hown (mvT hZ (ww hw 1 rfl)) (mvT hZ (ww hw 2 rfl)) (mvT hZ (ww hw 3 rfl)) (mvT hZ (ww hw 4 rfl)) (by decide) (backOf (W := 0) (rm1_0 l Z a0 hw [] w_QUEUED w_FAILED w_RUNNING w_CANCELLED w_SUCCEEDED v0 h0 n0 O0 S hc1) hZ (ww hw 4 rfl) (ww hw 3 rfl) (by decide) (by decide)) (g := (mkF m 15 #[vi p0, vi p1, vi v0, vi v1, uu, uu] [(.int v0)])) rfl (by rw [hml]; rfl) (argsL := [(.int v0)]) (rest := []) (lenOf pd_0 rfl) rfl (by show 2 * 0 + _ ≤ _; exact Nat.le_of_eq rfl) (hb hby at_15) (fun _ _ => ⟨rfl, e0, (by decide : 0 + 0 ≤ _), (by decide : 0 + 0 ≤ _)⟩)
    dsimp only [Pt.U, Pt.locs, Pt.cells, Pt.slots] at X3 l3 y3 z3 st3 hQ3
    subst l3 y3 z3
    obtain ⟨rfl, Nq3, e3⟩ := hQ3
    have N3 := Fr.app N0 Nq3
    have pre_5 : ∀ t, Steps p.tables e below (T3.setTop (mkF m 21 #[vi p0, vi p1, vi v0, vi v1, va w_QUEUED, uu] [(.int v1)])) t → Steps p.tables e below (s₁.setTop (mkF m 0 #[vi p0, vi p1, uu, uu, uu, uu] [])) t := fun t k => pre_2 t (by
      show Steps p.tables e below (s₁.setTop (mkF m 15 #[vi p0, vi p1, vi v0, vi v1, uu, uu] [(.int v0)])) _
      refine st3 _ ?_
      refine XS.astore X3.here hx rfl (hb hby at_18) rfl rfl (l' := #[vi p0, vi p1, vi v0, vi v1, va w_QUEUED, uu]) rfl ?_
      refine XS.iloadN X3.here hx rfl (hb hby at_20) rfl ?_
      exact k)
    by_cases hc4 : v1 = (0 : Int32)
    · obtain ⟨_, _, ⟨T6, L6, k6, n6⟩, -, X6, ⟨Lc6, hQ6, l6, y6, z6⟩, st6⟩ := Jvm.LawKit.callS X3 hx (y := My1) hown (mvT hZ (ww hw 1 rfl)) (mvT hZ (ww hw 2 rfl)) (mvT hZ (ww hw 3 rfl)) (mvT hZ (ww hw 4 rfl)) (by decide) (backOf (W := 0) (rm1_0 l Z a0 hw [] w_QUEUED w_FAILED w_RUNNING w_CANCELLED w_SUCCEEDED v1 h0 n0 O0 S hc4) hZ (ww hw 4 rfl) (ww hw 3 rfl) (by decide) (by decide)) (g := (mkF m 21 #[vi p0, vi p1, vi v0, vi v1, va w_QUEUED, uu] [(.int v1)])) rfl (by rw [hml]; rfl) (argsL := [(.int v1)]) (rest := []) (lenOf pd_0 rfl) rfl (by show 2 * 0 + _ ≤ _; exact Nat.le_of_eq rfl) (hb hby at_21) (fun _ _ => ⟨rfl, e3, (by decide : 0 + 0 ≤ _), (by decide : 0 + 0 ≤ _)⟩)
      dsimp only [Pt.U, Pt.locs, Pt.cells, Pt.slots] at X6 l6 y6 z6 st6 hQ6
      subst l6 y6 z6
      obtain ⟨rfl, Nq6, e6⟩ := hQ6
      have N6 := Fr.app N3 Nq6
      obtain ⟨cq7, kq7, q7a, q7b, q7c⟩ := isOf hZ e6 (E_w_QUEUED.ext O0.2)
      obtain ⟨_, _, ⟨T7, L7, k7, n7⟩, -, X7, hS7, hge7, ⟨Lc7, hQ7, l7, y7, z7⟩, st7⟩ := X6.virtualBackS hx (y := My2) (z := My2) hown (mvT hZ (ww hw 10 rfl)) (mvT hZ (ww hw 11 rfl)) (notFace_of_selects (args := #[]) (mvT hZ (ww hw 13 rfl))) (mvT hZ (ww hw 13 rfl)) (mvT hZ (ww hw 12 rfl)) (by decide) (backOfS (W := 0) (rm2_0 l Z a0 hw [] w_QUEUED w_FAILED w_RUNNING w_CANCELLED w_SUCCEEDED h0 n0 O0 S) hZ (ww hw 14 rfl) (ww hw 6 rfl) (by decide) (by decide)) q7a q7c (g := (mkF m 30 #[vi p0, vi p1, vi v0, vi v1, va w_QUEUED, va w_QUEUED] [(.ref w_QUEUED), (.ref w_QUEUED)])) rfl (by rw [hml]; rfl) (Steps.refl _) (argsL := [(.ref w_QUEUED)]) (rest := []) (lenOf pd_3 rfl) rfl (by show 2 * 0 + _ ≤ _; exact Nat.le_of_eq rfl) (hb hby at_30) (fun _ _ => ⟨rfl, e6, (by decide : 0 + 2 ≤ _), (by decide : 0 + 20 ≤ _)⟩)
      dsimp only [Pt.U, Pt.locs, Pt.cells, Pt.slots] at X7 l7 y7 z7 st7 hQ7 hS7 hge7
      subst l7 y7 z7
      have hZ7 : Z.Warmed39 (s.setVm T7.vm).vm := State.Warmed39.trans hZ hS7.1
      have hown7 : (s.setVm T7.vm).vm.findClass sC1 = some m.cls := by rw [show (s.setVm T7.vm).vm = T7.vm from rfl, hS7.1.alike.findClass]; exact hown
      obtain ⟨rfl, Nq7, Kc7⟩ := hQ7
      have N7 := Fr.app N6 Nq7
      have O7 := O0.keep Kc7 all0
      have K7 : Keep h0 T7.heap [] := K0.trans Kc7 all0
      have hc8 : ¬ (v1 = (1 : Int32)) := ow1 p1 v1 hv1 hc4
      have hc9 : ¬ (v1 = (4 : Int32)) := ow2 p1 v1 hv1 hc4 hc8
      obtain ⟨_, _, ⟨T10, L10, k10, n10⟩, -, X10, ⟨Lc10, hQ10, l10, y10, z10⟩, st10⟩ := Jvm.LawKit.callS X7 hx (y := My5) hown7 (mvT hZ7 (ww hw 40 rfl)) (mvT hZ7 (ww hw 41 rfl)) (mvT hZ7 (ww hw 3 rfl)) (mvT hZ7 (ww hw 42 rfl)) (by decide) (backOf (W := 1) (rm5_0 l Z a0 hw [] w_QUEUED w_FAILED w_RUNNING w_CANCELLED w_SUCCEEDED v0 v1 T7.heap n0 O7 S hc1 hc8 hc9) hZ7 (ww hw 42 rfl) (ww hw 3 rfl) (by decide) (by decide)) (g := (mkF m 35 #[vi p0, vi p1, vi v0, vi v1, va w_QUEUED, va w_QUEUED] [(.int v1), (.int v0), (.int 0)])) rfl (by rw [hml]; rfl) (argsL := [(.int v0), (.int v1)]) (rest := [(.int 0)]) (lenOf pd_4 rfl) rfl (by show 2 * 0 + _ ≤ _; exact Nat.le_of_eq rfl) (hb hby at_35) (fun _ _ => ⟨rfl, rfl, (by decide : 2 + 0 ≤ _), (by decide : 20 + 0 ≤ _)⟩)
      dsimp only [Pt.U, Pt.locs, Pt.cells, Pt.slots] at X10 l10 y10 z10 st10 hQ10
      subst l10 y10 z10
      obtain ⟨rfl, Nq10, e10⟩ := hQ10
      have N10 := Fr.app N7 Nq10
      obtain ⟨fs, hr, hrun, hended, hRE⟩ := X10.leaveW (s := s) hS7 (by rw [e10]; exact (Nat.le_refl _)) (v := (some (.int 1))) (fun h => by rw [hrt] at h; cases h)
      refine ⟨_, _, pre_5 _ ?_, hrun, hended, _, _, rfl, ?_, hRE.1, hRE.2.1, hRE.2.2.1, hRE.2.2.2.mono (by decide) (by decide)⟩
      · show Steps p.tables e below (T3.setTop (mkF m 21 #[vi p0, vi p1, vi v0, vi v1, va w_QUEUED, uu] [(.int v1)])) _
        refine st6 _ ?_
        refine XS.astore X6.here hx rfl (hb hby at_24) rfl rfl (l' := #[vi p0, vi p1, vi v0, vi v1, va w_QUEUED, va w_QUEUED]) rfl ?_
        refine XS.aload X6.here hx rfl (hb hby at_26) rfl rfl ?_
        refine XS.aload X6.here hx rfl (hb hby at_28) rfl rfl ?_
        refine st7.trans ?_
        refine XS.iloadN X7.here hx rfl (hb hby at_33) rfl ?_
        refine XS.iloadN X7.here hx rfl (hb hby at_34) rfl ?_
        refine st10 _ ?_
        show Steps p.tables e below (T10.setTop (mkF m 38 #[vi p0, vi p1, vi v0, vi v1, va w_QUEUED, va w_QUEUED] [(.int 0), (.int 0)])) _
        refine XS.icmpNo X10.here hx rfl (hb hby at_38) rfl (teq (by decide : (0 : Int32) = (0 : Int32))).2 ?_
        refine XS.iconst X10.here hx rfl (hb hby at_41) ?_
        refine XS.goto X10.here hx rfl (pc0 := 42) (pc' := 46) rfl (hb hby at_42) (by decide) (by decide) ?_
        exact retN X10 hx (t := .boolean) hrt (by simp) (hb hby at_46) hr
      · show Q0 n0 (some (.int 1)) T10.heap _
        exact (⟨rfl, N10⟩)
    · by_cases hc6 : v1 = (1 : Int32)
      · obtain ⟨_, _, ⟨T7, L7, k7, n7⟩, -, X7, ⟨Lc7, hQ7, l7, y7, z7⟩, st7⟩ := Jvm.LawKit.callS X3 hx (y := My1) hown (mvT hZ (ww hw 1 rfl)) (mvT hZ (ww hw 2 rfl)) (mvT hZ (ww hw 3 rfl)) (mvT hZ (ww hw 4 rfl)) (by decide) (backOf (W := 0) (rm1_1 l Z a0 hw [] w_QUEUED w_FAILED w_RUNNING w_CANCELLED w_SUCCEEDED v1 h0 n0 O0 S hc4 hc6) hZ (ww hw 4 rfl) (ww hw 3 rfl) (by decide) (by decide)) (g := (mkF m 21 #[vi p0, vi p1, vi v0, vi v1, va w_QUEUED, uu] [(.int v1)])) rfl (by rw [hml]; rfl) (argsL := [(.int v1)]) (rest := []) (lenOf pd_0 rfl) rfl (by show 2 * 0 + _ ≤ _; exact Nat.le_of_eq rfl) (hb hby at_21) (fun _ _ => ⟨rfl, e3, (by decide : 0 + 0 ≤ _), (by decide : 0 + 0 ≤ _)⟩)
        dsimp only [Pt.U, Pt.locs, Pt.cells, Pt.slots] at X7 l7 y7 z7 st7 hQ7
        subst l7 y7 z7
        obtain ⟨rfl, Nq7, e7⟩ := hQ7
        have N7 := Fr.app N3 Nq7
        obtain ⟨cq8, kq8, q8a, q8b, q8c⟩ := isOf hZ e7 (E_w_QUEUED.ext O0.2)
        obtain ⟨_, _, ⟨T8, L8, k8, n8⟩, -, X8, hS8, hge8, ⟨Lc8, hQ8, l8, y8, z8⟩, st8⟩ := X7.virtualBackS hx (y := My2) (z := My2) hown (mvT hZ (ww hw 10 rfl)) (mvT hZ (ww hw 11 rfl)) (notFace_of_selects (args := #[]) (mvT hZ (ww hw 13 rfl))) (mvT hZ (ww hw 13 rfl)) (mvT hZ (ww hw 12 rfl)) (by decide) (backOfS (W := 0) (rm2_1 l Z a0 hw [] w_QUEUED w_FAILED w_RUNNING w_CANCELLED w_SUCCEEDED h0 n0 O0 S) hZ (ww hw 14 rfl) (ww hw 6 rfl) (by decide) (by decide)) q8a q8c (g := (mkF m 30 #[vi p0, vi p1, vi v0, vi v1, va w_QUEUED, va w_RUNNING] [(.ref w_RUNNING), (.ref w_QUEUED)])) rfl (by rw [hml]; rfl) (Steps.refl _) (argsL := [(.ref w_RUNNING)]) (rest := []) (lenOf pd_3 rfl) rfl (by show 2 * 0 + _ ≤ _; exact Nat.le_of_eq rfl) (hb hby at_30) (fun _ _ => ⟨rfl, e7, (by decide : 0 + 2 ≤ _), (by decide : 0 + 20 ≤ _)⟩)
        dsimp only [Pt.U, Pt.locs, Pt.cells, Pt.slots] at X8 l8 y8 z8 st8 hQ8 hS8 hge8
        subst l8 y8 z8
        have hZ8 : Z.Warmed39 (s.setVm T8.vm).vm := State.Warmed39.trans hZ hS8.1
        have hown8 : (s.setVm T8.vm).vm.findClass sC1 = some m.cls := by rw [show (s.setVm T8.vm).vm = T8.vm from rfl, hS8.1.alike.findClass]; exact hown
        obtain ⟨rfl, Nq8, Kc8⟩ := hQ8
        have N8 := Fr.app N7 Nq8
        have O8 := O0.keep Kc8 all0
        have K8 : Keep h0 T8.heap [] := K0.trans Kc8 all0
        obtain ⟨_, _, ⟨T9, L9, k9, n9⟩, -, X9, ⟨Lc9, hQ9, l9, y9, z9⟩, st9⟩ := Jvm.LawKit.callS X8 hx (y := My5) hown8 (mvT hZ8 (ww hw 40 rfl)) (mvT hZ8 (ww hw 41 rfl)) (mvT hZ8 (ww hw 3 rfl)) (mvT hZ8 (ww hw 42 rfl)) (by decide) (backOf (W := 1) (rm5_1 l Z a0 hw [] w_QUEUED w_FAILED w_RUNNING w_CANCELLED w_SUCCEEDED v0 v1 T8.heap n0 O8 S hc1 hc6) hZ8 (ww hw 42 rfl) (ww hw 3 rfl) (by decide) (by decide)) (g := (mkF m 35 #[vi p0, vi p1, vi v0, vi v1, va w_QUEUED, va w_RUNNING] [(.int v1), (.int v0), (.int 1)])) rfl (by rw [hml]; rfl) (argsL := [(.int v0), (.int v1)]) (rest := [(.int 1)]) (lenOf pd_4 rfl) rfl (by show 2 * 0 + _ ≤ _; exact Nat.le_of_eq rfl) (hb hby at_35) (fun _ _ => ⟨rfl, rfl, (by decide : 2 + 0 ≤ _), (by decide : 20 + 0 ≤ _)⟩)
        dsimp only [Pt.U, Pt.locs, Pt.cells, Pt.slots] at X9 l9 y9 z9 st9 hQ9
        subst l9 y9 z9
        obtain ⟨rfl, Nq9, e9⟩ := hQ9
        have N9 := Fr.app N8 Nq9
        obtain ⟨fs, hr, hrun, hended, hRE⟩ := X9.leaveW (s := s) hS8 (by rw [e9]; exact (Nat.le_refl _)) (v := (some (.int 1))) (fun h => by rw [hrt] at h; cases h)
        refine ⟨_, _, pre_5 _ ?_, hrun, hended, _, _, rfl, ?_, hRE.1, hRE.2.1, hRE.2.2.1, hRE.2.2.2.mono (by decide) (by decide)⟩
        · show Steps p.tables e below (T3.setTop (mkF m 21 #[vi p0, vi p1, vi v0, vi v1, va w_QUEUED, uu] [(.int v1)])) _
          refine st7 _ ?_
          refine XS.astore X7.here hx rfl (hb hby at_24) rfl rfl (l' := #[vi p0, vi p1, vi v0, vi v1, va w_QUEUED, va w_RUNNING]) rfl ?_
          refine XS.aload X7.here hx rfl (hb hby at_26) rfl rfl ?_
          refine XS.aload X7.here hx rfl (hb hby at_28) rfl rfl ?_
          refine st8.trans ?_
          refine XS.iloadN X8.here hx rfl (hb hby at_33) rfl ?_
          refine XS.iloadN X8.here hx rfl (hb hby at_34) rfl ?_
          refine st9 _ ?_
          show Steps p.tables e below (T9.setTop (mkF m 38 #[vi p0, vi p1, vi v0, vi v1, va w_QUEUED, va w_RUNNING] [(.int 1), (.int 1)])) _
          refine XS.icmpNo X9.here hx rfl (hb hby at_38) rfl (teq (by decide : (1 : Int32) = (1 : Int32))).2 ?_
          refine XS.iconst X9.here hx rfl (hb hby at_41) ?_
          refine XS.goto X9.here hx rfl (pc0 := 42) (pc' := 46) rfl (hb hby at_42) (by decide) (by decide) ?_
          exact retN X9 hx (t := .boolean) hrt (by simp) (hb hby at_46) hr
        · show Q0 n0 (some (.int 1)) T9.heap _
          exact (⟨rfl, N9⟩)
      · by_cases hc7 : v1 = (2 : Int32)
        · obtain ⟨_, _, ⟨T8, L8, k8, n8⟩, -, X8, ⟨Lc8, hQ8, l8, y8, z8⟩, st8⟩ := Jvm.LawKit.callS X3 hx (y := My1) hown (mvT hZ (ww hw 1 rfl)) (mvT hZ (ww hw 2 rfl)) (mvT hZ (ww hw 3 rfl)) (mvT hZ (ww hw 4 rfl)) (by decide) (backOf (W := 0) (rm1_2 l Z a0 hw [] w_QUEUED w_FAILED w_RUNNING w_CANCELLED w_SUCCEEDED v1 h0 n0 O0 S hc4 hc6 hc7) hZ (ww hw 4 rfl) (ww hw 3 rfl) (by decide) (by decide)) (g := (mkF m 21 #[vi p0, vi p1, vi v0, vi v1, va w_QUEUED, uu] [(.int v1)])) rfl (by rw [hml]; rfl) (argsL := [(.int v1)]) (rest := []) (lenOf pd_0 rfl) rfl (by show 2 * 0 + _ ≤ _; exact Nat.le_of_eq rfl) (hb hby at_21) (fun _ _ => ⟨rfl, e3, (by decide : 0 + 0 ≤ _), (by decide : 0 + 0 ≤ _)⟩)
          dsimp only [Pt.U, Pt.locs, Pt.cells, Pt.slots] at X8 l8 y8 z8 st8 hQ8
          subst l8 y8 z8
          obtain ⟨rfl, Nq8, e8⟩ := hQ8
          have N8 := Fr.app N3 Nq8
          obtain ⟨cq9, kq9, q9a, q9b, q9c⟩ := isOf hZ e8 (E_w_QUEUED.ext O0.2)
          obtain ⟨_, _, ⟨T9, L9, k9, n9⟩, -, X9, hS9, hge9, ⟨Lc9, hQ9, l9, y9, z9⟩, st9⟩ := X8.virtualBackS hx (y := My2) (z := My2) hown (mvT hZ (ww hw 10 rfl)) (mvT hZ (ww hw 11 rfl)) (notFace_of_selects (args := #[]) (mvT hZ (ww hw 13 rfl))) (mvT hZ (ww hw 13 rfl)) (mvT hZ (ww hw 12 rfl)) (by decide) (backOfS (W := 0) (rm2_2 l Z a0 hw [] w_QUEUED w_FAILED w_RUNNING w_CANCELLED w_SUCCEEDED h0 n0 O0 S) hZ (ww hw 14 rfl) (ww hw 6 rfl) (by decide) (by decide)) q9a q9c (g := (mkF m 30 #[vi p0, vi p1, vi v0, vi v1, va w_QUEUED, va w_SUCCEEDED] [(.ref w_SUCCEEDED), (.ref w_QUEUED)])) rfl (by rw [hml]; rfl) (Steps.refl _) (argsL := [(.ref w_SUCCEEDED)]) (rest := []) (lenOf pd_3 rfl) rfl (by show 2 * 0 + _ ≤ _; exact Nat.le_of_eq rfl) (hb hby at_30) (fun _ _ => ⟨rfl, e8, (by decide : 0 + 2 ≤ _), (by decide : 0 + 20 ≤ _)⟩)
          dsimp only [Pt.U, Pt.locs, Pt.cells, Pt.slots] at X9 l9 y9 z9 st9 hQ9 hS9 hge9
          subst l9 y9 z9
          have hZ9 : Z.Warmed39 (s.setVm T9.vm).vm := State.Warmed39.trans hZ hS9.1
          have hown9 : (s.setVm T9.vm).vm.findClass sC1 = some m.cls := by rw [show (s.setVm T9.vm).vm = T9.vm from rfl, hS9.1.alike.findClass]; exact hown
          obtain ⟨rfl, Nq9, Kc9⟩ := hQ9
          have N9 := Fr.app N8 Nq9
          have O9 := O0.keep Kc9 all0
          have K9 : Keep h0 T9.heap [] := K0.trans Kc9 all0
          have hc10 : ¬ (v1 = (4 : Int32)) := ow3 p1 v1 hv1 hc4 hc6 hc7
          obtain ⟨_, _, ⟨T11, L11, k11, n11⟩, -, X11, ⟨Lc11, hQ11, l11, y11, z11⟩, st11⟩ := Jvm.LawKit.callS X9 hx (y := My5) hown9 (mvT hZ9 (ww hw 40 rfl)) (mvT hZ9 (ww hw 41 rfl)) (mvT hZ9 (ww hw 3 rfl)) (mvT hZ9 (ww hw 42 rfl)) (by decide) (backOf (W := 1) (rm5_0 l Z a0 hw [] w_QUEUED w_FAILED w_RUNNING w_CANCELLED w_SUCCEEDED v0 v1 T9.heap n0 O9 S hc1 hc6 hc10) hZ9 (ww hw 42 rfl) (ww hw 3 rfl) (by decide) (by decide)) (g := (mkF m 35 #[vi p0, vi p1, vi v0, vi v1, va w_QUEUED, va w_SUCCEEDED] [(.int v1), (.int v0), (.int 0)])) rfl (by rw [hml]; rfl) (argsL := [(.int v0), (.int v1)]) (rest := [(.int 0)]) (lenOf pd_4 rfl) rfl (by show 2 * 0 + _ ≤ _; exact Nat.le_of_eq rfl) (hb hby at_35) (fun _ _ => ⟨rfl, rfl, (by decide : 2 + 0 ≤ _), (by decide : 20 + 0 ≤ _)⟩)
          dsimp only [Pt.U, Pt.locs, Pt.cells, Pt.slots] at X11 l11 y11 z11 st11 hQ11
          subst l11 y11 z11
          obtain ⟨rfl, Nq11, e11⟩ := hQ11
          have N11 := Fr.app N9 Nq11
          obtain ⟨fs, hr, hrun, hended, hRE⟩ := X11.leaveW (s := s) hS9 (by rw [e11]; exact (Nat.le_refl _)) (v := (some (.int 1))) (fun h => by rw [hrt] at h; cases h)
          refine ⟨_, _, pre_5 _ ?_, hrun, hended, _, _, rfl, ?_, hRE.1, hRE.2.1, hRE.2.2.1, hRE.2.2.2.mono (by decide) (by decide)⟩
          · show Steps p.tables e below (T3.setTop (mkF m 21 #[vi p0, vi p1, vi v0, vi v1, va w_QUEUED, uu] [(.int v1)])) _
            refine st8 _ ?_
            refine XS.astore X8.here hx rfl (hb hby at_24) rfl rfl (l' := #[vi p0, vi p1, vi v0, vi v1, va w_QUEUED, va w_SUCCEEDED]) rfl ?_
            refine XS.aload X8.here hx rfl (hb hby at_26) rfl rfl ?_
            refine XS.aload X8.here hx rfl (hb hby at_28) rfl rfl ?_
            refine st9.trans ?_
            refine XS.iloadN X9.here hx rfl (hb hby at_33) rfl ?_
            refine XS.iloadN X9.here hx rfl (hb hby at_34) rfl ?_
            refine st11 _ ?_
            show Steps p.tables e below (T11.setTop (mkF m 38 #[vi p0, vi p1, vi v0, vi v1, va w_QUEUED, va w_SUCCEEDED] [(.int 0), (.int 0)])) _
            refine XS.icmpNo X11.here hx rfl (hb hby at_38) rfl (teq (by decide : (0 : Int32) = (0 : Int32))).2 ?_
            refine XS.iconst X11.here hx rfl (hb hby at_41) ?_
            refine XS.goto X11.here hx rfl (pc0 := 42) (pc' := 46) rfl (hb hby at_42) (by decide) (by decide) ?_
            exact retN X11 hx (t := .boolean) hrt (by simp) (hb hby at_46) hr
          · show Q0 n0 (some (.int 1)) T11.heap _
            exact (⟨rfl, N11⟩)
        · by_cases hc8 : v1 = (3 : Int32)
          · obtain ⟨_, _, ⟨T9, L9, k9, n9⟩, -, X9, ⟨Lc9, hQ9, l9, y9, z9⟩, st9⟩ := Jvm.LawKit.callS X3 hx (y := My1) hown (mvT hZ (ww hw 1 rfl)) (mvT hZ (ww hw 2 rfl)) (mvT hZ (ww hw 3 rfl)) (mvT hZ (ww hw 4 rfl)) (by decide) (backOf (W := 0) (rm1_3 l Z a0 hw [] w_QUEUED w_FAILED w_RUNNING w_CANCELLED w_SUCCEEDED v1 h0 n0 O0 S hc4 hc6 hc7 hc8) hZ (ww hw 4 rfl) (ww hw 3 rfl) (by decide) (by decide)) (g := (mkF m 21 #[vi p0, vi p1, vi v0, vi v1, va w_QUEUED, uu] [(.int v1)])) rfl (by rw [hml]; rfl) (argsL := [(.int v1)]) (rest := []) (lenOf pd_0 rfl) rfl (by show 2 * 0 + _ ≤ _; exact Nat.le_of_eq rfl) (hb hby at_21) (fun _ _ => ⟨rfl, e3, (by decide : 0 + 0 ≤ _), (by decide : 0 + 0 ≤ _)⟩)
            dsimp only [Pt.U, Pt.locs, Pt.cells, Pt.slots] at X9 l9 y9 z9 st9 hQ9
            subst l9 y9 z9
            obtain ⟨rfl, Nq9, e9⟩ := hQ9
            have N9 := Fr.app N3 Nq9
            obtain ⟨cq10, kq10, q10a, q10b, q10c⟩ := isOf hZ e9 (E_w_QUEUED.ext O0.2)
            obtain ⟨_, _, ⟨T10, L10, k10, n10⟩, -, X10, hS10, hge10, ⟨Lc10, hQ10, l10, y10, z10⟩, st10⟩ := X9.virtualBackS hx (y := My2) (z := My2) hown (mvT hZ (ww hw 10 rfl)) (mvT hZ (ww hw 11 rfl)) (notFace_of_selects (args := #[]) (mvT hZ (ww hw 13 rfl))) (mvT hZ (ww hw 13 rfl)) (mvT hZ (ww hw 12 rfl)) (by decide) (backOfS (W := 0) (rm2_3 l Z a0 hw [] w_QUEUED w_FAILED w_RUNNING w_CANCELLED w_SUCCEEDED h0 n0 O0 S) hZ (ww hw 14 rfl) (ww hw 6 rfl) (by decide) (by decide)) q10a q10c (g := (mkF m 30 #[vi p0, vi p1, vi v0, vi v1, va w_QUEUED, va w_FAILED] [(.ref w_FAILED), (.ref w_QUEUED)])) rfl (by rw [hml]; rfl) (Steps.refl _) (argsL := [(.ref w_FAILED)]) (rest := []) (lenOf pd_3 rfl) rfl (by show 2 * 0 + _ ≤ _; exact Nat.le_of_eq rfl) (hb hby at_30) (fun _ _ => ⟨rfl, e9, (by decide : 0 + 2 ≤ _), (by decide : 0 + 20 ≤ _)⟩)
            dsimp only [Pt.U, Pt.locs, Pt.cells, Pt.slots] at X10 l10 y10 z10 st10 hQ10 hS10 hge10
            subst l10 y10 z10
            have hZ10 : Z.Warmed39 (s.setVm T10.vm).vm := State.Warmed39.trans hZ hS10.1
            have hown10 : (s.setVm T10.vm).vm.findClass sC1 = some m.cls := by rw [show (s.setVm T10.vm).vm = T10.vm from rfl, hS10.1.alike.findClass]; exact hown
            obtain ⟨rfl, Nq10, Kc10⟩ := hQ10
            have N10 := Fr.app N9 Nq10
            have O10 := O0.keep Kc10 all0
            have K10 : Keep h0 T10.heap [] := K0.trans Kc10 all0
            have hc11 : ¬ (v1 = (4 : Int32)) := ow4 p1 v1 hv1 hc4 hc6 hc7 hc8
            obtain ⟨_, _, ⟨T12, L12, k12, n12⟩, -, X12, ⟨Lc12, hQ12, l12, y12, z12⟩, st12⟩ := Jvm.LawKit.callS X10 hx (y := My5) hown10 (mvT hZ10 (ww hw 40 rfl)) (mvT hZ10 (ww hw 41 rfl)) (mvT hZ10 (ww hw 3 rfl)) (mvT hZ10 (ww hw 42 rfl)) (by decide) (backOf (W := 1) (rm5_0 l Z a0 hw [] w_QUEUED w_FAILED w_RUNNING w_CANCELLED w_SUCCEEDED v0 v1 T10.heap n0 O10 S hc1 hc6 hc11) hZ10 (ww hw 42 rfl) (ww hw 3 rfl) (by decide) (by decide)) (g := (mkF m 35 #[vi p0, vi p1, vi v0, vi v1, va w_QUEUED, va w_FAILED] [(.int v1), (.int v0), (.int 0)])) rfl (by rw [hml]; rfl) (argsL := [(.int v0), (.int v1)]) (rest := [(.int 0)]) (lenOf pd_4 rfl) rfl (by show 2 * 0 + _ ≤ _; exact Nat.le_of_eq rfl) (hb hby at_35) (fun _ _ => ⟨rfl, rfl, (by decide : 2 + 0 ≤ _), (by decide : 20 + 0 ≤ _)⟩)
            dsimp only [Pt.U, Pt.locs, Pt.cells, Pt.slots] at X12 l12 y12 z12 st12 hQ12
            subst l12 y12 z12
            obtain ⟨rfl, Nq12, e12⟩ := hQ12
            have N12 := Fr.app N10 Nq12
            obtain ⟨fs, hr, hrun, hended, hRE⟩ := X12.leaveW (s := s) hS10 (by rw [e12]; exact (Nat.le_refl _)) (v := (some (.int 1))) (fun h => by rw [hrt] at h; cases h)
            refine ⟨_, _, pre_5 _ ?_, hrun, hended, _, _, rfl, ?_, hRE.1, hRE.2.1, hRE.2.2.1, hRE.2.2.2.mono (by decide) (by decide)⟩
            · show Steps p.tables e below (T3.setTop (mkF m 21 #[vi p0, vi p1, vi v0, vi v1, va w_QUEUED, uu] [(.int v1)])) _
              refine st9 _ ?_
              refine XS.astore X9.here hx rfl (hb hby at_24) rfl rfl (l' := #[vi p0, vi p1, vi v0, vi v1, va w_QUEUED, va w_FAILED]) rfl ?_
              refine XS.aload X9.here hx rfl (hb hby at_26) rfl rfl ?_
              refine XS.aload X9.here hx rfl (hb hby at_28) rfl rfl ?_
              refine st10.trans ?_
              refine XS.iloadN X10.here hx rfl (hb hby at_33) rfl ?_
              refine XS.iloadN X10.here hx rfl (hb hby at_34) rfl ?_
              refine st12 _ ?_
              show Steps p.tables e below (T12.setTop (mkF m 38 #[vi p0, vi p1, vi v0, vi v1, va w_QUEUED, va w_FAILED] [(.int 0), (.int 0)])) _
              refine XS.icmpNo X12.here hx rfl (hb hby at_38) rfl (teq (by decide : (0 : Int32) = (0 : Int32))).2 ?_
              refine XS.iconst X12.here hx rfl (hb hby at_41) ?_
              refine XS.goto X12.here hx rfl (pc0 := 42) (pc' := 46) rfl (hb hby at_42) (by decide) (by decide) ?_
              exact retN X12 hx (t := .boolean) hrt (by simp) (hb hby at_46) hr
            · show Q0 n0 (some (.int 1)) T12.heap _
              exact (⟨rfl, N12⟩)
          · obtain ⟨_, _, ⟨T9, L9, k9, n9⟩, -, X9, ⟨Lc9, hQ9, l9, y9, z9⟩, st9⟩ := Jvm.LawKit.callS X3 hx (y := My1) hown (mvT hZ (ww hw 1 rfl)) (mvT hZ (ww hw 2 rfl)) (mvT hZ (ww hw 3 rfl)) (mvT hZ (ww hw 4 rfl)) (by decide) (backOf (W := 0) (rm1_4 l Z a0 hw [] w_QUEUED w_FAILED w_RUNNING w_CANCELLED w_SUCCEEDED v1 h0 n0 O0 S hc4 hc6 hc7 hc8) hZ (ww hw 4 rfl) (ww hw 3 rfl) (by decide) (by decide)) (g := (mkF m 21 #[vi p0, vi p1, vi v0, vi v1, va w_QUEUED, uu] [(.int v1)])) rfl (by rw [hml]; rfl) (argsL := [(.int v1)]) (rest := []) (lenOf pd_0 rfl) rfl (by show 2 * 0 + _ ≤ _; exact Nat.le_of_eq rfl) (hb hby at_21) (fun _ _ => ⟨rfl, e3, (by decide : 0 + 0 ≤ _), (by decide : 0 + 0 ≤ _)⟩)
            dsimp only [Pt.U, Pt.locs, Pt.cells, Pt.slots] at X9 l9 y9 z9 st9 hQ9
            subst l9 y9 z9
            obtain ⟨rfl, Nq9, e9⟩ := hQ9
            have N9 := Fr.app N3 Nq9
            obtain ⟨cq10, kq10, q10a, q10b, q10c⟩ := isOf hZ e9 (E_w_QUEUED.ext O0.2)
            obtain ⟨_, _, ⟨T10, L10, k10, n10⟩, -, X10, hS10, hge10, ⟨Lc10, hQ10, l10, y10, z10⟩, st10⟩ := X9.virtualBackS hx (y := My2) (z := My2) hown (mvT hZ (ww hw 10 rfl)) (mvT hZ (ww hw 11 rfl)) (notFace_of_selects (args := #[]) (mvT hZ (ww hw 13 rfl))) (mvT hZ (ww hw 13 rfl)) (mvT hZ (ww hw 12 rfl)) (by decide) (backOfS (W := 0) (rm2_4 l Z a0 hw [] w_QUEUED w_FAILED w_RUNNING w_CANCELLED w_SUCCEEDED h0 n0 O0 S) hZ (ww hw 14 rfl) (ww hw 6 rfl) (by decide) (by decide)) q10a q10c (g := (mkF m 30 #[vi p0, vi p1, vi v0, vi v1, va w_QUEUED, va w_CANCELLED] [(.ref w_CANCELLED), (.ref w_QUEUED)])) rfl (by rw [hml]; rfl) (Steps.refl _) (argsL := [(.ref w_CANCELLED)]) (rest := []) (lenOf pd_3 rfl) rfl (by show 2 * 0 + _ ≤ _; exact Nat.le_of_eq rfl) (hb hby at_30) (fun _ _ => ⟨rfl, e9, (by decide : 0 + 2 ≤ _), (by decide : 0 + 20 ≤ _)⟩)
            dsimp only [Pt.U, Pt.locs, Pt.cells, Pt.slots] at X10 l10 y10 z10 st10 hQ10 hS10 hge10
            subst l10 y10 z10
            have hZ10 : Z.Warmed39 (s.setVm T10.vm).vm := State.Warmed39.trans hZ hS10.1
            have hown10 : (s.setVm T10.vm).vm.findClass sC1 = some m.cls := by rw [show (s.setVm T10.vm).vm = T10.vm from rfl, hS10.1.alike.findClass]; exact hown
            obtain ⟨rfl, Nq10, Kc10⟩ := hQ10
            have N10 := Fr.app N9 Nq10
            have O10 := O0.keep Kc10 all0
            have K10 : Keep h0 T10.heap [] := K0.trans Kc10 all0
            have hc11 : v1 = (4 : Int32) := ow5 p1 v1 hv1 hc4 hc6 hc7 hc8
            obtain ⟨_, _, ⟨T12, L12, k12, n12⟩, -, X12, ⟨Lc12, hQ12, l12, y12, z12⟩, st12⟩ := Jvm.LawKit.callS X10 hx (y := My5) hown10 (mvT hZ10 (ww hw 40 rfl)) (mvT hZ10 (ww hw 41 rfl)) (mvT hZ10 (ww hw 3 rfl)) (mvT hZ10 (ww hw 42 rfl)) (by decide) (backOf (W := 1) (rm5_2 l Z a0 hw [] w_QUEUED w_FAILED w_RUNNING w_CANCELLED w_SUCCEEDED v0 v1 T10.heap n0 O10 S hc1 hc6 hc11) hZ10 (ww hw 42 rfl) (ww hw 3 rfl) (by decide) (by decide)) (g := (mkF m 35 #[vi p0, vi p1, vi v0, vi v1, va w_QUEUED, va w_CANCELLED] [(.int v1), (.int v0), (.int 1)])) rfl (by rw [hml]; rfl) (argsL := [(.int v0), (.int v1)]) (rest := [(.int 1)]) (lenOf pd_4 rfl) rfl (by show 2 * 0 + _ ≤ _; exact Nat.le_of_eq rfl) (hb hby at_35) (fun _ _ => ⟨rfl, rfl, (by decide : 2 + 0 ≤ _), (by decide : 20 + 0 ≤ _)⟩)
            dsimp only [Pt.U, Pt.locs, Pt.cells, Pt.slots] at X12 l12 y12 z12 st12 hQ12
            subst l12 y12 z12
            obtain ⟨rfl, Nq12, e12⟩ := hQ12
            have N12 := Fr.app N10 Nq12
            obtain ⟨fs, hr, hrun, hended, hRE⟩ := X12.leaveW (s := s) hS10 (by rw [e12]; exact (Nat.le_refl _)) (v := (some (.int 1))) (fun h => by rw [hrt] at h; cases h)
            refine ⟨_, _, pre_5 _ ?_, hrun, hended, _, _, rfl, ?_, hRE.1, hRE.2.1, hRE.2.2.1, hRE.2.2.2.mono (by decide) (by decide)⟩
            · show Steps p.tables e below (T3.setTop (mkF m 21 #[vi p0, vi p1, vi v0, vi v1, va w_QUEUED, uu] [(.int v1)])) _
              refine st9 _ ?_
              refine XS.astore X9.here hx rfl (hb hby at_24) rfl rfl (l' := #[vi p0, vi p1, vi v0, vi v1, va w_QUEUED, va w_CANCELLED]) rfl ?_
              refine XS.aload X9.here hx rfl (hb hby at_26) rfl rfl ?_
              refine XS.aload X9.here hx rfl (hb hby at_28) rfl rfl ?_
              refine st10.trans ?_
              refine XS.iloadN X10.here hx rfl (hb hby at_33) rfl ?_
              refine XS.iloadN X10.here hx rfl (hb hby at_34) rfl ?_
              refine st12 _ ?_
              show Steps p.tables e below (T12.setTop (mkF m 38 #[vi p0, vi p1, vi v0, vi v1, va w_QUEUED, va w_CANCELLED] [(.int 1), (.int 1)])) _
              refine XS.icmpNo X12.here hx rfl (hb hby at_38) rfl (teq (by decide : (1 : Int32) = (1 : Int32))).2 ?_
              refine XS.iconst X12.here hx rfl (hb hby at_41) ?_
              refine XS.goto X12.here hx rfl (pc0 := 42) (pc' := 46) rfl (hb hby at_42) (by decide) (by decide) ?_
              exact retN X12 hx (t := .boolean) hrt (by simp) (hb hby at_46) hr
            · show Q0 n0 (some (.int 1)) T12.heap _
              exact (⟨rfl, N12⟩)
  · by_cases hc3 : v0 = (1 : Int32)
    · obtain ⟨_, _, ⟨T4, L4, k4, n4⟩, -, X4, ⟨Lc4, hQ4, l4, y4, z4⟩, st4⟩ := Jvm.LawKit.callS X0 hx (y := My1) hown (mvT hZ (ww hw 1 rfl)) (mvT hZ (ww hw 2 rfl)) (mvT hZ (ww hw 3 rfl)) (mvT hZ (ww hw 4 rfl)) (by decide) (backOf (W := 0) (rm1_1 l Z a0 hw [] w_QUEUED w_FAILED w_RUNNING w_CANCELLED w_SUCCEEDED v0 h0 n0 O0 S hc1 hc3) hZ (ww hw 4 rfl) (ww hw 3 rfl) (by decide) (by decide)) (g := (mkF m 15 #[vi p0, vi p1, vi v0, vi v1, uu, uu] [(.int v0)])) rfl (by rw [hml]; rfl) (argsL := [(.int v0)]) (rest := []) (lenOf pd_0 rfl) rfl (by show 2 * 0 + _ ≤ _; exact Nat.le_of_eq rfl) (hb hby at_15) (fun _ _ => ⟨rfl, e0, (by decide : 0 + 0 ≤ _), (by decide : 0 + 0 ≤ _)⟩)
      dsimp only [Pt.U, Pt.locs, Pt.cells, Pt.slots] at X4 l4 y4 z4 st4 hQ4
      subst l4 y4 z4
      obtain ⟨rfl, Nq4, e4⟩ := hQ4
      have N4 := Fr.app N0 Nq4
      have pre_6 : ∀ t, Steps p.tables e below (T4.setTop (mkF m 21 #[vi p0, vi p1, vi v0, vi v1, va w_RUNNING, uu] [(.int v1)])) t → Steps p.tables e below (s₁.setTop (mkF m 0 #[vi p0, vi p1, uu, uu, uu, uu] [])) t := fun t k => pre_2 t (by
        show Steps p.tables e below (s₁.setTop (mkF m 15 #[vi p0, vi p1, vi v0, vi v1, uu, uu] [(.int v0)])) _
        refine st4 _ ?_
        refine XS.astore X4.here hx rfl (hb hby at_18) rfl rfl (l' := #[vi p0, vi p1, vi v0, vi v1, va w_RUNNING, uu]) rfl ?_
        refine XS.iloadN X4.here hx rfl (hb hby at_20) rfl ?_
        exact k)
      by_cases hc5 : v1 = (0 : Int32)
      · obtain ⟨_, _, ⟨T7, L7, k7, n7⟩, -, X7, ⟨Lc7, hQ7, l7, y7, z7⟩, st7⟩ := Jvm.LawKit.callS X4 hx (y := My1) hown (mvT hZ (ww hw 1 rfl)) (mvT hZ (ww hw 2 rfl)) (mvT hZ (ww hw 3 rfl)) (mvT hZ (ww hw 4 rfl)) (by decide) (backOf (W := 0) (rm1_0 l Z a0 hw [] w_QUEUED w_FAILED w_RUNNING w_CANCELLED w_SUCCEEDED v1 h0 n0 O0 S hc5) hZ (ww hw 4 rfl) (ww hw 3 rfl) (by decide) (by decide)) (g := (mkF m 21 #[vi p0, vi p1, vi v0, vi v1, va w_RUNNING, uu] [(.int v1)])) rfl (by rw [hml]; rfl) (argsL := [(.int v1)]) (rest := []) (lenOf pd_0 rfl) rfl (by show 2 * 0 + _ ≤ _; exact Nat.le_of_eq rfl) (hb hby at_21) (fun _ _ => ⟨rfl, e4, (by decide : 0 + 0 ≤ _), (by decide : 0 + 0 ≤ _)⟩)
        dsimp only [Pt.U, Pt.locs, Pt.cells, Pt.slots] at X7 l7 y7 z7 st7 hQ7
        subst l7 y7 z7
        obtain ⟨rfl, Nq7, e7⟩ := hQ7
        have N7 := Fr.app N4 Nq7
        obtain ⟨cq8, kq8, q8a, q8b, q8c⟩ := isOf hZ e7 (E_w_RUNNING.ext O0.2)
        obtain ⟨_, _, ⟨T8, L8, k8, n8⟩, -, X8, hS8, hge8, ⟨Lc8, hQ8, l8, y8, z8⟩, st8⟩ := X7.virtualBackS hx (y := My2) (z := My2) hown (mvT hZ (ww hw 10 rfl)) (mvT hZ (ww hw 11 rfl)) (notFace_of_selects (args := #[]) (mvT hZ (ww hw 13 rfl))) (mvT hZ (ww hw 13 rfl)) (mvT hZ (ww hw 12 rfl)) (by decide) (backOfS (W := 0) (rm2_5 l Z a0 hw [] w_QUEUED w_FAILED w_RUNNING w_CANCELLED w_SUCCEEDED h0 n0 O0 S) hZ (ww hw 14 rfl) (ww hw 6 rfl) (by decide) (by decide)) q8a q8c (g := (mkF m 30 #[vi p0, vi p1, vi v0, vi v1, va w_RUNNING, va w_QUEUED] [(.ref w_QUEUED), (.ref w_RUNNING)])) rfl (by rw [hml]; rfl) (Steps.refl _) (argsL := [(.ref w_QUEUED)]) (rest := []) (lenOf pd_3 rfl) rfl (by show 2 * 0 + _ ≤ _; exact Nat.le_of_eq rfl) (hb hby at_30) (fun _ _ => ⟨rfl, e7, (by decide : 0 + 2 ≤ _), (by decide : 0 + 20 ≤ _)⟩)
        dsimp only [Pt.U, Pt.locs, Pt.cells, Pt.slots] at X8 l8 y8 z8 st8 hQ8 hS8 hge8
        subst l8 y8 z8
        have hZ8 : Z.Warmed39 (s.setVm T8.vm).vm := State.Warmed39.trans hZ hS8.1
        have hown8 : (s.setVm T8.vm).vm.findClass sC1 = some m.cls := by rw [show (s.setVm T8.vm).vm = T8.vm from rfl, hS8.1.alike.findClass]; exact hown
        obtain ⟨rfl, Nq8, Kc8⟩ := hQ8
        have N8 := Fr.app N7 Nq8
        have O8 := O0.keep Kc8 all0
        have K8 : Keep h0 T8.heap [] := K0.trans Kc8 all0
        obtain ⟨_, _, ⟨T9, L9, k9, n9⟩, -, X9, ⟨Lc9, hQ9, l9, y9, z9⟩, st9⟩ := Jvm.LawKit.callS X8 hx (y := My5) hown8 (mvT hZ8 (ww hw 40 rfl)) (mvT hZ8 (ww hw 41 rfl)) (mvT hZ8 (ww hw 3 rfl)) (mvT hZ8 (ww hw 42 rfl)) (by decide) (backOf (W := 1) (rm5_3 l Z a0 hw [] w_QUEUED w_FAILED w_RUNNING w_CANCELLED w_SUCCEEDED v0 v1 T8.heap n0 O8 S hc1 hc3 hc5) hZ8 (ww hw 42 rfl) (ww hw 3 rfl) (by decide) (by decide)) (g := (mkF m 35 #[vi p0, vi p1, vi v0, vi v1, va w_RUNNING, va w_QUEUED] [(.int v1), (.int v0), (.int 1)])) rfl (by rw [hml]; rfl) (argsL := [(.int v0), (.int v1)]) (rest := [(.int 1)]) (lenOf pd_4 rfl) rfl (by show 2 * 0 + _ ≤ _; exact Nat.le_of_eq rfl) (hb hby at_35) (fun _ _ => ⟨rfl, rfl, (by decide : 2 + 0 ≤ _), (by decide : 20 + 0 ≤ _)⟩)
        dsimp only [Pt.U, Pt.locs, Pt.cells, Pt.slots] at X9 l9 y9 z9 st9 hQ9
        subst l9 y9 z9
        obtain ⟨rfl, Nq9, e9⟩ := hQ9
        have N9 := Fr.app N8 Nq9
        obtain ⟨fs, hr, hrun, hended, hRE⟩ := X9.leaveW (s := s) hS8 (by rw [e9]; exact (Nat.le_refl _)) (v := (some (.int 1))) (fun h => by rw [hrt] at h; cases h)
        refine ⟨_, _, pre_6 _ ?_, hrun, hended, _, _, rfl, ?_, hRE.1, hRE.2.1, hRE.2.2.1, hRE.2.2.2.mono (by decide) (by decide)⟩
        · show Steps p.tables e below (T4.setTop (mkF m 21 #[vi p0, vi p1, vi v0, vi v1, va w_RUNNING, uu] [(.int v1)])) _
          refine st7 _ ?_
          refine XS.astore X7.here hx rfl (hb hby at_24) rfl rfl (l' := #[vi p0, vi p1, vi v0, vi v1, va w_RUNNING, va w_QUEUED]) rfl ?_
          refine XS.aload X7.here hx rfl (hb hby at_26) rfl rfl ?_
          refine XS.aload X7.here hx rfl (hb hby at_28) rfl rfl ?_
          refine st8.trans ?_
          refine XS.iloadN X8.here hx rfl (hb hby at_33) rfl ?_
          refine XS.iloadN X8.here hx rfl (hb hby at_34) rfl ?_
          refine st9 _ ?_
          show Steps p.tables e below (T9.setTop (mkF m 38 #[vi p0, vi p1, vi v0, vi v1, va w_RUNNING, va w_QUEUED] [(.int 1), (.int 1)])) _
          refine XS.icmpNo X9.here hx rfl (hb hby at_38) rfl (teq (by decide : (1 : Int32) = (1 : Int32))).2 ?_
          refine XS.iconst X9.here hx rfl (hb hby at_41) ?_
          refine XS.goto X9.here hx rfl (pc0 := 42) (pc' := 46) rfl (hb hby at_42) (by decide) (by decide) ?_
          exact retN X9 hx (t := .boolean) hrt (by simp) (hb hby at_46) hr
        · show Q0 n0 (some (.int 1)) T9.heap _
          exact (⟨rfl, N9⟩)
      · by_cases hc7 : v1 = (1 : Int32)
        · obtain ⟨_, _, ⟨T8, L8, k8, n8⟩, -, X8, ⟨Lc8, hQ8, l8, y8, z8⟩, st8⟩ := Jvm.LawKit.callS X4 hx (y := My1) hown (mvT hZ (ww hw 1 rfl)) (mvT hZ (ww hw 2 rfl)) (mvT hZ (ww hw 3 rfl)) (mvT hZ (ww hw 4 rfl)) (by decide) (backOf (W := 0) (rm1_1 l Z a0 hw [] w_QUEUED w_FAILED w_RUNNING w_CANCELLED w_SUCCEEDED v1 h0 n0 O0 S hc5 hc7) hZ (ww hw 4 rfl) (ww hw 3 rfl) (by decide) (by decide)) (g := (mkF m 21 #[vi p0, vi p1, vi v0, vi v1, va w_RUNNING, uu] [(.int v1)])) rfl (by rw [hml]; rfl) (argsL := [(.int v1)]) (rest := []) (lenOf pd_0 rfl) rfl (by show 2 * 0 + _ ≤ _; exact Nat.le_of_eq rfl) (hb hby at_21) (fun _ _ => ⟨rfl, e4, (by decide : 0 + 0 ≤ _), (by decide : 0 + 0 ≤ _)⟩)
          dsimp only [Pt.U, Pt.locs, Pt.cells, Pt.slots] at X8 l8 y8 z8 st8 hQ8
          subst l8 y8 z8
          obtain ⟨rfl, Nq8, e8⟩ := hQ8
          have N8 := Fr.app N4 Nq8
          obtain ⟨cq9, kq9, q9a, q9b, q9c⟩ := isOf hZ e8 (E_w_RUNNING.ext O0.2)
          obtain ⟨_, _, ⟨T9, L9, k9, n9⟩, -, X9, hS9, hge9, ⟨Lc9, hQ9, l9, y9, z9⟩, st9⟩ := X8.virtualBackS hx (y := My2) (z := My2) hown (mvT hZ (ww hw 10 rfl)) (mvT hZ (ww hw 11 rfl)) (notFace_of_selects (args := #[]) (mvT hZ (ww hw 13 rfl))) (mvT hZ (ww hw 13 rfl)) (mvT hZ (ww hw 12 rfl)) (by decide) (backOfS (W := 0) (rm2_6 l Z a0 hw [] w_QUEUED w_FAILED w_RUNNING w_CANCELLED w_SUCCEEDED h0 n0 O0 S) hZ (ww hw 14 rfl) (ww hw 6 rfl) (by decide) (by decide)) q9a q9c (g := (mkF m 30 #[vi p0, vi p1, vi v0, vi v1, va w_RUNNING, va w_RUNNING] [(.ref w_RUNNING), (.ref w_RUNNING)])) rfl (by rw [hml]; rfl) (Steps.refl _) (argsL := [(.ref w_RUNNING)]) (rest := []) (lenOf pd_3 rfl) rfl (by show 2 * 0 + _ ≤ _; exact Nat.le_of_eq rfl) (hb hby at_30) (fun _ _ => ⟨rfl, e8, (by decide : 0 + 2 ≤ _), (by decide : 0 + 20 ≤ _)⟩)
          dsimp only [Pt.U, Pt.locs, Pt.cells, Pt.slots] at X9 l9 y9 z9 st9 hQ9 hS9 hge9
          subst l9 y9 z9
          have hZ9 : Z.Warmed39 (s.setVm T9.vm).vm := State.Warmed39.trans hZ hS9.1
          have hown9 : (s.setVm T9.vm).vm.findClass sC1 = some m.cls := by rw [show (s.setVm T9.vm).vm = T9.vm from rfl, hS9.1.alike.findClass]; exact hown
          obtain ⟨rfl, Nq9, Kc9⟩ := hQ9
          have N9 := Fr.app N8 Nq9
          have O9 := O0.keep Kc9 all0
          have K9 : Keep h0 T9.heap [] := K0.trans Kc9 all0
          have hc10 : ¬ (v1 = (2 : Int32)) := ow6 p1 v1 hv1 hc5 hc7
          have hc11 : ¬ (v1 = (3 : Int32)) := ow7 p1 v1 hv1 hc5 hc7 hc10
          have hc12 : ¬ (v1 = (4 : Int32)) := ow8 p1 v1 hv1 hc5 hc7 hc10 hc11
          obtain ⟨_, _, ⟨T13, L13, k13, n13⟩, -, X13, ⟨Lc13, hQ13, l13, y13, z13⟩, st13⟩ := Jvm.LawKit.callS X9 hx (y := My5) hown9 (mvT hZ9 (ww hw 40 rfl)) (mvT hZ9 (ww hw 41 rfl)) (mvT hZ9 (ww hw 3 rfl)) (mvT hZ9 (ww hw 42 rfl)) (by decide) (backOf (W := 1) (rm5_4 l Z a0 hw [] w_QUEUED w_FAILED w_RUNNING w_CANCELLED w_SUCCEEDED v0 v1 T9.heap n0 O9 S hc1 hc3 hc5 hc10 hc11 hc12) hZ9 (ww hw 42 rfl) (ww hw 3 rfl) (by decide) (by decide)) (g := (mkF m 35 #[vi p0, vi p1, vi v0, vi v1, va w_RUNNING, va w_RUNNING] [(.int v1), (.int v0), (.int 0)])) rfl (by rw [hml]; rfl) (argsL := [(.int v0), (.int v1)]) (rest := [(.int 0)]) (lenOf pd_4 rfl) rfl (by show 2 * 0 + _ ≤ _; exact Nat.le_of_eq rfl) (hb hby at_35) (fun _ _ => ⟨rfl, rfl, (by decide : 2 + 0 ≤ _), (by decide : 20 + 0 ≤ _)⟩)
          dsimp only [Pt.U, Pt.locs, Pt.cells, Pt.slots] at X13 l13 y13 z13 st13 hQ13
          subst l13 y13 z13
          obtain ⟨rfl, Nq13, e13⟩ := hQ13
          have N13 := Fr.app N9 Nq13
          obtain ⟨fs, hr, hrun, hended, hRE⟩ := X13.leaveW (s := s) hS9 (by rw [e13]; exact (Nat.le_refl _)) (v := (some (.int 1))) (fun h => by rw [hrt] at h; cases h)
          refine ⟨_, _, pre_6 _ ?_, hrun, hended, _, _, rfl, ?_, hRE.1, hRE.2.1, hRE.2.2.1, hRE.2.2.2.mono (by decide) (by decide)⟩
          · show Steps p.tables e below (T4.setTop (mkF m 21 #[vi p0, vi p1, vi v0, vi v1, va w_RUNNING, uu] [(.int v1)])) _
            refine st8 _ ?_
            refine XS.astore X8.here hx rfl (hb hby at_24) rfl rfl (l' := #[vi p0, vi p1, vi v0, vi v1, va w_RUNNING, va w_RUNNING]) rfl ?_
            refine XS.aload X8.here hx rfl (hb hby at_26) rfl rfl ?_
            refine XS.aload X8.here hx rfl (hb hby at_28) rfl rfl ?_
            refine st9.trans ?_
            refine XS.iloadN X9.here hx rfl (hb hby at_33) rfl ?_
            refine XS.iloadN X9.here hx rfl (hb hby at_34) rfl ?_
            refine st13 _ ?_
            show Steps p.tables e below (T13.setTop (mkF m 38 #[vi p0, vi p1, vi v0, vi v1, va w_RUNNING, va w_RUNNING] [(.int 0), (.int 0)])) _
            refine XS.icmpNo X13.here hx rfl (hb hby at_38) rfl (teq (by decide : (0 : Int32) = (0 : Int32))).2 ?_
            refine XS.iconst X13.here hx rfl (hb hby at_41) ?_
            refine XS.goto X13.here hx rfl (pc0 := 42) (pc' := 46) rfl (hb hby at_42) (by decide) (by decide) ?_
            exact retN X13 hx (t := .boolean) hrt (by simp) (hb hby at_46) hr
          · show Q0 n0 (some (.int 1)) T13.heap _
            exact (⟨rfl, N13⟩)
        · by_cases hc8 : v1 = (2 : Int32)
          · obtain ⟨_, _, ⟨T9, L9, k9, n9⟩, -, X9, ⟨Lc9, hQ9, l9, y9, z9⟩, st9⟩ := Jvm.LawKit.callS X4 hx (y := My1) hown (mvT hZ (ww hw 1 rfl)) (mvT hZ (ww hw 2 rfl)) (mvT hZ (ww hw 3 rfl)) (mvT hZ (ww hw 4 rfl)) (by decide) (backOf (W := 0) (rm1_2 l Z a0 hw [] w_QUEUED w_FAILED w_RUNNING w_CANCELLED w_SUCCEEDED v1 h0 n0 O0 S hc5 hc7 hc8) hZ (ww hw 4 rfl) (ww hw 3 rfl) (by decide) (by decide)) (g := (mkF m 21 #[vi p0, vi p1, vi v0, vi v1, va w_RUNNING, uu] [(.int v1)])) rfl (by rw [hml]; rfl) (argsL := [(.int v1)]) (rest := []) (lenOf pd_0 rfl) rfl (by show 2 * 0 + _ ≤ _; exact Nat.le_of_eq rfl) (hb hby at_21) (fun _ _ => ⟨rfl, e4, (by decide : 0 + 0 ≤ _), (by decide : 0 + 0 ≤ _)⟩)
            dsimp only [Pt.U, Pt.locs, Pt.cells, Pt.slots] at X9 l9 y9 z9 st9 hQ9
            subst l9 y9 z9
            obtain ⟨rfl, Nq9, e9⟩ := hQ9
            have N9 := Fr.app N4 Nq9
            obtain ⟨cq10, kq10, q10a, q10b, q10c⟩ := isOf hZ e9 (E_w_RUNNING.ext O0.2)
            obtain ⟨_, _, ⟨T10, L10, k10, n10⟩, -, X10, hS10, hge10, ⟨Lc10, hQ10, l10, y10, z10⟩, st10⟩ := X9.virtualBackS hx (y := My2) (z := My2) hown (mvT hZ (ww hw 10 rfl)) (mvT hZ (ww hw 11 rfl)) (notFace_of_selects (args := #[]) (mvT hZ (ww hw 13 rfl))) (mvT hZ (ww hw 13 rfl)) (mvT hZ (ww hw 12 rfl)) (by decide) (backOfS (W := 0) (rm2_7 l Z a0 hw [] w_QUEUED w_FAILED w_RUNNING w_CANCELLED w_SUCCEEDED h0 n0 O0 S) hZ (ww hw 14 rfl) (ww hw 6 rfl) (by decide) (by decide)) q10a q10c (g := (mkF m 30 #[vi p0, vi p1, vi v0, vi v1, va w_RUNNING, va w_SUCCEEDED] [(.ref w_SUCCEEDED), (.ref w_RUNNING)])) rfl (by rw [hml]; rfl) (Steps.refl _) (argsL := [(.ref w_SUCCEEDED)]) (rest := []) (lenOf pd_3 rfl) rfl (by show 2 * 0 + _ ≤ _; exact Nat.le_of_eq rfl) (hb hby at_30) (fun _ _ => ⟨rfl, e9, (by decide : 0 + 2 ≤ _), (by decide : 0 + 20 ≤ _)⟩)
            dsimp only [Pt.U, Pt.locs, Pt.cells, Pt.slots] at X10 l10 y10 z10 st10 hQ10 hS10 hge10
            subst l10 y10 z10
            have hZ10 : Z.Warmed39 (s.setVm T10.vm).vm := State.Warmed39.trans hZ hS10.1
            have hown10 : (s.setVm T10.vm).vm.findClass sC1 = some m.cls := by rw [show (s.setVm T10.vm).vm = T10.vm from rfl, hS10.1.alike.findClass]; exact hown
            obtain ⟨rfl, Nq10, Kc10⟩ := hQ10
            have N10 := Fr.app N9 Nq10
            have O10 := O0.keep Kc10 all0
            have K10 : Keep h0 T10.heap [] := K0.trans Kc10 all0
            obtain ⟨_, _, ⟨T11, L11, k11, n11⟩, -, X11, ⟨Lc11, hQ11, l11, y11, z11⟩, st11⟩ := Jvm.LawKit.callS X10 hx (y := My5) hown10 (mvT hZ10 (ww hw 40 rfl)) (mvT hZ10 (ww hw 41 rfl)) (mvT hZ10 (ww hw 3 rfl)) (mvT hZ10 (ww hw 42 rfl)) (by decide) (backOf (W := 1) (rm5_5 l Z a0 hw [] w_QUEUED w_FAILED w_RUNNING w_CANCELLED w_SUCCEEDED v0 v1 T10.heap n0 O10 S hc1 hc3 hc5 hc8) hZ10 (ww hw 42 rfl) (ww hw 3 rfl) (by decide) (by decide)) (g := (mkF m 35 #[vi p0, vi p1, vi v0, vi v1, va w_RUNNING, va w_SUCCEEDED] [(.int v1), (.int v0), (.int 1)])) rfl (by rw [hml]; rfl) (argsL := [(.int v0), (.int v1)]) (rest := [(.int 1)]) (lenOf pd_4 rfl) rfl (by show 2 * 0 + _ ≤ _; exact Nat.le_of_eq rfl) (hb hby at_35) (fun _ _ => ⟨rfl, rfl, (by decide : 2 + 0 ≤ _), (by decide : 20 + 0 ≤ _)⟩)
            dsimp only [Pt.U, Pt.locs, Pt.cells, Pt.slots] at X11 l11 y11 z11 st11 hQ11
            subst l11 y11 z11
            obtain ⟨rfl, Nq11, e11⟩ := hQ11
            have N11 := Fr.app N10 Nq11
            obtain ⟨fs, hr, hrun, hended, hRE⟩ := X11.leaveW (s := s) hS10 (by rw [e11]; exact (Nat.le_refl _)) (v := (some (.int 1))) (fun h => by rw [hrt] at h; cases h)
            refine ⟨_, _, pre_6 _ ?_, hrun, hended, _, _, rfl, ?_, hRE.1, hRE.2.1, hRE.2.2.1, hRE.2.2.2.mono (by decide) (by decide)⟩
            · show Steps p.tables e below (T4.setTop (mkF m 21 #[vi p0, vi p1, vi v0, vi v1, va w_RUNNING, uu] [(.int v1)])) _
              refine st9 _ ?_
              refine XS.astore X9.here hx rfl (hb hby at_24) rfl rfl (l' := #[vi p0, vi p1, vi v0, vi v1, va w_RUNNING, va w_SUCCEEDED]) rfl ?_
              refine XS.aload X9.here hx rfl (hb hby at_26) rfl rfl ?_
              refine XS.aload X9.here hx rfl (hb hby at_28) rfl rfl ?_
              refine st10.trans ?_
              refine XS.iloadN X10.here hx rfl (hb hby at_33) rfl ?_
              refine XS.iloadN X10.here hx rfl (hb hby at_34) rfl ?_
              refine st11 _ ?_
              show Steps p.tables e below (T11.setTop (mkF m 38 #[vi p0, vi p1, vi v0, vi v1, va w_RUNNING, va w_SUCCEEDED] [(.int 1), (.int 1)])) _
              refine XS.icmpNo X11.here hx rfl (hb hby at_38) rfl (teq (by decide : (1 : Int32) = (1 : Int32))).2 ?_
              refine XS.iconst X11.here hx rfl (hb hby at_41) ?_
              refine XS.goto X11.here hx rfl (pc0 := 42) (pc' := 46) rfl (hb hby at_42) (by decide) (by decide) ?_
              exact retN X11 hx (t := .boolean) hrt (by simp) (hb hby at_46) hr
            · show Q0 n0 (some (.int 1)) T11.heap _
              exact (⟨rfl, N11⟩)
          · by_cases hc9 : v1 = (3 : Int32)
            · obtain ⟨_, _, ⟨T10, L10, k10, n10⟩, -, X10, ⟨Lc10, hQ10, l10, y10, z10⟩, st10⟩ := Jvm.LawKit.callS X4 hx (y := My1) hown (mvT hZ (ww hw 1 rfl)) (mvT hZ (ww hw 2 rfl)) (mvT hZ (ww hw 3 rfl)) (mvT hZ (ww hw 4 rfl)) (by decide) (backOf (W := 0) (rm1_3 l Z a0 hw [] w_QUEUED w_FAILED w_RUNNING w_CANCELLED w_SUCCEEDED v1 h0 n0 O0 S hc5 hc7 hc8 hc9) hZ (ww hw 4 rfl) (ww hw 3 rfl) (by decide) (by decide)) (g := (mkF m 21 #[vi p0, vi p1, vi v0, vi v1, va w_RUNNING, uu] [(.int v1)])) rfl (by rw [hml]; rfl) (argsL := [(.int v1)]) (rest := []) (lenOf pd_0 rfl) rfl (by show 2 * 0 + _ ≤ _; exact Nat.le_of_eq rfl) (hb hby at_21) (fun _ _ => ⟨rfl, e4, (by decide : 0 + 0 ≤ _), (by decide : 0 + 0 ≤ _)⟩)
              dsimp only [Pt.U, Pt.locs, Pt.cells, Pt.slots] at X10 l10 y10 z10 st10 hQ10
              subst l10 y10 z10
              obtain ⟨rfl, Nq10, e10⟩ := hQ10
              have N10 := Fr.app N4 Nq10
              obtain ⟨cq11, kq11, q11a, q11b, q11c⟩ := isOf hZ e10 (E_w_RUNNING.ext O0.2)
              obtain ⟨_, _, ⟨T11, L11, k11, n11⟩, -, X11, hS11, hge11, ⟨Lc11, hQ11, l11, y11, z11⟩, st11⟩ := X10.virtualBackS hx (y := My2) (z := My2) hown (mvT hZ (ww hw 10 rfl)) (mvT hZ (ww hw 11 rfl)) (notFace_of_selects (args := #[]) (mvT hZ (ww hw 13 rfl))) (mvT hZ (ww hw 13 rfl)) (mvT hZ (ww hw 12 rfl)) (by decide) (backOfS (W := 0) (rm2_8 l Z a0 hw [] w_QUEUED w_FAILED w_RUNNING w_CANCELLED w_SUCCEEDED h0 n0 O0 S) hZ (ww hw 14 rfl) (ww hw 6 rfl) (by decide) (by decide)) q11a q11c (g := (mkF m 30 #[vi p0, vi p1, vi v0, vi v1, va w_RUNNING, va w_FAILED] [(.ref w_FAILED), (.ref w_RUNNING)])) rfl (by rw [hml]; rfl) (Steps.refl _) (argsL := [(.ref w_FAILED)]) (rest := []) (lenOf pd_3 rfl) rfl (by show 2 * 0 + _ ≤ _; exact Nat.le_of_eq rfl) (hb hby at_30) (fun _ _ => ⟨rfl, e10, (by decide : 0 + 2 ≤ _), (by decide : 0 + 20 ≤ _)⟩)
              dsimp only [Pt.U, Pt.locs, Pt.cells, Pt.slots] at X11 l11 y11 z11 st11 hQ11 hS11 hge11
              subst l11 y11 z11
              have hZ11 : Z.Warmed39 (s.setVm T11.vm).vm := State.Warmed39.trans hZ hS11.1
              have hown11 : (s.setVm T11.vm).vm.findClass sC1 = some m.cls := by rw [show (s.setVm T11.vm).vm = T11.vm from rfl, hS11.1.alike.findClass]; exact hown
              obtain ⟨rfl, Nq11, Kc11⟩ := hQ11
              have N11 := Fr.app N10 Nq11
              have O11 := O0.keep Kc11 all0
              have K11 : Keep h0 T11.heap [] := K0.trans Kc11 all0
              obtain ⟨_, _, ⟨T12, L12, k12, n12⟩, -, X12, ⟨Lc12, hQ12, l12, y12, z12⟩, st12⟩ := Jvm.LawKit.callS X11 hx (y := My5) hown11 (mvT hZ11 (ww hw 40 rfl)) (mvT hZ11 (ww hw 41 rfl)) (mvT hZ11 (ww hw 3 rfl)) (mvT hZ11 (ww hw 42 rfl)) (by decide) (backOf (W := 1) (rm5_6 l Z a0 hw [] w_QUEUED w_FAILED w_RUNNING w_CANCELLED w_SUCCEEDED v0 v1 T11.heap n0 O11 S hc1 hc3 hc5 hc8 hc9) hZ11 (ww hw 42 rfl) (ww hw 3 rfl) (by decide) (by decide)) (g := (mkF m 35 #[vi p0, vi p1, vi v0, vi v1, va w_RUNNING, va w_FAILED] [(.int v1), (.int v0), (.int 1)])) rfl (by rw [hml]; rfl) (argsL := [(.int v0), (.int v1)]) (rest := [(.int 1)]) (lenOf pd_4 rfl) rfl (by show 2 * 0 + _ ≤ _; exact Nat.le_of_eq rfl) (hb hby at_35) (fun _ _ => ⟨rfl, rfl, (by decide : 2 + 0 ≤ _), (by decide : 20 + 0 ≤ _)⟩)
              dsimp only [Pt.U, Pt.locs, Pt.cells, Pt.slots] at X12 l12 y12 z12 st12 hQ12
              subst l12 y12 z12
              obtain ⟨rfl, Nq12, e12⟩ := hQ12
              have N12 := Fr.app N11 Nq12
              obtain ⟨fs, hr, hrun, hended, hRE⟩ := X12.leaveW (s := s) hS11 (by rw [e12]; exact (Nat.le_refl _)) (v := (some (.int 1))) (fun h => by rw [hrt] at h; cases h)
              refine ⟨_, _, pre_6 _ ?_, hrun, hended, _, _, rfl, ?_, hRE.1, hRE.2.1, hRE.2.2.1, hRE.2.2.2.mono (by decide) (by decide)⟩
              · show Steps p.tables e below (T4.setTop (mkF m 21 #[vi p0, vi p1, vi v0, vi v1, va w_RUNNING, uu] [(.int v1)])) _
                refine st10 _ ?_
                refine XS.astore X10.here hx rfl (hb hby at_24) rfl rfl (l' := #[vi p0, vi p1, vi v0, vi v1, va w_RUNNING, va w_FAILED]) rfl ?_
                refine XS.aload X10.here hx rfl (hb hby at_26) rfl rfl ?_
                refine XS.aload X10.here hx rfl (hb hby at_28) rfl rfl ?_
                refine st11.trans ?_
                refine XS.iloadN X11.here hx rfl (hb hby at_33) rfl ?_
                refine XS.iloadN X11.here hx rfl (hb hby at_34) rfl ?_
                refine st12 _ ?_
                show Steps p.tables e below (T12.setTop (mkF m 38 #[vi p0, vi p1, vi v0, vi v1, va w_RUNNING, va w_FAILED] [(.int 1), (.int 1)])) _
                refine XS.icmpNo X12.here hx rfl (hb hby at_38) rfl (teq (by decide : (1 : Int32) = (1 : Int32))).2 ?_
                refine XS.iconst X12.here hx rfl (hb hby at_41) ?_
                refine XS.goto X12.here hx rfl (pc0 := 42) (pc' := 46) rfl (hb hby at_42) (by decide) (by decide) ?_
                exact retN X12 hx (t := .boolean) hrt (by simp) (hb hby at_46) hr
              · show Q0 n0 (some (.int 1)) T12.heap _
                exact (⟨rfl, N12⟩)
            · obtain ⟨_, _, ⟨T10, L10, k10, n10⟩, -, X10, ⟨Lc10, hQ10, l10, y10, z10⟩, st10⟩ := Jvm.LawKit.callS X4 hx (y := My1) hown (mvT hZ (ww hw 1 rfl)) (mvT hZ (ww hw 2 rfl)) (mvT hZ (ww hw 3 rfl)) (mvT hZ (ww hw 4 rfl)) (by decide) (backOf (W := 0) (rm1_4 l Z a0 hw [] w_QUEUED w_FAILED w_RUNNING w_CANCELLED w_SUCCEEDED v1 h0 n0 O0 S hc5 hc7 hc8 hc9) hZ (ww hw 4 rfl) (ww hw 3 rfl) (by decide) (by decide)) (g := (mkF m 21 #[vi p0, vi p1, vi v0, vi v1, va w_RUNNING, uu] [(.int v1)])) rfl (by rw [hml]; rfl) (argsL := [(.int v1)]) (rest := []) (lenOf pd_0 rfl) rfl (by show 2 * 0 + _ ≤ _; exact Nat.le_of_eq rfl) (hb hby at_21) (fun _ _ => ⟨rfl, e4, (by decide : 0 + 0 ≤ _), (by decide : 0 + 0 ≤ _)⟩)
              dsimp only [Pt.U, Pt.locs, Pt.cells, Pt.slots] at X10 l10 y10 z10 st10 hQ10
              subst l10 y10 z10
              obtain ⟨rfl, Nq10, e10⟩ := hQ10
              have N10 := Fr.app N4 Nq10
              obtain ⟨cq11, kq11, q11a, q11b, q11c⟩ := isOf hZ e10 (E_w_RUNNING.ext O0.2)
              obtain ⟨_, _, ⟨T11, L11, k11, n11⟩, -, X11, hS11, hge11, ⟨Lc11, hQ11, l11, y11, z11⟩, st11⟩ := X10.virtualBackS hx (y := My2) (z := My2) hown (mvT hZ (ww hw 10 rfl)) (mvT hZ (ww hw 11 rfl)) (notFace_of_selects (args := #[]) (mvT hZ (ww hw 13 rfl))) (mvT hZ (ww hw 13 rfl)) (mvT hZ (ww hw 12 rfl)) (by decide) (backOfS (W := 0) (rm2_9 l Z a0 hw [] w_QUEUED w_FAILED w_RUNNING w_CANCELLED w_SUCCEEDED h0 n0 O0 S) hZ (ww hw 14 rfl) (ww hw 6 rfl) (by decide) (by decide)) q11a q11c (g := (mkF m 30 #[vi p0, vi p1, vi v0, vi v1, va w_RUNNING, va w_CANCELLED] [(.ref w_CANCELLED), (.ref w_RUNNING)])) rfl (by rw [hml]; rfl) (Steps.refl _) (argsL := [(.ref w_CANCELLED)]) (rest := []) (lenOf pd_3 rfl) rfl (by show 2 * 0 + _ ≤ _; exact Nat.le_of_eq rfl) (hb hby at_30) (fun _ _ => ⟨rfl, e10, (by decide : 0 + 2 ≤ _), (by decide : 0 + 20 ≤ _)⟩)
              dsimp only [Pt.U, Pt.locs, Pt.cells, Pt.slots] at X11 l11 y11 z11 st11 hQ11 hS11 hge11
              subst l11 y11 z11
              have hZ11 : Z.Warmed39 (s.setVm T11.vm).vm := State.Warmed39.trans hZ hS11.1
              have hown11 : (s.setVm T11.vm).vm.findClass sC1 = some m.cls := by rw [show (s.setVm T11.vm).vm = T11.vm from rfl, hS11.1.alike.findClass]; exact hown
              obtain ⟨rfl, Nq11, Kc11⟩ := hQ11
              have N11 := Fr.app N10 Nq11
              have O11 := O0.keep Kc11 all0
              have K11 : Keep h0 T11.heap [] := K0.trans Kc11 all0
              have hc12 : v1 = (4 : Int32) := ow9 p1 v1 hv1 hc5 hc7 hc8 hc9
              obtain ⟨_, _, ⟨T13, L13, k13, n13⟩, -, X13, ⟨Lc13, hQ13, l13, y13, z13⟩, st13⟩ := Jvm.LawKit.callS X11 hx (y := My5) hown11 (mvT hZ11 (ww hw 40 rfl)) (mvT hZ11 (ww hw 41 rfl)) (mvT hZ11 (ww hw 3 rfl)) (mvT hZ11 (ww hw 42 rfl)) (by decide) (backOf (W := 1) (rm5_7 l Z a0 hw [] w_QUEUED w_FAILED w_RUNNING w_CANCELLED w_SUCCEEDED v0 v1 T11.heap n0 O11 S hc1 hc3 hc5 hc8 hc9 hc12) hZ11 (ww hw 42 rfl) (ww hw 3 rfl) (by decide) (by decide)) (g := (mkF m 35 #[vi p0, vi p1, vi v0, vi v1, va w_RUNNING, va w_CANCELLED] [(.int v1), (.int v0), (.int 1)])) rfl (by rw [hml]; rfl) (argsL := [(.int v0), (.int v1)]) (rest := [(.int 1)]) (lenOf pd_4 rfl) rfl (by show 2 * 0 + _ ≤ _; exact Nat.le_of_eq rfl) (hb hby at_35) (fun _ _ => ⟨rfl, rfl, (by decide : 2 + 0 ≤ _), (by decide : 20 + 0 ≤ _)⟩)
              dsimp only [Pt.U, Pt.locs, Pt.cells, Pt.slots] at X13 l13 y13 z13 st13 hQ13
              subst l13 y13 z13
              obtain ⟨rfl, Nq13, e13⟩ := hQ13
              have N13 := Fr.app N11 Nq13
              obtain ⟨fs, hr, hrun, hended, hRE⟩ := X13.leaveW (s := s) hS11 (by rw [e13]; exact (Nat.le_refl _)) (v := (some (.int 1))) (fun h => by rw [hrt] at h; cases h)
              refine ⟨_, _, pre_6 _ ?_, hrun, hended, _, _, rfl, ?_, hRE.1, hRE.2.1, hRE.2.2.1, hRE.2.2.2.mono (by decide) (by decide)⟩
              · show Steps p.tables e below (T4.setTop (mkF m 21 #[vi p0, vi p1, vi v0, vi v1, va w_RUNNING, uu] [(.int v1)])) _
                refine st10 _ ?_
                refine XS.astore X10.here hx rfl (hb hby at_24) rfl rfl (l' := #[vi p0, vi p1, vi v0, vi v1, va w_RUNNING, va w_CANCELLED]) rfl ?_
                refine XS.aload X10.here hx rfl (hb hby at_26) rfl rfl ?_
                refine XS.aload X10.here hx rfl (hb hby at_28) rfl rfl ?_
                refine st11.trans ?_
                refine XS.iloadN X11.here hx rfl (hb hby at_33) rfl ?_
                refine XS.iloadN X11.here hx rfl (hb hby at_34) rfl ?_
                refine st13 _ ?_
                show Steps p.tables e below (T13.setTop (mkF m 38 #[vi p0, vi p1, vi v0, vi v1, va w_RUNNING, va w_CANCELLED] [(.int 1), (.int 1)])) _
                refine XS.icmpNo X13.here hx rfl (hb hby at_38) rfl (teq (by decide : (1 : Int32) = (1 : Int32))).2 ?_
                refine XS.iconst X13.here hx rfl (hb hby at_41) ?_
                refine XS.goto X13.here hx rfl (pc0 := 42) (pc' := 46) rfl (hb hby at_42) (by decide) (by decide) ?_
                exact retN X13 hx (t := .boolean) hrt (by simp) (hb hby at_46) hr
              · show Q0 n0 (some (.int 1)) T13.heap _
                exact (⟨rfl, N13⟩)
    · by_cases hc4 : v0 = (2 : Int32)
      · obtain ⟨_, _, ⟨T5, L5, k5, n5⟩, -, X5, ⟨Lc5, hQ5, l5, y5, z5⟩, st5⟩ := Jvm.LawKit.callS X0 hx (y := My1) hown (mvT hZ (ww hw 1 rfl)) (mvT hZ (ww hw 2 rfl)) (mvT hZ (ww hw 3 rfl)) (mvT hZ (ww hw 4 rfl)) (by decide) (backOf (W := 0) (rm1_2 l Z a0 hw [] w_QUEUED w_FAILED w_RUNNING w_CANCELLED w_SUCCEEDED v0 h0 n0 O0 S hc1 hc3 hc4) hZ (ww hw 4 rfl) (ww hw 3 rfl) (by decide) (by decide)) (g := (mkF m 15 #[vi p0, vi p1, vi v0, vi v1, uu, uu] [(.int v0)])) rfl (by rw [hml]; rfl) (argsL := [(.int v0)]) (rest := []) (lenOf pd_0 rfl) rfl (by show 2 * 0 + _ ≤ _; exact Nat.le_of_eq rfl) (hb hby at_15) (fun _ _ => ⟨rfl, e0, (by decide : 0 + 0 ≤ _), (by decide : 0 + 0 ≤ _)⟩)
        dsimp only [Pt.U, Pt.locs, Pt.cells, Pt.slots] at X5 l5 y5 z5 st5 hQ5
        subst l5 y5 z5
        obtain ⟨rfl, Nq5, e5⟩ := hQ5
        have N5 := Fr.app N0 Nq5
        have pre_7 : ∀ t, Steps p.tables e below (T5.setTop (mkF m 21 #[vi p0, vi p1, vi v0, vi v1, va w_SUCCEEDED, uu] [(.int v1)])) t → Steps p.tables e below (s₁.setTop (mkF m 0 #[vi p0, vi p1, uu, uu, uu, uu] [])) t := fun t k => pre_2 t (by
          show Steps p.tables e below (s₁.setTop (mkF m 15 #[vi p0, vi p1, vi v0, vi v1, uu, uu] [(.int v0)])) _
          refine st5 _ ?_
          refine XS.astore X5.here hx rfl (hb hby at_18) rfl rfl (l' := #[vi p0, vi p1, vi v0, vi v1, va w_SUCCEEDED, uu]) rfl ?_
          refine XS.iloadN X5.here hx rfl (hb hby at_20) rfl ?_
          exact k)
        by_cases hc6 : v1 = (0 : Int32)
        · obtain ⟨_, _, ⟨T8, L8, k8, n8⟩, -, X8, ⟨Lc8, hQ8, l8, y8, z8⟩, st8⟩ := Jvm.LawKit.callS X5 hx (y := My1) hown (mvT hZ (ww hw 1 rfl)) (mvT hZ (ww hw 2 rfl)) (mvT hZ (ww hw 3 rfl)) (mvT hZ (ww hw 4 rfl)) (by decide) (backOf (W := 0) (rm1_0 l Z a0 hw [] w_QUEUED w_FAILED w_RUNNING w_CANCELLED w_SUCCEEDED v1 h0 n0 O0 S hc6) hZ (ww hw 4 rfl) (ww hw 3 rfl) (by decide) (by decide)) (g := (mkF m 21 #[vi p0, vi p1, vi v0, vi v1, va w_SUCCEEDED, uu] [(.int v1)])) rfl (by rw [hml]; rfl) (argsL := [(.int v1)]) (rest := []) (lenOf pd_0 rfl) rfl (by show 2 * 0 + _ ≤ _; exact Nat.le_of_eq rfl) (hb hby at_21) (fun _ _ => ⟨rfl, e5, (by decide : 0 + 0 ≤ _), (by decide : 0 + 0 ≤ _)⟩)
          dsimp only [Pt.U, Pt.locs, Pt.cells, Pt.slots] at X8 l8 y8 z8 st8 hQ8
          subst l8 y8 z8
          obtain ⟨rfl, Nq8, e8⟩ := hQ8
          have N8 := Fr.app N5 Nq8
          obtain ⟨cq9, kq9, q9a, q9b, q9c⟩ := isOf hZ e8 (E_w_SUCCEEDED.ext O0.2)
          obtain ⟨_, _, ⟨T9, L9, k9, n9⟩, -, X9, hS9, hge9, ⟨Lc9, hQ9, l9, y9, z9⟩, st9⟩ := X8.virtualBackS hx (y := My2) (z := My2) hown (mvT hZ (ww hw 10 rfl)) (mvT hZ (ww hw 11 rfl)) (notFace_of_selects (args := #[]) (mvT hZ (ww hw 13 rfl))) (mvT hZ (ww hw 13 rfl)) (mvT hZ (ww hw 12 rfl)) (by decide) (backOfS (W := 0) (rm2_10 l Z a0 hw [] w_QUEUED w_FAILED w_RUNNING w_CANCELLED w_SUCCEEDED h0 n0 O0 S) hZ (ww hw 14 rfl) (ww hw 6 rfl) (by decide) (by decide)) q9a q9c (g := (mkF m 30 #[vi p0, vi p1, vi v0, vi v1, va w_SUCCEEDED, va w_QUEUED] [(.ref w_QUEUED), (.ref w_SUCCEEDED)])) rfl (by rw [hml]; rfl) (Steps.refl _) (argsL := [(.ref w_QUEUED)]) (rest := []) (lenOf pd_3 rfl) rfl (by show 2 * 0 + _ ≤ _; exact Nat.le_of_eq rfl) (hb hby at_30) (fun _ _ => ⟨rfl, e8, (by decide : 0 + 2 ≤ _), (by decide : 0 + 20 ≤ _)⟩)
          dsimp only [Pt.U, Pt.locs, Pt.cells, Pt.slots] at X9 l9 y9 z9 st9 hQ9 hS9 hge9
          subst l9 y9 z9
          have hZ9 : Z.Warmed39 (s.setVm T9.vm).vm := State.Warmed39.trans hZ hS9.1
          have hown9 : (s.setVm T9.vm).vm.findClass sC1 = some m.cls := by rw [show (s.setVm T9.vm).vm = T9.vm from rfl, hS9.1.alike.findClass]; exact hown
          obtain ⟨rfl, Nq9, Kc9⟩ := hQ9
          have N9 := Fr.app N8 Nq9
          have O9 := O0.keep Kc9 all0
          have K9 : Keep h0 T9.heap [] := K0.trans Kc9 all0
          have hc10 : ¬ (v0 = (3 : Int32)) := ow10 p0 v0 hv0 hc1 hc3 hc4
          obtain ⟨_, _, ⟨T11, L11, k11, n11⟩, -, X11, ⟨Lc11, hQ11, l11, y11, z11⟩, st11⟩ := Jvm.LawKit.callS X9 hx (y := My5) hown9 (mvT hZ9 (ww hw 40 rfl)) (mvT hZ9 (ww hw 41 rfl)) (mvT hZ9 (ww hw 3 rfl)) (mvT hZ9 (ww hw 42 rfl)) (by decide) (backOf (W := 1) (rm5_8 l Z a0 hw [] w_QUEUED w_FAILED w_RUNNING w_CANCELLED w_SUCCEEDED v0 v1 T9.heap n0 O9 S hc1 hc3 hc10) hZ9 (ww hw 42 rfl) (ww hw 3 rfl) (by decide) (by decide)) (g := (mkF m 35 #[vi p0, vi p1, vi v0, vi v1, va w_SUCCEEDED, va w_QUEUED] [(.int v1), (.int v0), (.int 0)])) rfl (by rw [hml]; rfl) (argsL := [(.int v0), (.int v1)]) (rest := [(.int 0)]) (lenOf pd_4 rfl) rfl (by show 2 * 0 + _ ≤ _; exact Nat.le_of_eq rfl) (hb hby at_35) (fun _ _ => ⟨rfl, rfl, (by decide : 2 + 0 ≤ _), (by decide : 20 + 0 ≤ _)⟩)
          dsimp only [Pt.U, Pt.locs, Pt.cells, Pt.slots] at X11 l11 y11 z11 st11 hQ11
          subst l11 y11 z11
          obtain ⟨rfl, Nq11, e11⟩ := hQ11
          have N11 := Fr.app N9 Nq11
          obtain ⟨fs, hr, hrun, hended, hRE⟩ := X11.leaveW (s := s) hS9 (by rw [e11]; exact (Nat.le_refl _)) (v := (some (.int 1))) (fun h => by rw [hrt] at h; cases h)
          refine ⟨_, _, pre_7 _ ?_, hrun, hended, _, _, rfl, ?_, hRE.1, hRE.2.1, hRE.2.2.1, hRE.2.2.2.mono (by decide) (by decide)⟩
          · show Steps p.tables e below (T5.setTop (mkF m 21 #[vi p0, vi p1, vi v0, vi v1, va w_SUCCEEDED, uu] [(.int v1)])) _
            refine st8 _ ?_
            refine XS.astore X8.here hx rfl (hb hby at_24) rfl rfl (l' := #[vi p0, vi p1, vi v0, vi v1, va w_SUCCEEDED, va w_QUEUED]) rfl ?_
            refine XS.aload X8.here hx rfl (hb hby at_26) rfl rfl ?_
            refine XS.aload X8.here hx rfl (hb hby at_28) rfl rfl ?_
            refine st9.trans ?_
            refine XS.iloadN X9.here hx rfl (hb hby at_33) rfl ?_
            refine XS.iloadN X9.here hx rfl (hb hby at_34) rfl ?_
            refine st11 _ ?_
            show Steps p.tables e below (T11.setTop (mkF m 38 #[vi p0, vi p1, vi v0, vi v1, va w_SUCCEEDED, va w_QUEUED] [(.int 0), (.int 0)])) _
            refine XS.icmpNo X11.here hx rfl (hb hby at_38) rfl (teq (by decide : (0 : Int32) = (0 : Int32))).2 ?_
            refine XS.iconst X11.here hx rfl (hb hby at_41) ?_
            refine XS.goto X11.here hx rfl (pc0 := 42) (pc' := 46) rfl (hb hby at_42) (by decide) (by decide) ?_
            exact retN X11 hx (t := .boolean) hrt (by simp) (hb hby at_46) hr
          · show Q0 n0 (some (.int 1)) T11.heap _
            exact (⟨rfl, N11⟩)
        · by_cases hc8 : v1 = (1 : Int32)
          · obtain ⟨_, _, ⟨T9, L9, k9, n9⟩, -, X9, ⟨Lc9, hQ9, l9, y9, z9⟩, st9⟩ := Jvm.LawKit.callS X5 hx (y := My1) hown (mvT hZ (ww hw 1 rfl)) (mvT hZ (ww hw 2 rfl)) (mvT hZ (ww hw 3 rfl)) (mvT hZ (ww hw 4 rfl)) (by decide) (backOf (W := 0) (rm1_1 l Z a0 hw [] w_QUEUED w_FAILED w_RUNNING w_CANCELLED w_SUCCEEDED v1 h0 n0 O0 S hc6 hc8) hZ (ww hw 4 rfl) (ww hw 3 rfl) (by decide) (by decide)) (g := (mkF m 21 #[vi p0, vi p1, vi v0, vi v1, va w_SUCCEEDED, uu] [(.int v1)])) rfl (by rw [hml]; rfl) (argsL := [(.int v1)]) (rest := []) (lenOf pd_0 rfl) rfl (by show 2 * 0 + _ ≤ _; exact Nat.le_of_eq rfl) (hb hby at_21) (fun _ _ => ⟨rfl, e5, (by decide : 0 + 0 ≤ _), (by decide : 0 + 0 ≤ _)⟩)
            dsimp only [Pt.U, Pt.locs, Pt.cells, Pt.slots] at X9 l9 y9 z9 st9 hQ9
            subst l9 y9 z9
            obtain ⟨rfl, Nq9, e9⟩ := hQ9
            have N9 := Fr.app N5 Nq9
            obtain ⟨cq10, kq10, q10a, q10b, q10c⟩ := isOf hZ e9 (E_w_SUCCEEDED.ext O0.2)
            obtain ⟨_, _, ⟨T10, L10, k10, n10⟩, -, X10, hS10, hge10, ⟨Lc10, hQ10, l10, y10, z10⟩, st10⟩ := X9.virtualBackS hx (y := My2) (z := My2) hown (mvT hZ (ww hw 10 rfl)) (mvT hZ (ww hw 11 rfl)) (notFace_of_selects (args := #[]) (mvT hZ (ww hw 13 rfl))) (mvT hZ (ww hw 13 rfl)) (mvT hZ (ww hw 12 rfl)) (by decide) (backOfS (W := 0) (rm2_11 l Z a0 hw [] w_QUEUED w_FAILED w_RUNNING w_CANCELLED w_SUCCEEDED h0 n0 O0 S) hZ (ww hw 14 rfl) (ww hw 6 rfl) (by decide) (by decide)) q10a q10c (g := (mkF m 30 #[vi p0, vi p1, vi v0, vi v1, va w_SUCCEEDED, va w_RUNNING] [(.ref w_RUNNING), (.ref w_SUCCEEDED)])) rfl (by rw [hml]; rfl) (Steps.refl _) (argsL := [(.ref w_RUNNING)]) (rest := []) (lenOf pd_3 rfl) rfl (by show 2 * 0 + _ ≤ _; exact Nat.le_of_eq rfl) (hb hby at_30) (fun _ _ => ⟨rfl, e9, (by decide : 0 + 2 ≤ _), (by decide : 0 + 20 ≤ _)⟩)
            dsimp only [Pt.U, Pt.locs, Pt.cells, Pt.slots] at X10 l10 y10 z10 st10 hQ10 hS10 hge10
            subst l10 y10 z10
            have hZ10 : Z.Warmed39 (s.setVm T10.vm).vm := State.Warmed39.trans hZ hS10.1
            have hown10 : (s.setVm T10.vm).vm.findClass sC1 = some m.cls := by rw [show (s.setVm T10.vm).vm = T10.vm from rfl, hS10.1.alike.findClass]; exact hown
            obtain ⟨rfl, Nq10, Kc10⟩ := hQ10
            have N10 := Fr.app N9 Nq10
            have O10 := O0.keep Kc10 all0
            have K10 : Keep h0 T10.heap [] := K0.trans Kc10 all0
            have hc11 : ¬ (v0 = (3 : Int32)) := ow10 p0 v0 hv0 hc1 hc3 hc4
            obtain ⟨_, _, ⟨T12, L12, k12, n12⟩, -, X12, ⟨Lc12, hQ12, l12, y12, z12⟩, st12⟩ := Jvm.LawKit.callS X10 hx (y := My5) hown10 (mvT hZ10 (ww hw 40 rfl)) (mvT hZ10 (ww hw 41 rfl)) (mvT hZ10 (ww hw 3 rfl)) (mvT hZ10 (ww hw 42 rfl)) (by decide) (backOf (W := 1) (rm5_8 l Z a0 hw [] w_QUEUED w_FAILED w_RUNNING w_CANCELLED w_SUCCEEDED v0 v1 T10.heap n0 O10 S hc1 hc3 hc11) hZ10 (ww hw 42 rfl) (ww hw 3 rfl) (by decide) (by decide)) (g := (mkF m 35 #[vi p0, vi p1, vi v0, vi v1, va w_SUCCEEDED, va w_RUNNING] [(.int v1), (.int v0), (.int 0)])) rfl (by rw [hml]; rfl) (argsL := [(.int v0), (.int v1)]) (rest := [(.int 0)]) (lenOf pd_4 rfl) rfl (by show 2 * 0 + _ ≤ _; exact Nat.le_of_eq rfl) (hb hby at_35) (fun _ _ => ⟨rfl, rfl, (by decide : 2 + 0 ≤ _), (by decide : 20 + 0 ≤ _)⟩)
            dsimp only [Pt.U, Pt.locs, Pt.cells, Pt.slots] at X12 l12 y12 z12 st12 hQ12
            subst l12 y12 z12
            obtain ⟨rfl, Nq12, e12⟩ := hQ12
            have N12 := Fr.app N10 Nq12
            obtain ⟨fs, hr, hrun, hended, hRE⟩ := X12.leaveW (s := s) hS10 (by rw [e12]; exact (Nat.le_refl _)) (v := (some (.int 1))) (fun h => by rw [hrt] at h; cases h)
            refine ⟨_, _, pre_7 _ ?_, hrun, hended, _, _, rfl, ?_, hRE.1, hRE.2.1, hRE.2.2.1, hRE.2.2.2.mono (by decide) (by decide)⟩
            · show Steps p.tables e below (T5.setTop (mkF m 21 #[vi p0, vi p1, vi v0, vi v1, va w_SUCCEEDED, uu] [(.int v1)])) _
              refine st9 _ ?_
              refine XS.astore X9.here hx rfl (hb hby at_24) rfl rfl (l' := #[vi p0, vi p1, vi v0, vi v1, va w_SUCCEEDED, va w_RUNNING]) rfl ?_
              refine XS.aload X9.here hx rfl (hb hby at_26) rfl rfl ?_
              refine XS.aload X9.here hx rfl (hb hby at_28) rfl rfl ?_
              refine st10.trans ?_
              refine XS.iloadN X10.here hx rfl (hb hby at_33) rfl ?_
              refine XS.iloadN X10.here hx rfl (hb hby at_34) rfl ?_
              refine st12 _ ?_
              show Steps p.tables e below (T12.setTop (mkF m 38 #[vi p0, vi p1, vi v0, vi v1, va w_SUCCEEDED, va w_RUNNING] [(.int 0), (.int 0)])) _
              refine XS.icmpNo X12.here hx rfl (hb hby at_38) rfl (teq (by decide : (0 : Int32) = (0 : Int32))).2 ?_
              refine XS.iconst X12.here hx rfl (hb hby at_41) ?_
              refine XS.goto X12.here hx rfl (pc0 := 42) (pc' := 46) rfl (hb hby at_42) (by decide) (by decide) ?_
              exact retN X12 hx (t := .boolean) hrt (by simp) (hb hby at_46) hr
            · show Q0 n0 (some (.int 1)) T12.heap _
              exact (⟨rfl, N12⟩)
          · by_cases hc9 : v1 = (2 : Int32)
            · obtain ⟨_, _, ⟨T10, L10, k10, n10⟩, -, X10, ⟨Lc10, hQ10, l10, y10, z10⟩, st10⟩ := Jvm.LawKit.callS X5 hx (y := My1) hown (mvT hZ (ww hw 1 rfl)) (mvT hZ (ww hw 2 rfl)) (mvT hZ (ww hw 3 rfl)) (mvT hZ (ww hw 4 rfl)) (by decide) (backOf (W := 0) (rm1_2 l Z a0 hw [] w_QUEUED w_FAILED w_RUNNING w_CANCELLED w_SUCCEEDED v1 h0 n0 O0 S hc6 hc8 hc9) hZ (ww hw 4 rfl) (ww hw 3 rfl) (by decide) (by decide)) (g := (mkF m 21 #[vi p0, vi p1, vi v0, vi v1, va w_SUCCEEDED, uu] [(.int v1)])) rfl (by rw [hml]; rfl) (argsL := [(.int v1)]) (rest := []) (lenOf pd_0 rfl) rfl (by show 2 * 0 + _ ≤ _; exact Nat.le_of_eq rfl) (hb hby at_21) (fun _ _ => ⟨rfl, e5, (by decide : 0 + 0 ≤ _), (by decide : 0 + 0 ≤ _)⟩)
              dsimp only [Pt.U, Pt.locs, Pt.cells, Pt.slots] at X10 l10 y10 z10 st10 hQ10
              subst l10 y10 z10
              obtain ⟨rfl, Nq10, e10⟩ := hQ10
              have N10 := Fr.app N5 Nq10
              obtain ⟨cq11, kq11, q11a, q11b, q11c⟩ := isOf hZ e10 (E_w_SUCCEEDED.ext O0.2)
              obtain ⟨_, _, ⟨T11, L11, k11, n11⟩, -, X11, hS11, hge11, ⟨Lc11, hQ11, l11, y11, z11⟩, st11⟩ := X10.virtualBackS hx (y := My2) (z := My2) hown (mvT hZ (ww hw 10 rfl)) (mvT hZ (ww hw 11 rfl)) (notFace_of_selects (args := #[]) (mvT hZ (ww hw 13 rfl))) (mvT hZ (ww hw 13 rfl)) (mvT hZ (ww hw 12 rfl)) (by decide) (backOfS (W := 0) (rm2_12 l Z a0 hw [] w_QUEUED w_FAILED w_RUNNING w_CANCELLED w_SUCCEEDED h0 n0 O0 S) hZ (ww hw 14 rfl) (ww hw 6 rfl) (by decide) (by decide)) q11a q11c (g := (mkF m 30 #[vi p0, vi p1, vi v0, vi v1, va w_SUCCEEDED, va w_SUCCEEDED] [(.ref w_SUCCEEDED), (.ref w_SUCCEEDED)])) rfl (by rw [hml]; rfl) (Steps.refl _) (argsL := [(.ref w_SUCCEEDED)]) (rest := []) (lenOf pd_3 rfl) rfl (by show 2 * 0 + _ ≤ _; exact Nat.le_of_eq rfl) (hb hby at_30) (fun _ _ => ⟨rfl, e10, (by decide : 0 + 2 ≤ _), (by decide : 0 + 20 ≤ _)⟩)
              dsimp only [Pt.U, Pt.locs, Pt.cells, Pt.slots] at X11 l11 y11 z11 st11 hQ11 hS11 hge11
              subst l11 y11 z11
              have hZ11 : Z.Warmed39 (s.setVm T11.vm).vm := State.Warmed39.trans hZ hS11.1
              have hown11 : (s.setVm T11.vm).vm.findClass sC1 = some m.cls := by rw [show (s.setVm T11.vm).vm = T11.vm from rfl, hS11.1.alike.findClass]; exact hown
              obtain ⟨rfl, Nq11, Kc11⟩ := hQ11
              have N11 := Fr.app N10 Nq11
              have O11 := O0.keep Kc11 all0
              have K11 : Keep h0 T11.heap [] := K0.trans Kc11 all0
              have hc12 : ¬ (v0 = (3 : Int32)) := ow10 p0 v0 hv0 hc1 hc3 hc4
              obtain ⟨_, _, ⟨T13, L13, k13, n13⟩, -, X13, ⟨Lc13, hQ13, l13, y13, z13⟩, st13⟩ := Jvm.LawKit.callS X11 hx (y := My5) hown11 (mvT hZ11 (ww hw 40 rfl)) (mvT hZ11 (ww hw 41 rfl)) (mvT hZ11 (ww hw 3 rfl)) (mvT hZ11 (ww hw 42 rfl)) (by decide) (backOf (W := 1) (rm5_8 l Z a0 hw [] w_QUEUED w_FAILED w_RUNNING w_CANCELLED w_SUCCEEDED v0 v1 T11.heap n0 O11 S hc1 hc3 hc12) hZ11 (ww hw 42 rfl) (ww hw 3 rfl) (by decide) (by decide)) (g := (mkF m 35 #[vi p0, vi p1, vi v0, vi v1, va w_SUCCEEDED, va w_SUCCEEDED] [(.int v1), (.int v0), (.int 0)])) rfl (by rw [hml]; rfl) (argsL := [(.int v0), (.int v1)]) (rest := [(.int 0)]) (lenOf pd_4 rfl) rfl (by show 2 * 0 + _ ≤ _; exact Nat.le_of_eq rfl) (hb hby at_35) (fun _ _ => ⟨rfl, rfl, (by decide : 2 + 0 ≤ _), (by decide : 20 + 0 ≤ _)⟩)
              dsimp only [Pt.U, Pt.locs, Pt.cells, Pt.slots] at X13 l13 y13 z13 st13 hQ13
              subst l13 y13 z13
              obtain ⟨rfl, Nq13, e13⟩ := hQ13
              have N13 := Fr.app N11 Nq13
              obtain ⟨fs, hr, hrun, hended, hRE⟩ := X13.leaveW (s := s) hS11 (by rw [e13]; exact (Nat.le_refl _)) (v := (some (.int 1))) (fun h => by rw [hrt] at h; cases h)
              refine ⟨_, _, pre_7 _ ?_, hrun, hended, _, _, rfl, ?_, hRE.1, hRE.2.1, hRE.2.2.1, hRE.2.2.2.mono (by decide) (by decide)⟩
              · show Steps p.tables e below (T5.setTop (mkF m 21 #[vi p0, vi p1, vi v0, vi v1, va w_SUCCEEDED, uu] [(.int v1)])) _
                refine st10 _ ?_
                refine XS.astore X10.here hx rfl (hb hby at_24) rfl rfl (l' := #[vi p0, vi p1, vi v0, vi v1, va w_SUCCEEDED, va w_SUCCEEDED]) rfl ?_
                refine XS.aload X10.here hx rfl (hb hby at_26) rfl rfl ?_
                refine XS.aload X10.here hx rfl (hb hby at_28) rfl rfl ?_
                refine st11.trans ?_
                refine XS.iloadN X11.here hx rfl (hb hby at_33) rfl ?_
                refine XS.iloadN X11.here hx rfl (hb hby at_34) rfl ?_
                refine st13 _ ?_
                show Steps p.tables e below (T13.setTop (mkF m 38 #[vi p0, vi p1, vi v0, vi v1, va w_SUCCEEDED, va w_SUCCEEDED] [(.int 0), (.int 0)])) _
                refine XS.icmpNo X13.here hx rfl (hb hby at_38) rfl (teq (by decide : (0 : Int32) = (0 : Int32))).2 ?_
                refine XS.iconst X13.here hx rfl (hb hby at_41) ?_
                refine XS.goto X13.here hx rfl (pc0 := 42) (pc' := 46) rfl (hb hby at_42) (by decide) (by decide) ?_
                exact retN X13 hx (t := .boolean) hrt (by simp) (hb hby at_46) hr
              · show Q0 n0 (some (.int 1)) T13.heap _
                exact (⟨rfl, N13⟩)
            · by_cases hc10 : v1 = (3 : Int32)
              · obtain ⟨_, _, ⟨T11, L11, k11, n11⟩, -, X11, ⟨Lc11, hQ11, l11, y11, z11⟩, st11⟩ := Jvm.LawKit.callS X5 hx (y := My1) hown (mvT hZ (ww hw 1 rfl)) (mvT hZ (ww hw 2 rfl)) (mvT hZ (ww hw 3 rfl)) (mvT hZ (ww hw 4 rfl)) (by decide) (backOf (W := 0) (rm1_3 l Z a0 hw [] w_QUEUED w_FAILED w_RUNNING w_CANCELLED w_SUCCEEDED v1 h0 n0 O0 S hc6 hc8 hc9 hc10) hZ (ww hw 4 rfl) (ww hw 3 rfl) (by decide) (by decide)) (g := (mkF m 21 #[vi p0, vi p1, vi v0, vi v1, va w_SUCCEEDED, uu] [(.int v1)])) rfl (by rw [hml]; rfl) (argsL := [(.int v1)]) (rest := []) (lenOf pd_0 rfl) rfl (by show 2 * 0 + _ ≤ _; exact Nat.le_of_eq rfl) (hb hby at_21) (fun _ _ => ⟨rfl, e5, (by decide : 0 + 0 ≤ _), (by decide : 0 + 0 ≤ _)⟩)
                dsimp only [Pt.U, Pt.locs, Pt.cells, Pt.slots] at X11 l11 y11 z11 st11 hQ11
                subst l11 y11 z11
                obtain ⟨rfl, Nq11, e11⟩ := hQ11
                have N11 := Fr.app N5 Nq11
                obtain ⟨cq12, kq12, q12a, q12b, q12c⟩ := isOf hZ e11 (E_w_SUCCEEDED.ext O0.2)
                obtain ⟨_, _, ⟨T12, L12, k12, n12⟩, -, X12, hS12, hge12, ⟨Lc12, hQ12, l12, y12, z12⟩, st12⟩ := X11.virtualBackS hx (y := My2) (z := My2) hown (mvT hZ (ww hw 10 rfl)) (mvT hZ (ww hw 11 rfl)) (notFace_of_selects (args := #[]) (mvT hZ (ww hw 13 rfl))) (mvT hZ (ww hw 13 rfl)) (mvT hZ (ww hw 12 rfl)) (by decide) (backOfS (W := 0) (rm2_13 l Z a0 hw [] w_QUEUED w_FAILED w_RUNNING w_CANCELLED w_SUCCEEDED h0 n0 O0 S) hZ (ww hw 14 rfl) (ww hw 6 rfl) (by decide) (by decide)) q12a q12c (g := (mkF m 30 #[vi p0, vi p1, vi v0, vi v1, va w_SUCCEEDED, va w_FAILED] [(.ref w_FAILED), (.ref w_SUCCEEDED)])) rfl (by rw [hml]; rfl) (Steps.refl _) (argsL := [(.ref w_FAILED)]) (rest := []) (lenOf pd_3 rfl) rfl (by show 2 * 0 + _ ≤ _; exact Nat.le_of_eq rfl) (hb hby at_30) (fun _ _ => ⟨rfl, e11, (by decide : 0 + 2 ≤ _), (by decide : 0 + 20 ≤ _)⟩)
                dsimp only [Pt.U, Pt.locs, Pt.cells, Pt.slots] at X12 l12 y12 z12 st12 hQ12 hS12 hge12
                subst l12 y12 z12
                have hZ12 : Z.Warmed39 (s.setVm T12.vm).vm := State.Warmed39.trans hZ hS12.1
                have hown12 : (s.setVm T12.vm).vm.findClass sC1 = some m.cls := by rw [show (s.setVm T12.vm).vm = T12.vm from rfl, hS12.1.alike.findClass]; exact hown
                obtain ⟨rfl, Nq12, Kc12⟩ := hQ12
                have N12 := Fr.app N11 Nq12
                have O12 := O0.keep Kc12 all0
                have K12 : Keep h0 T12.heap [] := K0.trans Kc12 all0
                have hc13 : ¬ (v0 = (3 : Int32)) := ow10 p0 v0 hv0 hc1 hc3 hc4
                obtain ⟨_, _, ⟨T14, L14, k14, n14⟩, -, X14, ⟨Lc14, hQ14, l14, y14, z14⟩, st14⟩ := Jvm.LawKit.callS X12 hx (y := My5) hown12 (mvT hZ12 (ww hw 40 rfl)) (mvT hZ12 (ww hw 41 rfl)) (mvT hZ12 (ww hw 3 rfl)) (mvT hZ12 (ww hw 42 rfl)) (by decide) (backOf (W := 1) (rm5_8 l Z a0 hw [] w_QUEUED w_FAILED w_RUNNING w_CANCELLED w_SUCCEEDED v0 v1 T12.heap n0 O12 S hc1 hc3 hc13) hZ12 (ww hw 42 rfl) (ww hw 3 rfl) (by decide) (by decide)) (g := (mkF m 35 #[vi p0, vi p1, vi v0, vi v1, va w_SUCCEEDED, va w_FAILED] [(.int v1), (.int v0), (.int 0)])) rfl (by rw [hml]; rfl) (argsL := [(.int v0), (.int v1)]) (rest := [(.int 0)]) (lenOf pd_4 rfl) rfl (by show 2 * 0 + _ ≤ _; exact Nat.le_of_eq rfl) (hb hby at_35) (fun _ _ => ⟨rfl, rfl, (by decide : 2 + 0 ≤ _), (by decide : 20 + 0 ≤ _)⟩)
                dsimp only [Pt.U, Pt.locs, Pt.cells, Pt.slots] at X14 l14 y14 z14 st14 hQ14
                subst l14 y14 z14
                obtain ⟨rfl, Nq14, e14⟩ := hQ14
                have N14 := Fr.app N12 Nq14
                obtain ⟨fs, hr, hrun, hended, hRE⟩ := X14.leaveW (s := s) hS12 (by rw [e14]; exact (Nat.le_refl _)) (v := (some (.int 1))) (fun h => by rw [hrt] at h; cases h)
                refine ⟨_, _, pre_7 _ ?_, hrun, hended, _, _, rfl, ?_, hRE.1, hRE.2.1, hRE.2.2.1, hRE.2.2.2.mono (by decide) (by decide)⟩
                · show Steps p.tables e below (T5.setTop (mkF m 21 #[vi p0, vi p1, vi v0, vi v1, va w_SUCCEEDED, uu] [(.int v1)])) _
                  refine st11 _ ?_
                  refine XS.astore X11.here hx rfl (hb hby at_24) rfl rfl (l' := #[vi p0, vi p1, vi v0, vi v1, va w_SUCCEEDED, va w_FAILED]) rfl ?_
                  refine XS.aload X11.here hx rfl (hb hby at_26) rfl rfl ?_
                  refine XS.aload X11.here hx rfl (hb hby at_28) rfl rfl ?_
                  refine st12.trans ?_
                  refine XS.iloadN X12.here hx rfl (hb hby at_33) rfl ?_
                  refine XS.iloadN X12.here hx rfl (hb hby at_34) rfl ?_
                  refine st14 _ ?_
                  show Steps p.tables e below (T14.setTop (mkF m 38 #[vi p0, vi p1, vi v0, vi v1, va w_SUCCEEDED, va w_FAILED] [(.int 0), (.int 0)])) _
                  refine XS.icmpNo X14.here hx rfl (hb hby at_38) rfl (teq (by decide : (0 : Int32) = (0 : Int32))).2 ?_
                  refine XS.iconst X14.here hx rfl (hb hby at_41) ?_
                  refine XS.goto X14.here hx rfl (pc0 := 42) (pc' := 46) rfl (hb hby at_42) (by decide) (by decide) ?_
                  exact retN X14 hx (t := .boolean) hrt (by simp) (hb hby at_46) hr
                · show Q0 n0 (some (.int 1)) T14.heap _
                  exact (⟨rfl, N14⟩)
              · obtain ⟨_, _, ⟨T11, L11, k11, n11⟩, -, X11, ⟨Lc11, hQ11, l11, y11, z11⟩, st11⟩ := Jvm.LawKit.callS X5 hx (y := My1) hown (mvT hZ (ww hw 1 rfl)) (mvT hZ (ww hw 2 rfl)) (mvT hZ (ww hw 3 rfl)) (mvT hZ (ww hw 4 rfl)) (by decide) (backOf (W := 0) (rm1_4 l Z a0 hw [] w_QUEUED w_FAILED w_RUNNING w_CANCELLED w_SUCCEEDED v1 h0 n0 O0 S hc6 hc8 hc9 hc10) hZ (ww hw 4 rfl) (ww hw 3 rfl) (by decide) (by decide)) (g := (mkF m 21 #[vi p0, vi p1, vi v0, vi v1, va w_SUCCEEDED, uu] [(.int v1)])) rfl (by rw [hml]; rfl) (argsL := [(.int v1)]) (rest := []) (lenOf pd_0 rfl) rfl (by show 2 * 0 + _ ≤ _; exact Nat.le_of_eq rfl) (hb hby at_21) (fun _ _ => ⟨rfl, e5, (by decide : 0 + 0 ≤ _), (by decide : 0 + 0 ≤ _)⟩)
                dsimp only [Pt.U, Pt.locs, Pt.cells, Pt.slots] at X11 l11 y11 z11 st11 hQ11
                subst l11 y11 z11
                obtain ⟨rfl, Nq11, e11⟩ := hQ11
                have N11 := Fr.app N5 Nq11
                obtain ⟨cq12, kq12, q12a, q12b, q12c⟩ := isOf hZ e11 (E_w_SUCCEEDED.ext O0.2)
                obtain ⟨_, _, ⟨T12, L12, k12, n12⟩, -, X12, hS12, hge12, ⟨Lc12, hQ12, l12, y12, z12⟩, st12⟩ := X11.virtualBackS hx (y := My2) (z := My2) hown (mvT hZ (ww hw 10 rfl)) (mvT hZ (ww hw 11 rfl)) (notFace_of_selects (args := #[]) (mvT hZ (ww hw 13 rfl))) (mvT hZ (ww hw 13 rfl)) (mvT hZ (ww hw 12 rfl)) (by decide) (backOfS (W := 0) (rm2_14 l Z a0 hw [] w_QUEUED w_FAILED w_RUNNING w_CANCELLED w_SUCCEEDED h0 n0 O0 S) hZ (ww hw 14 rfl) (ww hw 6 rfl) (by decide) (by decide)) q12a q12c (g := (mkF m 30 #[vi p0, vi p1, vi v0, vi v1, va w_SUCCEEDED, va w_CANCELLED] [(.ref w_CANCELLED), (.ref w_SUCCEEDED)])) rfl (by rw [hml]; rfl) (Steps.refl _) (argsL := [(.ref w_CANCELLED)]) (rest := []) (lenOf pd_3 rfl) rfl (by show 2 * 0 + _ ≤ _; exact Nat.le_of_eq rfl) (hb hby at_30) (fun _ _ => ⟨rfl, e11, (by decide : 0 + 2 ≤ _), (by decide : 0 + 20 ≤ _)⟩)
                dsimp only [Pt.U, Pt.locs, Pt.cells, Pt.slots] at X12 l12 y12 z12 st12 hQ12 hS12 hge12
                subst l12 y12 z12
                have hZ12 : Z.Warmed39 (s.setVm T12.vm).vm := State.Warmed39.trans hZ hS12.1
                have hown12 : (s.setVm T12.vm).vm.findClass sC1 = some m.cls := by rw [show (s.setVm T12.vm).vm = T12.vm from rfl, hS12.1.alike.findClass]; exact hown
                obtain ⟨rfl, Nq12, Kc12⟩ := hQ12
                have N12 := Fr.app N11 Nq12
                have O12 := O0.keep Kc12 all0
                have K12 : Keep h0 T12.heap [] := K0.trans Kc12 all0
                have hc13 : ¬ (v0 = (3 : Int32)) := ow10 p0 v0 hv0 hc1 hc3 hc4
                obtain ⟨_, _, ⟨T14, L14, k14, n14⟩, -, X14, ⟨Lc14, hQ14, l14, y14, z14⟩, st14⟩ := Jvm.LawKit.callS X12 hx (y := My5) hown12 (mvT hZ12 (ww hw 40 rfl)) (mvT hZ12 (ww hw 41 rfl)) (mvT hZ12 (ww hw 3 rfl)) (mvT hZ12 (ww hw 42 rfl)) (by decide) (backOf (W := 1) (rm5_8 l Z a0 hw [] w_QUEUED w_FAILED w_RUNNING w_CANCELLED w_SUCCEEDED v0 v1 T12.heap n0 O12 S hc1 hc3 hc13) hZ12 (ww hw 42 rfl) (ww hw 3 rfl) (by decide) (by decide)) (g := (mkF m 35 #[vi p0, vi p1, vi v0, vi v1, va w_SUCCEEDED, va w_CANCELLED] [(.int v1), (.int v0), (.int 0)])) rfl (by rw [hml]; rfl) (argsL := [(.int v0), (.int v1)]) (rest := [(.int 0)]) (lenOf pd_4 rfl) rfl (by show 2 * 0 + _ ≤ _; exact Nat.le_of_eq rfl) (hb hby at_35) (fun _ _ => ⟨rfl, rfl, (by decide : 2 + 0 ≤ _), (by decide : 20 + 0 ≤ _)⟩)
                dsimp only [Pt.U, Pt.locs, Pt.cells, Pt.slots] at X14 l14 y14 z14 st14 hQ14
                subst l14 y14 z14
                obtain ⟨rfl, Nq14, e14⟩ := hQ14
                have N14 := Fr.app N12 Nq14
                obtain ⟨fs, hr, hrun, hended, hRE⟩ := X14.leaveW (s := s) hS12 (by rw [e14]; exact (Nat.le_refl _)) (v := (some (.int 1))) (fun h => by rw [hrt] at h; cases h)
                refine ⟨_, _, pre_7 _ ?_, hrun, hended, _, _, rfl, ?_, hRE.1, hRE.2.1, hRE.2.2.1, hRE.2.2.2.mono (by decide) (by decide)⟩
                · show Steps p.tables e below (T5.setTop (mkF m 21 #[vi p0, vi p1, vi v0, vi v1, va w_SUCCEEDED, uu] [(.int v1)])) _
                  refine st11 _ ?_
                  refine XS.astore X11.here hx rfl (hb hby at_24) rfl rfl (l' := #[vi p0, vi p1, vi v0, vi v1, va w_SUCCEEDED, va w_CANCELLED]) rfl ?_
                  refine XS.aload X11.here hx rfl (hb hby at_26) rfl rfl ?_
                  refine XS.aload X11.here hx rfl (hb hby at_28) rfl rfl ?_
                  refine st12.trans ?_
                  refine XS.iloadN X12.here hx rfl (hb hby at_33) rfl ?_
                  refine XS.iloadN X12.here hx rfl (hb hby at_34) rfl ?_
                  refine st14 _ ?_
                  show Steps p.tables e below (T14.setTop (mkF m 38 #[vi p0, vi p1, vi v0, vi v1, va w_SUCCEEDED, va w_CANCELLED] [(.int 0), (.int 0)])) _
                  refine XS.icmpNo X14.here hx rfl (hb hby at_38) rfl (teq (by decide : (0 : Int32) = (0 : Int32))).2 ?_
                  refine XS.iconst X14.here hx rfl (hb hby at_41) ?_
                  refine XS.goto X14.here hx rfl (pc0 := 42) (pc' := 46) rfl (hb hby at_42) (by decide) (by decide) ?_
                  exact retN X14 hx (t := .boolean) hrt (by simp) (hb hby at_46) hr
                · show Q0 n0 (some (.int 1)) T14.heap _
                  exact (⟨rfl, N14⟩)
      · by_cases hc5 : v0 = (3 : Int32)
        · obtain ⟨_, _, ⟨T6, L6, k6, n6⟩, -, X6, ⟨Lc6, hQ6, l6, y6, z6⟩, st6⟩ := Jvm.LawKit.callS X0 hx (y := My1) hown (mvT hZ (ww hw 1 rfl)) (mvT hZ (ww hw 2 rfl)) (mvT hZ (ww hw 3 rfl)) (mvT hZ (ww hw 4 rfl)) (by decide) (backOf (W := 0) (rm1_3 l Z a0 hw [] w_QUEUED w_FAILED w_RUNNING w_CANCELLED w_SUCCEEDED v0 h0 n0 O0 S hc1 hc3 hc4 hc5) hZ (ww hw 4 rfl) (ww hw 3 rfl) (by decide) (by decide)) (g := (mkF m 15 #[vi p0, vi p1, vi v0, vi v1, uu, uu] [(.int v0)])) rfl (by rw [hml]; rfl) (argsL := [(.int v0)]) (rest := []) (lenOf pd_0 rfl) rfl (by show 2 * 0 + _ ≤ _; exact Nat.le_of_eq rfl) (hb hby at_15) (fun _ _ => ⟨rfl, e0, (by decide : 0 + 0 ≤ _), (by decide : 0 + 0 ≤ _)⟩)
          dsimp only [Pt.U, Pt.locs, Pt.cells, Pt.slots] at X6 l6 y6 z6 st6 hQ6
          subst l6 y6 z6
          obtain ⟨rfl, Nq6, e6⟩ := hQ6
          have N6 := Fr.app N0 Nq6
          have pre_8 : ∀ t, Steps p.tables e below (T6.setTop (mkF m 21 #[vi p0, vi p1, vi v0, vi v1, va w_FAILED, uu] [(.int v1)])) t → Steps p.tables e below (s₁.setTop (mkF m 0 #[vi p0, vi p1, uu, uu, uu, uu] [])) t := fun t k => pre_2 t (by
            show Steps p.tables e below (s₁.setTop (mkF m 15 #[vi p0, vi p1, vi v0, vi v1, uu, uu] [(.int v0)])) _
            refine st6 _ ?_
            refine XS.astore X6.here hx rfl (hb hby at_18) rfl rfl (l' := #[vi p0, vi p1, vi v0, vi v1, va w_FAILED, uu]) rfl ?_
            refine XS.iloadN X6.here hx rfl (hb hby at_20) rfl ?_
            exact k)
          by_cases hc7 : v1 = (0 : Int32)
          · obtain ⟨_, _, ⟨T9, L9, k9, n9⟩, -, X9, ⟨Lc9, hQ9, l9, y9, z9⟩, st9⟩ := Jvm.LawKit.callS X6 hx (y := My1) hown (mvT hZ (ww hw 1 rfl)) (mvT hZ (ww hw 2 rfl)) (mvT hZ (ww hw 3 rfl)) (mvT hZ (ww hw 4 rfl)) (by decide) (backOf (W := 0) (rm1_0 l Z a0 hw [] w_QUEUED w_FAILED w_RUNNING w_CANCELLED w_SUCCEEDED v1 h0 n0 O0 S hc7) hZ (ww hw 4 rfl) (ww hw 3 rfl) (by decide) (by decide)) (g := (mkF m 21 #[vi p0, vi p1, vi v0, vi v1, va w_FAILED, uu] [(.int v1)])) rfl (by rw [hml]; rfl) (argsL := [(.int v1)]) (rest := []) (lenOf pd_0 rfl) rfl (by show 2 * 0 + _ ≤ _; exact Nat.le_of_eq rfl) (hb hby at_21) (fun _ _ => ⟨rfl, e6, (by decide : 0 + 0 ≤ _), (by decide : 0 + 0 ≤ _)⟩)
            dsimp only [Pt.U, Pt.locs, Pt.cells, Pt.slots] at X9 l9 y9 z9 st9 hQ9
            subst l9 y9 z9
            obtain ⟨rfl, Nq9, e9⟩ := hQ9
            have N9 := Fr.app N6 Nq9
            obtain ⟨cq10, kq10, q10a, q10b, q10c⟩ := isOf hZ e9 (E_w_FAILED.ext O0.2)
            obtain ⟨_, _, ⟨T10, L10, k10, n10⟩, -, X10, hS10, hge10, ⟨Lc10, hQ10, l10, y10, z10⟩, st10⟩ := X9.virtualBackS hx (y := My2) (z := My2) hown (mvT hZ (ww hw 10 rfl)) (mvT hZ (ww hw 11 rfl)) (notFace_of_selects (args := #[]) (mvT hZ (ww hw 13 rfl))) (mvT hZ (ww hw 13 rfl)) (mvT hZ (ww hw 12 rfl)) (by decide) (backOfS (W := 0) (rm2_15 l Z a0 hw [] w_QUEUED w_FAILED w_RUNNING w_CANCELLED w_SUCCEEDED h0 n0 O0 S) hZ (ww hw 14 rfl) (ww hw 6 rfl) (by decide) (by decide)) q10a q10c (g := (mkF m 30 #[vi p0, vi p1, vi v0, vi v1, va w_FAILED, va w_QUEUED] [(.ref w_QUEUED), (.ref w_FAILED)])) rfl (by rw [hml]; rfl) (Steps.refl _) (argsL := [(.ref w_QUEUED)]) (rest := []) (lenOf pd_3 rfl) rfl (by show 2 * 0 + _ ≤ _; exact Nat.le_of_eq rfl) (hb hby at_30) (fun _ _ => ⟨rfl, e9, (by decide : 0 + 2 ≤ _), (by decide : 0 + 20 ≤ _)⟩)
            dsimp only [Pt.U, Pt.locs, Pt.cells, Pt.slots] at X10 l10 y10 z10 st10 hQ10 hS10 hge10
            subst l10 y10 z10
            have hZ10 : Z.Warmed39 (s.setVm T10.vm).vm := State.Warmed39.trans hZ hS10.1
            have hown10 : (s.setVm T10.vm).vm.findClass sC1 = some m.cls := by rw [show (s.setVm T10.vm).vm = T10.vm from rfl, hS10.1.alike.findClass]; exact hown
            obtain ⟨rfl, Nq10, Kc10⟩ := hQ10
            have N10 := Fr.app N9 Nq10
            have O10 := O0.keep Kc10 all0
            have K10 : Keep h0 T10.heap [] := K0.trans Kc10 all0
            obtain ⟨_, _, ⟨T11, L11, k11, n11⟩, -, X11, ⟨Lc11, hQ11, l11, y11, z11⟩, st11⟩ := Jvm.LawKit.callS X10 hx (y := My5) hown10 (mvT hZ10 (ww hw 40 rfl)) (mvT hZ10 (ww hw 41 rfl)) (mvT hZ10 (ww hw 3 rfl)) (mvT hZ10 (ww hw 42 rfl)) (by decide) (backOf (W := 1) (rm5_9 l Z a0 hw [] w_QUEUED w_FAILED w_RUNNING w_CANCELLED w_SUCCEEDED v0 v1 T10.heap n0 O10 S hc1 hc3 hc5 hc7) hZ10 (ww hw 42 rfl) (ww hw 3 rfl) (by decide) (by decide)) (g := (mkF m 35 #[vi p0, vi p1, vi v0, vi v1, va w_FAILED, va w_QUEUED] [(.int v1), (.int v0), (.int 1)])) rfl (by rw [hml]; rfl) (argsL := [(.int v0), (.int v1)]) (rest := [(.int 1)]) (lenOf pd_4 rfl) rfl (by show 2 * 0 + _ ≤ _; exact Nat.le_of_eq rfl) (hb hby at_35) (fun _ _ => ⟨rfl, rfl, (by decide : 2 + 0 ≤ _), (by decide : 20 + 0 ≤ _)⟩)
            dsimp only [Pt.U, Pt.locs, Pt.cells, Pt.slots] at X11 l11 y11 z11 st11 hQ11
            subst l11 y11 z11
            obtain ⟨rfl, Nq11, e11⟩ := hQ11
            have N11 := Fr.app N10 Nq11
            obtain ⟨fs, hr, hrun, hended, hRE⟩ := X11.leaveW (s := s) hS10 (by rw [e11]; exact (Nat.le_refl _)) (v := (some (.int 1))) (fun h => by rw [hrt] at h; cases h)
            refine ⟨_, _, pre_8 _ ?_, hrun, hended, _, _, rfl, ?_, hRE.1, hRE.2.1, hRE.2.2.1, hRE.2.2.2.mono (by decide) (by decide)⟩
            · show Steps p.tables e below (T6.setTop (mkF m 21 #[vi p0, vi p1, vi v0, vi v1, va w_FAILED, uu] [(.int v1)])) _
              refine st9 _ ?_
              refine XS.astore X9.here hx rfl (hb hby at_24) rfl rfl (l' := #[vi p0, vi p1, vi v0, vi v1, va w_FAILED, va w_QUEUED]) rfl ?_
              refine XS.aload X9.here hx rfl (hb hby at_26) rfl rfl ?_
              refine XS.aload X9.here hx rfl (hb hby at_28) rfl rfl ?_
              refine st10.trans ?_
              refine XS.iloadN X10.here hx rfl (hb hby at_33) rfl ?_
              refine XS.iloadN X10.here hx rfl (hb hby at_34) rfl ?_
              refine st11 _ ?_
              show Steps p.tables e below (T11.setTop (mkF m 38 #[vi p0, vi p1, vi v0, vi v1, va w_FAILED, va w_QUEUED] [(.int 1), (.int 1)])) _
              refine XS.icmpNo X11.here hx rfl (hb hby at_38) rfl (teq (by decide : (1 : Int32) = (1 : Int32))).2 ?_
              refine XS.iconst X11.here hx rfl (hb hby at_41) ?_
              refine XS.goto X11.here hx rfl (pc0 := 42) (pc' := 46) rfl (hb hby at_42) (by decide) (by decide) ?_
              exact retN X11 hx (t := .boolean) hrt (by simp) (hb hby at_46) hr
            · show Q0 n0 (some (.int 1)) T11.heap _
              exact (⟨rfl, N11⟩)
          · by_cases hc9 : v1 = (1 : Int32)
            · obtain ⟨_, _, ⟨T10, L10, k10, n10⟩, -, X10, ⟨Lc10, hQ10, l10, y10, z10⟩, st10⟩ := Jvm.LawKit.callS X6 hx (y := My1) hown (mvT hZ (ww hw 1 rfl)) (mvT hZ (ww hw 2 rfl)) (mvT hZ (ww hw 3 rfl)) (mvT hZ (ww hw 4 rfl)) (by decide) (backOf (W := 0) (rm1_1 l Z a0 hw [] w_QUEUED w_FAILED w_RUNNING w_CANCELLED w_SUCCEEDED v1 h0 n0 O0 S hc7 hc9) hZ (ww hw 4 rfl) (ww hw 3 rfl) (by decide) (by decide)) (g := (mkF m 21 #[vi p0, vi p1, vi v0, vi v1, va w_FAILED, uu] [(.int v1)])) rfl (by rw [hml]; rfl) (argsL := [(.int v1)]) (rest := []) (lenOf pd_0 rfl) rfl (by show 2 * 0 + _ ≤ _; exact Nat.le_of_eq rfl) (hb hby at_21) (fun _ _ => ⟨rfl, e6, (by decide : 0 + 0 ≤ _), (by decide : 0 + 0 ≤ _)⟩)
              dsimp only [Pt.U, Pt.locs, Pt.cells, Pt.slots] at X10 l10 y10 z10 st10 hQ10
              subst l10 y10 z10
              obtain ⟨rfl, Nq10, e10⟩ := hQ10
              have N10 := Fr.app N6 Nq10
              obtain ⟨cq11, kq11, q11a, q11b, q11c⟩ := isOf hZ e10 (E_w_FAILED.ext O0.2)
              obtain ⟨_, _, ⟨T11, L11, k11, n11⟩, -, X11, hS11, hge11, ⟨Lc11, hQ11, l11, y11, z11⟩, st11⟩ := X10.virtualBackS hx (y := My2) (z := My2) hown (mvT hZ (ww hw 10 rfl)) (mvT hZ (ww hw 11 rfl)) (notFace_of_selects (args := #[]) (mvT hZ (ww hw 13 rfl))) (mvT hZ (ww hw 13 rfl)) (mvT hZ (ww hw 12 rfl)) (by decide) (backOfS (W := 0) (rm2_16 l Z a0 hw [] w_QUEUED w_FAILED w_RUNNING w_CANCELLED w_SUCCEEDED h0 n0 O0 S) hZ (ww hw 14 rfl) (ww hw 6 rfl) (by decide) (by decide)) q11a q11c (g := (mkF m 30 #[vi p0, vi p1, vi v0, vi v1, va w_FAILED, va w_RUNNING] [(.ref w_RUNNING), (.ref w_FAILED)])) rfl (by rw [hml]; rfl) (Steps.refl _) (argsL := [(.ref w_RUNNING)]) (rest := []) (lenOf pd_3 rfl) rfl (by show 2 * 0 + _ ≤ _; exact Nat.le_of_eq rfl) (hb hby at_30) (fun _ _ => ⟨rfl, e10, (by decide : 0 + 2 ≤ _), (by decide : 0 + 20 ≤ _)⟩)
              dsimp only [Pt.U, Pt.locs, Pt.cells, Pt.slots] at X11 l11 y11 z11 st11 hQ11 hS11 hge11
              subst l11 y11 z11
              have hZ11 : Z.Warmed39 (s.setVm T11.vm).vm := State.Warmed39.trans hZ hS11.1
              have hown11 : (s.setVm T11.vm).vm.findClass sC1 = some m.cls := by rw [show (s.setVm T11.vm).vm = T11.vm from rfl, hS11.1.alike.findClass]; exact hown
              obtain ⟨rfl, Nq11, Kc11⟩ := hQ11
              have N11 := Fr.app N10 Nq11
              have O11 := O0.keep Kc11 all0
              have K11 : Keep h0 T11.heap [] := K0.trans Kc11 all0
              obtain ⟨_, _, ⟨T12, L12, k12, n12⟩, -, X12, ⟨Lc12, hQ12, l12, y12, z12⟩, st12⟩ := Jvm.LawKit.callS X11 hx (y := My5) hown11 (mvT hZ11 (ww hw 40 rfl)) (mvT hZ11 (ww hw 41 rfl)) (mvT hZ11 (ww hw 3 rfl)) (mvT hZ11 (ww hw 42 rfl)) (by decide) (backOf (W := 1) (rm5_10 l Z a0 hw [] w_QUEUED w_FAILED w_RUNNING w_CANCELLED w_SUCCEEDED v0 v1 T11.heap n0 O11 S hc1 hc3 hc5 hc7) hZ11 (ww hw 42 rfl) (ww hw 3 rfl) (by decide) (by decide)) (g := (mkF m 35 #[vi p0, vi p1, vi v0, vi v1, va w_FAILED, va w_RUNNING] [(.int v1), (.int v0), (.int 0)])) rfl (by rw [hml]; rfl) (argsL := [(.int v0), (.int v1)]) (rest := [(.int 0)]) (lenOf pd_4 rfl) rfl (by show 2 * 0 + _ ≤ _; exact Nat.le_of_eq rfl) (hb hby at_35) (fun _ _ => ⟨rfl, rfl, (by decide : 2 + 0 ≤ _), (by decide : 20 + 0 ≤ _)⟩)
              dsimp only [Pt.U, Pt.locs, Pt.cells, Pt.slots] at X12 l12 y12 z12 st12 hQ12
              subst l12 y12 z12
              obtain ⟨rfl, Nq12, e12⟩ := hQ12
              have N12 := Fr.app N11 Nq12
              obtain ⟨fs, hr, hrun, hended, hRE⟩ := X12.leaveW (s := s) hS11 (by rw [e12]; exact (Nat.le_refl _)) (v := (some (.int 1))) (fun h => by rw [hrt] at h; cases h)
              refine ⟨_, _, pre_8 _ ?_, hrun, hended, _, _, rfl, ?_, hRE.1, hRE.2.1, hRE.2.2.1, hRE.2.2.2.mono (by decide) (by decide)⟩
              · show Steps p.tables e below (T6.setTop (mkF m 21 #[vi p0, vi p1, vi v0, vi v1, va w_FAILED, uu] [(.int v1)])) _
                refine st10 _ ?_
                refine XS.astore X10.here hx rfl (hb hby at_24) rfl rfl (l' := #[vi p0, vi p1, vi v0, vi v1, va w_FAILED, va w_RUNNING]) rfl ?_
                refine XS.aload X10.here hx rfl (hb hby at_26) rfl rfl ?_
                refine XS.aload X10.here hx rfl (hb hby at_28) rfl rfl ?_
                refine st11.trans ?_
                refine XS.iloadN X11.here hx rfl (hb hby at_33) rfl ?_
                refine XS.iloadN X11.here hx rfl (hb hby at_34) rfl ?_
                refine st12 _ ?_
                show Steps p.tables e below (T12.setTop (mkF m 38 #[vi p0, vi p1, vi v0, vi v1, va w_FAILED, va w_RUNNING] [(.int 0), (.int 0)])) _
                refine XS.icmpNo X12.here hx rfl (hb hby at_38) rfl (teq (by decide : (0 : Int32) = (0 : Int32))).2 ?_
                refine XS.iconst X12.here hx rfl (hb hby at_41) ?_
                refine XS.goto X12.here hx rfl (pc0 := 42) (pc' := 46) rfl (hb hby at_42) (by decide) (by decide) ?_
                exact retN X12 hx (t := .boolean) hrt (by simp) (hb hby at_46) hr
              · show Q0 n0 (some (.int 1)) T12.heap _
                exact (⟨rfl, N12⟩)
            · by_cases hc10 : v1 = (2 : Int32)
              · obtain ⟨_, _, ⟨T11, L11, k11, n11⟩, -, X11, ⟨Lc11, hQ11, l11, y11, z11⟩, st11⟩ := Jvm.LawKit.callS X6 hx (y := My1) hown (mvT hZ (ww hw 1 rfl)) (mvT hZ (ww hw 2 rfl)) (mvT hZ (ww hw 3 rfl)) (mvT hZ (ww hw 4 rfl)) (by decide) (backOf (W := 0) (rm1_2 l Z a0 hw [] w_QUEUED w_FAILED w_RUNNING w_CANCELLED w_SUCCEEDED v1 h0 n0 O0 S hc7 hc9 hc10) hZ (ww hw 4 rfl) (ww hw 3 rfl) (by decide) (by decide)) (g := (mkF m 21 #[vi p0, vi p1, vi v0, vi v1, va w_FAILED, uu] [(.int v1)])) rfl (by rw [hml]; rfl) (argsL := [(.int v1)]) (rest := []) (lenOf pd_0 rfl) rfl (by show 2 * 0 + _ ≤ _; exact Nat.le_of_eq rfl) (hb hby at_21) (fun _ _ => ⟨rfl, e6, (by decide : 0 + 0 ≤ _), (by decide : 0 + 0 ≤ _)⟩)
                dsimp only [Pt.U, Pt.locs, Pt.cells, Pt.slots] at X11 l11 y11 z11 st11 hQ11
                subst l11 y11 z11
                obtain ⟨rfl, Nq11, e11⟩ := hQ11
                have N11 := Fr.app N6 Nq11
                obtain ⟨cq12, kq12, q12a, q12b, q12c⟩ := isOf hZ e11 (E_w_FAILED.ext O0.2)
                obtain ⟨_, _, ⟨T12, L12, k12, n12⟩, -, X12, hS12, hge12, ⟨Lc12, hQ12, l12, y12, z12⟩, st12⟩ := X11.virtualBackS hx (y := My2) (z := My2) hown (mvT hZ (ww hw 10 rfl)) (mvT hZ (ww hw 11 rfl)) (notFace_of_selects (args := #[]) (mvT hZ (ww hw 13 rfl))) (mvT hZ (ww hw 13 rfl)) (mvT hZ (ww hw 12 rfl)) (by decide) (backOfS (W := 0) (rm2_17 l Z a0 hw [] w_QUEUED w_FAILED w_RUNNING w_CANCELLED w_SUCCEEDED h0 n0 O0 S) hZ (ww hw 14 rfl) (ww hw 6 rfl) (by decide) (by decide)) q12a q12c (g := (mkF m 30 #[vi p0, vi p1, vi v0, vi v1, va w_FAILED, va w_SUCCEEDED] [(.ref w_SUCCEEDED), (.ref w_FAILED)])) rfl (by rw [hml]; rfl) (Steps.refl _) (argsL := [(.ref w_SUCCEEDED)]) (rest := []) (lenOf pd_3 rfl) rfl (by show 2 * 0 + _ ≤ _; exact Nat.le_of_eq rfl) (hb hby at_30) (fun _ _ => ⟨rfl, e11, (by decide : 0 + 2 ≤ _), (by decide : 0 + 20 ≤ _)⟩)
                dsimp only [Pt.U, Pt.locs, Pt.cells, Pt.slots] at X12 l12 y12 z12 st12 hQ12 hS12 hge12
                subst l12 y12 z12
                have hZ12 : Z.Warmed39 (s.setVm T12.vm).vm := State.Warmed39.trans hZ hS12.1
                have hown12 : (s.setVm T12.vm).vm.findClass sC1 = some m.cls := by rw [show (s.setVm T12.vm).vm = T12.vm from rfl, hS12.1.alike.findClass]; exact hown
                obtain ⟨rfl, Nq12, Kc12⟩ := hQ12
                have N12 := Fr.app N11 Nq12
                have O12 := O0.keep Kc12 all0
                have K12 : Keep h0 T12.heap [] := K0.trans Kc12 all0
                obtain ⟨_, _, ⟨T13, L13, k13, n13⟩, -, X13, ⟨Lc13, hQ13, l13, y13, z13⟩, st13⟩ := Jvm.LawKit.callS X12 hx (y := My5) hown12 (mvT hZ12 (ww hw 40 rfl)) (mvT hZ12 (ww hw 41 rfl)) (mvT hZ12 (ww hw 3 rfl)) (mvT hZ12 (ww hw 42 rfl)) (by decide) (backOf (W := 1) (rm5_10 l Z a0 hw [] w_QUEUED w_FAILED w_RUNNING w_CANCELLED w_SUCCEEDED v0 v1 T12.heap n0 O12 S hc1 hc3 hc5 hc7) hZ12 (ww hw 42 rfl) (ww hw 3 rfl) (by decide) (by decide)) (g := (mkF m 35 #[vi p0, vi p1, vi v0, vi v1, va w_FAILED, va w_SUCCEEDED] [(.int v1), (.int v0), (.int 0)])) rfl (by rw [hml]; rfl) (argsL := [(.int v0), (.int v1)]) (rest := [(.int 0)]) (lenOf pd_4 rfl) rfl (by show 2 * 0 + _ ≤ _; exact Nat.le_of_eq rfl) (hb hby at_35) (fun _ _ => ⟨rfl, rfl, (by decide : 2 + 0 ≤ _), (by decide : 20 + 0 ≤ _)⟩)
                dsimp only [Pt.U, Pt.locs, Pt.cells, Pt.slots] at X13 l13 y13 z13 st13 hQ13
                subst l13 y13 z13
                obtain ⟨rfl, Nq13, e13⟩ := hQ13
                have N13 := Fr.app N12 Nq13
                obtain ⟨fs, hr, hrun, hended, hRE⟩ := X13.leaveW (s := s) hS12 (by rw [e13]; exact (Nat.le_refl _)) (v := (some (.int 1))) (fun h => by rw [hrt] at h; cases h)
                refine ⟨_, _, pre_8 _ ?_, hrun, hended, _, _, rfl, ?_, hRE.1, hRE.2.1, hRE.2.2.1, hRE.2.2.2.mono (by decide) (by decide)⟩
                · show Steps p.tables e below (T6.setTop (mkF m 21 #[vi p0, vi p1, vi v0, vi v1, va w_FAILED, uu] [(.int v1)])) _
                  refine st11 _ ?_
                  refine XS.astore X11.here hx rfl (hb hby at_24) rfl rfl (l' := #[vi p0, vi p1, vi v0, vi v1, va w_FAILED, va w_SUCCEEDED]) rfl ?_
                  refine XS.aload X11.here hx rfl (hb hby at_26) rfl rfl ?_
                  refine XS.aload X11.here hx rfl (hb hby at_28) rfl rfl ?_
                  refine st12.trans ?_
                  refine XS.iloadN X12.here hx rfl (hb hby at_33) rfl ?_
                  refine XS.iloadN X12.here hx rfl (hb hby at_34) rfl ?_
                  refine st13 _ ?_
                  show Steps p.tables e below (T13.setTop (mkF m 38 #[vi p0, vi p1, vi v0, vi v1, va w_FAILED, va w_SUCCEEDED] [(.int 0), (.int 0)])) _
                  refine XS.icmpNo X13.here hx rfl (hb hby at_38) rfl (teq (by decide : (0 : Int32) = (0 : Int32))).2 ?_
                  refine XS.iconst X13.here hx rfl (hb hby at_41) ?_
                  refine XS.goto X13.here hx rfl (pc0 := 42) (pc' := 46) rfl (hb hby at_42) (by decide) (by decide) ?_
                  exact retN X13 hx (t := .boolean) hrt (by simp) (hb hby at_46) hr
                · show Q0 n0 (some (.int 1)) T13.heap _
                  exact (⟨rfl, N13⟩)
              · by_cases hc11 : v1 = (3 : Int32)
                · obtain ⟨_, _, ⟨T12, L12, k12, n12⟩, -, X12, ⟨Lc12, hQ12, l12, y12, z12⟩, st12⟩ := Jvm.LawKit.callS X6 hx (y := My1) hown (mvT hZ (ww hw 1 rfl)) (mvT hZ (ww hw 2 rfl)) (mvT hZ (ww hw 3 rfl)) (mvT hZ (ww hw 4 rfl)) (by decide) (backOf (W := 0) (rm1_3 l Z a0 hw [] w_QUEUED w_FAILED w_RUNNING w_CANCELLED w_SUCCEEDED v1 h0 n0 O0 S hc7 hc9 hc10 hc11) hZ (ww hw 4 rfl) (ww hw 3 rfl) (by decide) (by decide)) (g := (mkF m 21 #[vi p0, vi p1, vi v0, vi v1, va w_FAILED, uu] [(.int v1)])) rfl (by rw [hml]; rfl) (argsL := [(.int v1)]) (rest := []) (lenOf pd_0 rfl) rfl (by show 2 * 0 + _ ≤ _; exact Nat.le_of_eq rfl) (hb hby at_21) (fun _ _ => ⟨rfl, e6, (by decide : 0 + 0 ≤ _), (by decide : 0 + 0 ≤ _)⟩)
                  dsimp only [Pt.U, Pt.locs, Pt.cells, Pt.slots] at X12 l12 y12 z12 st12 hQ12
                  subst l12 y12 z12
                  obtain ⟨rfl, Nq12, e12⟩ := hQ12
                  have N12 := Fr.app N6 Nq12
                  obtain ⟨cq13, kq13, q13a, q13b, q13c⟩ := isOf hZ e12 (E_w_FAILED.ext O0.2)
                  obtain ⟨_, _, ⟨T13, L13, k13, n13⟩, -, X13, hS13, hge13, ⟨Lc13, hQ13, l13, y13, z13⟩, st13⟩ := X12.virtualBackS hx (y := My2) (z := My2) hown (mvT hZ (ww hw 10 rfl)) (mvT hZ (ww hw 11 rfl)) (notFace_of_selects (args := #[]) (mvT hZ (ww hw 13 rfl))) (mvT hZ (ww hw 13 rfl)) (mvT hZ (ww hw 12 rfl)) (by decide) (backOfS (W := 0) (rm2_18 l Z a0 hw [] w_QUEUED w_FAILED w_RUNNING w_CANCELLED w_SUCCEEDED h0 n0 O0 S) hZ (ww hw 14 rfl) (ww hw 6 rfl) (by decide) (by decide)) q13a q13c (g := (mkF m 30 #[vi p0, vi p1, vi v0, vi v1, va w_FAILED, va w_FAILED] [(.ref w_FAILED), (.ref w_FAILED)])) rfl (by rw [hml]; rfl) (Steps.refl _) (argsL := [(.ref w_FAILED)]) (rest := []) (lenOf pd_3 rfl) rfl (by show 2 * 0 + _ ≤ _; exact Nat.le_of_eq rfl) (hb hby at_30) (fun _ _ => ⟨rfl, e12, (by decide : 0 + 2 ≤ _), (by decide : 0 + 20 ≤ _)⟩)
                  dsimp only [Pt.U, Pt.locs, Pt.cells, Pt.slots] at X13 l13 y13 z13 st13 hQ13 hS13 hge13
                  subst l13 y13 z13
                  have hZ13 : Z.Warmed39 (s.setVm T13.vm).vm := State.Warmed39.trans hZ hS13.1
                  have hown13 : (s.setVm T13.vm).vm.findClass sC1 = some m.cls := by rw [show (s.setVm T13.vm).vm = T13.vm from rfl, hS13.1.alike.findClass]; exact hown
                  obtain ⟨rfl, Nq13, Kc13⟩ := hQ13
                  have N13 := Fr.app N12 Nq13
                  have O13 := O0.keep Kc13 all0
                  have K13 : Keep h0 T13.heap [] := K0.trans Kc13 all0
                  obtain ⟨_, _, ⟨T14, L14, k14, n14⟩, -, X14, ⟨Lc14, hQ14, l14, y14, z14⟩, st14⟩ := Jvm.LawKit.callS X13 hx (y := My5) hown13 (mvT hZ13 (ww hw 40 rfl)) (mvT hZ13 (ww hw 41 rfl)) (mvT hZ13 (ww hw 3 rfl)) (mvT hZ13 (ww hw 42 rfl)) (by decide) (backOf (W := 1) (rm5_10 l Z a0 hw [] w_QUEUED w_FAILED w_RUNNING w_CANCELLED w_SUCCEEDED v0 v1 T13.heap n0 O13 S hc1 hc3 hc5 hc7) hZ13 (ww hw 42 rfl) (ww hw 3 rfl) (by decide) (by decide)) (g := (mkF m 35 #[vi p0, vi p1, vi v0, vi v1, va w_FAILED, va w_FAILED] [(.int v1), (.int v0), (.int 0)])) rfl (by rw [hml]; rfl) (argsL := [(.int v0), (.int v1)]) (rest := [(.int 0)]) (lenOf pd_4 rfl) rfl (by show 2 * 0 + _ ≤ _; exact Nat.le_of_eq rfl) (hb hby at_35) (fun _ _ => ⟨rfl, rfl, (by decide : 2 + 0 ≤ _), (by decide : 20 + 0 ≤ _)⟩)
                  dsimp only [Pt.U, Pt.locs, Pt.cells, Pt.slots] at X14 l14 y14 z14 st14 hQ14
                  subst l14 y14 z14
                  obtain ⟨rfl, Nq14, e14⟩ := hQ14
                  have N14 := Fr.app N13 Nq14
                  obtain ⟨fs, hr, hrun, hended, hRE⟩ := X14.leaveW (s := s) hS13 (by rw [e14]; exact (Nat.le_refl _)) (v := (some (.int 1))) (fun h => by rw [hrt] at h; cases h)
                  refine ⟨_, _, pre_8 _ ?_, hrun, hended, _, _, rfl, ?_, hRE.1, hRE.2.1, hRE.2.2.1, hRE.2.2.2.mono (by decide) (by decide)⟩
                  · show Steps p.tables e below (T6.setTop (mkF m 21 #[vi p0, vi p1, vi v0, vi v1, va w_FAILED, uu] [(.int v1)])) _
                    refine st12 _ ?_
                    refine XS.astore X12.here hx rfl (hb hby at_24) rfl rfl (l' := #[vi p0, vi p1, vi v0, vi v1, va w_FAILED, va w_FAILED]) rfl ?_
                    refine XS.aload X12.here hx rfl (hb hby at_26) rfl rfl ?_
                    refine XS.aload X12.here hx rfl (hb hby at_28) rfl rfl ?_
                    refine st13.trans ?_
                    refine XS.iloadN X13.here hx rfl (hb hby at_33) rfl ?_
                    refine XS.iloadN X13.here hx rfl (hb hby at_34) rfl ?_
                    refine st14 _ ?_
                    show Steps p.tables e below (T14.setTop (mkF m 38 #[vi p0, vi p1, vi v0, vi v1, va w_FAILED, va w_FAILED] [(.int 0), (.int 0)])) _
                    refine XS.icmpNo X14.here hx rfl (hb hby at_38) rfl (teq (by decide : (0 : Int32) = (0 : Int32))).2 ?_
                    refine XS.iconst X14.here hx rfl (hb hby at_41) ?_
                    refine XS.goto X14.here hx rfl (pc0 := 42) (pc' := 46) rfl (hb hby at_42) (by decide) (by decide) ?_
                    exact retN X14 hx (t := .boolean) hrt (by simp) (hb hby at_46) hr
                  · show Q0 n0 (some (.int 1)) T14.heap _
                    exact (⟨rfl, N14⟩)
                · obtain ⟨_, _, ⟨T12, L12, k12, n12⟩, -, X12, ⟨Lc12, hQ12, l12, y12, z12⟩, st12⟩ := Jvm.LawKit.callS X6 hx (y := My1) hown (mvT hZ (ww hw 1 rfl)) (mvT hZ (ww hw 2 rfl)) (mvT hZ (ww hw 3 rfl)) (mvT hZ (ww hw 4 rfl)) (by decide) (backOf (W := 0) (rm1_4 l Z a0 hw [] w_QUEUED w_FAILED w_RUNNING w_CANCELLED w_SUCCEEDED v1 h0 n0 O0 S hc7 hc9 hc10 hc11) hZ (ww hw 4 rfl) (ww hw 3 rfl) (by decide) (by decide)) (g := (mkF m 21 #[vi p0, vi p1, vi v0, vi v1, va w_FAILED, uu] [(.int v1)])) rfl (by rw [hml]; rfl) (argsL := [(.int v1)]) (rest := []) (lenOf pd_0 rfl) rfl (by show 2 * 0 + _ ≤ _; exact Nat.le_of_eq rfl) (hb hby at_21) (fun _ _ => ⟨rfl, e6, (by decide : 0 + 0 ≤ _), (by decide : 0 + 0 ≤ _)⟩)
                  dsimp only [Pt.U, Pt.locs, Pt.cells, Pt.slots] at X12 l12 y12 z12 st12 hQ12
                  subst l12 y12 z12
                  obtain ⟨rfl, Nq12, e12⟩ := hQ12
                  have N12 := Fr.app N6 Nq12
                  obtain ⟨cq13, kq13, q13a, q13b, q13c⟩ := isOf hZ e12 (E_w_FAILED.ext O0.2)
                  obtain ⟨_, _, ⟨T13, L13, k13, n13⟩, -, X13, hS13, hge13, ⟨Lc13, hQ13, l13, y13, z13⟩, st13⟩ := X12.virtualBackS hx (y := My2) (z := My2) hown (mvT hZ (ww hw 10 rfl)) (mvT hZ (ww hw 11 rfl)) (notFace_of_selects (args := #[]) (mvT hZ (ww hw 13 rfl))) (mvT hZ (ww hw 13 rfl)) (mvT hZ (ww hw 12 rfl)) (by decide) (backOfS (W := 0) (rm2_19 l Z a0 hw [] w_QUEUED w_FAILED w_RUNNING w_CANCELLED w_SUCCEEDED h0 n0 O0 S) hZ (ww hw 14 rfl) (ww hw 6 rfl) (by decide) (by decide)) q13a q13c (g := (mkF m 30 #[vi p0, vi p1, vi v0, vi v1, va w_FAILED, va w_CANCELLED] [(.ref w_CANCELLED), (.ref w_FAILED)])) rfl (by rw [hml]; rfl) (Steps.refl _) (argsL := [(.ref w_CANCELLED)]) (rest := []) (lenOf pd_3 rfl) rfl (by show 2 * 0 + _ ≤ _; exact Nat.le_of_eq rfl) (hb hby at_30) (fun _ _ => ⟨rfl, e12, (by decide : 0 + 2 ≤ _), (by decide : 0 + 20 ≤ _)⟩)
                  dsimp only [Pt.U, Pt.locs, Pt.cells, Pt.slots] at X13 l13 y13 z13 st13 hQ13 hS13 hge13
                  subst l13 y13 z13
                  have hZ13 : Z.Warmed39 (s.setVm T13.vm).vm := State.Warmed39.trans hZ hS13.1
                  have hown13 : (s.setVm T13.vm).vm.findClass sC1 = some m.cls := by rw [show (s.setVm T13.vm).vm = T13.vm from rfl, hS13.1.alike.findClass]; exact hown
                  obtain ⟨rfl, Nq13, Kc13⟩ := hQ13
                  have N13 := Fr.app N12 Nq13
                  have O13 := O0.keep Kc13 all0
                  have K13 : Keep h0 T13.heap [] := K0.trans Kc13 all0
                  obtain ⟨_, _, ⟨T14, L14, k14, n14⟩, -, X14, ⟨Lc14, hQ14, l14, y14, z14⟩, st14⟩ := Jvm.LawKit.callS X13 hx (y := My5) hown13 (mvT hZ13 (ww hw 40 rfl)) (mvT hZ13 (ww hw 41 rfl)) (mvT hZ13 (ww hw 3 rfl)) (mvT hZ13 (ww hw 42 rfl)) (by decide) (backOf (W := 1) (rm5_10 l Z a0 hw [] w_QUEUED w_FAILED w_RUNNING w_CANCELLED w_SUCCEEDED v0 v1 T13.heap n0 O13 S hc1 hc3 hc5 hc7) hZ13 (ww hw 42 rfl) (ww hw 3 rfl) (by decide) (by decide)) (g := (mkF m 35 #[vi p0, vi p1, vi v0, vi v1, va w_FAILED, va w_CANCELLED] [(.int v1), (.int v0), (.int 0)])) rfl (by rw [hml]; rfl) (argsL := [(.int v0), (.int v1)]) (rest := [(.int 0)]) (lenOf pd_4 rfl) rfl (by show 2 * 0 + _ ≤ _; exact Nat.le_of_eq rfl) (hb hby at_35) (fun _ _ => ⟨rfl, rfl, (by decide : 2 + 0 ≤ _), (by decide : 20 + 0 ≤ _)⟩)
                  dsimp only [Pt.U, Pt.locs, Pt.cells, Pt.slots] at X14 l14 y14 z14 st14 hQ14
                  subst l14 y14 z14
                  obtain ⟨rfl, Nq14, e14⟩ := hQ14
                  have N14 := Fr.app N13 Nq14
                  obtain ⟨fs, hr, hrun, hended, hRE⟩ := X14.leaveW (s := s) hS13 (by rw [e14]; exact (Nat.le_refl _)) (v := (some (.int 1))) (fun h => by rw [hrt] at h; cases h)
                  refine ⟨_, _, pre_8 _ ?_, hrun, hended, _, _, rfl, ?_, hRE.1, hRE.2.1, hRE.2.2.1, hRE.2.2.2.mono (by decide) (by decide)⟩
                  · show Steps p.tables e below (T6.setTop (mkF m 21 #[vi p0, vi p1, vi v0, vi v1, va w_FAILED, uu] [(.int v1)])) _
                    refine st12 _ ?_
                    refine XS.astore X12.here hx rfl (hb hby at_24) rfl rfl (l' := #[vi p0, vi p1, vi v0, vi v1, va w_FAILED, va w_CANCELLED]) rfl ?_
                    refine XS.aload X12.here hx rfl (hb hby at_26) rfl rfl ?_
                    refine XS.aload X12.here hx rfl (hb hby at_28) rfl rfl ?_
                    refine st13.trans ?_
                    refine XS.iloadN X13.here hx rfl (hb hby at_33) rfl ?_
                    refine XS.iloadN X13.here hx rfl (hb hby at_34) rfl ?_
                    refine st14 _ ?_
                    show Steps p.tables e below (T14.setTop (mkF m 38 #[vi p0, vi p1, vi v0, vi v1, va w_FAILED, va w_CANCELLED] [(.int 0), (.int 0)])) _
                    refine XS.icmpNo X14.here hx rfl (hb hby at_38) rfl (teq (by decide : (0 : Int32) = (0 : Int32))).2 ?_
                    refine XS.iconst X14.here hx rfl (hb hby at_41) ?_
                    refine XS.goto X14.here hx rfl (pc0 := 42) (pc' := 46) rfl (hb hby at_42) (by decide) (by decide) ?_
                    exact retN X14 hx (t := .boolean) hrt (by simp) (hb hby at_46) hr
                  · show Q0 n0 (some (.int 1)) T14.heap _
                    exact (⟨rfl, N14⟩)
        · obtain ⟨_, _, ⟨T6, L6, k6, n6⟩, -, X6, ⟨Lc6, hQ6, l6, y6, z6⟩, st6⟩ := Jvm.LawKit.callS X0 hx (y := My1) hown (mvT hZ (ww hw 1 rfl)) (mvT hZ (ww hw 2 rfl)) (mvT hZ (ww hw 3 rfl)) (mvT hZ (ww hw 4 rfl)) (by decide) (backOf (W := 0) (rm1_4 l Z a0 hw [] w_QUEUED w_FAILED w_RUNNING w_CANCELLED w_SUCCEEDED v0 h0 n0 O0 S hc1 hc3 hc4 hc5) hZ (ww hw 4 rfl) (ww hw 3 rfl) (by decide) (by decide)) (g := (mkF m 15 #[vi p0, vi p1, vi v0, vi v1, uu, uu] [(.int v0)])) rfl (by rw [hml]; rfl) (argsL := [(.int v0)]) (rest := []) (lenOf pd_0 rfl) rfl (by show 2 * 0 + _ ≤ _; exact Nat.le_of_eq rfl) (hb hby at_15) (fun _ _ => ⟨rfl, e0, (by decide : 0 + 0 ≤ _), (by decide : 0 + 0 ≤ _)⟩)
          dsimp only [Pt.U, Pt.locs, Pt.cells, Pt.slots] at X6 l6 y6 z6 st6 hQ6
          subst l6 y6 z6
          obtain ⟨rfl, Nq6, e6⟩ := hQ6
          have N6 := Fr.app N0 Nq6
          have pre_8 : ∀ t, Steps p.tables e below (T6.setTop (mkF m 21 #[vi p0, vi p1, vi v0, vi v1, va w_CANCELLED, uu] [(.int v1)])) t → Steps p.tables e below (s₁.setTop (mkF m 0 #[vi p0, vi p1, uu, uu, uu, uu] [])) t := fun t k => pre_2 t (by
            show Steps p.tables e below (s₁.setTop (mkF m 15 #[vi p0, vi p1, vi v0, vi v1, uu, uu] [(.int v0)])) _
            refine st6 _ ?_
            refine XS.astore X6.here hx rfl (hb hby at_18) rfl rfl (l' := #[vi p0, vi p1, vi v0, vi v1, va w_CANCELLED, uu]) rfl ?_
            refine XS.iloadN X6.here hx rfl (hb hby at_20) rfl ?_
            exact k)
          by_cases hc7 : v1 = (0 : Int32)
          · obtain ⟨_, _, ⟨T9, L9, k9, n9⟩, -, X9, ⟨Lc9, hQ9, l9, y9, z9⟩, st9⟩ := Jvm.LawKit.callS X6 hx (y := My1) hown (mvT hZ (ww hw 1 rfl)) (mvT hZ (ww hw 2 rfl)) (mvT hZ (ww hw 3 rfl)) (mvT hZ (ww hw 4 rfl)) (by decide) (backOf (W := 0) (rm1_0 l Z a0 hw [] w_QUEUED w_FAILED w_RUNNING w_CANCELLED w_SUCCEEDED v1 h0 n0 O0 S hc7) hZ (ww hw 4 rfl) (ww hw 3 rfl) (by decide) (by decide)) (g := (mkF m 21 #[vi p0, vi p1, vi v0, vi v1, va w_CANCELLED, uu] [(.int v1)])) rfl (by rw [hml]; rfl) (argsL := [(.int v1)]) (rest := []) (lenOf pd_0 rfl) rfl (by show 2 * 0 + _ ≤ _; exact Nat.le_of_eq rfl) (hb hby at_21) (fun _ _ => ⟨rfl, e6, (by decide : 0 + 0 ≤ _), (by decide : 0 + 0 ≤ _)⟩)
            dsimp only [Pt.U, Pt.locs, Pt.cells, Pt.slots] at X9 l9 y9 z9 st9 hQ9
            subst l9 y9 z9
            obtain ⟨rfl, Nq9, e9⟩ := hQ9
            have N9 := Fr.app N6 Nq9
            obtain ⟨cq10, kq10, q10a, q10b, q10c⟩ := isOf hZ e9 (E_w_CANCELLED.ext O0.2)
            obtain ⟨_, _, ⟨T10, L10, k10, n10⟩, -, X10, hS10, hge10, ⟨Lc10, hQ10, l10, y10, z10⟩, st10⟩ := X9.virtualBackS hx (y := My2) (z := My2) hown (mvT hZ (ww hw 10 rfl)) (mvT hZ (ww hw 11 rfl)) (notFace_of_selects (args := #[]) (mvT hZ (ww hw 13 rfl))) (mvT hZ (ww hw 13 rfl)) (mvT hZ (ww hw 12 rfl)) (by decide) (backOfS (W := 0) (rm2_20 l Z a0 hw [] w_QUEUED w_FAILED w_RUNNING w_CANCELLED w_SUCCEEDED h0 n0 O0 S) hZ (ww hw 14 rfl) (ww hw 6 rfl) (by decide) (by decide)) q10a q10c (g := (mkF m 30 #[vi p0, vi p1, vi v0, vi v1, va w_CANCELLED, va w_QUEUED] [(.ref w_QUEUED), (.ref w_CANCELLED)])) rfl (by rw [hml]; rfl) (Steps.refl _) (argsL := [(.ref w_QUEUED)]) (rest := []) (lenOf pd_3 rfl) rfl (by show 2 * 0 + _ ≤ _; exact Nat.le_of_eq rfl) (hb hby at_30) (fun _ _ => ⟨rfl, e9, (by decide : 0 + 2 ≤ _), (by decide : 0 + 20 ≤ _)⟩)
            dsimp only [Pt.U, Pt.locs, Pt.cells, Pt.slots] at X10 l10 y10 z10 st10 hQ10 hS10 hge10
            subst l10 y10 z10
            have hZ10 : Z.Warmed39 (s.setVm T10.vm).vm := State.Warmed39.trans hZ hS10.1
            have hown10 : (s.setVm T10.vm).vm.findClass sC1 = some m.cls := by rw [show (s.setVm T10.vm).vm = T10.vm from rfl, hS10.1.alike.findClass]; exact hown
            obtain ⟨rfl, Nq10, Kc10⟩ := hQ10
            have N10 := Fr.app N9 Nq10
            have O10 := O0.keep Kc10 all0
            have K10 : Keep h0 T10.heap [] := K0.trans Kc10 all0
            obtain ⟨_, _, ⟨T11, L11, k11, n11⟩, -, X11, ⟨Lc11, hQ11, l11, y11, z11⟩, st11⟩ := Jvm.LawKit.callS X10 hx (y := My5) hown10 (mvT hZ10 (ww hw 40 rfl)) (mvT hZ10 (ww hw 41 rfl)) (mvT hZ10 (ww hw 3 rfl)) (mvT hZ10 (ww hw 42 rfl)) (by decide) (backOf (W := 1) (rm5_8 l Z a0 hw [] w_QUEUED w_FAILED w_RUNNING w_CANCELLED w_SUCCEEDED v0 v1 T10.heap n0 O10 S hc1 hc3 hc5) hZ10 (ww hw 42 rfl) (ww hw 3 rfl) (by decide) (by decide)) (g := (mkF m 35 #[vi p0, vi p1, vi v0, vi v1, va w_CANCELLED, va w_QUEUED] [(.int v1), (.int v0), (.int 0)])) rfl (by rw [hml]; rfl) (argsL := [(.int v0), (.int v1)]) (rest := [(.int 0)]) (lenOf pd_4 rfl) rfl (by show 2 * 0 + _ ≤ _; exact Nat.le_of_eq rfl) (hb hby at_35) (fun _ _ => ⟨rfl, rfl, (by decide : 2 + 0 ≤ _), (by decide : 20 + 0 ≤ _)⟩)
            dsimp only [Pt.U, Pt.locs, Pt.cells, Pt.slots] at X11 l11 y11 z11 st11 hQ11
            subst l11 y11 z11
            obtain ⟨rfl, Nq11, e11⟩ := hQ11
            have N11 := Fr.app N10 Nq11
            obtain ⟨fs, hr, hrun, hended, hRE⟩ := X11.leaveW (s := s) hS10 (by rw [e11]; exact (Nat.le_refl _)) (v := (some (.int 1))) (fun h => by rw [hrt] at h; cases h)
            refine ⟨_, _, pre_8 _ ?_, hrun, hended, _, _, rfl, ?_, hRE.1, hRE.2.1, hRE.2.2.1, hRE.2.2.2.mono (by decide) (by decide)⟩
            · show Steps p.tables e below (T6.setTop (mkF m 21 #[vi p0, vi p1, vi v0, vi v1, va w_CANCELLED, uu] [(.int v1)])) _
              refine st9 _ ?_
              refine XS.astore X9.here hx rfl (hb hby at_24) rfl rfl (l' := #[vi p0, vi p1, vi v0, vi v1, va w_CANCELLED, va w_QUEUED]) rfl ?_
              refine XS.aload X9.here hx rfl (hb hby at_26) rfl rfl ?_
              refine XS.aload X9.here hx rfl (hb hby at_28) rfl rfl ?_
              refine st10.trans ?_
              refine XS.iloadN X10.here hx rfl (hb hby at_33) rfl ?_
              refine XS.iloadN X10.here hx rfl (hb hby at_34) rfl ?_
              refine st11 _ ?_
              show Steps p.tables e below (T11.setTop (mkF m 38 #[vi p0, vi p1, vi v0, vi v1, va w_CANCELLED, va w_QUEUED] [(.int 0), (.int 0)])) _
              refine XS.icmpNo X11.here hx rfl (hb hby at_38) rfl (teq (by decide : (0 : Int32) = (0 : Int32))).2 ?_
              refine XS.iconst X11.here hx rfl (hb hby at_41) ?_
              refine XS.goto X11.here hx rfl (pc0 := 42) (pc' := 46) rfl (hb hby at_42) (by decide) (by decide) ?_
              exact retN X11 hx (t := .boolean) hrt (by simp) (hb hby at_46) hr
            · show Q0 n0 (some (.int 1)) T11.heap _
              exact (⟨rfl, N11⟩)
          · by_cases hc9 : v1 = (1 : Int32)
            · obtain ⟨_, _, ⟨T10, L10, k10, n10⟩, -, X10, ⟨Lc10, hQ10, l10, y10, z10⟩, st10⟩ := Jvm.LawKit.callS X6 hx (y := My1) hown (mvT hZ (ww hw 1 rfl)) (mvT hZ (ww hw 2 rfl)) (mvT hZ (ww hw 3 rfl)) (mvT hZ (ww hw 4 rfl)) (by decide) (backOf (W := 0) (rm1_1 l Z a0 hw [] w_QUEUED w_FAILED w_RUNNING w_CANCELLED w_SUCCEEDED v1 h0 n0 O0 S hc7 hc9) hZ (ww hw 4 rfl) (ww hw 3 rfl) (by decide) (by decide)) (g := (mkF m 21 #[vi p0, vi p1, vi v0, vi v1, va w_CANCELLED, uu] [(.int v1)])) rfl (by rw [hml]; rfl) (argsL := [(.int v1)]) (rest := []) (lenOf pd_0 rfl) rfl (by show 2 * 0 + _ ≤ _; exact Nat.le_of_eq rfl) (hb hby at_21) (fun _ _ => ⟨rfl, e6, (by decide : 0 + 0 ≤ _), (by decide : 0 + 0 ≤ _)⟩)
              dsimp only [Pt.U, Pt.locs, Pt.cells, Pt.slots] at X10 l10 y10 z10 st10 hQ10
              subst l10 y10 z10
              obtain ⟨rfl, Nq10, e10⟩ := hQ10
              have N10 := Fr.app N6 Nq10
              obtain ⟨cq11, kq11, q11a, q11b, q11c⟩ := isOf hZ e10 (E_w_CANCELLED.ext O0.2)
              obtain ⟨_, _, ⟨T11, L11, k11, n11⟩, -, X11, hS11, hge11, ⟨Lc11, hQ11, l11, y11, z11⟩, st11⟩ := X10.virtualBackS hx (y := My2) (z := My2) hown (mvT hZ (ww hw 10 rfl)) (mvT hZ (ww hw 11 rfl)) (notFace_of_selects (args := #[]) (mvT hZ (ww hw 13 rfl))) (mvT hZ (ww hw 13 rfl)) (mvT hZ (ww hw 12 rfl)) (by decide) (backOfS (W := 0) (rm2_21 l Z a0 hw [] w_QUEUED w_FAILED w_RUNNING w_CANCELLED w_SUCCEEDED h0 n0 O0 S) hZ (ww hw 14 rfl) (ww hw 6 rfl) (by decide) (by decide)) q11a q11c (g := (mkF m 30 #[vi p0, vi p1, vi v0, vi v1, va w_CANCELLED, va w_RUNNING] [(.ref w_RUNNING), (.ref w_CANCELLED)])) rfl (by rw [hml]; rfl) (Steps.refl _) (argsL := [(.ref w_RUNNING)]) (rest := []) (lenOf pd_3 rfl) rfl (by show 2 * 0 + _ ≤ _; exact Nat.le_of_eq rfl) (hb hby at_30) (fun _ _ => ⟨rfl, e10, (by decide : 0 + 2 ≤ _), (by decide : 0 + 20 ≤ _)⟩)
              dsimp only [Pt.U, Pt.locs, Pt.cells, Pt.slots] at X11 l11 y11 z11 st11 hQ11 hS11 hge11
              subst l11 y11 z11
              have hZ11 : Z.Warmed39 (s.setVm T11.vm).vm := State.Warmed39.trans hZ hS11.1
              have hown11 : (s.setVm T11.vm).vm.findClass sC1 = some m.cls := by rw [show (s.setVm T11.vm).vm = T11.vm from rfl, hS11.1.alike.findClass]; exact hown
              obtain ⟨rfl, Nq11, Kc11⟩ := hQ11
              have N11 := Fr.app N10 Nq11
              have O11 := O0.keep Kc11 all0
              have K11 : Keep h0 T11.heap [] := K0.trans Kc11 all0
              obtain ⟨_, _, ⟨T12, L12, k12, n12⟩, -, X12, ⟨Lc12, hQ12, l12, y12, z12⟩, st12⟩ := Jvm.LawKit.callS X11 hx (y := My5) hown11 (mvT hZ11 (ww hw 40 rfl)) (mvT hZ11 (ww hw 41 rfl)) (mvT hZ11 (ww hw 3 rfl)) (mvT hZ11 (ww hw 42 rfl)) (by decide) (backOf (W := 1) (rm5_8 l Z a0 hw [] w_QUEUED w_FAILED w_RUNNING w_CANCELLED w_SUCCEEDED v0 v1 T11.heap n0 O11 S hc1 hc3 hc5) hZ11 (ww hw 42 rfl) (ww hw 3 rfl) (by decide) (by decide)) (g := (mkF m 35 #[vi p0, vi p1, vi v0, vi v1, va w_CANCELLED, va w_RUNNING] [(.int v1), (.int v0), (.int 0)])) rfl (by rw [hml]; rfl) (argsL := [(.int v0), (.int v1)]) (rest := [(.int 0)]) (lenOf pd_4 rfl) rfl (by show 2 * 0 + _ ≤ _; exact Nat.le_of_eq rfl) (hb hby at_35) (fun _ _ => ⟨rfl, rfl, (by decide : 2 + 0 ≤ _), (by decide : 20 + 0 ≤ _)⟩)
              dsimp only [Pt.U, Pt.locs, Pt.cells, Pt.slots] at X12 l12 y12 z12 st12 hQ12
              subst l12 y12 z12
              obtain ⟨rfl, Nq12, e12⟩ := hQ12
              have N12 := Fr.app N11 Nq12
              obtain ⟨fs, hr, hrun, hended, hRE⟩ := X12.leaveW (s := s) hS11 (by rw [e12]; exact (Nat.le_refl _)) (v := (some (.int 1))) (fun h => by rw [hrt] at h; cases h)
              refine ⟨_, _, pre_8 _ ?_, hrun, hended, _, _, rfl, ?_, hRE.1, hRE.2.1, hRE.2.2.1, hRE.2.2.2.mono (by decide) (by decide)⟩
              · show Steps p.tables e below (T6.setTop (mkF m 21 #[vi p0, vi p1, vi v0, vi v1, va w_CANCELLED, uu] [(.int v1)])) _
                refine st10 _ ?_
                refine XS.astore X10.here hx rfl (hb hby at_24) rfl rfl (l' := #[vi p0, vi p1, vi v0, vi v1, va w_CANCELLED, va w_RUNNING]) rfl ?_
                refine XS.aload X10.here hx rfl (hb hby at_26) rfl rfl ?_
                refine XS.aload X10.here hx rfl (hb hby at_28) rfl rfl ?_
                refine st11.trans ?_
                refine XS.iloadN X11.here hx rfl (hb hby at_33) rfl ?_
                refine XS.iloadN X11.here hx rfl (hb hby at_34) rfl ?_
                refine st12 _ ?_
                show Steps p.tables e below (T12.setTop (mkF m 38 #[vi p0, vi p1, vi v0, vi v1, va w_CANCELLED, va w_RUNNING] [(.int 0), (.int 0)])) _
                refine XS.icmpNo X12.here hx rfl (hb hby at_38) rfl (teq (by decide : (0 : Int32) = (0 : Int32))).2 ?_
                refine XS.iconst X12.here hx rfl (hb hby at_41) ?_
                refine XS.goto X12.here hx rfl (pc0 := 42) (pc' := 46) rfl (hb hby at_42) (by decide) (by decide) ?_
                exact retN X12 hx (t := .boolean) hrt (by simp) (hb hby at_46) hr
              · show Q0 n0 (some (.int 1)) T12.heap _
                exact (⟨rfl, N12⟩)
            · by_cases hc10 : v1 = (2 : Int32)
              · obtain ⟨_, _, ⟨T11, L11, k11, n11⟩, -, X11, ⟨Lc11, hQ11, l11, y11, z11⟩, st11⟩ := Jvm.LawKit.callS X6 hx (y := My1) hown (mvT hZ (ww hw 1 rfl)) (mvT hZ (ww hw 2 rfl)) (mvT hZ (ww hw 3 rfl)) (mvT hZ (ww hw 4 rfl)) (by decide) (backOf (W := 0) (rm1_2 l Z a0 hw [] w_QUEUED w_FAILED w_RUNNING w_CANCELLED w_SUCCEEDED v1 h0 n0 O0 S hc7 hc9 hc10) hZ (ww hw 4 rfl) (ww hw 3 rfl) (by decide) (by decide)) (g := (mkF m 21 #[vi p0, vi p1, vi v0, vi v1, va w_CANCELLED, uu] [(.int v1)])) rfl (by rw [hml]; rfl) (argsL := [(.int v1)]) (rest := []) (lenOf pd_0 rfl) rfl (by show 2 * 0 + _ ≤ _; exact Nat.le_of_eq rfl) (hb hby at_21) (fun _ _ => ⟨rfl, e6, (by decide : 0 + 0 ≤ _), (by decide : 0 + 0 ≤ _)⟩)
                dsimp only [Pt.U, Pt.locs, Pt.cells, Pt.slots] at X11 l11 y11 z11 st11 hQ11
                subst l11 y11 z11
                obtain ⟨rfl, Nq11, e11⟩ := hQ11
                have N11 := Fr.app N6 Nq11
                obtain ⟨cq12, kq12, q12a, q12b, q12c⟩ := isOf hZ e11 (E_w_CANCELLED.ext O0.2)
                obtain ⟨_, _, ⟨T12, L12, k12, n12⟩, -, X12, hS12, hge12, ⟨Lc12, hQ12, l12, y12, z12⟩, st12⟩ := X11.virtualBackS hx (y := My2) (z := My2) hown (mvT hZ (ww hw 10 rfl)) (mvT hZ (ww hw 11 rfl)) (notFace_of_selects (args := #[]) (mvT hZ (ww hw 13 rfl))) (mvT hZ (ww hw 13 rfl)) (mvT hZ (ww hw 12 rfl)) (by decide) (backOfS (W := 0) (rm2_22 l Z a0 hw [] w_QUEUED w_FAILED w_RUNNING w_CANCELLED w_SUCCEEDED h0 n0 O0 S) hZ (ww hw 14 rfl) (ww hw 6 rfl) (by decide) (by decide)) q12a q12c (g := (mkF m 30 #[vi p0, vi p1, vi v0, vi v1, va w_CANCELLED, va w_SUCCEEDED] [(.ref w_SUCCEEDED), (.ref w_CANCELLED)])) rfl (by rw [hml]; rfl) (Steps.refl _) (argsL := [(.ref w_SUCCEEDED)]) (rest := []) (lenOf pd_3 rfl) rfl (by show 2 * 0 + _ ≤ _; exact Nat.le_of_eq rfl) (hb hby at_30) (fun _ _ => ⟨rfl, e11, (by decide : 0 + 2 ≤ _), (by decide : 0 + 20 ≤ _)⟩)
                dsimp only [Pt.U, Pt.locs, Pt.cells, Pt.slots] at X12 l12 y12 z12 st12 hQ12 hS12 hge12
                subst l12 y12 z12
                have hZ12 : Z.Warmed39 (s.setVm T12.vm).vm := State.Warmed39.trans hZ hS12.1
                have hown12 : (s.setVm T12.vm).vm.findClass sC1 = some m.cls := by rw [show (s.setVm T12.vm).vm = T12.vm from rfl, hS12.1.alike.findClass]; exact hown
                obtain ⟨rfl, Nq12, Kc12⟩ := hQ12
                have N12 := Fr.app N11 Nq12
                have O12 := O0.keep Kc12 all0
                have K12 : Keep h0 T12.heap [] := K0.trans Kc12 all0
                obtain ⟨_, _, ⟨T13, L13, k13, n13⟩, -, X13, ⟨Lc13, hQ13, l13, y13, z13⟩, st13⟩ := Jvm.LawKit.callS X12 hx (y := My5) hown12 (mvT hZ12 (ww hw 40 rfl)) (mvT hZ12 (ww hw 41 rfl)) (mvT hZ12 (ww hw 3 rfl)) (mvT hZ12 (ww hw 42 rfl)) (by decide) (backOf (W := 1) (rm5_8 l Z a0 hw [] w_QUEUED w_FAILED w_RUNNING w_CANCELLED w_SUCCEEDED v0 v1 T12.heap n0 O12 S hc1 hc3 hc5) hZ12 (ww hw 42 rfl) (ww hw 3 rfl) (by decide) (by decide)) (g := (mkF m 35 #[vi p0, vi p1, vi v0, vi v1, va w_CANCELLED, va w_SUCCEEDED] [(.int v1), (.int v0), (.int 0)])) rfl (by rw [hml]; rfl) (argsL := [(.int v0), (.int v1)]) (rest := [(.int 0)]) (lenOf pd_4 rfl) rfl (by show 2 * 0 + _ ≤ _; exact Nat.le_of_eq rfl) (hb hby at_35) (fun _ _ => ⟨rfl, rfl, (by decide : 2 + 0 ≤ _), (by decide : 20 + 0 ≤ _)⟩)
                dsimp only [Pt.U, Pt.locs, Pt.cells, Pt.slots] at X13 l13 y13 z13 st13 hQ13
                subst l13 y13 z13
                obtain ⟨rfl, Nq13, e13⟩ := hQ13
                have N13 := Fr.app N12 Nq13
                obtain ⟨fs, hr, hrun, hended, hRE⟩ := X13.leaveW (s := s) hS12 (by rw [e13]; exact (Nat.le_refl _)) (v := (some (.int 1))) (fun h => by rw [hrt] at h; cases h)
                refine ⟨_, _, pre_8 _ ?_, hrun, hended, _, _, rfl, ?_, hRE.1, hRE.2.1, hRE.2.2.1, hRE.2.2.2.mono (by decide) (by decide)⟩
                · show Steps p.tables e below (T6.setTop (mkF m 21 #[vi p0, vi p1, vi v0, vi v1, va w_CANCELLED, uu] [(.int v1)])) _
                  refine st11 _ ?_
                  refine XS.astore X11.here hx rfl (hb hby at_24) rfl rfl (l' := #[vi p0, vi p1, vi v0, vi v1, va w_CANCELLED, va w_SUCCEEDED]) rfl ?_
                  refine XS.aload X11.here hx rfl (hb hby at_26) rfl rfl ?_
                  refine XS.aload X11.here hx rfl (hb hby at_28) rfl rfl ?_
                  refine st12.trans ?_
                  refine XS.iloadN X12.here hx rfl (hb hby at_33) rfl ?_
                  refine XS.iloadN X12.here hx rfl (hb hby at_34) rfl ?_
                  refine st13 _ ?_
                  show Steps p.tables e below (T13.setTop (mkF m 38 #[vi p0, vi p1, vi v0, vi v1, va w_CANCELLED, va w_SUCCEEDED] [(.int 0), (.int 0)])) _
                  refine XS.icmpNo X13.here hx rfl (hb hby at_38) rfl (teq (by decide : (0 : Int32) = (0 : Int32))).2 ?_
                  refine XS.iconst X13.here hx rfl (hb hby at_41) ?_
                  refine XS.goto X13.here hx rfl (pc0 := 42) (pc' := 46) rfl (hb hby at_42) (by decide) (by decide) ?_
                  exact retN X13 hx (t := .boolean) hrt (by simp) (hb hby at_46) hr
                · show Q0 n0 (some (.int 1)) T13.heap _
                  exact (⟨rfl, N13⟩)
              · by_cases hc11 : v1 = (3 : Int32)
                · obtain ⟨_, _, ⟨T12, L12, k12, n12⟩, -, X12, ⟨Lc12, hQ12, l12, y12, z12⟩, st12⟩ := Jvm.LawKit.callS X6 hx (y := My1) hown (mvT hZ (ww hw 1 rfl)) (mvT hZ (ww hw 2 rfl)) (mvT hZ (ww hw 3 rfl)) (mvT hZ (ww hw 4 rfl)) (by decide) (backOf (W := 0) (rm1_3 l Z a0 hw [] w_QUEUED w_FAILED w_RUNNING w_CANCELLED w_SUCCEEDED v1 h0 n0 O0 S hc7 hc9 hc10 hc11) hZ (ww hw 4 rfl) (ww hw 3 rfl) (by decide) (by decide)) (g := (mkF m 21 #[vi p0, vi p1, vi v0, vi v1, va w_CANCELLED, uu] [(.int v1)])) rfl (by rw [hml]; rfl) (argsL := [(.int v1)]) (rest := []) (lenOf pd_0 rfl) rfl (by show 2 * 0 + _ ≤ _; exact Nat.le_of_eq rfl) (hb hby at_21) (fun _ _ => ⟨rfl, e6, (by decide : 0 + 0 ≤ _), (by decide : 0 + 0 ≤ _)⟩)
                  dsimp only [Pt.U, Pt.locs, Pt.cells, Pt.slots] at X12 l12 y12 z12 st12 hQ12
                  subst l12 y12 z12
                  obtain ⟨rfl, Nq12, e12⟩ := hQ12
                  have N12 := Fr.app N6 Nq12
                  obtain ⟨cq13, kq13, q13a, q13b, q13c⟩ := isOf hZ e12 (E_w_CANCELLED.ext O0.2)
                  obtain ⟨_, _, ⟨T13, L13, k13, n13⟩, -, X13, hS13, hge13, ⟨Lc13, hQ13, l13, y13, z13⟩, st13⟩ := X12.virtualBackS hx (y := My2) (z := My2) hown (mvT hZ (ww hw 10 rfl)) (mvT hZ (ww hw 11 rfl)) (notFace_of_selects (args := #[]) (mvT hZ (ww hw 13 rfl))) (mvT hZ (ww hw 13 rfl)) (mvT hZ (ww hw 12 rfl)) (by decide) (backOfS (W := 0) (rm2_23 l Z a0 hw [] w_QUEUED w_FAILED w_RUNNING w_CANCELLED w_SUCCEEDED h0 n0 O0 S) hZ (ww hw 14 rfl) (ww hw 6 rfl) (by decide) (by decide)) q13a q13c (g := (mkF m 30 #[vi p0, vi p1, vi v0, vi v1, va w_CANCELLED, va w_FAILED] [(.ref w_FAILED), (.ref w_CANCELLED)])) rfl (by rw [hml]; rfl) (Steps.refl _) (argsL := [(.ref w_FAILED)]) (rest := []) (lenOf pd_3 rfl) rfl (by show 2 * 0 + _ ≤ _; exact Nat.le_of_eq rfl) (hb hby at_30) (fun _ _ => ⟨rfl, e12, (by decide : 0 + 2 ≤ _), (by decide : 0 + 20 ≤ _)⟩)
                  dsimp only [Pt.U, Pt.locs, Pt.cells, Pt.slots] at X13 l13 y13 z13 st13 hQ13 hS13 hge13
                  subst l13 y13 z13
                  have hZ13 : Z.Warmed39 (s.setVm T13.vm).vm := State.Warmed39.trans hZ hS13.1
                  have hown13 : (s.setVm T13.vm).vm.findClass sC1 = some m.cls := by rw [show (s.setVm T13.vm).vm = T13.vm from rfl, hS13.1.alike.findClass]; exact hown
                  obtain ⟨rfl, Nq13, Kc13⟩ := hQ13
                  have N13 := Fr.app N12 Nq13
                  have O13 := O0.keep Kc13 all0
                  have K13 : Keep h0 T13.heap [] := K0.trans Kc13 all0
                  obtain ⟨_, _, ⟨T14, L14, k14, n14⟩, -, X14, ⟨Lc14, hQ14, l14, y14, z14⟩, st14⟩ := Jvm.LawKit.callS X13 hx (y := My5) hown13 (mvT hZ13 (ww hw 40 rfl)) (mvT hZ13 (ww hw 41 rfl)) (mvT hZ13 (ww hw 3 rfl)) (mvT hZ13 (ww hw 42 rfl)) (by decide) (backOf (W := 1) (rm5_8 l Z a0 hw [] w_QUEUED w_FAILED w_RUNNING w_CANCELLED w_SUCCEEDED v0 v1 T13.heap n0 O13 S hc1 hc3 hc5) hZ13 (ww hw 42 rfl) (ww hw 3 rfl) (by decide) (by decide)) (g := (mkF m 35 #[vi p0, vi p1, vi v0, vi v1, va w_CANCELLED, va w_FAILED] [(.int v1), (.int v0), (.int 0)])) rfl (by rw [hml]; rfl) (argsL := [(.int v0), (.int v1)]) (rest := [(.int 0)]) (lenOf pd_4 rfl) rfl (by show 2 * 0 + _ ≤ _; exact Nat.le_of_eq rfl) (hb hby at_35) (fun _ _ => ⟨rfl, rfl, (by decide : 2 + 0 ≤ _), (by decide : 20 + 0 ≤ _)⟩)
                  dsimp only [Pt.U, Pt.locs, Pt.cells, Pt.slots] at X14 l14 y14 z14 st14 hQ14
                  subst l14 y14 z14
                  obtain ⟨rfl, Nq14, e14⟩ := hQ14
                  have N14 := Fr.app N13 Nq14
                  obtain ⟨fs, hr, hrun, hended, hRE⟩ := X14.leaveW (s := s) hS13 (by rw [e14]; exact (Nat.le_refl _)) (v := (some (.int 1))) (fun h => by rw [hrt] at h; cases h)
                  refine ⟨_, _, pre_8 _ ?_, hrun, hended, _, _, rfl, ?_, hRE.1, hRE.2.1, hRE.2.2.1, hRE.2.2.2.mono (by decide) (by decide)⟩
                  · show Steps p.tables e below (T6.setTop (mkF m 21 #[vi p0, vi p1, vi v0, vi v1, va w_CANCELLED, uu] [(.int v1)])) _
                    refine st12 _ ?_
                    refine XS.astore X12.here hx rfl (hb hby at_24) rfl rfl (l' := #[vi p0, vi p1, vi v0, vi v1, va w_CANCELLED, va w_FAILED]) rfl ?_
                    refine XS.aload X12.here hx rfl (hb hby at_26) rfl rfl ?_
                    refine XS.aload X12.here hx rfl (hb hby at_28) rfl rfl ?_
                    refine st13.trans ?_
                    refine XS.iloadN X13.here hx rfl (hb hby at_33) rfl ?_
                    refine XS.iloadN X13.here hx rfl (hb hby at_34) rfl ?_
                    refine st14 _ ?_
                    show Steps p.tables e below (T14.setTop (mkF m 38 #[vi p0, vi p1, vi v0, vi v1, va w_CANCELLED, va w_FAILED] [(.int 0), (.int 0)])) _
                    refine XS.icmpNo X14.here hx rfl (hb hby at_38) rfl (teq (by decide : (0 : Int32) = (0 : Int32))).2 ?_
                    refine XS.iconst X14.here hx rfl (hb hby at_41) ?_
                    refine XS.goto X14.here hx rfl (pc0 := 42) (pc' := 46) rfl (hb hby at_42) (by decide) (by decide) ?_
                    exact retN X14 hx (t := .boolean) hrt (by simp) (hb hby at_46) hr
                  · show Q0 n0 (some (.int 1)) T14.heap _
                    exact (⟨rfl, N14⟩)
                · obtain ⟨_, _, ⟨T12, L12, k12, n12⟩, -, X12, ⟨Lc12, hQ12, l12, y12, z12⟩, st12⟩ := Jvm.LawKit.callS X6 hx (y := My1) hown (mvT hZ (ww hw 1 rfl)) (mvT hZ (ww hw 2 rfl)) (mvT hZ (ww hw 3 rfl)) (mvT hZ (ww hw 4 rfl)) (by decide) (backOf (W := 0) (rm1_4 l Z a0 hw [] w_QUEUED w_FAILED w_RUNNING w_CANCELLED w_SUCCEEDED v1 h0 n0 O0 S hc7 hc9 hc10 hc11) hZ (ww hw 4 rfl) (ww hw 3 rfl) (by decide) (by decide)) (g := (mkF m 21 #[vi p0, vi p1, vi v0, vi v1, va w_CANCELLED, uu] [(.int v1)])) rfl (by rw [hml]; rfl) (argsL := [(.int v1)]) (rest := []) (lenOf pd_0 rfl) rfl (by show 2 * 0 + _ ≤ _; exact Nat.le_of_eq rfl) (hb hby at_21) (fun _ _ => ⟨rfl, e6, (by decide : 0 + 0 ≤ _), (by decide : 0 + 0 ≤ _)⟩)
                  dsimp only [Pt.U, Pt.locs, Pt.cells, Pt.slots] at X12 l12 y12 z12 st12 hQ12
                  subst l12 y12 z12
                  obtain ⟨rfl, Nq12, e12⟩ := hQ12
                  have N12 := Fr.app N6 Nq12
                  obtain ⟨cq13, kq13, q13a, q13b, q13c⟩ := isOf hZ e12 (E_w_CANCELLED.ext O0.2)
                  obtain ⟨_, _, ⟨T13, L13, k13, n13⟩, -, X13, hS13, hge13, ⟨Lc13, hQ13, l13, y13, z13⟩, st13⟩ := X12.virtualBackS hx (y := My2) (z := My2) hown (mvT hZ (ww hw 10 rfl)) (mvT hZ (ww hw 11 rfl)) (notFace_of_selects (args := #[]) (mvT hZ (ww hw 13 rfl))) (mvT hZ (ww hw 13 rfl)) (mvT hZ (ww hw 12 rfl)) (by decide) (backOfS (W := 0) (rm2_24 l Z a0 hw [] w_QUEUED w_FAILED w_RUNNING w_CANCELLED w_SUCCEEDED h0 n0 O0 S) hZ (ww hw 14 rfl) (ww hw 6 rfl) (by decide) (by decide)) q13a q13c (g := (mkF m 30 #[vi p0, vi p1, vi v0, vi v1, va w_CANCELLED, va w_CANCELLED] [(.ref w_CANCELLED), (.ref w_CANCELLED)])) rfl (by rw [hml]; rfl) (Steps.refl _) (argsL := [(.ref w_CANCELLED)]) (rest := []) (lenOf pd_3 rfl) rfl (by show 2 * 0 + _ ≤ _; exact Nat.le_of_eq rfl) (hb hby at_30) (fun _ _ => ⟨rfl, e12, (by decide : 0 + 2 ≤ _), (by decide : 0 + 20 ≤ _)⟩)
                  dsimp only [Pt.U, Pt.locs, Pt.cells, Pt.slots] at X13 l13 y13 z13 st13 hQ13 hS13 hge13
                  subst l13 y13 z13
                  have hZ13 : Z.Warmed39 (s.setVm T13.vm).vm := State.Warmed39.trans hZ hS13.1
                  have hown13 : (s.setVm T13.vm).vm.findClass sC1 = some m.cls := by rw [show (s.setVm T13.vm).vm = T13.vm from rfl, hS13.1.alike.findClass]; exact hown
                  obtain ⟨rfl, Nq13, Kc13⟩ := hQ13
                  have N13 := Fr.app N12 Nq13
                  have O13 := O0.keep Kc13 all0
                  have K13 : Keep h0 T13.heap [] := K0.trans Kc13 all0
                  obtain ⟨_, _, ⟨T14, L14, k14, n14⟩, -, X14, ⟨Lc14, hQ14, l14, y14, z14⟩, st14⟩ := Jvm.LawKit.callS X13 hx (y := My5) hown13 (mvT hZ13 (ww hw 40 rfl)) (mvT hZ13 (ww hw 41 rfl)) (mvT hZ13 (ww hw 3 rfl)) (mvT hZ13 (ww hw 42 rfl)) (by decide) (backOf (W := 1) (rm5_8 l Z a0 hw [] w_QUEUED w_FAILED w_RUNNING w_CANCELLED w_SUCCEEDED v0 v1 T13.heap n0 O13 S hc1 hc3 hc5) hZ13 (ww hw 42 rfl) (ww hw 3 rfl) (by decide) (by decide)) (g := (mkF m 35 #[vi p0, vi p1, vi v0, vi v1, va w_CANCELLED, va w_CANCELLED] [(.int v1), (.int v0), (.int 0)])) rfl (by rw [hml]; rfl) (argsL := [(.int v0), (.int v1)]) (rest := [(.int 0)]) (lenOf pd_4 rfl) rfl (by show 2 * 0 + _ ≤ _; exact Nat.le_of_eq rfl) (hb hby at_35) (fun _ _ => ⟨rfl, rfl, (by decide : 2 + 0 ≤ _), (by decide : 20 + 0 ≤ _)⟩)
                  dsimp only [Pt.U, Pt.locs, Pt.cells, Pt.slots] at X14 l14 y14 z14 st14 hQ14
                  subst l14 y14 z14
                  obtain ⟨rfl, Nq14, e14⟩ := hQ14
                  have N14 := Fr.app N13 Nq14
                  obtain ⟨fs, hr, hrun, hended, hRE⟩ := X14.leaveW (s := s) hS13 (by rw [e14]; exact (Nat.le_refl _)) (v := (some (.int 1))) (fun h => by rw [hrt] at h; cases h)
                  refine ⟨_, _, pre_8 _ ?_, hrun, hended, _, _, rfl, ?_, hRE.1, hRE.2.1, hRE.2.2.1, hRE.2.2.2.mono (by decide) (by decide)⟩
                  · show Steps p.tables e below (T6.setTop (mkF m 21 #[vi p0, vi p1, vi v0, vi v1, va w_CANCELLED, uu] [(.int v1)])) _
                    refine st12 _ ?_
                    refine XS.astore X12.here hx rfl (hb hby at_24) rfl rfl (l' := #[vi p0, vi p1, vi v0, vi v1, va w_CANCELLED, va w_CANCELLED]) rfl ?_
                    refine XS.aload X12.here hx rfl (hb hby at_26) rfl rfl ?_
                    refine XS.aload X12.here hx rfl (hb hby at_28) rfl rfl ?_
                    refine st13.trans ?_
                    refine XS.iloadN X13.here hx rfl (hb hby at_33) rfl ?_
                    refine XS.iloadN X13.here hx rfl (hb hby at_34) rfl ?_
                    refine st14 _ ?_
                    show Steps p.tables e below (T14.setTop (mkF m 38 #[vi p0, vi p1, vi v0, vi v1, va w_CANCELLED, va w_CANCELLED] [(.int 0), (.int 0)])) _
                    refine XS.icmpNo X14.here hx rfl (hb hby at_38) rfl (teq (by decide : (0 : Int32) = (0 : Int32))).2 ?_
                    refine XS.iconst X14.here hx rfl (hb hby at_41) ?_
                    refine XS.goto X14.here hx rfl (pc0 := 42) (pc' := 46) rfl (hb hby at_42) (by decide) (by decide) ?_
                    exact retN X14 hx (t := .boolean) hrt (by simp) (hb hby at_46) hr
                  · show Q0 n0 (some (.int 1)) T14.heap _
                    exact (⟨rfl, N14⟩)
theorem comes_1 {Post : Tables → Env → Array Value → State → Outcome → State → Prop} (hpost : ∀ tb e args s v u, (limb_1_1.after args s (.returned v) u = true ∧ limb_1_2.after args s (.returned v) u = true ∧ True) → ReturnedEndW s (.returned v) u (Jvm.fieldLocs frame_1_writes args s ++ Jvm.arrayLocs frame_1_arrays args s ++ Jvm.staticLocs frame_1_statics s) 8 1088 → Post tb e args s (.returned v) u) :
    ArmFor flags0 classFile x code maxLocals ret World_1 tables_1 room_1 Calls_1 rest_1 Pre_1 Post := by
  intro l hfl _ _ p e ha hc hk s m args below hf hA hF happ hP
  obtain ⟨hcalls, hrest, hpre⟩ := hP
  obtain ⟨-, -, -, hnamed, -, -, -, hat⟩ := (Spec.applies_iff hf).mp happ
  obtain ⟨hg, hn⟩ := and_e (Cond.before_iff.mp (show (Jvm.Cond.and given_1 narrow_1).before args s = true from hpre))
  obtain ⟨g0, gr0⟩ := and_e hg
  obtain ⟨g1, gr1⟩ := and_e gr0
  obtain ⟨v0, v1, rfl⟩ : ∃ v0 v1 : Value, args = #[v0, v1] := by
    have hs : args.size = 2 := by simpa [Cond.value, given_1] using g0
    obtain ⟨L⟩ := args
    match L, hs with
    | [v0, v1], _ => exact ⟨v0, v1, rfl⟩
  have hw := fun d (hd : d ∈ tables_1) => atoms_spec (ws := Jvm.Cond.code x code maxLocals ret :: tables_1) hat d (List.mem_cons_of_mem _ hd)
  have hfit : Fit s := fun {y c} hc i hi => by
    obtain ⟨ha, rfl⟩ := Array.getElem?_eq_some_iff.mp hc
    have q := List.all_eq_true.mp ((Array.all_eq_true_iff_forall_mem.mp hF) _ (Array.getElem_mem ha)) i (List.mem_range.mpr hi)
    simpa [Array.getElem?_eq_getElem hi] using q
  obtain ⟨i0, ei0⟩ := is_v g1
  obtain rfl : v0 = (.int i0) := Option.some.inj ei0
  obtain ⟨i1, ei1⟩ := is_v gr1
  obtain rfl : v1 = (.int i1) := Option.some.inj ei1
  obtain ⟨n0, nr0⟩ := and_e hn
  obtain ⟨n1, nr1⟩ := and_e nr0
  obtain ⟨n2, nr2⟩ := and_e nr1
  obtain ⟨n3, nr3⟩ := and_e nr2
  obtain ⟨n4, nr4⟩ := and_e nr3
  obtain ⟨n5, nr5⟩ := and_e nr4
  obtain ⟨n6, nr6⟩ := and_e nr5
  obtain ⟨n7, nr7⟩ := and_e nr6
  obtain ⟨n8, nr8⟩ := and_e nr7
  obtain ⟨w_QUEUED, ev_w_QUEUED⟩ := exa_v n0
  have S_w_QUEUED := Sta.start ev_w_QUEUED (Or.inr ⟨(ww hw 6 rfl), (ww hw 7 rfl)⟩)
  have E_w_QUEUED := Exa.start ev_w_QUEUED n0
  obtain ⟨w_FAILED, ev_w_FAILED⟩ := exa_v n1
  have S_w_FAILED := Sta.start ev_w_FAILED (Or.inr ⟨(ww hw 6 rfl), (ww hw 9 rfl)⟩)
  have E_w_FAILED := Exa.start ev_w_FAILED n1
  obtain ⟨w_RUNNING, ev_w_RUNNING⟩ := exa_v n3
  have S_w_RUNNING := Sta.start ev_w_RUNNING (Or.inr ⟨(ww hw 6 rfl), (ww hw 37 rfl)⟩)
  have E_w_RUNNING := Exa.start ev_w_RUNNING n3
  obtain ⟨w_CANCELLED, ev_w_CANCELLED⟩ := exa_v n6
  have S_w_CANCELLED := Sta.start ev_w_CANCELLED (Or.inr ⟨(ww hw 6 rfl), (ww hw 39 rfl)⟩)
  have E_w_CANCELLED := Exa.start ev_w_CANCELLED n6
  obtain ⟨w_SUCCEEDED, ev_w_SUCCEEDED⟩ := exa_v n8
  have S_w_SUCCEEDED := Sta.start ev_w_SUCCEEDED (Or.inr ⟨(ww hw 6 rfl), (ww hw 52 rfl)⟩)
  have E_w_SUCCEEDED := Exa.start ev_w_SUCCEEDED n8
  have F_ordinal_w_QUEUED := Fld.start ((fld_at ev_w_QUEUED).symm.trans (own_eqI n2))
  have F_ordinal_w_FAILED := Fld.start ((fld_at ev_w_FAILED).symm.trans (own_eqI n4))
  have F_ordinal_w_RUNNING := Fld.start ((fld_at ev_w_RUNNING).symm.trans (own_eqI n5))
  have F_ordinal_w_CANCELLED := Fld.start ((fld_at ev_w_CANCELLED).symm.trans (own_eqI n7))
  have F_ordinal_w_SUCCEEDED := Fld.start ((fld_at ev_w_SUCCEEDED).symm.trans (own_eqI nr8))
  have hne_w_QUEUED_w_FAILED := F_ordinal_w_QUEUED.ne F_ordinal_w_FAILED (by decide)
  have hne_w_QUEUED_w_RUNNING := F_ordinal_w_QUEUED.ne F_ordinal_w_RUNNING (by decide)
  have hne_w_QUEUED_w_CANCELLED := F_ordinal_w_QUEUED.ne F_ordinal_w_CANCELLED (by decide)
  have hne_w_QUEUED_w_SUCCEEDED := F_ordinal_w_QUEUED.ne F_ordinal_w_SUCCEEDED (by decide)
  have hne_w_FAILED_w_RUNNING := F_ordinal_w_FAILED.ne F_ordinal_w_RUNNING (by decide)
  have hne_w_FAILED_w_CANCELLED := F_ordinal_w_FAILED.ne F_ordinal_w_CANCELLED (by decide)
  have hne_w_FAILED_w_SUCCEEDED := F_ordinal_w_FAILED.ne F_ordinal_w_SUCCEEDED (by decide)
  have hne_w_RUNNING_w_CANCELLED := F_ordinal_w_RUNNING.ne F_ordinal_w_CANCELLED (by decide)
  have hne_w_RUNNING_w_SUCCEEDED := F_ordinal_w_RUNNING.ne F_ordinal_w_SUCCEEDED (by decide)
  have hne_w_CANCELLED_w_SUCCEEDED := F_ordinal_w_CANCELLED.ne F_ordinal_w_SUCCEEDED (by decide)
  obtain ⟨n, o, h1, h2, h3, _, L, rfl, ⟨rfl, N⟩, hq⟩ := rm0 l s _ hw tables_1 w_QUEUED w_FAILED w_RUNNING w_CANCELLED w_SUCCEEDED s.heap s.heap.size (Old.start s) ⟨S_w_QUEUED, E_w_QUEUED, S_w_FAILED, E_w_FAILED, S_w_RUNNING, E_w_RUNNING, S_w_CANCELLED, E_w_CANCELLED, S_w_SUCCEEDED, E_w_SUCCEEDED, F_ordinal_w_QUEUED, F_ordinal_w_FAILED, F_ordinal_w_RUNNING, F_ordinal_w_CANCELLED, F_ordinal_w_SUCCEEDED, hne_w_QUEUED_w_FAILED, hne_w_QUEUED_w_RUNNING, hne_w_QUEUED_w_CANCELLED, hne_w_QUEUED_w_SUCCEEDED, hne_w_FAILED_w_RUNNING, hne_w_FAILED_w_CANCELLED, hne_w_FAILED_w_SUCCEEDED, hne_w_RUNNING_w_CANCELLED, hne_w_RUNNING_w_SUCCEEDED, hne_w_CANCELLED_w_SUCCEEDED, trivial⟩ i0 i1 p e ha hc hk s m _ below hf ((Spec.applies_iff_loose hf).mp happ).1 ⟨rfl, State.Warmed39.refl s, rfl⟩ trivial
  refine ⟨n, _, h1, h2, h3, hpost _ _ _ _ _ _ ⟨Cond.after_iff.mpr rfl, Cond.after_iff.mpr (eq_i res_at (Term.int_eval (1)) rfl), trivial⟩ ⟨hq.1, hq.2.1, hq.2.2.1, (hq.2.2.2.sift fun y hy => Or.inr (N y hy)).mono (by decide) (by decide)⟩⟩
theorem main_1_1 : Claimed_1_1 := comes_1 fun _ _ _ _ _ _ h hF => ⟨h.1, hF⟩
theorem main_1_2 : Claimed_1_2 := comes_1 fun _ _ _ _ _ _ h hF => ⟨h.2.1, hF⟩
end Jvm.Pilot.@@N@@
namespace Jvm.Pilot.@@N@@
open Jvm Jvm.ClassFile Sem Op Lib Jvm.Free Jvm.Stand Jvm.Pilot.@@N@@.Jvm.D
/-! MADE BY PROGRAM (witnessworld.py) out of the Statement's table words and the real class files: 16 classes; the members and pool entries that the words name. The judged class is class 1, her method 3. -/
namespace start1
open Jvm.ClassFile
def u (s : String) : CpInfo := .utf8 (stringToUtf16 s)
/-- a pool by its gaps: so many unusable entries, then the entry; so many at the end -/
def gap : Nat → List CpInfo → List CpInfo
  | 0, r => r
  | n + 1, r => .unusable :: gap n r
def poolList (es : List (Nat × CpInfo)) (last : Nat) : List CpInfo := es.foldr (fun e r => gap e.1 (e.2 :: r)) (gap last [])
def pool (es : List (Nat × CpInfo)) (last : Nat) : Array CpInfo := ⟨poolList es last⟩
def fileOf (pool : Array CpInfo) (this : Nat) (attrs : Array Attribute := #[]) (ms : Array MethodInfo := #[]) (fl : Nat := 33) (sup : Nat := 0) (ifs : Array Nat := #[]) (fds : Array FieldInfo := #[]) : ClassFile where
  minorVersion := 0
  majorVersion := 65
  constantPool := pool
  accessFlags := fl
  thisClass := this
  superClass := sup
  interfaces := ifs
  fields := fds
  methods := ms
  attributes := attrs
def plain (name : String) (sup : Option ClassId) : Class where
  name := name
  kind := .ordinary
  loader := none
  accessFlags := 33
  super := sup
  interfaces := #[]
  cf := none
  fields := #[]
  methods := #[]
  instanceTypes := #[]
  staticTypes := #[]
  resolved := #[]
  callSites := []
  init := .initialized
  statics := none
  mirror := none

def pool0 : Array CpInfo := pool [(5, u "<init>"), (0, u "()V"), (1, .class_ 10), (1, u "java/lang/Object")] 113

def k0m0 : Method := { name := "<init>", desc := "()V", sig := { parameters := [], returnType := none }, accessFlags := 1, code := none }
/-- java/lang/Object -/
def k0 : Class := { plain "java/lang/Object" none with
  accessFlags := 33
  interfaces := #[]
  cf := some (fileOf pool0 8 #[] #[{ accessFlags := 1, nameIndex := 5, descriptorIndex := 6, attributes := #[] }] 33 0 #[] #[])
  fields := #[]
  methods := #[k0m0]
  instanceTypes := #[]
  staticTypes := #[]
  resolved := Array.replicate 124 none
  statics := none }

def pool1 : Array CpInfo := pool [(2, .class_ 4), (1, u "java/lang/Object"), (0, u "<init>"), (0, u "()V"), (0, .fieldref 8 9), (0, .class_ 10), (0, .nameAndType 11 12), (0, u "com/example/leafcutter/leafcutter/RunState"), (0, u "QUEUED"), (0, u "Lcom/example/leafcutter/leafcutter/RunState;"), (0, .fieldref 8 14), (0, .nameAndType 15 12), (0, u "RUNNING"), (0, .fieldref 8 17), (0, .nameAndType 18 12), (0, u "SUCCEEDED"), (0, .fieldref 8 20), (0, .nameAndType 21 12), (0, u "FAILED"), (0, .fieldref 8 23), (0, .nameAndType 24 12), (0, u "CANCELLED"), (0, .integer 2147483647), (0, .methodref 27 28), (0, .class_ 29), (0, .nameAndType 30 31), (0, u "com/example/leafcutter/leafcutter/RunStateCanMoveToPinLaw"), (0, u "state"), (0, u "(I)Lcom/example/leafcutter/leafcutter/RunState;"), (0, .methodref 8 33), (0, .nameAndType 34 35), (0, u "canMoveTo"), (0, u "(Lcom/example/leafcutter/leafcutter/RunState;)Z"), (0, .methodref 27 37), (0, .nameAndType 38 39), (0, u "allowed"), (0, u "(II)Z"), (3, u "law")] 2

def k1m0 : Method := { name := "<init>", desc := "()V", sig := { parameters := [], returnType := none }, accessFlags := 2, code := none }
def k1c1 : Code := { maxStack := 2, maxLocals := 1, code := method_2_code, exceptionTable := #[], attributes := #[] }
def k1m1 : Method := { name := "state", desc := "(I)Lcom/example/leafcutter/leafcutter/RunState;", sig := { parameters := [.int], returnType := some (.object "com/example/leafcutter/leafcutter/RunState") }, accessFlags := 10, code := some k1c1 }
def k1c2 : Code := { maxStack := 2, maxLocals := 2, code := method_3_code, exceptionTable := #[], attributes := #[] }
def k1m2 : Method := { name := "allowed", desc := "(II)Z", sig := { parameters := [.int, .int], returnType := some .boolean }, accessFlags := 10, code := some k1c2 }
def k1c3 : Code := { maxStack := 3, maxLocals := 6, code := code, exceptionTable := #[], attributes := #[] }
def k1m3 : Method := { name := "law", desc := "(II)Z", sig := { parameters := [.int, .int], returnType := some .boolean }, accessFlags := 9, code := some k1c3 }
/-- com/example/leafcutter/leafcutter/RunStateCanMoveToPinLaw -/
def k1 : Class := { plain "com/example/leafcutter/leafcutter/RunStateCanMoveToPinLaw" (some 0) with
  accessFlags := 49
  interfaces := #[]
  cf := some (fileOf pool1 27 #[] #[{ accessFlags := 2, nameIndex := 5, descriptorIndex := 6, attributes := #[] }, { accessFlags := 10, nameIndex := 30, descriptorIndex := 31, attributes := #[] }, { accessFlags := 10, nameIndex := 38, descriptorIndex := 39, attributes := #[] }, { accessFlags := 9, nameIndex := 43, descriptorIndex := 39, attributes := #[] }] 49 2 #[] #[])
  fields := #[]
  methods := #[k1m0, k1m1, k1m2, k1m3]
  instanceTypes := #[]
  staticTypes := #[]
  resolved := Array.replicate 46 none
  statics := none }

def pool2 : Array CpInfo := pool [(1, .class_ 2), (0, u "java/lang/constant/Constable"), (0, .class_ 4), (0, u "java/lang/Object")] 6

/-- java/lang/constant/Constable -/
def k2 : Class := { plain "java/lang/constant/Constable" (some 0) with
  accessFlags := 1537
  interfaces := #[]
  cf := some (fileOf pool2 1 #[] #[] 1537 3 #[] #[])
  fields := #[]
  methods := #[]
  instanceTypes := #[]
  staticTypes := #[]
  resolved := Array.replicate 11 none
  statics := none }

def pool3 : Array CpInfo := pool [(1, .class_ 2), (0, u "java/lang/Comparable"), (0, .class_ 4), (0, u "java/lang/Object")] 7

/-- java/lang/Comparable -/
def k3 : Class := { plain "java/lang/Comparable" (some 0) with
  accessFlags := 1537
  interfaces := #[]
  cf := some (fileOf pool3 1 #[] #[] 1537 3 #[] #[])
  fields := #[]
  methods := #[]
  instanceTypes := #[]
  staticTypes := #[]
  resolved := Array.replicate 12 none
  statics := none }

def pool4 : Array CpInfo := pool [(1, .class_ 2), (0, u "java/io/Serializable"), (0, .class_ 4), (0, u "java/lang/Object")] 2

/-- java/io/Serializable -/
def k4 : Class := { plain "java/io/Serializable" (some 0) with
  accessFlags := 1537
  interfaces := #[]
  cf := some (fileOf pool4 1 #[] #[] 1537 3 #[] #[])
  fields := #[]
  methods := #[]
  instanceTypes := #[]
  staticTypes := #[]
  resolved := Array.replicate 7 none
  statics := none }

def pool5 : Array CpInfo := pool [(2, .class_ 4), (1, u "java/lang/Enum"), (0, u "name"), (0, u "Ljava/lang/String;"), (0, .fieldref 2 8), (0, .nameAndType 9 10), (0, u "ordinal"), (0, u "I"), (1, .class_ 14), (1, u "java/lang/Object"), (4, u "hash"), (86, .class_ 108), (1, u "java/lang/Enum$EnumDesc"), (2, .class_ 112), (0, u "java/lang/constant/Constable"), (0, .class_ 114), (0, u "java/lang/Comparable"), (0, .class_ 116), (0, u "java/io/Serializable"), (9, u "()I")] 77

def k5c0 : Code := { maxStack := 1, maxLocals := 1, code := jdk_37_method_2_code, exceptionTable := #[], attributes := #[] }
def k5m0 : Method := { name := "ordinal", desc := "()I", sig := { parameters := [], returnType := some .int }, accessFlags := 17, code := some k5c0 }
/-- java/lang/Enum -/
def k5 : Class := { plain "java/lang/Enum" (some 0) with
  accessFlags := 1057
  interfaces := #[2, 3, 4]
  cf := some (fileOf pool5 2 #[.nestMembers #[106]] #[{ accessFlags := 17, nameIndex := 9, descriptorIndex := 126, attributes := #[] }] 1057 12 #[111, 113, 115] #[{ accessFlags := 18, nameIndex := 5, descriptorIndex := 6, attributes := #[] }, { accessFlags := 18, nameIndex := 9, descriptorIndex := 10, attributes := #[] }, { accessFlags := 2, nameIndex := 19, descriptorIndex := 10, attributes := #[] }])
  fields := #[{ name := "name", type := (.object "java/lang/String"), accessFlags := 18, slot := 0, constantValue := 0 }, { name := "ordinal", type := .int, accessFlags := 18, slot := 1, constantValue := 0 }, { name := "hash", type := .int, accessFlags := 2, slot := 2, constantValue := 0 }]
  methods := #[k5m0]
  instanceTypes := #[(.object "java/lang/String"), .int, .int]
  staticTypes := #[]
  resolved := Array.replicate 204 none
  statics := none }

def pool6 : Array CpInfo := pool [(1, .class_ 2), (0, u "com/example/leafcutter/leafcutter/RunState"), (0, .fieldref 1 4), (0, .nameAndType 5 6), (0, u "QUEUED"), (0, u "Lcom/example/leafcutter/leafcutter/RunState;"), (0, .fieldref 1 8), (0, .nameAndType 9 6), (0, u "RUNNING"), (0, .fieldref 1 11), (0, .nameAndType 12 6), (0, u "SUCCEEDED"), (0, .fieldref 1 14), (0, .nameAndType 15 6), (0, u "FAILED"), (0, .fieldref 1 17), (0, .nameAndType 18 6), (0, u "CANCELLED"), (2, u "$VALUES"), (0, u "[Lcom/example/leafcutter/leafcutter/RunState;"), (6, .class_ 31), (1, u "java/lang/Enum"), (8, u "sqlValue"), (0, u "Ljava/lang/String;"), (34, .string 77), (0, u "next"), (0, .methodref 79 80), (0, .class_ 81), (0, .nameAndType 82 83), (0, u "java/util/Objects"), (0, u "requireNonNull"), (0, u "(Ljava/lang/Object;Ljava/lang/String;)Ljava/lang/Object;"), (0, .methodref 1 85), (0, .nameAndType 86 87), (0, u "ordinal"), (0, u "()I"), (5, .methodref 1 94), (0, .nameAndType 95 96), (0, u "isFinal"), (0, u "()Z"), (44, u "canMoveTo"), (0, u "(Lcom/example/leafcutter/leafcutter/RunState;)Z")] 43

def k6c0 : Code := { maxStack := 2, maxLocals := 1, code := prog_15_method_6_code, exceptionTable := #[], attributes := #[] }
def k6m0 : Method := { name := "isFinal", desc := "()Z", sig := { parameters := [], returnType := some .boolean }, accessFlags := 1, code := some k6c0 }
def k6c1 : Code := { maxStack := 4, maxLocals := 2, code := prog_15_method_7_code, exceptionTable := #[], attributes := #[] }
def k6m1 : Method := { name := "canMoveTo", desc := "(Lcom/example/leafcutter/leafcutter/RunState;)Z", sig := { parameters := [(.object "com/example/leafcutter/leafcutter/RunState")], returnType := some .boolean }, accessFlags := 1, code := some k6c1 }
/-- com/example/leafcutter/leafcutter/RunState -/
def k6 : Class := { plain "com/example/leafcutter/leafcutter/RunState" (some 5) with
  accessFlags := 16433
  interfaces := #[]
  cf := some (fileOf pool6 1 #[] #[{ accessFlags := 1, nameIndex := 95, descriptorIndex := 96, attributes := #[] }, { accessFlags := 1, nameIndex := 141, descriptorIndex := 142, attributes := #[] }] 16433 29 #[] #[{ accessFlags := 16409, nameIndex := 5, descriptorIndex := 6, attributes := #[] }, { accessFlags := 16409, nameIndex := 9, descriptorIndex := 6, attributes := #[] }, { accessFlags := 16409, nameIndex := 12, descriptorIndex := 6, attributes := #[] }, { accessFlags := 16409, nameIndex := 15, descriptorIndex := 6, attributes := #[] }, { accessFlags := 16409, nameIndex := 18, descriptorIndex := 6, attributes := #[] }, { accessFlags := 18, nameIndex := 40, descriptorIndex := 41, attributes := #[] }, { accessFlags := 4122, nameIndex := 21, descriptorIndex := 22, attributes := #[] }])
  fields := #[{ name := "QUEUED", type := (.object "com/example/leafcutter/leafcutter/RunState"), accessFlags := 16409, slot := 0, constantValue := 0 }, { name := "RUNNING", type := (.object "com/example/leafcutter/leafcutter/RunState"), accessFlags := 16409, slot := 1, constantValue := 0 }, { name := "SUCCEEDED", type := (.object "com/example/leafcutter/leafcutter/RunState"), accessFlags := 16409, slot := 2, constantValue := 0 }, { name := "FAILED", type := (.object "com/example/leafcutter/leafcutter/RunState"), accessFlags := 16409, slot := 3, constantValue := 0 }, { name := "CANCELLED", type := (.object "com/example/leafcutter/leafcutter/RunState"), accessFlags := 16409, slot := 4, constantValue := 0 }, { name := "sqlValue", type := (.object "java/lang/String"), accessFlags := 18, slot := 3, constantValue := 0 }, { name := "$VALUES", type := (.array (.object "com/example/leafcutter/leafcutter/RunState")), accessFlags := 4122, slot := 5, constantValue := 0 }]
  methods := #[k6m0, k6m1]
  instanceTypes := #[(.object "java/lang/String"), .int, .int, (.object "java/lang/String")]
  staticTypes := #[(.object "com/example/leafcutter/leafcutter/RunState"), (.object "com/example/leafcutter/leafcutter/RunState"), (.object "com/example/leafcutter/leafcutter/RunState"), (.object "com/example/leafcutter/leafcutter/RunState"), (.object "com/example/leafcutter/leafcutter/RunState"), (.array (.object "com/example/leafcutter/leafcutter/RunState"))]
  resolved := Array.replicate 186 none
  statics := some 0 }

def pool7 : Array CpInfo := pool [(2, .class_ 4), (1, u "java/lang/CharSequence"), (42, .class_ 48), (0, u "java/lang/CharSequence$1CodePointIterator"), (10, .class_ 60), (0, u "java/lang/CharSequence$1CharIterator"), (5, .class_ 67), (0, u "java/lang/Object")] 63

/-- java/lang/CharSequence -/
def k7 : Class := { plain "java/lang/CharSequence" (some 0) with
  accessFlags := 1537
  interfaces := #[]
  cf := some (fileOf pool7 2 #[.nestMembers #[47, 59]] #[] 1537 66 #[] #[])
  fields := #[]
  methods := #[]
  instanceTypes := #[]
  staticTypes := #[]
  resolved := Array.replicate 131 none
  statics := none }

def pool8 : Array CpInfo := pool [(1, .class_ 2), (0, u "java/lang/constant/ConstantDesc"), (0, .class_ 4), (0, u "java/lang/Object")] 32

/-- java/lang/constant/ConstantDesc -/
def k8 : Class := { plain "java/lang/constant/ConstantDesc" (some 0) with
  accessFlags := 1537
  interfaces := #[]
  cf := some (fileOf pool8 1 #[] #[] 1537 3 #[] #[])
  fields := #[]
  methods := #[]
  instanceTypes := #[]
  staticTypes := #[]
  resolved := Array.replicate 37 none
  statics := none }

def pool9 : Array CpInfo := pool [(2, .class_ 4), (1, u "java/lang/Object"), (0, u "<init>"), (0, u "()V"), (3, .class_ 12), (1, u "java/lang/String"), (0, u "value"), (0, u "[B"), (2, u "coder"), (0, u "B"), (2, u "hash"), (0, u "I"), (2, u "hashIsZero"), (0, u "Z"), (13, u "COMPACT_STRINGS"), (534, .class_ 576), (0, u "java/lang/CharSequence"), (22, u "CASE_INSENSITIVE_ORDER"), (0, u "Ljava/util/Comparator;"), (500, u "serialPersistentFields"), (0, u "[Ljava/io/ObjectStreamField;"), (0, .class_ 1104), (0, u "java/lang/String$CaseInsensitiveComparator"), (1, .class_ 1107), (0, u "java/io/Serializable"), (0, .class_ 1109), (0, u "java/lang/Comparable"), (0, .class_ 1111), (0, u "java/lang/constant/Constable"), (0, .class_ 1113), (0, u "java/lang/constant/ConstantDesc"), (2, u "serialVersionUID"), (0, u "J"), (3, u "REPL"), (0, u "C"), (2, u "LATIN1"), (1, u "UTF16")] 323

def k9m0 : Method := { name := "<init>", desc := "()V", sig := { parameters := [], returnType := none }, accessFlags := 1, code := none }
/-- java/lang/String -/
def k9 : Class := { plain "java/lang/String" (some 0) with
  accessFlags := 49
  interfaces := #[4, 3, 7, 2, 8]
  cf := some (fileOf pool9 10 #[.nestMembers #[1103]] #[{ accessFlags := 1, nameIndex := 5, descriptorIndex := 6, attributes := #[] }] 49 2 #[1106, 1108, 575, 1110, 1112] #[{ accessFlags := 18, nameIndex := 13, descriptorIndex := 14, attributes := #[] }, { accessFlags := 18, nameIndex := 17, descriptorIndex := 18, attributes := #[] }, { accessFlags := 2, nameIndex := 21, descriptorIndex := 22, attributes := #[] }, { accessFlags := 2, nameIndex := 25, descriptorIndex := 26, attributes := #[] }, { accessFlags := 26, nameIndex := 1116, descriptorIndex := 1117, attributes := #[] }, { accessFlags := 24, nameIndex := 40, descriptorIndex := 26, attributes := #[] }, { accessFlags := 26, nameIndex := 1101, descriptorIndex := 1102, attributes := #[] }, { accessFlags := 26, nameIndex := 1121, descriptorIndex := 1122, attributes := #[] }, { accessFlags := 25, nameIndex := 599, descriptorIndex := 600, attributes := #[] }, { accessFlags := 24, nameIndex := 1125, descriptorIndex := 18, attributes := #[] }, { accessFlags := 24, nameIndex := 1127, descriptorIndex := 18, attributes := #[] }])
  fields := #[{ name := "value", type := (.array .byte), accessFlags := 18, slot := 0, constantValue := 0 }, { name := "coder", type := .byte, accessFlags := 18, slot := 1, constantValue := 0 }, { name := "hash", type := .int, accessFlags := 2, slot := 2, constantValue := 0 }, { name := "hashIsZero", type := .boolean, accessFlags := 2, slot := 3, constantValue := 0 }, { name := "serialVersionUID", type := .long, accessFlags := 26, slot := 0, constantValue := 0 }, { name := "COMPACT_STRINGS", type := .boolean, accessFlags := 24, slot := 1, constantValue := 0 }, { name := "serialPersistentFields", type := (.array (.object "java/io/ObjectStreamField")), accessFlags := 26, slot := 2, constantValue := 0 }, { name := "REPL", type := .char, accessFlags := 26, slot := 3, constantValue := 0 }, { name := "CASE_INSENSITIVE_ORDER", type := (.object "java/util/Comparator"), accessFlags := 25, slot := 4, constantValue := 0 }, { name := "LATIN1", type := .byte, accessFlags := 24, slot := 5, constantValue := 0 }, { name := "UTF16", type := .byte, accessFlags := 24, slot := 6, constantValue := 0 }]
  methods := #[k9m0]
  instanceTypes := #[(.array .byte), .byte, .int, .boolean]
  staticTypes := #[.long, .boolean, (.array (.object "java/io/ObjectStreamField")), .char, (.object "java/util/Comparator"), .byte, .byte]
  resolved := Array.replicate 1451 none
  statics := none }

def pool10 : Array CpInfo := pool [(2, .class_ 4), (1, u "java/lang/Object"), (0, u "<init>"), (0, u "()V"), (35, .class_ 44), (1, u "java/util/Objects"), (0, u "requireNonNull"), (48, u "(Ljava/lang/Object;Ljava/lang/String;)Ljava/lang/Object;")] 89

def k10m0 : Method := { name := "<init>", desc := "()V", sig := { parameters := [], returnType := none }, accessFlags := 2, code := none }
def k10c1 : Code := { maxStack := 3, maxLocals := 2, code := jdk_31_method_11_code, exceptionTable := #[], attributes := #[] }
def k10m1 : Method := { name := "requireNonNull", desc := "(Ljava/lang/Object;Ljava/lang/String;)Ljava/lang/Object;", sig := { parameters := [(.object "java/lang/Object"), (.object "java/lang/String")], returnType := some (.object "java/lang/Object") }, accessFlags := 9, code := some k10c1 }
/-- java/util/Objects -/
def k10 : Class := { plain "java/util/Objects" (some 0) with
  accessFlags := 49
  interfaces := #[]
  cf := some (fileOf pool10 42 #[] #[{ accessFlags := 2, nameIndex := 5, descriptorIndex := 6, attributes := #[] }, { accessFlags := 9, nameIndex := 45, descriptorIndex := 94, attributes := #[] }] 49 2 #[] #[])
  fields := #[]
  methods := #[k10m0, k10m1]
  instanceTypes := #[]
  staticTypes := #[]
  resolved := Array.replicate 184 none
  statics := none }

def pool11 : Array CpInfo := pool [(1, u "java/lang/Cloneable"), (0, .class_ 1), (0, u "java/lang/Object"), (0, .class_ 3)] 3

/-- java/lang/Cloneable -/
def k11 : Class := { plain "java/lang/Cloneable" (some 0) with
  accessFlags := 1537
  interfaces := #[]
  cf := some (fileOf pool11 2 #[] #[] 1537 4 #[] #[])
  fields := #[]
  methods := #[]
  instanceTypes := #[]
  staticTypes := #[]
  resolved := Array.replicate 8 none
  statics := none }

/-- the primitive byte -/
def k12 : Class := { plain "byte" none with kind := .primitive 'B', accessFlags := 0x411 }
/-- [B -/
def k13 : Class := { plain "[B" (some 0) with kind := .array 12 .byte, interfaces := #[11, 4], accessFlags := 1041 }

/-- the primitive int -/
def k14 : Class := { plain "int" none with kind := .primitive 'I', accessFlags := 0x411 }
/-- [I -/
def k15 : Class := { plain "[I" (some 0) with kind := .array 14 .int, interfaces := #[11, 4], accessFlags := 1041 }

def heap : Heap := #[{ cls := 6, slots := #[.ref 1, .ref 3, .ref 5, .ref 2, .ref 4, .null], vm := .statics 6 },
  { cls := 6, slots := #[.null, .int 0, .int 0, .null], vm := .none },
  { cls := 6, slots := #[.null, .int 3, .int 0, .null], vm := .none },
  { cls := 6, slots := #[.null, .int 1, .int 0, .null], vm := .none },
  { cls := 6, slots := #[.null, .int 4, .int 0, .null], vm := .none },
  { cls := 6, slots := #[.null, .int 2, .int 0, .null], vm := .none }]
def classes : Array Class := #[k0, k1, k2, k3, k4, k5, k6, k7, k8, k9, k10, k11, k12, k13, k14, k15]
def interned : List (Array UInt16 × Addr) := []
def slotsUsed : Nat := 26
def theMethod : MethodId := ⟨1, 3⟩
def args0 : Array Value := #[.int 5, .int 5]
def aboutOver (below : List Frame) : State where
  vm := { classes := classes, interned := interned.toArray }
  heap := heap
  slotsUsed := slotsUsed
  threads := #[{ frames := .invoking theMethod args0 :: below }]
def below0 : List Frame := [.native { method := ⟨0, 0⟩, args := #[] }]
def about1 : State := aboutOver below0
def p0 : Program := .bare "" "" ""
def e0 : Env := launch0.env 0 0 0
theorem w_frames : about1.frames = Frame.invoking theMethod args0 :: below0 := rfl
set_option maxRecDepth 65536 in
theorem w_args : argsFit about1.vm theMethod args0 = true := by decide +kernel
set_option maxRecDepth 65536 in
theorem w_heap : heapFits about1 = true := by decide +kernel
set_option maxRecDepth 65536 in
theorem w_runnable : about1.curStatus? = some .runnable := by decide +kernel
set_option maxRecDepth 65536 in
theorem w_alone : about1.alone = true := by decide +kernel
set_option maxRecDepth 65536 in
theorem w_named : about1.methodNamed? x = some theMethod := by decide +kernel
set_option maxRecDepth 65536 in
theorem w_hears : about1.hears theMethod below0 = true := by decide +kernel
set_option maxRecDepth 65536 in
theorem w_ripe : about1.ripe theMethod args0 below0 = true := by decide +kernel
theorem w_running : about1.status = .running := rfl
set_option maxRecDepth 65536 in
theorem w_room : about1.hasRoom e0.platform room_1 = true :=
  launch0.hasRoom_least _ room_1 (by decide +kernel) (by decide +kernel) (by decide +kernel) (by decide +kernel) (by decide +kernel) (by decide +kernel)
theorem allAtoms_all (ts : List Jvm.Cond) (a : Array Jvm.Value) (st : Jvm.State) : (allAtoms ts).before a st = ts.all (fun c => c.before a st) := by
  induction ts with
  | nil => rfl
  | cons c t ih =>
    show (Jvm.Cond.and c (allAtoms t)).before a st = _
    rw [Jvm.Cond.before_and, ih, List.all_cons]
def words1 : List Jvm.Cond := Jvm.Cond.code x code maxLocals ret :: tables_1
/-- a 'code' word, met by the world's own term for the bytes: nothing is compared byte by byte -/
theorem code_word {y : MethodName} {bytes : ByteArray} {mx : Nat} {rt : Option FieldType} {a : Array Value} {s : State} {m : MethodId} {meth : Method} {c : Code} (h1 : s.methodNamed? y = some m) (h2 : s.vm.method? m = some meth) (h3 : meth.code = some c) (h4 : c.code = bytes)
    (h5 : (c.maxLocals == mx && c.exceptionTable.isEmpty && decide (c.maxStack ≤ mostOperands) && decide (meth.sig.returnType = rt) && !meth.locks && decide (parseMethodDescriptor y.desc = some meth.sig)) = true) : (Jvm.Cond.code y bytes mx rt).before a s = true := by
  simp only [Bool.and_eq_true, beq_iff_eq, Bool.not_eq_true', decide_eq_true_eq] at h5
  obtain ⟨⟨⟨⟨⟨g1, g2⟩, g3⟩, g4⟩, g5⟩, g6⟩ := h5
  simp [Cond.before, Cond.holds, Cond.value, h1, h2, h3, h4, g1, g2, g3, g4, g5, g6]
def isCode : Jvm.Cond → Bool
  | .code _ _ _ _ => true
  | _ => false
theorem all_split {L : List Jvm.Cond} {P : Jvm.Cond → Bool} (h1 : L.all (fun c => isCode c || P c) = true) (h2 : ∀ c ∈ L.filter isCode, P c = true) : L.all P = true := by
  refine List.all_eq_true.mpr fun c hc => ?_
  have h := List.all_eq_true.mp h1 c hc
  rcases Bool.eq_false_or_eq_true (isCode c) with hi | hi
  · exact h2 c (List.mem_filter.mpr ⟨hc, hi⟩)
  · simpa [hi] using h
set_option maxRecDepth 65536 in
theorem w_c0 : (Jvm.Cond.code x code maxLocals ret).before args0 about1 = true := code_word (m := ⟨1, 3⟩) (meth := k1m3) (c := k1c3) (by decide +kernel) rfl rfl rfl (by decide +kernel)
set_option maxRecDepth 65536 in
theorem w_c1 : (Jvm.Cond.code ({ cls := "com/example/leafcutter/leafcutter/RunStateCanMoveToPinLaw", name := "state", desc := "(I)Lcom/example/leafcutter/leafcutter/RunState;" } : Jvm.MethodName) method_2_code (1 : Nat) (Option.some (Jvm.ClassFile.FieldType.object "com/example/leafcutter/leafcutter/RunState"))).before args0 about1 = true := code_word (m := ⟨1, 1⟩) (meth := k1m1) (c := k1c1) (by decide +kernel) rfl rfl rfl (by decide +kernel)
set_option maxRecDepth 65536 in
theorem w_c2 : (Jvm.Cond.code ({ cls := "com/example/leafcutter/leafcutter/RunState", name := "canMoveTo", desc := "(Lcom/example/leafcutter/leafcutter/RunState;)Z" } : Jvm.MethodName) prog_15_method_7_code (2 : Nat) (Option.some Jvm.ClassFile.FieldType.boolean)).before args0 about1 = true := code_word (m := ⟨6, 1⟩) (meth := k6m1) (c := k6c1) (by decide +kernel) rfl rfl rfl (by decide +kernel)
set_option maxRecDepth 65536 in
theorem w_c3 : (Jvm.Cond.code ({ cls := "java/util/Objects", name := "requireNonNull", desc := "(Ljava/lang/Object;Ljava/lang/String;)Ljava/lang/Object;" } : Jvm.MethodName) jdk_31_method_11_code (2 : Nat) (Option.some (Jvm.ClassFile.FieldType.object "java/lang/Object"))).before args0 about1 = true := code_word (m := ⟨10, 1⟩) (meth := k10m1) (c := k10c1) (by decide +kernel) rfl rfl rfl (by decide +kernel)
set_option maxRecDepth 65536 in
theorem w_c4 : (Jvm.Cond.code ({ cls := "java/lang/Enum", name := "ordinal", desc := "()I" } : Jvm.MethodName) jdk_37_method_2_code (1 : Nat) (Option.some Jvm.ClassFile.FieldType.int)).before args0 about1 = true := code_word (m := ⟨5, 0⟩) (meth := k5m0) (c := k5c0) (by decide +kernel) rfl rfl rfl (by decide +kernel)
set_option maxRecDepth 65536 in
theorem w_c5 : (Jvm.Cond.code ({ cls := "com/example/leafcutter/leafcutter/RunStateCanMoveToPinLaw", name := "allowed", desc := "(II)Z" } : Jvm.MethodName) method_3_code (2 : Nat) (Option.some Jvm.ClassFile.FieldType.boolean)).before args0 about1 = true := code_word (m := ⟨1, 2⟩) (meth := k1m2) (c := k1c2) (by decide +kernel) rfl rfl rfl (by decide +kernel)
set_option maxRecDepth 65536 in
theorem w_c6 : (Jvm.Cond.code ({ cls := "com/example/leafcutter/leafcutter/RunState", name := "isFinal", desc := "()Z" } : Jvm.MethodName) prog_15_method_6_code (1 : Nat) (Option.some Jvm.ClassFile.FieldType.boolean)).before args0 about1 = true := code_word (m := ⟨6, 0⟩) (meth := k6m0) (c := k6c0) (by decide +kernel) rfl rfl rfl (by decide +kernel)
def codes1 : List Jvm.Cond := [Jvm.Cond.code x code maxLocals ret, Jvm.Cond.code ({ cls := "com/example/leafcutter/leafcutter/RunStateCanMoveToPinLaw", name := "state", desc := "(I)Lcom/example/leafcutter/leafcutter/RunState;" } : Jvm.MethodName) method_2_code (1 : Nat) (Option.some (Jvm.ClassFile.FieldType.object "com/example/leafcutter/leafcutter/RunState")), Jvm.Cond.code ({ cls := "com/example/leafcutter/leafcutter/RunState", name := "canMoveTo", desc := "(Lcom/example/leafcutter/leafcutter/RunState;)Z" } : Jvm.MethodName) prog_15_method_7_code (2 : Nat) (Option.some Jvm.ClassFile.FieldType.boolean), Jvm.Cond.code ({ cls := "java/util/Objects", name := "requireNonNull", desc := "(Ljava/lang/Object;Ljava/lang/String;)Ljava/lang/Object;" } : Jvm.MethodName) jdk_31_method_11_code (2 : Nat) (Option.some (Jvm.ClassFile.FieldType.object "java/lang/Object")), Jvm.Cond.code ({ cls := "java/lang/Enum", name := "ordinal", desc := "()I" } : Jvm.MethodName) jdk_37_method_2_code (1 : Nat) (Option.some Jvm.ClassFile.FieldType.int), Jvm.Cond.code ({ cls := "com/example/leafcutter/leafcutter/RunStateCanMoveToPinLaw", name := "allowed", desc := "(II)Z" } : Jvm.MethodName) method_3_code (2 : Nat) (Option.some Jvm.ClassFile.FieldType.boolean), Jvm.Cond.code ({ cls := "com/example/leafcutter/leafcutter/RunState", name := "isFinal", desc := "()Z" } : Jvm.MethodName) prog_15_method_6_code (1 : Nat) (Option.some Jvm.ClassFile.FieldType.boolean)]
set_option maxRecDepth 65536 in
theorem codes_eq : words1.filter isCode = codes1 := rfl
theorem w_codes : ∀ c ∈ words1.filter isCode, c.before args0 about1 = true := by
  rw [codes_eq]
  intro c hc
  simp only [codes1, List.mem_cons, List.not_mem_nil, or_false] at hc
  rcases hc with rfl | rfl | rfl | rfl | rfl | rfl | rfl
  · exact w_c0
  · exact w_c1
  · exact w_c2
  · exact w_c3
  · exact w_c4
  · exact w_c5
  · exact w_c6
set_option maxRecDepth 65536 in
theorem w_t1 : (words1.take 24).all (fun c => isCode c || c.before args0 about1) = true := by decide +kernel
set_option maxRecDepth 65536 in
theorem w_t2 : ((words1.drop 24).take 24).all (fun c => isCode c || c.before args0 about1) = true := by decide +kernel
set_option maxRecDepth 65536 in
theorem w_t3 : ((words1.drop 24).drop 24).all (fun c => isCode c || c.before args0 about1) = true := by decide +kernel
theorem w_tables : (allAtoms (Jvm.Cond.code x code maxLocals ret :: tables_1)).before args0 about1 = true := by
  rw [allAtoms_all]
  show words1.all (fun c => c.before args0 about1) = true
  refine all_split ?_ w_codes
  rw [← List.take_append_drop 24 words1, List.all_append, w_t1, ← List.take_append_drop 24 (words1.drop 24), List.all_append, w_t2, w_t3]
  rfl
set_option maxRecDepth 65536 in
theorem w_case : (Jvm.Cond.and given_1 narrow_1).before args0 about1 = true := by decide +kernel
theorem w_applies : (headSpec (Jvm.Cond.code x code maxLocals ret :: tables_1) room_1).applies x e0.platform about1 = true :=
  (Spec.applies_iff w_frames).mpr ⟨w_running, w_runnable, w_alone, w_named, w_hears, w_ripe, w_room, w_tables⟩
theorem atStart : AtStart classFile x code maxLocals ret World_1 tables_1 room_1 Calls_1 rest_1 Pre_1 launch0 p0 e0 about1 theMethod args0 below0 :=
  ⟨lists_1, trivial, launch0.admits_env _ _ _, launch0.least_env, fairChoices_fair.cas, fairChoices_fair.clock, w_frames, w_args, w_heap, w_applies, trivial, trivial, w_case⟩
end start1
theorem witness_1 : WitnessClaimed_1 := ⟨start1.p0, start1.e0, start1.about1, start1.theMethod, start1.args0, start1.below0, start1.atStart⟩
end Jvm.Pilot.@@N@@
