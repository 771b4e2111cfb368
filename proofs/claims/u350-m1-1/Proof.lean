import JvmDerived
import JvmDerived.Pilot.@@N@@Statement
import JvmDerived.Pilot.@@N@@Code
set_option linter.unusedVariables false
set_option linter.unusedSimpArgs false
@@BLOCK:NumsL.lean.txt@@
namespace Jvm.Pilot.@@N@@
open Jvm Jvm.ClassFile Sem Op Lib Jvm.Free Jvm.Stand Jvm.LawKit Jvm.RoadKit Bundle Jvm.Pilot.@@N@@.Jvm.D
theorem own_eqI {t : Term} {k : Int32} {args : Array Value} {Z : State} (h : (Jvm.Cond.eq t (Jvm.Term.int k)).value args Z none Z [] = some true) : t.eval args Z none [] Z = some (.int k) := by
  simp only [Cond.value, Term.eval] at h
  cases ht : t.eval args Z none [] Z with
  | none => simp [ht] at h
  | some v => cases v <;> simp [ht] at h ⊢; exact h
theorem own_arvStart {Z : State} {args : Array Value} {t : Term} {a : Addr} {cl : Cell} {z : Int32} {vs : List Value} {dv : Value} (hf : Fit Z) (ev : t.eval args Z none [] Z = some (.ref a)) (A : Arr Z Z.heap a cl .int) (hl : (Term.length t).eval args Z none [] Z = some (.int z)) (hz : ¬ z < 0) (hn : z.toNatClampNeg = vs.length) (H : HasL cl 0 vs) : Arv Z Z.heap a cl.cls .int z vs dv := by
  have hq : cl.slots.size < 2 ^ 31 ∧ cl.slots.size.toInt32 = z := by
    have e := A.fin (Vm.Alike.refl _)
    simp only [Term.eval, ev, e, Option.bind_eq_bind, Option.bind_some] at hl
    by_cases q : cl.slots.size < 2 ^ 31
    · rw [if_pos q] at hl; exact ⟨q, Value.int.inj (Option.some.inj hl)⟩
    · rw [if_neg q] at hl; cases hl
  exact Arv.start hf A hq.1 hq.2 hz hn H
theorem own_mod5 (x : Int32) : ((x &&& (2147483647 : Int32)) % (5 : Int32)) = (0 : Int32) ∨ ((x &&& (2147483647 : Int32)) % (5 : Int32)) = (1 : Int32) ∨ ((x &&& (2147483647 : Int32)) % (5 : Int32)) = (2 : Int32) ∨ ((x &&& (2147483647 : Int32)) % (5 : Int32)) = (3 : Int32) ∨ ((x &&& (2147483647 : Int32)) % (5 : Int32)) = (4 : Int32) := by
  have e : (x &&& (2147483647 : Int32)).toInt = x.toInt % 2 ^ 31 := Jvm.Kit.i32_mask x 2147483647 (k := 31) (by decide) (by decide)
  have h0 : 0 ≤ (x &&& (2147483647 : Int32)).toInt := by rw [e]; exact Int.emod_nonneg _ (by decide)
  have r := Jvm.Kit.i32_rem_nonneg (y := (5 : Int32)) h0
  have e0 : (0 : Int32).toInt = 0 := rfl
  have e1 : (1 : Int32).toInt = 1 := rfl
  have e2 : (2 : Int32).toInt = 2 := rfl
  have e3 : (3 : Int32).toInt = 3 := rfl
  have e4 : (4 : Int32).toInt = 4 := rfl
  have e5 : (5 : Int32).toInt = 5 := rfl
  have h1 : 0 ≤ (x &&& (2147483647 : Int32)).toInt % 5 := Int.emod_nonneg _ (by decide)
  have h2 : (x &&& (2147483647 : Int32)).toInt % 5 < 5 := Int.emod_lt_of_pos _ (by decide)
  simp only [← Int32.toInt_inj, r, e0, e1, e2, e3, e4, e5]
  omega
theorem own_mod3 (x : Int32) : ((x &&& (2147483647 : Int32)) % (3 : Int32)) = (0 : Int32) ∨ ((x &&& (2147483647 : Int32)) % (3 : Int32)) = (1 : Int32) ∨ ((x &&& (2147483647 : Int32)) % (3 : Int32)) = (2 : Int32) := by
  have e : (x &&& (2147483647 : Int32)).toInt = x.toInt % 2 ^ 31 := Jvm.Kit.i32_mask x 2147483647 (k := 31) (by decide) (by decide)
  have h0 : 0 ≤ (x &&& (2147483647 : Int32)).toInt := by rw [e]; exact Int.emod_nonneg _ (by decide)
  have r := Jvm.Kit.i32_rem_nonneg (y := (3 : Int32)) h0
  have e0 : (0 : Int32).toInt = 0 := rfl
  have e1 : (1 : Int32).toInt = 1 := rfl
  have e2 : (2 : Int32).toInt = 2 := rfl
  have e3 : (3 : Int32).toInt = 3 := rfl
  have h1 : 0 ≤ (x &&& (2147483647 : Int32)).toInt % 3 := Int.emod_nonneg _ (by decide)
  have h2 : (x &&& (2147483647 : Int32)).toInt % 3 < 3 := Int.emod_lt_of_pos _ (by decide)
  simp only [← Int32.toInt_inj, r, e0, e1, e2, e3]
  omega
/-- what the law's case says of the enum constants -/
def SF (Z : State) (h : Heap) (w_NEW w_FINISHED w_sm w_FINISHEDx w_RUNNING w_TIMED_OUT w_FAILED w_FAILEDx w_TIMED_OUTx : Addr) : Prop := (Sta Z h "com/example/bowline/bowline/server/RunState" "NEW" "Lcom/example/bowline/bowline/server/RunState;" (.ref w_NEW)) ∧ (Exa Z h w_NEW "com/example/bowline/bowline/server/RunState") ∧ (Sta Z h "com/example/bowline/bowline/runtime/Status" "FINISHED" "Lcom/example/bowline/bowline/runtime/Status;" (.ref w_FINISHED)) ∧ (Exa Z h w_FINISHED "com/example/bowline/bowline/runtime/Status") ∧ (Sta Z h "com/example/bowline/bowline/server/RunState$1" "$SwitchMap$com$example$bowline$bowline$runtime$Status" "[I" (.ref w_sm)) ∧ ((∃ kk : ClassId, Arv Z h w_sm kk .int (3 : Int32) [(.int (1 : Int32)), (.int (2 : Int32)), (.int (3 : Int32))] (.int (0 : Int32)))) ∧ (Sta Z h "com/example/bowline/bowline/server/RunState" "FINISHED" "Lcom/example/bowline/bowline/server/RunState;" (.ref w_FINISHEDx)) ∧ (Exa Z h w_FINISHEDx "com/example/bowline/bowline/server/RunState") ∧ (Sta Z h "com/example/bowline/bowline/server/RunState" "RUNNING" "Lcom/example/bowline/bowline/server/RunState;" (.ref w_RUNNING)) ∧ (Exa Z h w_RUNNING "com/example/bowline/bowline/server/RunState") ∧ (Sta Z h "com/example/bowline/bowline/server/RunState" "TIMED_OUT" "Lcom/example/bowline/bowline/server/RunState;" (.ref w_TIMED_OUT)) ∧ (Exa Z h w_TIMED_OUT "com/example/bowline/bowline/server/RunState") ∧ (Sta Z h "com/example/bowline/bowline/runtime/Status" "FAILED" "Lcom/example/bowline/bowline/runtime/Status;" (.ref w_FAILED)) ∧ (Exa Z h w_FAILED "com/example/bowline/bowline/runtime/Status") ∧ (Sta Z h "com/example/bowline/bowline/server/RunState" "FAILED" "Lcom/example/bowline/bowline/server/RunState;" (.ref w_FAILEDx)) ∧ (Exa Z h w_FAILEDx "com/example/bowline/bowline/server/RunState") ∧ (Sta Z h "com/example/bowline/bowline/runtime/Status" "TIMED_OUT" "Lcom/example/bowline/bowline/runtime/Status;" (.ref w_TIMED_OUTx)) ∧ (Exa Z h w_TIMED_OUTx "com/example/bowline/bowline/runtime/Status") ∧ (Fld Z h w_FINISHED "java/lang/Enum" "ordinal" "I" (.int (0 : Int32))) ∧ (Fld Z h w_FINISHEDx "java/lang/Enum" "ordinal" "I" (.int (2 : Int32))) ∧ (Fld Z h w_NEW "java/lang/Enum" "ordinal" "I" (.int (0 : Int32))) ∧ (Fld Z h w_RUNNING "java/lang/Enum" "ordinal" "I" (.int (1 : Int32))) ∧ (Fld Z h w_TIMED_OUT "java/lang/Enum" "ordinal" "I" (.int (4 : Int32))) ∧ (Fld Z h w_FAILED "java/lang/Enum" "ordinal" "I" (.int (1 : Int32))) ∧ (Fld Z h w_FAILEDx "java/lang/Enum" "ordinal" "I" (.int (3 : Int32))) ∧ (Fld Z h w_TIMED_OUTx "java/lang/Enum" "ordinal" "I" (.int (2 : Int32))) ∧ (w_NEW ≠ w_FINISHEDx) ∧ (w_NEW ≠ w_RUNNING) ∧ (w_NEW ≠ w_TIMED_OUT) ∧ (w_NEW ≠ w_FAILEDx) ∧ (w_FINISHED ≠ w_FAILED) ∧ (w_FINISHED ≠ w_TIMED_OUTx) ∧ (w_FINISHEDx ≠ w_RUNNING) ∧ (w_FINISHEDx ≠ w_TIMED_OUT) ∧ (w_FINISHEDx ≠ w_FAILEDx) ∧ (w_RUNNING ≠ w_TIMED_OUT) ∧ (w_RUNNING ≠ w_FAILEDx) ∧ (w_TIMED_OUT ≠ w_FAILEDx) ∧ (w_FAILED ≠ w_TIMED_OUTx)
/-- a body that writes nothing and returns w -/
def QP (h0 : Heap) (n0 : Nat) (w : Option Value) (v : Option Value) (h : Heap) (L : List Loc) : Prop := v = w ∧ Fr n0 L ∧ h = h0
abbrev Pay (l : Launch) (Z : State) (y : MethodName) (ws : List Jvm.Cond) (bytes : ByteArray) (ml : Nat) (rt : Option FieldType) (as' : Array Value) (h0 : Heap) (n0 : Nat) (rm : Room) (w : Option Value) : Prop :=
  MetFree l y (head1 (Jvm.Cond.code y bytes ml rt :: ws) rm) (fun a U => a = as' ∧ Z.Warmed39 U.vm ∧ U.heap = h0) (fun _ _ _ _ _ => True) (fun _ U o U' => ∃ v L, o = .returned v ∧ QP h0 n0 w v U'.heap L ∧ FrameEnd U o U' L rm.cells rm.slots)
theorem d1_0 : decode prog_30_method_5_code 0 = .ok (.aload_n 0, 1) := by decide +kernel
theorem d1_1 : decode prog_30_method_5_code 1 = .ok (.getstatic 3, 3) := by decide +kernel
theorem d1_4 : decode prog_30_method_5_code 4 = .ok (.if_acmp .eq 14, 3) := by decide +kernel
theorem d1_18 : decode prog_30_method_5_code 18 = .ok (.iconst 0, 1) := by decide +kernel
theorem d1_19 : decode prog_30_method_5_code 19 = .ok (.ireturn, 1) := by decide +kernel
theorem pn_0 : plainName "com/example/bowline/bowline/server/RunState" = true := by first | (simp [plainName, overriddenIn]; done) | decide +kernel
set_option maxRecDepth 65536 in
set_option maxHeartbeats 40000000 in
theorem rm1_0 (l : Launch) (Z : State) (a0 : Array Value) (hw : ∀ d ∈ tables_1, d.before a0 Z = true) (ws : List Jvm.Cond) (w_NEW w_FINISHED w_sm w_FINISHEDx w_RUNNING w_TIMED_OUT w_FAILED w_FAILEDx w_TIMED_OUTx : Addr) (h0 : Heap) (n0 : Nat) (Z0 : n0 ≤ h0.size) (S : SF Z h0 w_NEW w_FINISHED w_sm w_FINISHEDx w_RUNNING w_TIMED_OUT w_FAILED w_FAILEDx w_TIMED_OUTx) :
    Pay l Z (⟨"com/example/bowline/bowline/server/RunState", "ended", "()Z"⟩ : MethodName) ws prog_30_method_5_code 1 (some .boolean) #[(.ref w_NEW)] h0 n0 ({ frames := 0, cells := 0, slots := 0, locals := 0 } : Room) (some (.int (0 : Int32))) := by
  obtain ⟨S_w_NEW, E_w_NEW, S_w_FINISHED, E_w_FINISHED, S_w_sm, V_w_sm, S_w_FINISHEDx, E_w_FINISHEDx, S_w_RUNNING, E_w_RUNNING, S_w_TIMED_OUT, E_w_TIMED_OUT, S_w_FAILED, E_w_FAILED, S_w_FAILEDx, E_w_FAILEDx, S_w_TIMED_OUTx, E_w_TIMED_OUTx, F_ordinal_w_FINISHED, F_ordinal_w_FINISHEDx, F_ordinal_w_NEW, F_ordinal_w_RUNNING, F_ordinal_w_TIMED_OUT, F_ordinal_w_FAILED, F_ordinal_w_FAILEDx, F_ordinal_w_TIMED_OUTx, hne_w_NEW_w_FINISHEDx, hne_w_NEW_w_RUNNING, hne_w_NEW_w_TIMED_OUT, hne_w_NEW_w_FAILEDx, hne_w_FINISHED_w_FAILED, hne_w_FINISHED_w_TIMED_OUTx, hne_w_FINISHEDx_w_RUNNING, hne_w_FINISHEDx_w_TIMED_OUT, hne_w_FINISHEDx_w_FAILEDx, hne_w_RUNNING_w_TIMED_OUT, hne_w_RUNNING_w_FAILEDx, hne_w_TIMED_OUT_w_FAILEDx, hne_w_FAILED_w_TIMED_OUTx⟩ := id S
  refine MetFree.of_bodySF (plainFor_of_name pn_0) hisR ?_
  intro p e s m args below meth c s₁ Bd hml0 hP hK
  obtain ⟨rfl, hZ, hh⟩ := hP
  have hx := Bd.exec
  have hby := Bd.bytes
  have hml : c.maxLocals = 1 := hml0
  have hown : s.vm.findClass "com/example/bowline/bowline/server/RunState" = some m.cls := findClass_of_methodNamed Bd.named
  have X0 : Stand p l e ({ frames := 0, cells := 0, slots := 0, locals := 0 } : Room) s m #[(.ref w_NEW)] below meth c s₁ [] 0 0 := Stand.of_body Bd
  have e0 : s₁.heap = h0 := by rw [← hh, Bd.state]; rfl
  have N0 := Fr.nil n0
  have pre0 : ∀ t, Steps p.tables e below (s₁.setTop (mkF m 0 #[.val (.ref w_NEW)] [])) t → Steps p.tables e below (s₁.setTop (entryFrame m #[(.ref w_NEW)] 1)) t := fun t k => castTop (by first | rfl | (simp [entryFrame, mkF, argsToLocals, Value.category]; done)) k
  obtain ⟨T1, X1, e1, st1⟩ := getS2 X0 hx hZ hown (host := "") (Or.inl (hw _ (List.mem_of_getElem? (i := 12) rfl))) Via.refl e0 S_w_NEW (g := (mkF m 1 #[.val (.ref w_NEW)] [(.ref w_NEW)])) rfl (hb hby d1_1)
  obtain ⟨fs, hr, hrun, hended, hW, hsame⟩ := X1.leave (v := (some (.int (0 : Int32)))) (fun h => by rw [Bd.returns] at h; cases h)
  refine ⟨_, _, pre0 _ ?_, hrun, hended, _, _, rfl, ⟨rfl, N0, e1⟩, ⟨_, rfl⟩, hW, hsame.mono (by decide) (by decide)⟩
  show Steps p.tables e below (s₁.setTop (mkF m 0 #[.val (.ref w_NEW)] [])) _
  refine XS.aloadN X0.here hx rfl (hb hby d1_0) rfl rfl ?_
  show Steps p.tables e below (s₁.setTop (mkF m 1 #[.val (.ref w_NEW)] [(.ref w_NEW)])) _
  refine st1 _ ?_
  show Steps p.tables e below (T1.setTop (mkF m 4 #[.val (.ref w_NEW)] [(.ref w_NEW), (.ref w_NEW)])) _
  refine Jvm.RoadKit.acmp (g := (mkF m 4 #[.val (.ref w_NEW)] [(.ref w_NEW), (.ref w_NEW)])) X1 hx rfl rfl rfl (pc0 := 4) (pc' := 18) (same := true) rfl (hb hby d1_4) rfl (decide_eq_true rfl) (by decide) (by decide) ?_
  show Steps p.tables e below (T1.setTop (mkF m 18 #[.val (.ref w_NEW)] [])) _
  refine XS.iconst X1.here hx rfl (hb hby d1_18) ?_
  show Steps p.tables e below (T1.setTop (mkF m 19 #[.val (.ref w_NEW)] [(.int (0 : Int32))])) _
  exact retN X1 hx (t := .boolean) Bd.returns (by simp) (hb hby d1_19) hr
theorem pd_0 : parseMethodDescriptor "()Z" = some ⟨[], some .boolean⟩ := by decide +kernel
theorem d2_0 : decode prog_30_method_4_code 0 = .ok (.getstatic 38, 3) := by decide +kernel
theorem d2_3 : decode prog_30_method_4_code 3 = .ok (.aload_n 0, 1) := by decide +kernel
theorem d2_4 : decode prog_30_method_4_code 4 = .ok (.invokevirtual 44, 3) := by decide +kernel
theorem d3_0 : decode jdk_37_method_2_code 0 = .ok (.aload_n 0, 1) := by decide +kernel
theorem d3_1 : decode jdk_37_method_2_code 1 = .ok (.getfield 7, 3) := by decide +kernel
theorem d3_4 : decode jdk_37_method_2_code 4 = .ok (.ireturn, 1) := by decide +kernel
theorem pn_1 : plainName "java/lang/Enum" = true := by first | (simp [plainName, overriddenIn]; done) | decide +kernel
set_option maxRecDepth 65536 in
set_option maxHeartbeats 40000000 in
theorem rm3_0 (l : Launch) (Z : State) (a0 : Array Value) (hw : ∀ d ∈ tables_1, d.before a0 Z = true) (ws : List Jvm.Cond) (w_NEW w_FINISHED w_sm w_FINISHEDx w_RUNNING w_TIMED_OUT w_FAILED w_FAILEDx w_TIMED_OUTx : Addr) (h0 : Heap) (n0 : Nat) (Z0 : n0 ≤ h0.size) (S : SF Z h0 w_NEW w_FINISHED w_sm w_FINISHEDx w_RUNNING w_TIMED_OUT w_FAILED w_FAILEDx w_TIMED_OUTx) :
    Pay l Z (⟨"java/lang/Enum", "ordinal", "()I"⟩ : MethodName) ws jdk_37_method_2_code 1 (some .int) #[(.ref w_FINISHED)] h0 n0 ({ frames := 0, cells := 0, slots := 0, locals := 0 } : Room) (some (.int (0 : Int32))) := by
  obtain ⟨S_w_NEW, E_w_NEW, S_w_FINISHED, E_w_FINISHED, S_w_sm, V_w_sm, S_w_FINISHEDx, E_w_FINISHEDx, S_w_RUNNING, E_w_RUNNING, S_w_TIMED_OUT, E_w_TIMED_OUT, S_w_FAILED, E_w_FAILED, S_w_FAILEDx, E_w_FAILEDx, S_w_TIMED_OUTx, E_w_TIMED_OUTx, F_ordinal_w_FINISHED, F_ordinal_w_FINISHEDx, F_ordinal_w_NEW, F_ordinal_w_RUNNING, F_ordinal_w_TIMED_OUT, F_ordinal_w_FAILED, F_ordinal_w_FAILEDx, F_ordinal_w_TIMED_OUTx, hne_w_NEW_w_FINISHEDx, hne_w_NEW_w_RUNNING, hne_w_NEW_w_TIMED_OUT, hne_w_NEW_w_FAILEDx, hne_w_FINISHED_w_FAILED, hne_w_FINISHED_w_TIMED_OUTx, hne_w_FINISHEDx_w_RUNNING, hne_w_FINISHEDx_w_TIMED_OUT, hne_w_FINISHEDx_w_FAILEDx, hne_w_RUNNING_w_TIMED_OUT, hne_w_RUNNING_w_FAILEDx, hne_w_TIMED_OUT_w_FAILEDx, hne_w_FAILED_w_TIMED_OUTx⟩ := id S
  refine MetFree.of_bodySF (plainFor_of_name pn_1) hisR ?_
  intro p e s m args below meth c s₁ Bd hml0 hP hK
  obtain ⟨rfl, hZ, hh⟩ := hP
  have hx := Bd.exec
  have hby := Bd.bytes
  have hml : c.maxLocals = 1 := hml0
  have hown : s.vm.findClass "java/lang/Enum" = some m.cls := findClass_of_methodNamed Bd.named
  have X0 : Stand p l e ({ frames := 0, cells := 0, slots := 0, locals := 0 } : Room) s m #[(.ref w_FINISHED)] below meth c s₁ [] 0 0 := Stand.of_body Bd
  have e0 : s₁.heap = h0 := by rw [← hh, Bd.state]; rfl
  have N0 := Fr.nil n0
  have pre0 : ∀ t, Steps p.tables e below (s₁.setTop (mkF m 0 #[.val (.ref w_FINISHED)] [])) t → Steps p.tables e below (s₁.setTop (entryFrame m #[(.ref w_FINISHED)] 1)) t := fun t k => castTop (by first | rfl | (simp [entryFrame, mkF, argsToLocals, Value.category]; done)) k
  obtain ⟨T1, X1, e1, st1⟩ := getF X0 hx hZ hown (host := "") (Or.inl (hw _ (List.mem_of_getElem? (i := 26) rfl))) Via.refl e0 F_ordinal_w_FINISHED (g := (mkF m 1 #[.val (.ref w_FINISHED)] [(.ref w_FINISHED)])) rfl rfl (hb hby d3_1)
  obtain ⟨fs, hr, hrun, hended, hW, hsame⟩ := X1.leave (v := (some (.int (0 : Int32)))) (fun h => by rw [Bd.returns] at h; cases h)
  refine ⟨_, _, pre0 _ ?_, hrun, hended, _, _, rfl, ⟨rfl, N0, e1⟩, ⟨_, rfl⟩, hW, hsame.mono (by decide) (by decide)⟩
  show Steps p.tables e below (s₁.setTop (mkF m 0 #[.val (.ref w_FINISHED)] [])) _
  refine XS.aloadN X0.here hx rfl (hb hby d3_0) rfl rfl ?_
  show Steps p.tables e below (s₁.setTop (mkF m 1 #[.val (.ref w_FINISHED)] [(.ref w_FINISHED)])) _
  refine st1 _ ?_
  show Steps p.tables e below (T1.setTop (mkF m 4 #[.val (.ref w_FINISHED)] [(.int (0 : Int32))])) _
  exact retOut X1 hx (t := .int) (i := .ireturn) Bd.returns rfl (Or.inl ⟨rfl, Or.inl rfl, _, rfl⟩) (hb hby d3_4) hr
theorem pd_1 : parseMethodDescriptor "()I" = some ⟨[], some .int⟩ := by decide +kernel
theorem d2_7 : decode prog_30_method_4_code 7 = .ok (.iaload, 1) := by decide +kernel
theorem d2_8 : decode prog_30_method_4_code 8 = .ok (.tableswitch 28 1 3 #[38, 44, 50], 28) := by decide +kernel
theorem d2_46 : decode prog_30_method_4_code 46 = .ok (.getstatic 10, 3) := by decide +kernel
theorem d2_49 : decode prog_30_method_4_code 49 = .ok (.goto 12, 3) := by decide +kernel
theorem d2_61 : decode prog_30_method_4_code 61 = .ok (.areturn, 1) := by decide +kernel
set_option maxRecDepth 65536 in
set_option maxHeartbeats 40000000 in
theorem rm2_0 (l : Launch) (Z : State) (a0 : Array Value) (hw : ∀ d ∈ tables_1, d.before a0 Z = true) (ws : List Jvm.Cond) (w_NEW w_FINISHED w_sm w_FINISHEDx w_RUNNING w_TIMED_OUT w_FAILED w_FAILEDx w_TIMED_OUTx : Addr) (h0 : Heap) (n0 : Nat) (Z0 : n0 ≤ h0.size) (S : SF Z h0 w_NEW w_FINISHED w_sm w_FINISHEDx w_RUNNING w_TIMED_OUT w_FAILED w_FAILEDx w_TIMED_OUTx) :
    Pay l Z (⟨"com/example/bowline/bowline/server/RunState", "of", "(Lcom/example/bowline/bowline/runtime/Status;)Lcom/example/bowline/bowline/server/RunState;"⟩ : MethodName) ws prog_30_method_4_code 1 (some (.object "com/example/bowline/bowline/server/RunState")) #[(.ref w_FINISHED)] h0 n0 ({ frames := 1, cells := 0, slots := 0, locals := 13 } : Room) (some (.ref w_FINISHEDx)) := by
  obtain ⟨S_w_NEW, E_w_NEW, S_w_FINISHED, E_w_FINISHED, S_w_sm, V_w_sm, S_w_FINISHEDx, E_w_FINISHEDx, S_w_RUNNING, E_w_RUNNING, S_w_TIMED_OUT, E_w_TIMED_OUT, S_w_FAILED, E_w_FAILED, S_w_FAILEDx, E_w_FAILEDx, S_w_TIMED_OUTx, E_w_TIMED_OUTx, F_ordinal_w_FINISHED, F_ordinal_w_FINISHEDx, F_ordinal_w_NEW, F_ordinal_w_RUNNING, F_ordinal_w_TIMED_OUT, F_ordinal_w_FAILED, F_ordinal_w_FAILEDx, F_ordinal_w_TIMED_OUTx, hne_w_NEW_w_FINISHEDx, hne_w_NEW_w_RUNNING, hne_w_NEW_w_TIMED_OUT, hne_w_NEW_w_FAILEDx, hne_w_FINISHED_w_FAILED, hne_w_FINISHED_w_TIMED_OUTx, hne_w_FINISHEDx_w_RUNNING, hne_w_FINISHEDx_w_TIMED_OUT, hne_w_FINISHEDx_w_FAILEDx, hne_w_RUNNING_w_TIMED_OUT, hne_w_RUNNING_w_FAILEDx, hne_w_TIMED_OUT_w_FAILEDx, hne_w_FAILED_w_TIMED_OUTx⟩ := id S
  refine MetFree.of_bodySF (plainFor_of_name pn_0) hisR ?_
  intro p e s m args below meth c s₁ Bd hml0 hP hK
  obtain ⟨rfl, hZ, hh⟩ := hP
  have hx := Bd.exec
  have hby := Bd.bytes
  have hml : c.maxLocals = 1 := hml0
  have hown : s.vm.findClass "com/example/bowline/bowline/server/RunState" = some m.cls := findClass_of_methodNamed Bd.named
  have X0 : Stand p l e ({ frames := 1, cells := 0, slots := 0, locals := 13 } : Room) s m #[(.ref w_FINISHED)] below meth c s₁ [] 0 0 := Stand.of_body Bd
  have e0 : s₁.heap = h0 := by rw [← hh, Bd.state]; rfl
  have N0 := Fr.nil n0
  have pre0 : ∀ t, Steps p.tables e below (s₁.setTop (mkF m 0 #[.val (.ref w_FINISHED)] [])) t → Steps p.tables e below (s₁.setTop (entryFrame m #[(.ref w_FINISHED)] 1)) t := fun t k => castTop (by first | rfl | (simp [entryFrame, mkF, argsToLocals, Value.category]; done)) k
  obtain ⟨T1, X1, e1, st1⟩ := getS2 X0 hx hZ hown (host := "") (Or.inl (hw _ (List.mem_of_getElem? (i := 16) rfl))) Via.refl e0 S_w_sm (g := (mkF m 0 #[.val (.ref w_FINISHED)] [])) rfl (hb hby d2_0)
  obtain ⟨cq2, kq2, q2a, q2b, q2c⟩ := isOf hZ e1 E_w_FINISHED
  obtain ⟨_, _, ⟨T2, L2, k2, n2⟩, -, X2, ⟨Lc2, hQ2, l2, y2, z2⟩, st2⟩ := X1.virtualBackUp hx (x := (⟨"com/example/bowline/bowline/runtime/Status", "ordinal", "()I"⟩ : MethodName)) (y := (⟨"java/lang/Enum", "ordinal", "()I"⟩ : MethodName)) (owner := "java/lang/Enum") hown (mvT hZ (hw _ (List.mem_of_getElem? (i := 19) rfl))) (mvT hZ (hw _ (List.mem_of_getElem? (i := 20) rfl))) (mvT hZ (hw _ (List.mem_of_getElem? (i := 21) rfl))) (by decide) (mvT hZ (hw _ (List.mem_of_getElem? (i := 23) rfl))) (mvT hZ (hw _ (List.mem_of_getElem? (i := 22) rfl))) (backOf (W := 1) (rm3_0 l Z a0 hw [] w_NEW w_FINISHED w_sm w_FINISHEDx w_RUNNING w_TIMED_OUT w_FAILED w_FAILEDx w_TIMED_OUTx h0 n0 Z0 S) hZ (hw _ (List.mem_of_getElem? (i := 25) rfl)) (hw _ (List.mem_of_getElem? (i := 24) rfl)) (by decide) (by decide)) q2a q2c (g := (mkF m 4 #[.val (.ref w_FINISHED)] [(.ref w_FINISHED), (.ref w_sm)])) rfl (by rw [hml]; rfl) (Steps.refl _) (argsL := []) (rest := [(.ref w_sm)]) (lenOf pd_1 rfl) rfl (by show 2 * 0 + _ ≤ _; exact Nat.le_of_eq rfl) (hb hby d2_4) (fun _ _ => ⟨rfl, e1, (by decide : 0 + 0 ≤ _), (by decide : 0 + 0 ≤ _)⟩)
  dsimp only [Pt.U, Pt.locs, Pt.cells, Pt.slots] at X2 l2 y2 z2 st2 hQ2
  subst l2 y2 z2
  obtain ⟨rfl, Nq2, e2⟩ := hQ2
  have N2 := Fr.app N0 Nq2
  obtain ⟨kk3, cl3, Ar3, -, Sz3, -, H3, -⟩ := V_w_sm
  have hin3 : ¬ ((0 : Int32) < 0 ∨ cl3.slots.size ≤ ((0 : Int32)).toNatClampNeg) := inb_of Sz3 ⟨by decide, by decide⟩
  obtain ⟨T4, X4, e4, st4⟩ := getS2 X2 hx hZ hown (host := "") (Or.inl (hw _ (List.mem_of_getElem? (i := 28) rfl))) Via.refl e2 S_w_FINISHEDx (g := (mkF m 46 #[.val (.ref w_FINISHED)] [])) rfl (hb hby d2_46)
  obtain ⟨fs, hr, hrun, hended, hW, hsame⟩ := X4.leave (v := (some (.ref w_FINISHEDx))) (fun h => by rw [Bd.returns] at h; cases h)
  refine ⟨_, _, pre0 _ ?_, hrun, hended, _, _, rfl, ⟨rfl, N2, e4⟩, ⟨_, rfl⟩, hW, hsame.mono (by decide) (by decide)⟩
  show Steps p.tables e below (s₁.setTop (mkF m 0 #[.val (.ref w_FINISHED)] [])) _
  refine st1 _ ?_
  show Steps p.tables e below (T1.setTop (mkF m 3 #[.val (.ref w_FINISHED)] [(.ref w_sm)])) _
  refine XS.aloadN X1.here hx rfl (hb hby d2_3) rfl rfl ?_
  show Steps p.tables e below (T1.setTop (mkF m 4 #[.val (.ref w_FINISHED)] [(.ref w_FINISHED), (.ref w_sm)])) _
  refine st2.trans ?_
  show Steps p.tables e below (T2.setTop (mkF m 7 #[.val (.ref w_FINISHED)] [(.int (0 : Int32)), (.ref w_sm)])) _
  refine X2.iaload hx (j := (0 : Int32)) (v := .int (1 : Int32)) (by rw [e2]; exact Ar3.1) (State.isArrayOf_alike hZ.alike Ar3.2.1) Ar3.2.2 hin3 (Has.at H3 hin3 rfl) (g := (mkF m 7 #[.val (.ref w_FINISHED)] [(.int (0 : Int32)), (.ref w_sm)])) rfl rfl (hb hby d2_7) _ ?_
  show Steps p.tables e below (T2.setTop (mkF m 8 #[.val (.ref w_FINISHED)] [(.int (1 : Int32))])) _
  refine XS.tswIn X2.here hx rfl (pc0 := 8) (pc' := 46) rfl (hb hby d2_8) rfl (by decide) (o := 38) (by decide) (by decide) (by decide) ?_
  show Steps p.tables e below (T2.setTop (mkF m 46 #[.val (.ref w_FINISHED)] [])) _
  refine st4 _ ?_
  show Steps p.tables e below (T4.setTop (mkF m 49 #[.val (.ref w_FINISHED)] [(.ref w_FINISHEDx)])) _
  refine XS.goto X4.here hx rfl (pc0 := 49) (pc' := 61) rfl (hb hby d2_49) (by decide) (by decide) ?_
  show Steps p.tables e below (T4.setTop (mkF m 61 #[.val (.ref w_FINISHED)] [(.ref w_FINISHEDx)])) _
  exact retOut X4 hx (t := (.object "com/example/bowline/bowline/server/RunState")) (i := .areturn) Bd.returns rfl (Or.inr (Or.inr (Or.inr (Or.inr ⟨rfl, rfl, rfl⟩)))) (hb hby d2_61) hr
theorem pd_2 : parseMethodDescriptor "(Lcom/example/bowline/bowline/runtime/Status;)Lcom/example/bowline/bowline/server/RunState;" = some ⟨[(.object "com/example/bowline/bowline/runtime/Status")], some (.object "com/example/bowline/bowline/server/RunState")⟩ := by decide +kernel
theorem d1_7 : decode prog_30_method_5_code 7 = .ok (.aload_n 0, 1) := by decide +kernel
theorem d1_8 : decode prog_30_method_5_code 8 = .ok (.getstatic 7, 3) := by decide +kernel
theorem d1_11 : decode prog_30_method_5_code 11 = .ok (.if_acmp .eq 7, 3) := by decide +kernel
theorem d1_14 : decode prog_30_method_5_code 14 = .ok (.iconst 1, 1) := by decide +kernel
theorem d1_15 : decode prog_30_method_5_code 15 = .ok (.goto 4, 3) := by decide +kernel
set_option maxRecDepth 65536 in
set_option maxHeartbeats 40000000 in
theorem rm1_1 (l : Launch) (Z : State) (a0 : Array Value) (hw : ∀ d ∈ tables_1, d.before a0 Z = true) (ws : List Jvm.Cond) (w_NEW w_FINISHED w_sm w_FINISHEDx w_RUNNING w_TIMED_OUT w_FAILED w_FAILEDx w_TIMED_OUTx : Addr) (h0 : Heap) (n0 : Nat) (Z0 : n0 ≤ h0.size) (S : SF Z h0 w_NEW w_FINISHED w_sm w_FINISHEDx w_RUNNING w_TIMED_OUT w_FAILED w_FAILEDx w_TIMED_OUTx) :
    Pay l Z (⟨"com/example/bowline/bowline/server/RunState", "ended", "()Z"⟩ : MethodName) ws prog_30_method_5_code 1 (some .boolean) #[(.ref w_FINISHEDx)] h0 n0 ({ frames := 0, cells := 0, slots := 0, locals := 0 } : Room) (some (.int (1 : Int32))) := by
  obtain ⟨S_w_NEW, E_w_NEW, S_w_FINISHED, E_w_FINISHED, S_w_sm, V_w_sm, S_w_FINISHEDx, E_w_FINISHEDx, S_w_RUNNING, E_w_RUNNING, S_w_TIMED_OUT, E_w_TIMED_OUT, S_w_FAILED, E_w_FAILED, S_w_FAILEDx, E_w_FAILEDx, S_w_TIMED_OUTx, E_w_TIMED_OUTx, F_ordinal_w_FINISHED, F_ordinal_w_FINISHEDx, F_ordinal_w_NEW, F_ordinal_w_RUNNING, F_ordinal_w_TIMED_OUT, F_ordinal_w_FAILED, F_ordinal_w_FAILEDx, F_ordinal_w_TIMED_OUTx, hne_w_NEW_w_FINISHEDx, hne_w_NEW_w_RUNNING, hne_w_NEW_w_TIMED_OUT, hne_w_NEW_w_FAILEDx, hne_w_FINISHED_w_FAILED, hne_w_FINISHED_w_TIMED_OUTx, hne_w_FINISHEDx_w_RUNNING, hne_w_FINISHEDx_w_TIMED_OUT, hne_w_FINISHEDx_w_FAILEDx, hne_w_RUNNING_w_TIMED_OUT, hne_w_RUNNING_w_FAILEDx, hne_w_TIMED_OUT_w_FAILEDx, hne_w_FAILED_w_TIMED_OUTx⟩ := id S
  refine MetFree.of_bodySF (plainFor_of_name pn_0) hisR ?_
  intro p e s m args below meth c s₁ Bd hml0 hP hK
  obtain ⟨rfl, hZ, hh⟩ := hP
  have hx := Bd.exec
  have hby := Bd.bytes
  have hml : c.maxLocals = 1 := hml0
  have hown : s.vm.findClass "com/example/bowline/bowline/server/RunState" = some m.cls := findClass_of_methodNamed Bd.named
  have X0 : Stand p l e ({ frames := 0, cells := 0, slots := 0, locals := 0 } : Room) s m #[(.ref w_FINISHEDx)] below meth c s₁ [] 0 0 := Stand.of_body Bd
  have e0 : s₁.heap = h0 := by rw [← hh, Bd.state]; rfl
  have N0 := Fr.nil n0
  have pre0 : ∀ t, Steps p.tables e below (s₁.setTop (mkF m 0 #[.val (.ref w_FINISHEDx)] [])) t → Steps p.tables e below (s₁.setTop (entryFrame m #[(.ref w_FINISHEDx)] 1)) t := fun t k => castTop (by first | rfl | (simp [entryFrame, mkF, argsToLocals, Value.category]; done)) k
  obtain ⟨T1, X1, e1, st1⟩ := getS2 X0 hx hZ hown (host := "") (Or.inl (hw _ (List.mem_of_getElem? (i := 12) rfl))) Via.refl e0 S_w_NEW (g := (mkF m 1 #[.val (.ref w_FINISHEDx)] [(.ref w_FINISHEDx)])) rfl (hb hby d1_1)
  obtain ⟨T2, X2, e2, st2⟩ := getS2 X1 hx hZ hown (host := "") (Or.inl (hw _ (List.mem_of_getElem? (i := 30) rfl))) Via.refl e1 S_w_RUNNING (g := (mkF m 8 #[.val (.ref w_FINISHEDx)] [(.ref w_FINISHEDx)])) rfl (hb hby d1_8)
  obtain ⟨fs, hr, hrun, hended, hW, hsame⟩ := X2.leave (v := (some (.int (1 : Int32)))) (fun h => by rw [Bd.returns] at h; cases h)
  refine ⟨_, _, pre0 _ ?_, hrun, hended, _, _, rfl, ⟨rfl, N0, e2⟩, ⟨_, rfl⟩, hW, hsame.mono (by decide) (by decide)⟩
  show Steps p.tables e below (s₁.setTop (mkF m 0 #[.val (.ref w_FINISHEDx)] [])) _
  refine XS.aloadN X0.here hx rfl (hb hby d1_0) rfl rfl ?_
  show Steps p.tables e below (s₁.setTop (mkF m 1 #[.val (.ref w_FINISHEDx)] [(.ref w_FINISHEDx)])) _
  refine st1 _ ?_
  show Steps p.tables e below (T1.setTop (mkF m 4 #[.val (.ref w_FINISHEDx)] [(.ref w_NEW), (.ref w_FINISHEDx)])) _
  refine Jvm.RoadKit.acmp (g := (mkF m 4 #[.val (.ref w_FINISHEDx)] [(.ref w_NEW), (.ref w_FINISHEDx)])) X1 hx rfl rfl rfl (pc0 := 4) (pc' := 7) (same := false) rfl (hb hby d1_4) rfl (decide_eq_false fun q => hne_w_NEW_w_FINISHEDx (Value.ref.inj q).symm) (by decide) (by decide) ?_
  show Steps p.tables e below (T1.setTop (mkF m 7 #[.val (.ref w_FINISHEDx)] [])) _
  refine XS.aloadN X1.here hx rfl (hb hby d1_7) rfl rfl ?_
  show Steps p.tables e below (T1.setTop (mkF m 8 #[.val (.ref w_FINISHEDx)] [(.ref w_FINISHEDx)])) _
  refine st2 _ ?_
  show Steps p.tables e below (T2.setTop (mkF m 11 #[.val (.ref w_FINISHEDx)] [(.ref w_RUNNING), (.ref w_FINISHEDx)])) _
  refine Jvm.RoadKit.acmp (g := (mkF m 11 #[.val (.ref w_FINISHEDx)] [(.ref w_RUNNING), (.ref w_FINISHEDx)])) X2 hx rfl rfl rfl (pc0 := 11) (pc' := 14) (same := false) rfl (hb hby d1_11) rfl (decide_eq_false fun q => hne_w_FINISHEDx_w_RUNNING (Value.ref.inj q)) (by decide) (by decide) ?_
  show Steps p.tables e below (T2.setTop (mkF m 14 #[.val (.ref w_FINISHEDx)] [])) _
  refine XS.iconst X2.here hx rfl (hb hby d1_14) ?_
  show Steps p.tables e below (T2.setTop (mkF m 15 #[.val (.ref w_FINISHEDx)] [(.int (1 : Int32))])) _
  refine XS.goto X2.here hx rfl (pc0 := 15) (pc' := 19) rfl (hb hby d1_15) (by decide) (by decide) ?_
  show Steps p.tables e below (T2.setTop (mkF m 19 #[.val (.ref w_FINISHEDx)] [(.int (1 : Int32))])) _
  exact retN X2 hx (t := .boolean) Bd.returns (by simp) (hb hby d1_19) hr
theorem pn_2 : plainName "com/example/bowline/bowline/server/RunStateEndedPinLaw" = true := by first | (simp [plainName, overriddenIn]; done) | decide +kernel
set_option maxRecDepth 65536 in
set_option maxHeartbeats 40000000 in
theorem rm0_0 (l : Launch) (Z : State) (a0 : Array Value) (hw : ∀ d ∈ tables_1, d.before a0 Z = true) (ws : List Jvm.Cond) (w_NEW w_FINISHED w_sm w_FINISHEDx w_RUNNING w_TIMED_OUT w_FAILED w_FAILEDx w_TIMED_OUTx : Addr) (h0 : Heap) (n0 : Nat) (Z0 : n0 ≤ h0.size) (S : SF Z h0 w_NEW w_FINISHED w_sm w_FINISHEDx w_RUNNING w_TIMED_OUT w_FAILED w_FAILEDx w_TIMED_OUTx) (p0 : Int32) (p1 : Int32) (hk : ((p0 &&& (2147483647 : Int32)) % (5 : Int32)) = (0 : Int32)) (hj : ((p1 &&& (2147483647 : Int32)) % (3 : Int32)) = (0 : Int32)) :
    Pay l Z x ws code maxLocals ret #[(.int p0), (.int p1)] h0 n0 room_1 (some (.int (1 : Int32))) := by
  obtain ⟨S_w_NEW, E_w_NEW, S_w_FINISHED, E_w_FINISHED, S_w_sm, V_w_sm, S_w_FINISHEDx, E_w_FINISHEDx, S_w_RUNNING, E_w_RUNNING, S_w_TIMED_OUT, E_w_TIMED_OUT, S_w_FAILED, E_w_FAILED, S_w_FAILEDx, E_w_FAILEDx, S_w_TIMED_OUTx, E_w_TIMED_OUTx, F_ordinal_w_FINISHED, F_ordinal_w_FINISHEDx, F_ordinal_w_NEW, F_ordinal_w_RUNNING, F_ordinal_w_TIMED_OUT, F_ordinal_w_FAILED, F_ordinal_w_FAILEDx, F_ordinal_w_TIMED_OUTx, hne_w_NEW_w_FINISHEDx, hne_w_NEW_w_RUNNING, hne_w_NEW_w_TIMED_OUT, hne_w_NEW_w_FAILEDx, hne_w_FINISHED_w_FAILED, hne_w_FINISHED_w_TIMED_OUTx, hne_w_FINISHEDx_w_RUNNING, hne_w_FINISHEDx_w_TIMED_OUT, hne_w_FINISHEDx_w_FAILEDx, hne_w_RUNNING_w_TIMED_OUT, hne_w_RUNNING_w_FAILEDx, hne_w_TIMED_OUT_w_FAILEDx, hne_w_FAILED_w_TIMED_OUTx⟩ := id S
  refine MetFree.of_bodySF (plainFor_of_name pn_2) hisR ?_
  intro p e s m args below meth c s₁ Bd hml0 hP hK
  obtain ⟨rfl, hZ, hh⟩ := hP
  have hx := Bd.exec
  have hby := Bd.bytes
  have hml : c.maxLocals = 7 := hml0
  have hown : s.vm.findClass "com/example/bowline/bowline/server/RunStateEndedPinLaw" = some m.cls := findClass_of_methodNamed Bd.named
  have X0 : Stand p l e room_1 s m #[(.int p0), (.int p1)] below meth c s₁ [] 0 0 := Stand.of_body Bd
  have e0 : s₁.heap = h0 := by rw [← hh, Bd.state]; rfl
  have N0 := Fr.nil n0
  have pre0 : ∀ t, Steps p.tables e below (s₁.setTop (mkF m 0 #[.val (.int p0), .val (.int p1), .unset, .unset, .unset, .unset, .unset] [])) t → Steps p.tables e below (s₁.setTop (entryFrame m #[(.int p0), (.int p1)] maxLocals)) t := fun t k => castTop (by first | rfl | (simp [entryFrame, mkF, argsToLocals, Value.category, maxLocals]; done)) k
  obtain ⟨T1, X1, e1, st1⟩ := getS2 X0 hx hZ hown (host := "") (Or.inl (hw _ (List.mem_of_getElem? (i := 1) rfl))) Via.refl e0 S_w_NEW (g := (mkF m 11 #[.val (.int p0), .val (.int p1), .val (.int (0 : Int32)), .unset, .unset, .unset, .unset] [])) rfl (hb hby at_11)
  obtain ⟨T2, X2, e2, st2⟩ := getS2 X1 hx hZ hown (host := "") (Or.inl (hw _ (List.mem_of_getElem? (i := 4) rfl))) Via.refl e1 S_w_FINISHED (g := (mkF m 83 #[.val (.int p0), .val (.int p1), .val (.int (0 : Int32)), .val (.ref w_NEW), .val (.int (0 : Int32)), .val (.int (0 : Int32)), .unset] [])) rfl (hb hby at_83)
  obtain ⟨cq3, kq3, q3a, q3b, q3c⟩ := isOf hZ e2 E_w_NEW
  obtain ⟨_, _, ⟨T3, L3, k3, n3⟩, -, X3, ⟨Lc3, hQ3, l3, y3, z3⟩, st3⟩ := X2.virtualBack hx (y := (⟨"com/example/bowline/bowline/server/RunState", "ended", "()Z"⟩ : MethodName)) (z := (⟨"com/example/bowline/bowline/server/RunState", "ended", "()Z"⟩ : MethodName)) hown (mvT hZ (hw _ (List.mem_of_getElem? (i := 7) rfl))) (mvT hZ (hw _ (List.mem_of_getElem? (i := 8) rfl))) (notFace_of_selects (args := #[]) (mvT hZ (hw _ (List.mem_of_getElem? (i := 10) rfl)))) (mvT hZ (hw _ (List.mem_of_getElem? (i := 10) rfl))) (mvT hZ (hw _ (List.mem_of_getElem? (i := 9) rfl))) (by decide) (backOf (W := 0) (rm1_0 l Z a0 hw [] w_NEW w_FINISHED w_sm w_FINISHEDx w_RUNNING w_TIMED_OUT w_FAILED w_FAILEDx w_TIMED_OUTx h0 n0 Z0 S) hZ (hw _ (List.mem_of_getElem? (i := 11) rfl)) (hw _ (List.mem_of_getElem? (i := 2) rfl)) (by decide) (by decide)) q3a q3c (g := (mkF m 111 #[.val (.int p0), .val (.int p1), .val (.int (0 : Int32)), .val (.ref w_NEW), .val (.int (0 : Int32)), .val (.int (0 : Int32)), .val (.ref w_FINISHED)] [(.ref w_NEW)])) rfl (by rw [hml]; rfl) (Steps.refl _) (argsL := []) (rest := []) (lenOf pd_0 rfl) rfl (by show 2 * 0 + _ ≤ _; exact Nat.le_of_eq rfl) (hb hby at_111) (fun _ _ => ⟨rfl, e2, (by decide : 0 + 0 ≤ _), (by decide : 0 + 0 ≤ _)⟩)
  dsimp only [Pt.U, Pt.locs, Pt.cells, Pt.slots] at X3 l3 y3 z3 st3 hQ3
  subst l3 y3 z3
  obtain ⟨rfl, Nq3, e3⟩ := hQ3
  have N3 := Fr.app N0 Nq3
  obtain ⟨_, _, ⟨T4, L4, k4, n4⟩, -, X4, ⟨Lc4, hQ4, l4, y4, z4⟩, st4⟩ := Jvm.LawKit.callS X3 hx (y := (⟨"com/example/bowline/bowline/server/RunState", "of", "(Lcom/example/bowline/bowline/runtime/Status;)Lcom/example/bowline/bowline/server/RunState;"⟩ : MethodName)) hown (mvT hZ (hw _ (List.mem_of_getElem? (i := 13) rfl))) (mvT hZ (hw _ (List.mem_of_getElem? (i := 14) rfl))) (mvT hZ (hw _ (List.mem_of_getElem? (i := 2) rfl))) (mvT hZ (hw _ (List.mem_of_getElem? (i := 15) rfl))) (by decide) (backOf (W := 0) (rm2_0 l Z a0 hw [] w_NEW w_FINISHED w_sm w_FINISHEDx w_RUNNING w_TIMED_OUT w_FAILED w_FAILEDx w_TIMED_OUTx h0 n0 Z0 S) hZ (hw _ (List.mem_of_getElem? (i := 15) rfl)) (hw _ (List.mem_of_getElem? (i := 2) rfl)) (by decide) (by decide)) (g := (mkF m 121 #[.val (.int p0), .val (.int p1), .val (.int (0 : Int32)), .val (.ref w_NEW), .val (.int (0 : Int32)), .val (.int (0 : Int32)), .val (.ref w_FINISHED)] [(.ref w_FINISHED)])) rfl (by rw [hml]; rfl) (argsL := [(.ref w_FINISHED)]) (rest := []) (lenOf pd_2 rfl) rfl (by show 2 * 0 + _ ≤ _; exact Nat.le_of_eq rfl) (hb hby at_121) (fun _ _ => ⟨rfl, e3, (by decide : 0 + 0 ≤ _), (by decide : 0 + 0 ≤ _)⟩)
  dsimp only [Pt.U, Pt.locs, Pt.cells, Pt.slots] at X4 l4 y4 z4 st4 hQ4
  subst l4 y4 z4
  obtain ⟨rfl, Nq4, e4⟩ := hQ4
  have N4 := Fr.app N3 Nq4
  obtain ⟨cq5, kq5, q5a, q5b, q5c⟩ := isOf hZ e4 E_w_FINISHEDx
  obtain ⟨_, _, ⟨T5, L5, k5, n5⟩, -, X5, ⟨Lc5, hQ5, l5, y5, z5⟩, st5⟩ := X4.virtualBack hx (y := (⟨"com/example/bowline/bowline/server/RunState", "ended", "()Z"⟩ : MethodName)) (z := (⟨"com/example/bowline/bowline/server/RunState", "ended", "()Z"⟩ : MethodName)) hown (mvT hZ (hw _ (List.mem_of_getElem? (i := 7) rfl))) (mvT hZ (hw _ (List.mem_of_getElem? (i := 8) rfl))) (notFace_of_selects (args := #[]) (mvT hZ (hw _ (List.mem_of_getElem? (i := 10) rfl)))) (mvT hZ (hw _ (List.mem_of_getElem? (i := 10) rfl))) (mvT hZ (hw _ (List.mem_of_getElem? (i := 9) rfl))) (by decide) (backOf (W := 0) (rm1_1 l Z a0 hw [] w_NEW w_FINISHED w_sm w_FINISHEDx w_RUNNING w_TIMED_OUT w_FAILED w_FAILEDx w_TIMED_OUTx h0 n0 Z0 S) hZ (hw _ (List.mem_of_getElem? (i := 11) rfl)) (hw _ (List.mem_of_getElem? (i := 2) rfl)) (by decide) (by decide)) q5a q5c (g := (mkF m 124 #[.val (.int p0), .val (.int p1), .val (.int (0 : Int32)), .val (.ref w_NEW), .val (.int (0 : Int32)), .val (.int (0 : Int32)), .val (.ref w_FINISHED)] [(.ref w_FINISHEDx)])) rfl (by rw [hml]; rfl) (Steps.refl _) (argsL := []) (rest := []) (lenOf pd_0 rfl) rfl (by show 2 * 0 + _ ≤ _; exact Nat.le_of_eq rfl) (hb hby at_124) (fun _ _ => ⟨rfl, e4, (by decide : 0 + 0 ≤ _), (by decide : 0 + 0 ≤ _)⟩)
  dsimp only [Pt.U, Pt.locs, Pt.cells, Pt.slots] at X5 l5 y5 z5 st5 hQ5
  subst l5 y5 z5
  obtain ⟨rfl, Nq5, e5⟩ := hQ5
  have N5 := Fr.app N4 Nq5
  obtain ⟨fs, hr, hrun, hended, hW, hsame⟩ := X5.leave (v := (some (.int (1 : Int32)))) (fun h => by rw [Bd.returns] at h; cases h)
  refine ⟨_, _, pre0 _ ?_, hrun, hended, _, _, rfl, ⟨rfl, N5, e5⟩, ⟨_, rfl⟩, hW, hsame.mono (by decide) (by decide)⟩
  show Steps p.tables e below (s₁.setTop (mkF m 0 #[.val (.int p0), .val (.int p1), .unset, .unset, .unset, .unset, .unset] [])) _
  refine XS.iloadN X0.here hx rfl (hb hby at_0) rfl ?_
  show Steps p.tables e below (s₁.setTop (mkF m 1 #[.val (.int p0), .val (.int p1), .unset, .unset, .unset, .unset, .unset] [(.int p0)])) _
  refine X0.ldcInt hx hown (mvT hZ (hw _ (List.mem_of_getElem? (i := 0) rfl))) (g := (mkF m 1 #[.val (.int p0), .val (.int p1), .unset, .unset, .unset, .unset, .unset] [(.int p0)])) rfl (hb hby at_1) _ ?_
  show Steps p.tables e below (s₁.setTop (mkF m 3 #[.val (.int p0), .val (.int p1), .unset, .unset, .unset, .unset, .unset] [(.int (2147483647 : Int32)), (.int p0)])) _
  refine XS.iand X0.here hx rfl (hb hby at_3) rfl ?_
  show Steps p.tables e below (s₁.setTop (mkF m 4 #[.val (.int p0), .val (.int p1), .unset, .unset, .unset, .unset, .unset] [(.int (p0 &&& (2147483647 : Int32)))])) _
  show Steps p.tables e below (s₁.setTop (mkF m 4 #[.val (.int p0), .val (.int p1), .unset, .unset, .unset, .unset, .unset] [(.int (p0 &&& (2147483647 : Int32)))])) _
  refine XS.iconst X0.here hx rfl (hb hby at_4) ?_
  show Steps p.tables e below (s₁.setTop (mkF m 5 #[.val (.int p0), .val (.int p1), .unset, .unset, .unset, .unset, .unset] [(.int (5 : Int32)), (.int (p0 &&& (2147483647 : Int32)))])) _
  refine iremM X0 hx rfl (hb hby at_5) rfl (by decide) ?_
  show Steps p.tables e below (s₁.setTop (mkF m 6 #[.val (.int p0), .val (.int p1), .unset, .unset, .unset, .unset, .unset] [(.int ((p0 &&& (2147483647 : Int32)) % (5 : Int32)))])) _
  rw [hk]
  show Steps p.tables e below (s₁.setTop (mkF m 6 #[.val (.int p0), .val (.int p1), .unset, .unset, .unset, .unset, .unset] [(.int (0 : Int32))])) _
  refine XS.istoreN X0.here hx rfl (hb hby at_6) rfl (l' := #[.val (.int p0), .val (.int p1), .val (.int (0 : Int32)), .unset, .unset, .unset, .unset]) rfl ?_
  show Steps p.tables e below (s₁.setTop (mkF m 7 #[.val (.int p0), .val (.int p1), .val (.int (0 : Int32)), .unset, .unset, .unset, .unset] [])) _
  refine XS.iloadN X0.here hx rfl (hb hby at_7) rfl ?_
  show Steps p.tables e below (s₁.setTop (mkF m 8 #[.val (.int p0), .val (.int p1), .val (.int (0 : Int32)), .unset, .unset, .unset, .unset] [(.int (0 : Int32))])) _
  refine XS.ifNo X0.here hx rfl (hb hby at_8) rfl ((if0 _ _).trans (teq (by decide : (0 : Int32) = (0 : Int32))).2) ?_
  show Steps p.tables e below (s₁.setTop (mkF m 11 #[.val (.int p0), .val (.int p1), .val (.int (0 : Int32)), .unset, .unset, .unset, .unset] [])) _
  refine st1 _ ?_
  show Steps p.tables e below (T1.setTop (mkF m 14 #[.val (.int p0), .val (.int p1), .val (.int (0 : Int32)), .unset, .unset, .unset, .unset] [(.ref w_NEW)])) _
  refine XS.astoreN X1.here hx rfl (hb hby at_14) rfl rfl (l' := #[.val (.int p0), .val (.int p1), .val (.int (0 : Int32)), .val (.ref w_NEW), .unset, .unset, .unset]) rfl ?_
  show Steps p.tables e below (T1.setTop (mkF m 15 #[.val (.int p0), .val (.int p1), .val (.int (0 : Int32)), .val (.ref w_NEW), .unset, .unset, .unset] [])) _
  refine XS.goto X1.here hx rfl (pc0 := 15) (pc' := 58) rfl (hb hby at_15) (by decide) (by decide) ?_
  show Steps p.tables e below (T1.setTop (mkF m 58 #[.val (.int p0), .val (.int p1), .val (.int (0 : Int32)), .val (.ref w_NEW), .unset, .unset, .unset] [])) _
  refine XS.iloadN X1.here hx rfl (hb hby at_58) rfl ?_
  show Steps p.tables e below (T1.setTop (mkF m 59 #[.val (.int p0), .val (.int p1), .val (.int (0 : Int32)), .val (.ref w_NEW), .unset, .unset, .unset] [(.int (0 : Int32))])) _
  refine XS.iconst X1.here hx rfl (hb hby at_59) ?_
  show Steps p.tables e below (T1.setTop (mkF m 60 #[.val (.int p0), .val (.int p1), .val (.int (0 : Int32)), .val (.ref w_NEW), .unset, .unset, .unset] [(.int (2 : Int32)), (.int (0 : Int32))])) _
  refine XS.icmpYes X1.here hx rfl (pc0 := 60) (pc' := 67) rfl (hb hby at_60) rfl (tlt (by decide : (0 : Int32) < (2 : Int32))).1 (by decide) (by decide) ?_
  show Steps p.tables e below (T1.setTop (mkF m 67 #[.val (.int p0), .val (.int p1), .val (.int (0 : Int32)), .val (.ref w_NEW), .unset, .unset, .unset] [])) _
  refine XS.iconst X1.here hx rfl (hb hby at_67) ?_
  show Steps p.tables e below (T1.setTop (mkF m 68 #[.val (.int p0), .val (.int p1), .val (.int (0 : Int32)), .val (.ref w_NEW), .unset, .unset, .unset] [(.int (0 : Int32))])) _
  refine XS.istore X1.here hx rfl (hb hby at_68) rfl (l' := #[.val (.int p0), .val (.int p1), .val (.int (0 : Int32)), .val (.ref w_NEW), .val (.int (0 : Int32)), .unset, .unset]) rfl ?_
  show Steps p.tables e below (T1.setTop (mkF m 70 #[.val (.int p0), .val (.int p1), .val (.int (0 : Int32)), .val (.ref w_NEW), .val (.int (0 : Int32)), .unset, .unset] [])) _
  refine XS.iloadN X1.here hx rfl (hb hby at_70) rfl ?_
  show Steps p.tables e below (T1.setTop (mkF m 71 #[.val (.int p0), .val (.int p1), .val (.int (0 : Int32)), .val (.ref w_NEW), .val (.int (0 : Int32)), .unset, .unset] [(.int p1)])) _
  refine X1.ldcInt hx hown (mvT hZ (hw _ (List.mem_of_getElem? (i := 0) rfl))) (g := (mkF m 71 #[.val (.int p0), .val (.int p1), .val (.int (0 : Int32)), .val (.ref w_NEW), .val (.int (0 : Int32)), .unset, .unset] [(.int p1)])) rfl (hb hby at_71) _ ?_
  show Steps p.tables e below (T1.setTop (mkF m 73 #[.val (.int p0), .val (.int p1), .val (.int (0 : Int32)), .val (.ref w_NEW), .val (.int (0 : Int32)), .unset, .unset] [(.int (2147483647 : Int32)), (.int p1)])) _
  refine XS.iand X1.here hx rfl (hb hby at_73) rfl ?_
  show Steps p.tables e below (T1.setTop (mkF m 74 #[.val (.int p0), .val (.int p1), .val (.int (0 : Int32)), .val (.ref w_NEW), .val (.int (0 : Int32)), .unset, .unset] [(.int (p1 &&& (2147483647 : Int32)))])) _
  show Steps p.tables e below (T1.setTop (mkF m 74 #[.val (.int p0), .val (.int p1), .val (.int (0 : Int32)), .val (.ref w_NEW), .val (.int (0 : Int32)), .unset, .unset] [(.int (p1 &&& (2147483647 : Int32)))])) _
  refine XS.iconst X1.here hx rfl (hb hby at_74) ?_
  show Steps p.tables e below (T1.setTop (mkF m 75 #[.val (.int p0), .val (.int p1), .val (.int (0 : Int32)), .val (.ref w_NEW), .val (.int (0 : Int32)), .unset, .unset] [(.int (3 : Int32)), (.int (p1 &&& (2147483647 : Int32)))])) _
  refine iremM X1 hx rfl (hb hby at_75) rfl (by decide) ?_
  show Steps p.tables e below (T1.setTop (mkF m 76 #[.val (.int p0), .val (.int p1), .val (.int (0 : Int32)), .val (.ref w_NEW), .val (.int (0 : Int32)), .unset, .unset] [(.int ((p1 &&& (2147483647 : Int32)) % (3 : Int32)))])) _
  rw [hj]
  show Steps p.tables e below (T1.setTop (mkF m 76 #[.val (.int p0), .val (.int p1), .val (.int (0 : Int32)), .val (.ref w_NEW), .val (.int (0 : Int32)), .unset, .unset] [(.int (0 : Int32))])) _
  refine XS.istore X1.here hx rfl (hb hby at_76) rfl (l' := #[.val (.int p0), .val (.int p1), .val (.int (0 : Int32)), .val (.ref w_NEW), .val (.int (0 : Int32)), .val (.int (0 : Int32)), .unset]) rfl ?_
  show Steps p.tables e below (T1.setTop (mkF m 78 #[.val (.int p0), .val (.int p1), .val (.int (0 : Int32)), .val (.ref w_NEW), .val (.int (0 : Int32)), .val (.int (0 : Int32)), .unset] [])) _
  refine XS.iload X1.here hx rfl (hb hby at_78) rfl ?_
  show Steps p.tables e below (T1.setTop (mkF m 80 #[.val (.int p0), .val (.int p1), .val (.int (0 : Int32)), .val (.ref w_NEW), .val (.int (0 : Int32)), .val (.int (0 : Int32)), .unset] [(.int (0 : Int32))])) _
  refine XS.ifNo X1.here hx rfl (hb hby at_80) rfl ((if0 _ _).trans (teq (by decide : (0 : Int32) = (0 : Int32))).2) ?_
  show Steps p.tables e below (T1.setTop (mkF m 83 #[.val (.int p0), .val (.int p1), .val (.int (0 : Int32)), .val (.ref w_NEW), .val (.int (0 : Int32)), .val (.int (0 : Int32)), .unset] [])) _
  refine st2 _ ?_
  show Steps p.tables e below (T2.setTop (mkF m 86 #[.val (.int p0), .val (.int p1), .val (.int (0 : Int32)), .val (.ref w_NEW), .val (.int (0 : Int32)), .val (.int (0 : Int32)), .unset] [(.ref w_FINISHED)])) _
  refine XS.astore X2.here hx rfl (hb hby at_86) rfl rfl (l' := #[.val (.int p0), .val (.int p1), .val (.int (0 : Int32)), .val (.ref w_NEW), .val (.int (0 : Int32)), .val (.int (0 : Int32)), .val (.ref w_FINISHED)]) rfl ?_
  show Steps p.tables e below (T2.setTop (mkF m 88 #[.val (.int p0), .val (.int p1), .val (.int (0 : Int32)), .val (.ref w_NEW), .val (.int (0 : Int32)), .val (.int (0 : Int32)), .val (.ref w_FINISHED)] [])) _
  refine XS.goto X2.here hx rfl (pc0 := 88) (pc' := 110) rfl (hb hby at_88) (by decide) (by decide) ?_
  show Steps p.tables e below (T2.setTop (mkF m 110 #[.val (.int p0), .val (.int p1), .val (.int (0 : Int32)), .val (.ref w_NEW), .val (.int (0 : Int32)), .val (.int (0 : Int32)), .val (.ref w_FINISHED)] [])) _
  refine XS.aloadN X2.here hx rfl (hb hby at_110) rfl rfl ?_
  show Steps p.tables e below (T2.setTop (mkF m 111 #[.val (.int p0), .val (.int p1), .val (.int (0 : Int32)), .val (.ref w_NEW), .val (.int (0 : Int32)), .val (.int (0 : Int32)), .val (.ref w_FINISHED)] [(.ref w_NEW)])) _
  refine st3.trans ?_
  show Steps p.tables e below (T3.setTop (mkF m 114 #[.val (.int p0), .val (.int p1), .val (.int (0 : Int32)), .val (.ref w_NEW), .val (.int (0 : Int32)), .val (.int (0 : Int32)), .val (.ref w_FINISHED)] [(.int (0 : Int32))])) _
  refine XS.iload X3.here hx rfl (hb hby at_114) rfl ?_
  show Steps p.tables e below (T3.setTop (mkF m 116 #[.val (.int p0), .val (.int p1), .val (.int (0 : Int32)), .val (.ref w_NEW), .val (.int (0 : Int32)), .val (.int (0 : Int32)), .val (.ref w_FINISHED)] [(.int (0 : Int32)), (.int (0 : Int32))])) _
  refine XS.icmpNo X3.here hx rfl (hb hby at_116) rfl (teq (by decide : (0 : Int32) = (0 : Int32))).2 ?_
  show Steps p.tables e below (T3.setTop (mkF m 119 #[.val (.int p0), .val (.int p1), .val (.int (0 : Int32)), .val (.ref w_NEW), .val (.int (0 : Int32)), .val (.int (0 : Int32)), .val (.ref w_FINISHED)] [])) _
  refine XS.aload X3.here hx rfl (hb hby at_119) rfl rfl ?_
  show Steps p.tables e below (T3.setTop (mkF m 121 #[.val (.int p0), .val (.int p1), .val (.int (0 : Int32)), .val (.ref w_NEW), .val (.int (0 : Int32)), .val (.int (0 : Int32)), .val (.ref w_FINISHED)] [(.ref w_FINISHED)])) _
  refine st4 _ ?_
  show Steps p.tables e below (T4.setTop (mkF m 124 #[.val (.int p0), .val (.int p1), .val (.int (0 : Int32)), .val (.ref w_NEW), .val (.int (0 : Int32)), .val (.int (0 : Int32)), .val (.ref w_FINISHED)] [(.ref w_FINISHEDx)])) _
  refine st5.trans ?_
  show Steps p.tables e below (T5.setTop (mkF m 127 #[.val (.int p0), .val (.int p1), .val (.int (0 : Int32)), .val (.ref w_NEW), .val (.int (0 : Int32)), .val (.int (0 : Int32)), .val (.ref w_FINISHED)] [(.int (1 : Int32))])) _
  refine XS.ifNo X5.here hx rfl (hb hby at_127) rfl ((if0 _ _).trans (feq (by decide : ¬ ((1 : Int32) = (0 : Int32)))).1) ?_
  show Steps p.tables e below (T5.setTop (mkF m 130 #[.val (.int p0), .val (.int p1), .val (.int (0 : Int32)), .val (.ref w_NEW), .val (.int (0 : Int32)), .val (.int (0 : Int32)), .val (.ref w_FINISHED)] [])) _
  refine XS.iconst X5.here hx rfl (hb hby at_130) ?_
  show Steps p.tables e below (T5.setTop (mkF m 131 #[.val (.int p0), .val (.int p1), .val (.int (0 : Int32)), .val (.ref w_NEW), .val (.int (0 : Int32)), .val (.int (0 : Int32)), .val (.ref w_FINISHED)] [(.int (1 : Int32))])) _
  refine XS.goto X5.here hx rfl (pc0 := 131) (pc' := 135) rfl (hb hby at_131) (by decide) (by decide) ?_
  show Steps p.tables e below (T5.setTop (mkF m 135 #[.val (.int p0), .val (.int p1), .val (.int (0 : Int32)), .val (.ref w_NEW), .val (.int (0 : Int32)), .val (.int (0 : Int32)), .val (.ref w_FINISHED)] [(.int (1 : Int32))])) _
  exact retN X5 hx (t := .boolean) Bd.returns (by simp) (hb hby at_135) hr
set_option maxRecDepth 65536 in
set_option maxHeartbeats 40000000 in
theorem rm3_1 (l : Launch) (Z : State) (a0 : Array Value) (hw : ∀ d ∈ tables_1, d.before a0 Z = true) (ws : List Jvm.Cond) (w_NEW w_FINISHED w_sm w_FINISHEDx w_RUNNING w_TIMED_OUT w_FAILED w_FAILEDx w_TIMED_OUTx : Addr) (h0 : Heap) (n0 : Nat) (Z0 : n0 ≤ h0.size) (S : SF Z h0 w_NEW w_FINISHED w_sm w_FINISHEDx w_RUNNING w_TIMED_OUT w_FAILED w_FAILEDx w_TIMED_OUTx) :
    Pay l Z (⟨"java/lang/Enum", "ordinal", "()I"⟩ : MethodName) ws jdk_37_method_2_code 1 (some .int) #[(.ref w_FAILED)] h0 n0 ({ frames := 0, cells := 0, slots := 0, locals := 0 } : Room) (some (.int (1 : Int32))) := by
  obtain ⟨S_w_NEW, E_w_NEW, S_w_FINISHED, E_w_FINISHED, S_w_sm, V_w_sm, S_w_FINISHEDx, E_w_FINISHEDx, S_w_RUNNING, E_w_RUNNING, S_w_TIMED_OUT, E_w_TIMED_OUT, S_w_FAILED, E_w_FAILED, S_w_FAILEDx, E_w_FAILEDx, S_w_TIMED_OUTx, E_w_TIMED_OUTx, F_ordinal_w_FINISHED, F_ordinal_w_FINISHEDx, F_ordinal_w_NEW, F_ordinal_w_RUNNING, F_ordinal_w_TIMED_OUT, F_ordinal_w_FAILED, F_ordinal_w_FAILEDx, F_ordinal_w_TIMED_OUTx, hne_w_NEW_w_FINISHEDx, hne_w_NEW_w_RUNNING, hne_w_NEW_w_TIMED_OUT, hne_w_NEW_w_FAILEDx, hne_w_FINISHED_w_FAILED, hne_w_FINISHED_w_TIMED_OUTx, hne_w_FINISHEDx_w_RUNNING, hne_w_FINISHEDx_w_TIMED_OUT, hne_w_FINISHEDx_w_FAILEDx, hne_w_RUNNING_w_TIMED_OUT, hne_w_RUNNING_w_FAILEDx, hne_w_TIMED_OUT_w_FAILEDx, hne_w_FAILED_w_TIMED_OUTx⟩ := id S
  refine MetFree.of_bodySF (plainFor_of_name pn_1) hisR ?_
  intro p e s m args below meth c s₁ Bd hml0 hP hK
  obtain ⟨rfl, hZ, hh⟩ := hP
  have hx := Bd.exec
  have hby := Bd.bytes
  have hml : c.maxLocals = 1 := hml0
  have hown : s.vm.findClass "java/lang/Enum" = some m.cls := findClass_of_methodNamed Bd.named
  have X0 : Stand p l e ({ frames := 0, cells := 0, slots := 0, locals := 0 } : Room) s m #[(.ref w_FAILED)] below meth c s₁ [] 0 0 := Stand.of_body Bd
  have e0 : s₁.heap = h0 := by rw [← hh, Bd.state]; rfl
  have N0 := Fr.nil n0
  have pre0 : ∀ t, Steps p.tables e below (s₁.setTop (mkF m 0 #[.val (.ref w_FAILED)] [])) t → Steps p.tables e below (s₁.setTop (entryFrame m #[(.ref w_FAILED)] 1)) t := fun t k => castTop (by first | rfl | (simp [entryFrame, mkF, argsToLocals, Value.category]; done)) k
  obtain ⟨T1, X1, e1, st1⟩ := getF X0 hx hZ hown (host := "") (Or.inl (hw _ (List.mem_of_getElem? (i := 26) rfl))) Via.refl e0 F_ordinal_w_FAILED (g := (mkF m 1 #[.val (.ref w_FAILED)] [(.ref w_FAILED)])) rfl rfl (hb hby d3_1)
  obtain ⟨fs, hr, hrun, hended, hW, hsame⟩ := X1.leave (v := (some (.int (1 : Int32)))) (fun h => by rw [Bd.returns] at h; cases h)
  refine ⟨_, _, pre0 _ ?_, hrun, hended, _, _, rfl, ⟨rfl, N0, e1⟩, ⟨_, rfl⟩, hW, hsame.mono (by decide) (by decide)⟩
  show Steps p.tables e below (s₁.setTop (mkF m 0 #[.val (.ref w_FAILED)] [])) _
  refine XS.aloadN X0.here hx rfl (hb hby d3_0) rfl rfl ?_
  show Steps p.tables e below (s₁.setTop (mkF m 1 #[.val (.ref w_FAILED)] [(.ref w_FAILED)])) _
  refine st1 _ ?_
  show Steps p.tables e below (T1.setTop (mkF m 4 #[.val (.ref w_FAILED)] [(.int (1 : Int32))])) _
  exact retOut X1 hx (t := .int) (i := .ireturn) Bd.returns rfl (Or.inl ⟨rfl, Or.inl rfl, _, rfl⟩) (hb hby d3_4) hr
theorem d2_52 : decode prog_30_method_4_code 52 = .ok (.getstatic 13, 3) := by decide +kernel
theorem d2_55 : decode prog_30_method_4_code 55 = .ok (.goto 6, 3) := by decide +kernel
set_option maxRecDepth 65536 in
set_option maxHeartbeats 40000000 in
theorem rm2_1 (l : Launch) (Z : State) (a0 : Array Value) (hw : ∀ d ∈ tables_1, d.before a0 Z = true) (ws : List Jvm.Cond) (w_NEW w_FINISHED w_sm w_FINISHEDx w_RUNNING w_TIMED_OUT w_FAILED w_FAILEDx w_TIMED_OUTx : Addr) (h0 : Heap) (n0 : Nat) (Z0 : n0 ≤ h0.size) (S : SF Z h0 w_NEW w_FINISHED w_sm w_FINISHEDx w_RUNNING w_TIMED_OUT w_FAILED w_FAILEDx w_TIMED_OUTx) :
    Pay l Z (⟨"com/example/bowline/bowline/server/RunState", "of", "(Lcom/example/bowline/bowline/runtime/Status;)Lcom/example/bowline/bowline/server/RunState;"⟩ : MethodName) ws prog_30_method_4_code 1 (some (.object "com/example/bowline/bowline/server/RunState")) #[(.ref w_FAILED)] h0 n0 ({ frames := 1, cells := 0, slots := 0, locals := 13 } : Room) (some (.ref w_FAILEDx)) := by
  obtain ⟨S_w_NEW, E_w_NEW, S_w_FINISHED, E_w_FINISHED, S_w_sm, V_w_sm, S_w_FINISHEDx, E_w_FINISHEDx, S_w_RUNNING, E_w_RUNNING, S_w_TIMED_OUT, E_w_TIMED_OUT, S_w_FAILED, E_w_FAILED, S_w_FAILEDx, E_w_FAILEDx, S_w_TIMED_OUTx, E_w_TIMED_OUTx, F_ordinal_w_FINISHED, F_ordinal_w_FINISHEDx, F_ordinal_w_NEW, F_ordinal_w_RUNNING, F_ordinal_w_TIMED_OUT, F_ordinal_w_FAILED, F_ordinal_w_FAILEDx, F_ordinal_w_TIMED_OUTx, hne_w_NEW_w_FINISHEDx, hne_w_NEW_w_RUNNING, hne_w_NEW_w_TIMED_OUT, hne_w_NEW_w_FAILEDx, hne_w_FINISHED_w_FAILED, hne_w_FINISHED_w_TIMED_OUTx, hne_w_FINISHEDx_w_RUNNING, hne_w_FINISHEDx_w_TIMED_OUT, hne_w_FINISHEDx_w_FAILEDx, hne_w_RUNNING_w_TIMED_OUT, hne_w_RUNNING_w_FAILEDx, hne_w_TIMED_OUT_w_FAILEDx, hne_w_FAILED_w_TIMED_OUTx⟩ := id S
  refine MetFree.of_bodySF (plainFor_of_name pn_0) hisR ?_
  intro p e s m args below meth c s₁ Bd hml0 hP hK
  obtain ⟨rfl, hZ, hh⟩ := hP
  have hx := Bd.exec
  have hby := Bd.bytes
  have hml : c.maxLocals = 1 := hml0
  have hown : s.vm.findClass "com/example/bowline/bowline/server/RunState" = some m.cls := findClass_of_methodNamed Bd.named
  have X0 : Stand p l e ({ frames := 1, cells := 0, slots := 0, locals := 13 } : Room) s m #[(.ref w_FAILED)] below meth c s₁ [] 0 0 := Stand.of_body Bd
  have e0 : s₁.heap = h0 := by rw [← hh, Bd.state]; rfl
  have N0 := Fr.nil n0
  have pre0 : ∀ t, Steps p.tables e below (s₁.setTop (mkF m 0 #[.val (.ref w_FAILED)] [])) t → Steps p.tables e below (s₁.setTop (entryFrame m #[(.ref w_FAILED)] 1)) t := fun t k => castTop (by first | rfl | (simp [entryFrame, mkF, argsToLocals, Value.category]; done)) k
  obtain ⟨T1, X1, e1, st1⟩ := getS2 X0 hx hZ hown (host := "") (Or.inl (hw _ (List.mem_of_getElem? (i := 16) rfl))) Via.refl e0 S_w_sm (g := (mkF m 0 #[.val (.ref w_FAILED)] [])) rfl (hb hby d2_0)
  obtain ⟨cq2, kq2, q2a, q2b, q2c⟩ := isOf hZ e1 E_w_FAILED
  obtain ⟨_, _, ⟨T2, L2, k2, n2⟩, -, X2, ⟨Lc2, hQ2, l2, y2, z2⟩, st2⟩ := X1.virtualBackUp hx (x := (⟨"com/example/bowline/bowline/runtime/Status", "ordinal", "()I"⟩ : MethodName)) (y := (⟨"java/lang/Enum", "ordinal", "()I"⟩ : MethodName)) (owner := "java/lang/Enum") hown (mvT hZ (hw _ (List.mem_of_getElem? (i := 19) rfl))) (mvT hZ (hw _ (List.mem_of_getElem? (i := 20) rfl))) (mvT hZ (hw _ (List.mem_of_getElem? (i := 21) rfl))) (by decide) (mvT hZ (hw _ (List.mem_of_getElem? (i := 23) rfl))) (mvT hZ (hw _ (List.mem_of_getElem? (i := 22) rfl))) (backOf (W := 1) (rm3_1 l Z a0 hw [] w_NEW w_FINISHED w_sm w_FINISHEDx w_RUNNING w_TIMED_OUT w_FAILED w_FAILEDx w_TIMED_OUTx h0 n0 Z0 S) hZ (hw _ (List.mem_of_getElem? (i := 25) rfl)) (hw _ (List.mem_of_getElem? (i := 24) rfl)) (by decide) (by decide)) q2a q2c (g := (mkF m 4 #[.val (.ref w_FAILED)] [(.ref w_FAILED), (.ref w_sm)])) rfl (by rw [hml]; rfl) (Steps.refl _) (argsL := []) (rest := [(.ref w_sm)]) (lenOf pd_1 rfl) rfl (by show 2 * 0 + _ ≤ _; exact Nat.le_of_eq rfl) (hb hby d2_4) (fun _ _ => ⟨rfl, e1, (by decide : 0 + 0 ≤ _), (by decide : 0 + 0 ≤ _)⟩)
  dsimp only [Pt.U, Pt.locs, Pt.cells, Pt.slots] at X2 l2 y2 z2 st2 hQ2
  subst l2 y2 z2
  obtain ⟨rfl, Nq2, e2⟩ := hQ2
  have N2 := Fr.app N0 Nq2
  obtain ⟨kk3, cl3, Ar3, -, Sz3, -, H3, -⟩ := V_w_sm
  have hin3 : ¬ ((1 : Int32) < 0 ∨ cl3.slots.size ≤ ((1 : Int32)).toNatClampNeg) := inb_of Sz3 ⟨by decide, by decide⟩
  obtain ⟨T4, X4, e4, st4⟩ := getS2 X2 hx hZ hown (host := "") (Or.inl (hw _ (List.mem_of_getElem? (i := 36) rfl))) Via.refl e2 S_w_FAILEDx (g := (mkF m 52 #[.val (.ref w_FAILED)] [])) rfl (hb hby d2_52)
  obtain ⟨fs, hr, hrun, hended, hW, hsame⟩ := X4.leave (v := (some (.ref w_FAILEDx))) (fun h => by rw [Bd.returns] at h; cases h)
  refine ⟨_, _, pre0 _ ?_, hrun, hended, _, _, rfl, ⟨rfl, N2, e4⟩, ⟨_, rfl⟩, hW, hsame.mono (by decide) (by decide)⟩
  show Steps p.tables e below (s₁.setTop (mkF m 0 #[.val (.ref w_FAILED)] [])) _
  refine st1 _ ?_
  show Steps p.tables e below (T1.setTop (mkF m 3 #[.val (.ref w_FAILED)] [(.ref w_sm)])) _
  refine XS.aloadN X1.here hx rfl (hb hby d2_3) rfl rfl ?_
  show Steps p.tables e below (T1.setTop (mkF m 4 #[.val (.ref w_FAILED)] [(.ref w_FAILED), (.ref w_sm)])) _
  refine st2.trans ?_
  show Steps p.tables e below (T2.setTop (mkF m 7 #[.val (.ref w_FAILED)] [(.int (1 : Int32)), (.ref w_sm)])) _
  refine X2.iaload hx (j := (1 : Int32)) (v := .int (2 : Int32)) (by rw [e2]; exact Ar3.1) (State.isArrayOf_alike hZ.alike Ar3.2.1) Ar3.2.2 hin3 (Has.at H3 hin3 rfl) (g := (mkF m 7 #[.val (.ref w_FAILED)] [(.int (1 : Int32)), (.ref w_sm)])) rfl rfl (hb hby d2_7) _ ?_
  show Steps p.tables e below (T2.setTop (mkF m 8 #[.val (.ref w_FAILED)] [(.int (2 : Int32))])) _
  refine XS.tswIn X2.here hx rfl (pc0 := 8) (pc' := 52) rfl (hb hby d2_8) rfl (by decide) (o := 44) (by decide) (by decide) (by decide) ?_
  show Steps p.tables e below (T2.setTop (mkF m 52 #[.val (.ref w_FAILED)] [])) _
  refine st4 _ ?_
  show Steps p.tables e below (T4.setTop (mkF m 55 #[.val (.ref w_FAILED)] [(.ref w_FAILEDx)])) _
  refine XS.goto X4.here hx rfl (pc0 := 55) (pc' := 61) rfl (hb hby d2_55) (by decide) (by decide) ?_
  show Steps p.tables e below (T4.setTop (mkF m 61 #[.val (.ref w_FAILED)] [(.ref w_FAILEDx)])) _
  exact retOut X4 hx (t := (.object "com/example/bowline/bowline/server/RunState")) (i := .areturn) Bd.returns rfl (Or.inr (Or.inr (Or.inr (Or.inr ⟨rfl, rfl, rfl⟩)))) (hb hby d2_61) hr
set_option maxRecDepth 65536 in
set_option maxHeartbeats 40000000 in
theorem rm1_2 (l : Launch) (Z : State) (a0 : Array Value) (hw : ∀ d ∈ tables_1, d.before a0 Z = true) (ws : List Jvm.Cond) (w_NEW w_FINISHED w_sm w_FINISHEDx w_RUNNING w_TIMED_OUT w_FAILED w_FAILEDx w_TIMED_OUTx : Addr) (h0 : Heap) (n0 : Nat) (Z0 : n0 ≤ h0.size) (S : SF Z h0 w_NEW w_FINISHED w_sm w_FINISHEDx w_RUNNING w_TIMED_OUT w_FAILED w_FAILEDx w_TIMED_OUTx) :
    Pay l Z (⟨"com/example/bowline/bowline/server/RunState", "ended", "()Z"⟩ : MethodName) ws prog_30_method_5_code 1 (some .boolean) #[(.ref w_FAILEDx)] h0 n0 ({ frames := 0, cells := 0, slots := 0, locals := 0 } : Room) (some (.int (1 : Int32))) := by
  obtain ⟨S_w_NEW, E_w_NEW, S_w_FINISHED, E_w_FINISHED, S_w_sm, V_w_sm, S_w_FINISHEDx, E_w_FINISHEDx, S_w_RUNNING, E_w_RUNNING, S_w_TIMED_OUT, E_w_TIMED_OUT, S_w_FAILED, E_w_FAILED, S_w_FAILEDx, E_w_FAILEDx, S_w_TIMED_OUTx, E_w_TIMED_OUTx, F_ordinal_w_FINISHED, F_ordinal_w_FINISHEDx, F_ordinal_w_NEW, F_ordinal_w_RUNNING, F_ordinal_w_TIMED_OUT, F_ordinal_w_FAILED, F_ordinal_w_FAILEDx, F_ordinal_w_TIMED_OUTx, hne_w_NEW_w_FINISHEDx, hne_w_NEW_w_RUNNING, hne_w_NEW_w_TIMED_OUT, hne_w_NEW_w_FAILEDx, hne_w_FINISHED_w_FAILED, hne_w_FINISHED_w_TIMED_OUTx, hne_w_FINISHEDx_w_RUNNING, hne_w_FINISHEDx_w_TIMED_OUT, hne_w_FINISHEDx_w_FAILEDx, hne_w_RUNNING_w_TIMED_OUT, hne_w_RUNNING_w_FAILEDx, hne_w_TIMED_OUT_w_FAILEDx, hne_w_FAILED_w_TIMED_OUTx⟩ := id S
  refine MetFree.of_bodySF (plainFor_of_name pn_0) hisR ?_
  intro p e s m args below meth c s₁ Bd hml0 hP hK
  obtain ⟨rfl, hZ, hh⟩ := hP
  have hx := Bd.exec
  have hby := Bd.bytes
  have hml : c.maxLocals = 1 := hml0
  have hown : s.vm.findClass "com/example/bowline/bowline/server/RunState" = some m.cls := findClass_of_methodNamed Bd.named
  have X0 : Stand p l e ({ frames := 0, cells := 0, slots := 0, locals := 0 } : Room) s m #[(.ref w_FAILEDx)] below meth c s₁ [] 0 0 := Stand.of_body Bd
  have e0 : s₁.heap = h0 := by rw [← hh, Bd.state]; rfl
  have N0 := Fr.nil n0
  have pre0 : ∀ t, Steps p.tables e below (s₁.setTop (mkF m 0 #[.val (.ref w_FAILEDx)] [])) t → Steps p.tables e below (s₁.setTop (entryFrame m #[(.ref w_FAILEDx)] 1)) t := fun t k => castTop (by first | rfl | (simp [entryFrame, mkF, argsToLocals, Value.category]; done)) k
  obtain ⟨T1, X1, e1, st1⟩ := getS2 X0 hx hZ hown (host := "") (Or.inl (hw _ (List.mem_of_getElem? (i := 12) rfl))) Via.refl e0 S_w_NEW (g := (mkF m 1 #[.val (.ref w_FAILEDx)] [(.ref w_FAILEDx)])) rfl (hb hby d1_1)
  obtain ⟨T2, X2, e2, st2⟩ := getS2 X1 hx hZ hown (host := "") (Or.inl (hw _ (List.mem_of_getElem? (i := 30) rfl))) Via.refl e1 S_w_RUNNING (g := (mkF m 8 #[.val (.ref w_FAILEDx)] [(.ref w_FAILEDx)])) rfl (hb hby d1_8)
  obtain ⟨fs, hr, hrun, hended, hW, hsame⟩ := X2.leave (v := (some (.int (1 : Int32)))) (fun h => by rw [Bd.returns] at h; cases h)
  refine ⟨_, _, pre0 _ ?_, hrun, hended, _, _, rfl, ⟨rfl, N0, e2⟩, ⟨_, rfl⟩, hW, hsame.mono (by decide) (by decide)⟩
  show Steps p.tables e below (s₁.setTop (mkF m 0 #[.val (.ref w_FAILEDx)] [])) _
  refine XS.aloadN X0.here hx rfl (hb hby d1_0) rfl rfl ?_
  show Steps p.tables e below (s₁.setTop (mkF m 1 #[.val (.ref w_FAILEDx)] [(.ref w_FAILEDx)])) _
  refine st1 _ ?_
  show Steps p.tables e below (T1.setTop (mkF m 4 #[.val (.ref w_FAILEDx)] [(.ref w_NEW), (.ref w_FAILEDx)])) _
  refine Jvm.RoadKit.acmp (g := (mkF m 4 #[.val (.ref w_FAILEDx)] [(.ref w_NEW), (.ref w_FAILEDx)])) X1 hx rfl rfl rfl (pc0 := 4) (pc' := 7) (same := false) rfl (hb hby d1_4) rfl (decide_eq_false fun q => hne_w_NEW_w_FAILEDx (Value.ref.inj q).symm) (by decide) (by decide) ?_
  show Steps p.tables e below (T1.setTop (mkF m 7 #[.val (.ref w_FAILEDx)] [])) _
  refine XS.aloadN X1.here hx rfl (hb hby d1_7) rfl rfl ?_
  show Steps p.tables e below (T1.setTop (mkF m 8 #[.val (.ref w_FAILEDx)] [(.ref w_FAILEDx)])) _
  refine st2 _ ?_
  show Steps p.tables e below (T2.setTop (mkF m 11 #[.val (.ref w_FAILEDx)] [(.ref w_RUNNING), (.ref w_FAILEDx)])) _
  refine Jvm.RoadKit.acmp (g := (mkF m 11 #[.val (.ref w_FAILEDx)] [(.ref w_RUNNING), (.ref w_FAILEDx)])) X2 hx rfl rfl rfl (pc0 := 11) (pc' := 14) (same := false) rfl (hb hby d1_11) rfl (decide_eq_false fun q => hne_w_RUNNING_w_FAILEDx (Value.ref.inj q).symm) (by decide) (by decide) ?_
  show Steps p.tables e below (T2.setTop (mkF m 14 #[.val (.ref w_FAILEDx)] [])) _
  refine XS.iconst X2.here hx rfl (hb hby d1_14) ?_
  show Steps p.tables e below (T2.setTop (mkF m 15 #[.val (.ref w_FAILEDx)] [(.int (1 : Int32))])) _
  refine XS.goto X2.here hx rfl (pc0 := 15) (pc' := 19) rfl (hb hby d1_15) (by decide) (by decide) ?_
  show Steps p.tables e below (T2.setTop (mkF m 19 #[.val (.ref w_FAILEDx)] [(.int (1 : Int32))])) _
  exact retN X2 hx (t := .boolean) Bd.returns (by simp) (hb hby d1_19) hr
set_option maxRecDepth 65536 in
set_option maxHeartbeats 40000000 in
theorem rm0_1 (l : Launch) (Z : State) (a0 : Array Value) (hw : ∀ d ∈ tables_1, d.before a0 Z = true) (ws : List Jvm.Cond) (w_NEW w_FINISHED w_sm w_FINISHEDx w_RUNNING w_TIMED_OUT w_FAILED w_FAILEDx w_TIMED_OUTx : Addr) (h0 : Heap) (n0 : Nat) (Z0 : n0 ≤ h0.size) (S : SF Z h0 w_NEW w_FINISHED w_sm w_FINISHEDx w_RUNNING w_TIMED_OUT w_FAILED w_FAILEDx w_TIMED_OUTx) (p0 : Int32) (p1 : Int32) (hk : ((p0 &&& (2147483647 : Int32)) % (5 : Int32)) = (0 : Int32)) (hj : ((p1 &&& (2147483647 : Int32)) % (3 : Int32)) = (1 : Int32)) :
    Pay l Z x ws code maxLocals ret #[(.int p0), (.int p1)] h0 n0 room_1 (some (.int (1 : Int32))) := by
  obtain ⟨S_w_NEW, E_w_NEW, S_w_FINISHED, E_w_FINISHED, S_w_sm, V_w_sm, S_w_FINISHEDx, E_w_FINISHEDx, S_w_RUNNING, E_w_RUNNING, S_w_TIMED_OUT, E_w_TIMED_OUT, S_w_FAILED, E_w_FAILED, S_w_FAILEDx, E_w_FAILEDx, S_w_TIMED_OUTx, E_w_TIMED_OUTx, F_ordinal_w_FINISHED, F_ordinal_w_FINISHEDx, F_ordinal_w_NEW, F_ordinal_w_RUNNING, F_ordinal_w_TIMED_OUT, F_ordinal_w_FAILED, F_ordinal_w_FAILEDx, F_ordinal_w_TIMED_OUTx, hne_w_NEW_w_FINISHEDx, hne_w_NEW_w_RUNNING, hne_w_NEW_w_TIMED_OUT, hne_w_NEW_w_FAILEDx, hne_w_FINISHED_w_FAILED, hne_w_FINISHED_w_TIMED_OUTx, hne_w_FINISHEDx_w_RUNNING, hne_w_FINISHEDx_w_TIMED_OUT, hne_w_FINISHEDx_w_FAILEDx, hne_w_RUNNING_w_TIMED_OUT, hne_w_RUNNING_w_FAILEDx, hne_w_TIMED_OUT_w_FAILEDx, hne_w_FAILED_w_TIMED_OUTx⟩ := id S
  refine MetFree.of_bodySF (plainFor_of_name pn_2) hisR ?_
  intro p e s m args below meth c s₁ Bd hml0 hP hK
  obtain ⟨rfl, hZ, hh⟩ := hP
  have hx := Bd.exec
  have hby := Bd.bytes
  have hml : c.maxLocals = 7 := hml0
  have hown : s.vm.findClass "com/example/bowline/bowline/server/RunStateEndedPinLaw" = some m.cls := findClass_of_methodNamed Bd.named
  have X0 : Stand p l e room_1 s m #[(.int p0), (.int p1)] below meth c s₁ [] 0 0 := Stand.of_body Bd
  have e0 : s₁.heap = h0 := by rw [← hh, Bd.state]; rfl
  have N0 := Fr.nil n0
  have pre0 : ∀ t, Steps p.tables e below (s₁.setTop (mkF m 0 #[.val (.int p0), .val (.int p1), .unset, .unset, .unset, .unset, .unset] [])) t → Steps p.tables e below (s₁.setTop (entryFrame m #[(.int p0), (.int p1)] maxLocals)) t := fun t k => castTop (by first | rfl | (simp [entryFrame, mkF, argsToLocals, Value.category, maxLocals]; done)) k
  obtain ⟨T1, X1, e1, st1⟩ := getS2 X0 hx hZ hown (host := "") (Or.inl (hw _ (List.mem_of_getElem? (i := 1) rfl))) Via.refl e0 S_w_NEW (g := (mkF m 11 #[.val (.int p0), .val (.int p1), .val (.int (0 : Int32)), .unset, .unset, .unset, .unset] [])) rfl (hb hby at_11)
  obtain ⟨T2, X2, e2, st2⟩ := getS2 X1 hx hZ hown (host := "") (Or.inl (hw _ (List.mem_of_getElem? (i := 34) rfl))) Via.refl e1 S_w_FAILED (g := (mkF m 97 #[.val (.int p0), .val (.int p1), .val (.int (0 : Int32)), .val (.ref w_NEW), .val (.int (0 : Int32)), .val (.int (1 : Int32)), .unset] [])) rfl (hb hby at_97)
  obtain ⟨cq3, kq3, q3a, q3b, q3c⟩ := isOf hZ e2 E_w_NEW
  obtain ⟨_, _, ⟨T3, L3, k3, n3⟩, -, X3, ⟨Lc3, hQ3, l3, y3, z3⟩, st3⟩ := X2.virtualBack hx (y := (⟨"com/example/bowline/bowline/server/RunState", "ended", "()Z"⟩ : MethodName)) (z := (⟨"com/example/bowline/bowline/server/RunState", "ended", "()Z"⟩ : MethodName)) hown (mvT hZ (hw _ (List.mem_of_getElem? (i := 7) rfl))) (mvT hZ (hw _ (List.mem_of_getElem? (i := 8) rfl))) (notFace_of_selects (args := #[]) (mvT hZ (hw _ (List.mem_of_getElem? (i := 10) rfl)))) (mvT hZ (hw _ (List.mem_of_getElem? (i := 10) rfl))) (mvT hZ (hw _ (List.mem_of_getElem? (i := 9) rfl))) (by decide) (backOf (W := 0) (rm1_0 l Z a0 hw [] w_NEW w_FINISHED w_sm w_FINISHEDx w_RUNNING w_TIMED_OUT w_FAILED w_FAILEDx w_TIMED_OUTx h0 n0 Z0 S) hZ (hw _ (List.mem_of_getElem? (i := 11) rfl)) (hw _ (List.mem_of_getElem? (i := 2) rfl)) (by decide) (by decide)) q3a q3c (g := (mkF m 111 #[.val (.int p0), .val (.int p1), .val (.int (0 : Int32)), .val (.ref w_NEW), .val (.int (0 : Int32)), .val (.int (1 : Int32)), .val (.ref w_FAILED)] [(.ref w_NEW)])) rfl (by rw [hml]; rfl) (Steps.refl _) (argsL := []) (rest := []) (lenOf pd_0 rfl) rfl (by show 2 * 0 + _ ≤ _; exact Nat.le_of_eq rfl) (hb hby at_111) (fun _ _ => ⟨rfl, e2, (by decide : 0 + 0 ≤ _), (by decide : 0 + 0 ≤ _)⟩)
  dsimp only [Pt.U, Pt.locs, Pt.cells, Pt.slots] at X3 l3 y3 z3 st3 hQ3
  subst l3 y3 z3
  obtain ⟨rfl, Nq3, e3⟩ := hQ3
  have N3 := Fr.app N0 Nq3
  obtain ⟨_, _, ⟨T4, L4, k4, n4⟩, -, X4, ⟨Lc4, hQ4, l4, y4, z4⟩, st4⟩ := Jvm.LawKit.callS X3 hx (y := (⟨"com/example/bowline/bowline/server/RunState", "of", "(Lcom/example/bowline/bowline/runtime/Status;)Lcom/example/bowline/bowline/server/RunState;"⟩ : MethodName)) hown (mvT hZ (hw _ (List.mem_of_getElem? (i := 13) rfl))) (mvT hZ (hw _ (List.mem_of_getElem? (i := 14) rfl))) (mvT hZ (hw _ (List.mem_of_getElem? (i := 2) rfl))) (mvT hZ (hw _ (List.mem_of_getElem? (i := 15) rfl))) (by decide) (backOf (W := 0) (rm2_1 l Z a0 hw [] w_NEW w_FINISHED w_sm w_FINISHEDx w_RUNNING w_TIMED_OUT w_FAILED w_FAILEDx w_TIMED_OUTx h0 n0 Z0 S) hZ (hw _ (List.mem_of_getElem? (i := 15) rfl)) (hw _ (List.mem_of_getElem? (i := 2) rfl)) (by decide) (by decide)) (g := (mkF m 121 #[.val (.int p0), .val (.int p1), .val (.int (0 : Int32)), .val (.ref w_NEW), .val (.int (0 : Int32)), .val (.int (1 : Int32)), .val (.ref w_FAILED)] [(.ref w_FAILED)])) rfl (by rw [hml]; rfl) (argsL := [(.ref w_FAILED)]) (rest := []) (lenOf pd_2 rfl) rfl (by show 2 * 0 + _ ≤ _; exact Nat.le_of_eq rfl) (hb hby at_121) (fun _ _ => ⟨rfl, e3, (by decide : 0 + 0 ≤ _), (by decide : 0 + 0 ≤ _)⟩)
  dsimp only [Pt.U, Pt.locs, Pt.cells, Pt.slots] at X4 l4 y4 z4 st4 hQ4
  subst l4 y4 z4
  obtain ⟨rfl, Nq4, e4⟩ := hQ4
  have N4 := Fr.app N3 Nq4
  obtain ⟨cq5, kq5, q5a, q5b, q5c⟩ := isOf hZ e4 E_w_FAILEDx
  obtain ⟨_, _, ⟨T5, L5, k5, n5⟩, -, X5, ⟨Lc5, hQ5, l5, y5, z5⟩, st5⟩ := X4.virtualBack hx (y := (⟨"com/example/bowline/bowline/server/RunState", "ended", "()Z"⟩ : MethodName)) (z := (⟨"com/example/bowline/bowline/server/RunState", "ended", "()Z"⟩ : MethodName)) hown (mvT hZ (hw _ (List.mem_of_getElem? (i := 7) rfl))) (mvT hZ (hw _ (List.mem_of_getElem? (i := 8) rfl))) (notFace_of_selects (args := #[]) (mvT hZ (hw _ (List.mem_of_getElem? (i := 10) rfl)))) (mvT hZ (hw _ (List.mem_of_getElem? (i := 10) rfl))) (mvT hZ (hw _ (List.mem_of_getElem? (i := 9) rfl))) (by decide) (backOf (W := 0) (rm1_2 l Z a0 hw [] w_NEW w_FINISHED w_sm w_FINISHEDx w_RUNNING w_TIMED_OUT w_FAILED w_FAILEDx w_TIMED_OUTx h0 n0 Z0 S) hZ (hw _ (List.mem_of_getElem? (i := 11) rfl)) (hw _ (List.mem_of_getElem? (i := 2) rfl)) (by decide) (by decide)) q5a q5c (g := (mkF m 124 #[.val (.int p0), .val (.int p1), .val (.int (0 : Int32)), .val (.ref w_NEW), .val (.int (0 : Int32)), .val (.int (1 : Int32)), .val (.ref w_FAILED)] [(.ref w_FAILEDx)])) rfl (by rw [hml]; rfl) (Steps.refl _) (argsL := []) (rest := []) (lenOf pd_0 rfl) rfl (by show 2 * 0 + _ ≤ _; exact Nat.le_of_eq rfl) (hb hby at_124) (fun _ _ => ⟨rfl, e4, (by decide : 0 + 0 ≤ _), (by decide : 0 + 0 ≤ _)⟩)
  dsimp only [Pt.U, Pt.locs, Pt.cells, Pt.slots] at X5 l5 y5 z5 st5 hQ5
  subst l5 y5 z5
  obtain ⟨rfl, Nq5, e5⟩ := hQ5
  have N5 := Fr.app N4 Nq5
  obtain ⟨fs, hr, hrun, hended, hW, hsame⟩ := X5.leave (v := (some (.int (1 : Int32)))) (fun h => by rw [Bd.returns] at h; cases h)
  refine ⟨_, _, pre0 _ ?_, hrun, hended, _, _, rfl, ⟨rfl, N5, e5⟩, ⟨_, rfl⟩, hW, hsame.mono (by decide) (by decide)⟩
  show Steps p.tables e below (s₁.setTop (mkF m 0 #[.val (.int p0), .val (.int p1), .unset, .unset, .unset, .unset, .unset] [])) _
  refine XS.iloadN X0.here hx rfl (hb hby at_0) rfl ?_
  show Steps p.tables e below (s₁.setTop (mkF m 1 #[.val (.int p0), .val (.int p1), .unset, .unset, .unset, .unset, .unset] [(.int p0)])) _
  refine X0.ldcInt hx hown (mvT hZ (hw _ (List.mem_of_getElem? (i := 0) rfl))) (g := (mkF m 1 #[.val (.int p0), .val (.int p1), .unset, .unset, .unset, .unset, .unset] [(.int p0)])) rfl (hb hby at_1) _ ?_
  show Steps p.tables e below (s₁.setTop (mkF m 3 #[.val (.int p0), .val (.int p1), .unset, .unset, .unset, .unset, .unset] [(.int (2147483647 : Int32)), (.int p0)])) _
  refine XS.iand X0.here hx rfl (hb hby at_3) rfl ?_
  show Steps p.tables e below (s₁.setTop (mkF m 4 #[.val (.int p0), .val (.int p1), .unset, .unset, .unset, .unset, .unset] [(.int (p0 &&& (2147483647 : Int32)))])) _
  show Steps p.tables e below (s₁.setTop (mkF m 4 #[.val (.int p0), .val (.int p1), .unset, .unset, .unset, .unset, .unset] [(.int (p0 &&& (2147483647 : Int32)))])) _
  refine XS.iconst X0.here hx rfl (hb hby at_4) ?_
  show Steps p.tables e below (s₁.setTop (mkF m 5 #[.val (.int p0), .val (.int p1), .unset, .unset, .unset, .unset, .unset] [(.int (5 : Int32)), (.int (p0 &&& (2147483647 : Int32)))])) _
  refine iremM X0 hx rfl (hb hby at_5) rfl (by decide) ?_
  show Steps p.tables e below (s₁.setTop (mkF m 6 #[.val (.int p0), .val (.int p1), .unset, .unset, .unset, .unset, .unset] [(.int ((p0 &&& (2147483647 : Int32)) % (5 : Int32)))])) _
  rw [hk]
  show Steps p.tables e below (s₁.setTop (mkF m 6 #[.val (.int p0), .val (.int p1), .unset, .unset, .unset, .unset, .unset] [(.int (0 : Int32))])) _
  refine XS.istoreN X0.here hx rfl (hb hby at_6) rfl (l' := #[.val (.int p0), .val (.int p1), .val (.int (0 : Int32)), .unset, .unset, .unset, .unset]) rfl ?_
  show Steps p.tables e below (s₁.setTop (mkF m 7 #[.val (.int p0), .val (.int p1), .val (.int (0 : Int32)), .unset, .unset, .unset, .unset] [])) _
  refine XS.iloadN X0.here hx rfl (hb hby at_7) rfl ?_
  show Steps p.tables e below (s₁.setTop (mkF m 8 #[.val (.int p0), .val (.int p1), .val (.int (0 : Int32)), .unset, .unset, .unset, .unset] [(.int (0 : Int32))])) _
  refine XS.ifNo X0.here hx rfl (hb hby at_8) rfl ((if0 _ _).trans (teq (by decide : (0 : Int32) = (0 : Int32))).2) ?_
  show Steps p.tables e below (s₁.setTop (mkF m 11 #[.val (.int p0), .val (.int p1), .val (.int (0 : Int32)), .unset, .unset, .unset, .unset] [])) _
  refine st1 _ ?_
  show Steps p.tables e below (T1.setTop (mkF m 14 #[.val (.int p0), .val (.int p1), .val (.int (0 : Int32)), .unset, .unset, .unset, .unset] [(.ref w_NEW)])) _
  refine XS.astoreN X1.here hx rfl (hb hby at_14) rfl rfl (l' := #[.val (.int p0), .val (.int p1), .val (.int (0 : Int32)), .val (.ref w_NEW), .unset, .unset, .unset]) rfl ?_
  show Steps p.tables e below (T1.setTop (mkF m 15 #[.val (.int p0), .val (.int p1), .val (.int (0 : Int32)), .val (.ref w_NEW), .unset, .unset, .unset] [])) _
  refine XS.goto X1.here hx rfl (pc0 := 15) (pc' := 58) rfl (hb hby at_15) (by decide) (by decide) ?_
  show Steps p.tables e below (T1.setTop (mkF m 58 #[.val (.int p0), .val (.int p1), .val (.int (0 : Int32)), .val (.ref w_NEW), .unset, .unset, .unset] [])) _
  refine XS.iloadN X1.here hx rfl (hb hby at_58) rfl ?_
  show Steps p.tables e below (T1.setTop (mkF m 59 #[.val (.int p0), .val (.int p1), .val (.int (0 : Int32)), .val (.ref w_NEW), .unset, .unset, .unset] [(.int (0 : Int32))])) _
  refine XS.iconst X1.here hx rfl (hb hby at_59) ?_
  show Steps p.tables e below (T1.setTop (mkF m 60 #[.val (.int p0), .val (.int p1), .val (.int (0 : Int32)), .val (.ref w_NEW), .unset, .unset, .unset] [(.int (2 : Int32)), (.int (0 : Int32))])) _
  refine XS.icmpYes X1.here hx rfl (pc0 := 60) (pc' := 67) rfl (hb hby at_60) rfl (tlt (by decide : (0 : Int32) < (2 : Int32))).1 (by decide) (by decide) ?_
  show Steps p.tables e below (T1.setTop (mkF m 67 #[.val (.int p0), .val (.int p1), .val (.int (0 : Int32)), .val (.ref w_NEW), .unset, .unset, .unset] [])) _
  refine XS.iconst X1.here hx rfl (hb hby at_67) ?_
  show Steps p.tables e below (T1.setTop (mkF m 68 #[.val (.int p0), .val (.int p1), .val (.int (0 : Int32)), .val (.ref w_NEW), .unset, .unset, .unset] [(.int (0 : Int32))])) _
  refine XS.istore X1.here hx rfl (hb hby at_68) rfl (l' := #[.val (.int p0), .val (.int p1), .val (.int (0 : Int32)), .val (.ref w_NEW), .val (.int (0 : Int32)), .unset, .unset]) rfl ?_
  show Steps p.tables e below (T1.setTop (mkF m 70 #[.val (.int p0), .val (.int p1), .val (.int (0 : Int32)), .val (.ref w_NEW), .val (.int (0 : Int32)), .unset, .unset] [])) _
  refine XS.iloadN X1.here hx rfl (hb hby at_70) rfl ?_
  show Steps p.tables e below (T1.setTop (mkF m 71 #[.val (.int p0), .val (.int p1), .val (.int (0 : Int32)), .val (.ref w_NEW), .val (.int (0 : Int32)), .unset, .unset] [(.int p1)])) _
  refine X1.ldcInt hx hown (mvT hZ (hw _ (List.mem_of_getElem? (i := 0) rfl))) (g := (mkF m 71 #[.val (.int p0), .val (.int p1), .val (.int (0 : Int32)), .val (.ref w_NEW), .val (.int (0 : Int32)), .unset, .unset] [(.int p1)])) rfl (hb hby at_71) _ ?_
  show Steps p.tables e below (T1.setTop (mkF m 73 #[.val (.int p0), .val (.int p1), .val (.int (0 : Int32)), .val (.ref w_NEW), .val (.int (0 : Int32)), .unset, .unset] [(.int (2147483647 : Int32)), (.int p1)])) _
  refine XS.iand X1.here hx rfl (hb hby at_73) rfl ?_
  show Steps p.tables e below (T1.setTop (mkF m 74 #[.val (.int p0), .val (.int p1), .val (.int (0 : Int32)), .val (.ref w_NEW), .val (.int (0 : Int32)), .unset, .unset] [(.int (p1 &&& (2147483647 : Int32)))])) _
  show Steps p.tables e below (T1.setTop (mkF m 74 #[.val (.int p0), .val (.int p1), .val (.int (0 : Int32)), .val (.ref w_NEW), .val (.int (0 : Int32)), .unset, .unset] [(.int (p1 &&& (2147483647 : Int32)))])) _
  refine XS.iconst X1.here hx rfl (hb hby at_74) ?_
  show Steps p.tables e below (T1.setTop (mkF m 75 #[.val (.int p0), .val (.int p1), .val (.int (0 : Int32)), .val (.ref w_NEW), .val (.int (0 : Int32)), .unset, .unset] [(.int (3 : Int32)), (.int (p1 &&& (2147483647 : Int32)))])) _
  refine iremM X1 hx rfl (hb hby at_75) rfl (by decide) ?_
  show Steps p.tables e below (T1.setTop (mkF m 76 #[.val (.int p0), .val (.int p1), .val (.int (0 : Int32)), .val (.ref w_NEW), .val (.int (0 : Int32)), .unset, .unset] [(.int ((p1 &&& (2147483647 : Int32)) % (3 : Int32)))])) _
  rw [hj]
  show Steps p.tables e below (T1.setTop (mkF m 76 #[.val (.int p0), .val (.int p1), .val (.int (0 : Int32)), .val (.ref w_NEW), .val (.int (0 : Int32)), .unset, .unset] [(.int (1 : Int32))])) _
  refine XS.istore X1.here hx rfl (hb hby at_76) rfl (l' := #[.val (.int p0), .val (.int p1), .val (.int (0 : Int32)), .val (.ref w_NEW), .val (.int (0 : Int32)), .val (.int (1 : Int32)), .unset]) rfl ?_
  show Steps p.tables e below (T1.setTop (mkF m 78 #[.val (.int p0), .val (.int p1), .val (.int (0 : Int32)), .val (.ref w_NEW), .val (.int (0 : Int32)), .val (.int (1 : Int32)), .unset] [])) _
  refine XS.iload X1.here hx rfl (hb hby at_78) rfl ?_
  show Steps p.tables e below (T1.setTop (mkF m 80 #[.val (.int p0), .val (.int p1), .val (.int (0 : Int32)), .val (.ref w_NEW), .val (.int (0 : Int32)), .val (.int (1 : Int32)), .unset] [(.int (1 : Int32))])) _
  refine XS.ifYes X1.here hx rfl (pc0 := 80) (pc' := 91) rfl (hb hby at_80) rfl ((if0 _ _).trans (feq (by decide : ¬ ((1 : Int32) = (0 : Int32)))).2) (by decide) (by decide) ?_
  show Steps p.tables e below (T1.setTop (mkF m 91 #[.val (.int p0), .val (.int p1), .val (.int (0 : Int32)), .val (.ref w_NEW), .val (.int (0 : Int32)), .val (.int (1 : Int32)), .unset] [])) _
  refine XS.iload X1.here hx rfl (hb hby at_91) rfl ?_
  show Steps p.tables e below (T1.setTop (mkF m 93 #[.val (.int p0), .val (.int p1), .val (.int (0 : Int32)), .val (.ref w_NEW), .val (.int (0 : Int32)), .val (.int (1 : Int32)), .unset] [(.int (1 : Int32))])) _
  refine XS.iconst X1.here hx rfl (hb hby at_93) ?_
  show Steps p.tables e below (T1.setTop (mkF m 94 #[.val (.int p0), .val (.int p1), .val (.int (0 : Int32)), .val (.ref w_NEW), .val (.int (0 : Int32)), .val (.int (1 : Int32)), .unset] [(.int (1 : Int32)), (.int (1 : Int32))])) _
  refine XS.icmpNo X1.here hx rfl (hb hby at_94) rfl (teq (by decide : (1 : Int32) = (1 : Int32))).2 ?_
  show Steps p.tables e below (T1.setTop (mkF m 97 #[.val (.int p0), .val (.int p1), .val (.int (0 : Int32)), .val (.ref w_NEW), .val (.int (0 : Int32)), .val (.int (1 : Int32)), .unset] [])) _
  refine st2 _ ?_
  show Steps p.tables e below (T2.setTop (mkF m 100 #[.val (.int p0), .val (.int p1), .val (.int (0 : Int32)), .val (.ref w_NEW), .val (.int (0 : Int32)), .val (.int (1 : Int32)), .unset] [(.ref w_FAILED)])) _
  refine XS.astore X2.here hx rfl (hb hby at_100) rfl rfl (l' := #[.val (.int p0), .val (.int p1), .val (.int (0 : Int32)), .val (.ref w_NEW), .val (.int (0 : Int32)), .val (.int (1 : Int32)), .val (.ref w_FAILED)]) rfl ?_
  show Steps p.tables e below (T2.setTop (mkF m 102 #[.val (.int p0), .val (.int p1), .val (.int (0 : Int32)), .val (.ref w_NEW), .val (.int (0 : Int32)), .val (.int (1 : Int32)), .val (.ref w_FAILED)] [])) _
  refine XS.goto X2.here hx rfl (pc0 := 102) (pc' := 110) rfl (hb hby at_102) (by decide) (by decide) ?_
  show Steps p.tables e below (T2.setTop (mkF m 110 #[.val (.int p0), .val (.int p1), .val (.int (0 : Int32)), .val (.ref w_NEW), .val (.int (0 : Int32)), .val (.int (1 : Int32)), .val (.ref w_FAILED)] [])) _
  refine XS.aloadN X2.here hx rfl (hb hby at_110) rfl rfl ?_
  show Steps p.tables e below (T2.setTop (mkF m 111 #[.val (.int p0), .val (.int p1), .val (.int (0 : Int32)), .val (.ref w_NEW), .val (.int (0 : Int32)), .val (.int (1 : Int32)), .val (.ref w_FAILED)] [(.ref w_NEW)])) _
  refine st3.trans ?_
  show Steps p.tables e below (T3.setTop (mkF m 114 #[.val (.int p0), .val (.int p1), .val (.int (0 : Int32)), .val (.ref w_NEW), .val (.int (0 : Int32)), .val (.int (1 : Int32)), .val (.ref w_FAILED)] [(.int (0 : Int32))])) _
  refine XS.iload X3.here hx rfl (hb hby at_114) rfl ?_
  show Steps p.tables e below (T3.setTop (mkF m 116 #[.val (.int p0), .val (.int p1), .val (.int (0 : Int32)), .val (.ref w_NEW), .val (.int (0 : Int32)), .val (.int (1 : Int32)), .val (.ref w_FAILED)] [(.int (0 : Int32)), (.int (0 : Int32))])) _
  refine XS.icmpNo X3.here hx rfl (hb hby at_116) rfl (teq (by decide : (0 : Int32) = (0 : Int32))).2 ?_
  show Steps p.tables e below (T3.setTop (mkF m 119 #[.val (.int p0), .val (.int p1), .val (.int (0 : Int32)), .val (.ref w_NEW), .val (.int (0 : Int32)), .val (.int (1 : Int32)), .val (.ref w_FAILED)] [])) _
  refine XS.aload X3.here hx rfl (hb hby at_119) rfl rfl ?_
  show Steps p.tables e below (T3.setTop (mkF m 121 #[.val (.int p0), .val (.int p1), .val (.int (0 : Int32)), .val (.ref w_NEW), .val (.int (0 : Int32)), .val (.int (1 : Int32)), .val (.ref w_FAILED)] [(.ref w_FAILED)])) _
  refine st4 _ ?_
  show Steps p.tables e below (T4.setTop (mkF m 124 #[.val (.int p0), .val (.int p1), .val (.int (0 : Int32)), .val (.ref w_NEW), .val (.int (0 : Int32)), .val (.int (1 : Int32)), .val (.ref w_FAILED)] [(.ref w_FAILEDx)])) _
  refine st5.trans ?_
  show Steps p.tables e below (T5.setTop (mkF m 127 #[.val (.int p0), .val (.int p1), .val (.int (0 : Int32)), .val (.ref w_NEW), .val (.int (0 : Int32)), .val (.int (1 : Int32)), .val (.ref w_FAILED)] [(.int (1 : Int32))])) _
  refine XS.ifNo X5.here hx rfl (hb hby at_127) rfl ((if0 _ _).trans (feq (by decide : ¬ ((1 : Int32) = (0 : Int32)))).1) ?_
  show Steps p.tables e below (T5.setTop (mkF m 130 #[.val (.int p0), .val (.int p1), .val (.int (0 : Int32)), .val (.ref w_NEW), .val (.int (0 : Int32)), .val (.int (1 : Int32)), .val (.ref w_FAILED)] [])) _
  refine XS.iconst X5.here hx rfl (hb hby at_130) ?_
  show Steps p.tables e below (T5.setTop (mkF m 131 #[.val (.int p0), .val (.int p1), .val (.int (0 : Int32)), .val (.ref w_NEW), .val (.int (0 : Int32)), .val (.int (1 : Int32)), .val (.ref w_FAILED)] [(.int (1 : Int32))])) _
  refine XS.goto X5.here hx rfl (pc0 := 131) (pc' := 135) rfl (hb hby at_131) (by decide) (by decide) ?_
  show Steps p.tables e below (T5.setTop (mkF m 135 #[.val (.int p0), .val (.int p1), .val (.int (0 : Int32)), .val (.ref w_NEW), .val (.int (0 : Int32)), .val (.int (1 : Int32)), .val (.ref w_FAILED)] [(.int (1 : Int32))])) _
  exact retN X5 hx (t := .boolean) Bd.returns (by simp) (hb hby at_135) hr
set_option maxRecDepth 65536 in
set_option maxHeartbeats 40000000 in
theorem rm3_2 (l : Launch) (Z : State) (a0 : Array Value) (hw : ∀ d ∈ tables_1, d.before a0 Z = true) (ws : List Jvm.Cond) (w_NEW w_FINISHED w_sm w_FINISHEDx w_RUNNING w_TIMED_OUT w_FAILED w_FAILEDx w_TIMED_OUTx : Addr) (h0 : Heap) (n0 : Nat) (Z0 : n0 ≤ h0.size) (S : SF Z h0 w_NEW w_FINISHED w_sm w_FINISHEDx w_RUNNING w_TIMED_OUT w_FAILED w_FAILEDx w_TIMED_OUTx) :
    Pay l Z (⟨"java/lang/Enum", "ordinal", "()I"⟩ : MethodName) ws jdk_37_method_2_code 1 (some .int) #[(.ref w_TIMED_OUTx)] h0 n0 ({ frames := 0, cells := 0, slots := 0, locals := 0 } : Room) (some (.int (2 : Int32))) := by
  obtain ⟨S_w_NEW, E_w_NEW, S_w_FINISHED, E_w_FINISHED, S_w_sm, V_w_sm, S_w_FINISHEDx, E_w_FINISHEDx, S_w_RUNNING, E_w_RUNNING, S_w_TIMED_OUT, E_w_TIMED_OUT, S_w_FAILED, E_w_FAILED, S_w_FAILEDx, E_w_FAILEDx, S_w_TIMED_OUTx, E_w_TIMED_OUTx, F_ordinal_w_FINISHED, F_ordinal_w_FINISHEDx, F_ordinal_w_NEW, F_ordinal_w_RUNNING, F_ordinal_w_TIMED_OUT, F_ordinal_w_FAILED, F_ordinal_w_FAILEDx, F_ordinal_w_TIMED_OUTx, hne_w_NEW_w_FINISHEDx, hne_w_NEW_w_RUNNING, hne_w_NEW_w_TIMED_OUT, hne_w_NEW_w_FAILEDx, hne_w_FINISHED_w_FAILED, hne_w_FINISHED_w_TIMED_OUTx, hne_w_FINISHEDx_w_RUNNING, hne_w_FINISHEDx_w_TIMED_OUT, hne_w_FINISHEDx_w_FAILEDx, hne_w_RUNNING_w_TIMED_OUT, hne_w_RUNNING_w_FAILEDx, hne_w_TIMED_OUT_w_FAILEDx, hne_w_FAILED_w_TIMED_OUTx⟩ := id S
  refine MetFree.of_bodySF (plainFor_of_name pn_1) hisR ?_
  intro p e s m args below meth c s₁ Bd hml0 hP hK
  obtain ⟨rfl, hZ, hh⟩ := hP
  have hx := Bd.exec
  have hby := Bd.bytes
  have hml : c.maxLocals = 1 := hml0
  have hown : s.vm.findClass "java/lang/Enum" = some m.cls := findClass_of_methodNamed Bd.named
  have X0 : Stand p l e ({ frames := 0, cells := 0, slots := 0, locals := 0 } : Room) s m #[(.ref w_TIMED_OUTx)] below meth c s₁ [] 0 0 := Stand.of_body Bd
  have e0 : s₁.heap = h0 := by rw [← hh, Bd.state]; rfl
  have N0 := Fr.nil n0
  have pre0 : ∀ t, Steps p.tables e below (s₁.setTop (mkF m 0 #[.val (.ref w_TIMED_OUTx)] [])) t → Steps p.tables e below (s₁.setTop (entryFrame m #[(.ref w_TIMED_OUTx)] 1)) t := fun t k => castTop (by first | rfl | (simp [entryFrame, mkF, argsToLocals, Value.category]; done)) k
  obtain ⟨T1, X1, e1, st1⟩ := getF X0 hx hZ hown (host := "") (Or.inl (hw _ (List.mem_of_getElem? (i := 26) rfl))) Via.refl e0 F_ordinal_w_TIMED_OUTx (g := (mkF m 1 #[.val (.ref w_TIMED_OUTx)] [(.ref w_TIMED_OUTx)])) rfl rfl (hb hby d3_1)
  obtain ⟨fs, hr, hrun, hended, hW, hsame⟩ := X1.leave (v := (some (.int (2 : Int32)))) (fun h => by rw [Bd.returns] at h; cases h)
  refine ⟨_, _, pre0 _ ?_, hrun, hended, _, _, rfl, ⟨rfl, N0, e1⟩, ⟨_, rfl⟩, hW, hsame.mono (by decide) (by decide)⟩
  show Steps p.tables e below (s₁.setTop (mkF m 0 #[.val (.ref w_TIMED_OUTx)] [])) _
  refine XS.aloadN X0.here hx rfl (hb hby d3_0) rfl rfl ?_
  show Steps p.tables e below (s₁.setTop (mkF m 1 #[.val (.ref w_TIMED_OUTx)] [(.ref w_TIMED_OUTx)])) _
  refine st1 _ ?_
  show Steps p.tables e below (T1.setTop (mkF m 4 #[.val (.ref w_TIMED_OUTx)] [(.int (2 : Int32))])) _
  exact retOut X1 hx (t := .int) (i := .ireturn) Bd.returns rfl (Or.inl ⟨rfl, Or.inl rfl, _, rfl⟩) (hb hby d3_4) hr
theorem d2_58 : decode prog_30_method_4_code 58 = .ok (.getstatic 16, 3) := by decide +kernel
set_option maxRecDepth 65536 in
set_option maxHeartbeats 40000000 in
theorem rm2_2 (l : Launch) (Z : State) (a0 : Array Value) (hw : ∀ d ∈ tables_1, d.before a0 Z = true) (ws : List Jvm.Cond) (w_NEW w_FINISHED w_sm w_FINISHEDx w_RUNNING w_TIMED_OUT w_FAILED w_FAILEDx w_TIMED_OUTx : Addr) (h0 : Heap) (n0 : Nat) (Z0 : n0 ≤ h0.size) (S : SF Z h0 w_NEW w_FINISHED w_sm w_FINISHEDx w_RUNNING w_TIMED_OUT w_FAILED w_FAILEDx w_TIMED_OUTx) :
    Pay l Z (⟨"com/example/bowline/bowline/server/RunState", "of", "(Lcom/example/bowline/bowline/runtime/Status;)Lcom/example/bowline/bowline/server/RunState;"⟩ : MethodName) ws prog_30_method_4_code 1 (some (.object "com/example/bowline/bowline/server/RunState")) #[(.ref w_TIMED_OUTx)] h0 n0 ({ frames := 1, cells := 0, slots := 0, locals := 13 } : Room) (some (.ref w_TIMED_OUT)) := by
  obtain ⟨S_w_NEW, E_w_NEW, S_w_FINISHED, E_w_FINISHED, S_w_sm, V_w_sm, S_w_FINISHEDx, E_w_FINISHEDx, S_w_RUNNING, E_w_RUNNING, S_w_TIMED_OUT, E_w_TIMED_OUT, S_w_FAILED, E_w_FAILED, S_w_FAILEDx, E_w_FAILEDx, S_w_TIMED_OUTx, E_w_TIMED_OUTx, F_ordinal_w_FINISHED, F_ordinal_w_FINISHEDx, F_ordinal_w_NEW, F_ordinal_w_RUNNING, F_ordinal_w_TIMED_OUT, F_ordinal_w_FAILED, F_ordinal_w_FAILEDx, F_ordinal_w_TIMED_OUTx, hne_w_NEW_w_FINISHEDx, hne_w_NEW_w_RUNNING, hne_w_NEW_w_TIMED_OUT, hne_w_NEW_w_FAILEDx, hne_w_FINISHED_w_FAILED, hne_w_FINISHED_w_TIMED_OUTx, hne_w_FINISHEDx_w_RUNNING, hne_w_FINISHEDx_w_TIMED_OUT, hne_w_FINISHEDx_w_FAILEDx, hne_w_RUNNING_w_TIMED_OUT, hne_w_RUNNING_w_FAILEDx, hne_w_TIMED_OUT_w_FAILEDx, hne_w_FAILED_w_TIMED_OUTx⟩ := id S
  refine MetFree.of_bodySF (plainFor_of_name pn_0) hisR ?_
  intro p e s m args below meth c s₁ Bd hml0 hP hK
  obtain ⟨rfl, hZ, hh⟩ := hP
  have hx := Bd.exec
  have hby := Bd.bytes
  have hml : c.maxLocals = 1 := hml0
  have hown : s.vm.findClass "com/example/bowline/bowline/server/RunState" = some m.cls := findClass_of_methodNamed Bd.named
  have X0 : Stand p l e ({ frames := 1, cells := 0, slots := 0, locals := 13 } : Room) s m #[(.ref w_TIMED_OUTx)] below meth c s₁ [] 0 0 := Stand.of_body Bd
  have e0 : s₁.heap = h0 := by rw [← hh, Bd.state]; rfl
  have N0 := Fr.nil n0
  have pre0 : ∀ t, Steps p.tables e below (s₁.setTop (mkF m 0 #[.val (.ref w_TIMED_OUTx)] [])) t → Steps p.tables e below (s₁.setTop (entryFrame m #[(.ref w_TIMED_OUTx)] 1)) t := fun t k => castTop (by first | rfl | (simp [entryFrame, mkF, argsToLocals, Value.category]; done)) k
  obtain ⟨T1, X1, e1, st1⟩ := getS2 X0 hx hZ hown (host := "") (Or.inl (hw _ (List.mem_of_getElem? (i := 16) rfl))) Via.refl e0 S_w_sm (g := (mkF m 0 #[.val (.ref w_TIMED_OUTx)] [])) rfl (hb hby d2_0)
  obtain ⟨cq2, kq2, q2a, q2b, q2c⟩ := isOf hZ e1 E_w_TIMED_OUTx
  obtain ⟨_, _, ⟨T2, L2, k2, n2⟩, -, X2, ⟨Lc2, hQ2, l2, y2, z2⟩, st2⟩ := X1.virtualBackUp hx (x := (⟨"com/example/bowline/bowline/runtime/Status", "ordinal", "()I"⟩ : MethodName)) (y := (⟨"java/lang/Enum", "ordinal", "()I"⟩ : MethodName)) (owner := "java/lang/Enum") hown (mvT hZ (hw _ (List.mem_of_getElem? (i := 19) rfl))) (mvT hZ (hw _ (List.mem_of_getElem? (i := 20) rfl))) (mvT hZ (hw _ (List.mem_of_getElem? (i := 21) rfl))) (by decide) (mvT hZ (hw _ (List.mem_of_getElem? (i := 23) rfl))) (mvT hZ (hw _ (List.mem_of_getElem? (i := 22) rfl))) (backOf (W := 1) (rm3_2 l Z a0 hw [] w_NEW w_FINISHED w_sm w_FINISHEDx w_RUNNING w_TIMED_OUT w_FAILED w_FAILEDx w_TIMED_OUTx h0 n0 Z0 S) hZ (hw _ (List.mem_of_getElem? (i := 25) rfl)) (hw _ (List.mem_of_getElem? (i := 24) rfl)) (by decide) (by decide)) q2a q2c (g := (mkF m 4 #[.val (.ref w_TIMED_OUTx)] [(.ref w_TIMED_OUTx), (.ref w_sm)])) rfl (by rw [hml]; rfl) (Steps.refl _) (argsL := []) (rest := [(.ref w_sm)]) (lenOf pd_1 rfl) rfl (by show 2 * 0 + _ ≤ _; exact Nat.le_of_eq rfl) (hb hby d2_4) (fun _ _ => ⟨rfl, e1, (by decide : 0 + 0 ≤ _), (by decide : 0 + 0 ≤ _)⟩)
  dsimp only [Pt.U, Pt.locs, Pt.cells, Pt.slots] at X2 l2 y2 z2 st2 hQ2
  subst l2 y2 z2
  obtain ⟨rfl, Nq2, e2⟩ := hQ2
  have N2 := Fr.app N0 Nq2
  obtain ⟨kk3, cl3, Ar3, -, Sz3, -, H3, -⟩ := V_w_sm
  have hin3 : ¬ ((2 : Int32) < 0 ∨ cl3.slots.size ≤ ((2 : Int32)).toNatClampNeg) := inb_of Sz3 ⟨by decide, by decide⟩
  obtain ⟨T4, X4, e4, st4⟩ := getS2 X2 hx hZ hown (host := "") (Or.inl (hw _ (List.mem_of_getElem? (i := 41) rfl))) Via.refl e2 S_w_TIMED_OUT (g := (mkF m 58 #[.val (.ref w_TIMED_OUTx)] [])) rfl (hb hby d2_58)
  obtain ⟨fs, hr, hrun, hended, hW, hsame⟩ := X4.leave (v := (some (.ref w_TIMED_OUT))) (fun h => by rw [Bd.returns] at h; cases h)
  refine ⟨_, _, pre0 _ ?_, hrun, hended, _, _, rfl, ⟨rfl, N2, e4⟩, ⟨_, rfl⟩, hW, hsame.mono (by decide) (by decide)⟩
  show Steps p.tables e below (s₁.setTop (mkF m 0 #[.val (.ref w_TIMED_OUTx)] [])) _
  refine st1 _ ?_
  show Steps p.tables e below (T1.setTop (mkF m 3 #[.val (.ref w_TIMED_OUTx)] [(.ref w_sm)])) _
  refine XS.aloadN X1.here hx rfl (hb hby d2_3) rfl rfl ?_
  show Steps p.tables e below (T1.setTop (mkF m 4 #[.val (.ref w_TIMED_OUTx)] [(.ref w_TIMED_OUTx), (.ref w_sm)])) _
  refine st2.trans ?_
  show Steps p.tables e below (T2.setTop (mkF m 7 #[.val (.ref w_TIMED_OUTx)] [(.int (2 : Int32)), (.ref w_sm)])) _
  refine X2.iaload hx (j := (2 : Int32)) (v := .int (3 : Int32)) (by rw [e2]; exact Ar3.1) (State.isArrayOf_alike hZ.alike Ar3.2.1) Ar3.2.2 hin3 (Has.at H3 hin3 rfl) (g := (mkF m 7 #[.val (.ref w_TIMED_OUTx)] [(.int (2 : Int32)), (.ref w_sm)])) rfl rfl (hb hby d2_7) _ ?_
  show Steps p.tables e below (T2.setTop (mkF m 8 #[.val (.ref w_TIMED_OUTx)] [(.int (3 : Int32))])) _
  refine XS.tswIn X2.here hx rfl (pc0 := 8) (pc' := 58) rfl (hb hby d2_8) rfl (by decide) (o := 50) (by decide) (by decide) (by decide) ?_
  show Steps p.tables e below (T2.setTop (mkF m 58 #[.val (.ref w_TIMED_OUTx)] [])) _
  refine st4 _ ?_
  show Steps p.tables e below (T4.setTop (mkF m 61 #[.val (.ref w_TIMED_OUTx)] [(.ref w_TIMED_OUT)])) _
  exact retOut X4 hx (t := (.object "com/example/bowline/bowline/server/RunState")) (i := .areturn) Bd.returns rfl (Or.inr (Or.inr (Or.inr (Or.inr ⟨rfl, rfl, rfl⟩)))) (hb hby d2_61) hr
set_option maxRecDepth 65536 in
set_option maxHeartbeats 40000000 in
theorem rm1_3 (l : Launch) (Z : State) (a0 : Array Value) (hw : ∀ d ∈ tables_1, d.before a0 Z = true) (ws : List Jvm.Cond) (w_NEW w_FINISHED w_sm w_FINISHEDx w_RUNNING w_TIMED_OUT w_FAILED w_FAILEDx w_TIMED_OUTx : Addr) (h0 : Heap) (n0 : Nat) (Z0 : n0 ≤ h0.size) (S : SF Z h0 w_NEW w_FINISHED w_sm w_FINISHEDx w_RUNNING w_TIMED_OUT w_FAILED w_FAILEDx w_TIMED_OUTx) :
    Pay l Z (⟨"com/example/bowline/bowline/server/RunState", "ended", "()Z"⟩ : MethodName) ws prog_30_method_5_code 1 (some .boolean) #[(.ref w_TIMED_OUT)] h0 n0 ({ frames := 0, cells := 0, slots := 0, locals := 0 } : Room) (some (.int (1 : Int32))) := by
  obtain ⟨S_w_NEW, E_w_NEW, S_w_FINISHED, E_w_FINISHED, S_w_sm, V_w_sm, S_w_FINISHEDx, E_w_FINISHEDx, S_w_RUNNING, E_w_RUNNING, S_w_TIMED_OUT, E_w_TIMED_OUT, S_w_FAILED, E_w_FAILED, S_w_FAILEDx, E_w_FAILEDx, S_w_TIMED_OUTx, E_w_TIMED_OUTx, F_ordinal_w_FINISHED, F_ordinal_w_FINISHEDx, F_ordinal_w_NEW, F_ordinal_w_RUNNING, F_ordinal_w_TIMED_OUT, F_ordinal_w_FAILED, F_ordinal_w_FAILEDx, F_ordinal_w_TIMED_OUTx, hne_w_NEW_w_FINISHEDx, hne_w_NEW_w_RUNNING, hne_w_NEW_w_TIMED_OUT, hne_w_NEW_w_FAILEDx, hne_w_FINISHED_w_FAILED, hne_w_FINISHED_w_TIMED_OUTx, hne_w_FINISHEDx_w_RUNNING, hne_w_FINISHEDx_w_TIMED_OUT, hne_w_FINISHEDx_w_FAILEDx, hne_w_RUNNING_w_TIMED_OUT, hne_w_RUNNING_w_FAILEDx, hne_w_TIMED_OUT_w_FAILEDx, hne_w_FAILED_w_TIMED_OUTx⟩ := id S
  refine MetFree.of_bodySF (plainFor_of_name pn_0) hisR ?_
  intro p e s m args below meth c s₁ Bd hml0 hP hK
  obtain ⟨rfl, hZ, hh⟩ := hP
  have hx := Bd.exec
  have hby := Bd.bytes
  have hml : c.maxLocals = 1 := hml0
  have hown : s.vm.findClass "com/example/bowline/bowline/server/RunState" = some m.cls := findClass_of_methodNamed Bd.named
  have X0 : Stand p l e ({ frames := 0, cells := 0, slots := 0, locals := 0 } : Room) s m #[(.ref w_TIMED_OUT)] below meth c s₁ [] 0 0 := Stand.of_body Bd
  have e0 : s₁.heap = h0 := by rw [← hh, Bd.state]; rfl
  have N0 := Fr.nil n0
  have pre0 : ∀ t, Steps p.tables e below (s₁.setTop (mkF m 0 #[.val (.ref w_TIMED_OUT)] [])) t → Steps p.tables e below (s₁.setTop (entryFrame m #[(.ref w_TIMED_OUT)] 1)) t := fun t k => castTop (by first | rfl | (simp [entryFrame, mkF, argsToLocals, Value.category]; done)) k
  obtain ⟨T1, X1, e1, st1⟩ := getS2 X0 hx hZ hown (host := "") (Or.inl (hw _ (List.mem_of_getElem? (i := 12) rfl))) Via.refl e0 S_w_NEW (g := (mkF m 1 #[.val (.ref w_TIMED_OUT)] [(.ref w_TIMED_OUT)])) rfl (hb hby d1_1)
  obtain ⟨T2, X2, e2, st2⟩ := getS2 X1 hx hZ hown (host := "") (Or.inl (hw _ (List.mem_of_getElem? (i := 30) rfl))) Via.refl e1 S_w_RUNNING (g := (mkF m 8 #[.val (.ref w_TIMED_OUT)] [(.ref w_TIMED_OUT)])) rfl (hb hby d1_8)
  obtain ⟨fs, hr, hrun, hended, hW, hsame⟩ := X2.leave (v := (some (.int (1 : Int32)))) (fun h => by rw [Bd.returns] at h; cases h)
  refine ⟨_, _, pre0 _ ?_, hrun, hended, _, _, rfl, ⟨rfl, N0, e2⟩, ⟨_, rfl⟩, hW, hsame.mono (by decide) (by decide)⟩
  show Steps p.tables e below (s₁.setTop (mkF m 0 #[.val (.ref w_TIMED_OUT)] [])) _
  refine XS.aloadN X0.here hx rfl (hb hby d1_0) rfl rfl ?_
  show Steps p.tables e below (s₁.setTop (mkF m 1 #[.val (.ref w_TIMED_OUT)] [(.ref w_TIMED_OUT)])) _
  refine st1 _ ?_
  show Steps p.tables e below (T1.setTop (mkF m 4 #[.val (.ref w_TIMED_OUT)] [(.ref w_NEW), (.ref w_TIMED_OUT)])) _
  refine Jvm.RoadKit.acmp (g := (mkF m 4 #[.val (.ref w_TIMED_OUT)] [(.ref w_NEW), (.ref w_TIMED_OUT)])) X1 hx rfl rfl rfl (pc0 := 4) (pc' := 7) (same := false) rfl (hb hby d1_4) rfl (decide_eq_false fun q => hne_w_NEW_w_TIMED_OUT (Value.ref.inj q).symm) (by decide) (by decide) ?_
  show Steps p.tables e below (T1.setTop (mkF m 7 #[.val (.ref w_TIMED_OUT)] [])) _
  refine XS.aloadN X1.here hx rfl (hb hby d1_7) rfl rfl ?_
  show Steps p.tables e below (T1.setTop (mkF m 8 #[.val (.ref w_TIMED_OUT)] [(.ref w_TIMED_OUT)])) _
  refine st2 _ ?_
  show Steps p.tables e below (T2.setTop (mkF m 11 #[.val (.ref w_TIMED_OUT)] [(.ref w_RUNNING), (.ref w_TIMED_OUT)])) _
  refine Jvm.RoadKit.acmp (g := (mkF m 11 #[.val (.ref w_TIMED_OUT)] [(.ref w_RUNNING), (.ref w_TIMED_OUT)])) X2 hx rfl rfl rfl (pc0 := 11) (pc' := 14) (same := false) rfl (hb hby d1_11) rfl (decide_eq_false fun q => hne_w_RUNNING_w_TIMED_OUT (Value.ref.inj q).symm) (by decide) (by decide) ?_
  show Steps p.tables e below (T2.setTop (mkF m 14 #[.val (.ref w_TIMED_OUT)] [])) _
  refine XS.iconst X2.here hx rfl (hb hby d1_14) ?_
  show Steps p.tables e below (T2.setTop (mkF m 15 #[.val (.ref w_TIMED_OUT)] [(.int (1 : Int32))])) _
  refine XS.goto X2.here hx rfl (pc0 := 15) (pc' := 19) rfl (hb hby d1_15) (by decide) (by decide) ?_
  show Steps p.tables e below (T2.setTop (mkF m 19 #[.val (.ref w_TIMED_OUT)] [(.int (1 : Int32))])) _
  exact retN X2 hx (t := .boolean) Bd.returns (by simp) (hb hby d1_19) hr
set_option maxRecDepth 65536 in
set_option maxHeartbeats 40000000 in
theorem rm0_2 (l : Launch) (Z : State) (a0 : Array Value) (hw : ∀ d ∈ tables_1, d.before a0 Z = true) (ws : List Jvm.Cond) (w_NEW w_FINISHED w_sm w_FINISHEDx w_RUNNING w_TIMED_OUT w_FAILED w_FAILEDx w_TIMED_OUTx : Addr) (h0 : Heap) (n0 : Nat) (Z0 : n0 ≤ h0.size) (S : SF Z h0 w_NEW w_FINISHED w_sm w_FINISHEDx w_RUNNING w_TIMED_OUT w_FAILED w_FAILEDx w_TIMED_OUTx) (p0 : Int32) (p1 : Int32) (hk : ((p0 &&& (2147483647 : Int32)) % (5 : Int32)) = (0 : Int32)) (hj : ((p1 &&& (2147483647 : Int32)) % (3 : Int32)) = (2 : Int32)) :
    Pay l Z x ws code maxLocals ret #[(.int p0), (.int p1)] h0 n0 room_1 (some (.int (1 : Int32))) := by
  obtain ⟨S_w_NEW, E_w_NEW, S_w_FINISHED, E_w_FINISHED, S_w_sm, V_w_sm, S_w_FINISHEDx, E_w_FINISHEDx, S_w_RUNNING, E_w_RUNNING, S_w_TIMED_OUT, E_w_TIMED_OUT, S_w_FAILED, E_w_FAILED, S_w_FAILEDx, E_w_FAILEDx, S_w_TIMED_OUTx, E_w_TIMED_OUTx, F_ordinal_w_FINISHED, F_ordinal_w_FINISHEDx, F_ordinal_w_NEW, F_ordinal_w_RUNNING, F_ordinal_w_TIMED_OUT, F_ordinal_w_FAILED, F_ordinal_w_FAILEDx, F_ordinal_w_TIMED_OUTx, hne_w_NEW_w_FINISHEDx, hne_w_NEW_w_RUNNING, hne_w_NEW_w_TIMED_OUT, hne_w_NEW_w_FAILEDx, hne_w_FINISHED_w_FAILED, hne_w_FINISHED_w_TIMED_OUTx, hne_w_FINISHEDx_w_RUNNING, hne_w_FINISHEDx_w_TIMED_OUT, hne_w_FINISHEDx_w_FAILEDx, hne_w_RUNNING_w_TIMED_OUT, hne_w_RUNNING_w_FAILEDx, hne_w_TIMED_OUT_w_FAILEDx, hne_w_FAILED_w_TIMED_OUTx⟩ := id S
  refine MetFree.of_bodySF (plainFor_of_name pn_2) hisR ?_
  intro p e s m args below meth c s₁ Bd hml0 hP hK
  obtain ⟨rfl, hZ, hh⟩ := hP
  have hx := Bd.exec
  have hby := Bd.bytes
  have hml : c.maxLocals = 7 := hml0
  have hown : s.vm.findClass "com/example/bowline/bowline/server/RunStateEndedPinLaw" = some m.cls := findClass_of_methodNamed Bd.named
  have X0 : Stand p l e room_1 s m #[(.int p0), (.int p1)] below meth c s₁ [] 0 0 := Stand.of_body Bd
  have e0 : s₁.heap = h0 := by rw [← hh, Bd.state]; rfl
  have N0 := Fr.nil n0
  have pre0 : ∀ t, Steps p.tables e below (s₁.setTop (mkF m 0 #[.val (.int p0), .val (.int p1), .unset, .unset, .unset, .unset, .unset] [])) t → Steps p.tables e below (s₁.setTop (entryFrame m #[(.int p0), (.int p1)] maxLocals)) t := fun t k => castTop (by first | rfl | (simp [entryFrame, mkF, argsToLocals, Value.category, maxLocals]; done)) k
  obtain ⟨T1, X1, e1, st1⟩ := getS2 X0 hx hZ hown (host := "") (Or.inl (hw _ (List.mem_of_getElem? (i := 1) rfl))) Via.refl e0 S_w_NEW (g := (mkF m 11 #[.val (.int p0), .val (.int p1), .val (.int (0 : Int32)), .unset, .unset, .unset, .unset] [])) rfl (hb hby at_11)
  obtain ⟨T2, X2, e2, st2⟩ := getS2 X1 hx hZ hown (host := "") (Or.inl (hw _ (List.mem_of_getElem? (i := 39) rfl))) Via.refl e1 S_w_TIMED_OUTx (g := (mkF m 105 #[.val (.int p0), .val (.int p1), .val (.int (0 : Int32)), .val (.ref w_NEW), .val (.int (0 : Int32)), .val (.int (2 : Int32)), .unset] [])) rfl (hb hby at_105)
  obtain ⟨cq3, kq3, q3a, q3b, q3c⟩ := isOf hZ e2 E_w_NEW
  obtain ⟨_, _, ⟨T3, L3, k3, n3⟩, -, X3, ⟨Lc3, hQ3, l3, y3, z3⟩, st3⟩ := X2.virtualBack hx (y := (⟨"com/example/bowline/bowline/server/RunState", "ended", "()Z"⟩ : MethodName)) (z := (⟨"com/example/bowline/bowline/server/RunState", "ended", "()Z"⟩ : MethodName)) hown (mvT hZ (hw _ (List.mem_of_getElem? (i := 7) rfl))) (mvT hZ (hw _ (List.mem_of_getElem? (i := 8) rfl))) (notFace_of_selects (args := #[]) (mvT hZ (hw _ (List.mem_of_getElem? (i := 10) rfl)))) (mvT hZ (hw _ (List.mem_of_getElem? (i := 10) rfl))) (mvT hZ (hw _ (List.mem_of_getElem? (i := 9) rfl))) (by decide) (backOf (W := 0) (rm1_0 l Z a0 hw [] w_NEW w_FINISHED w_sm w_FINISHEDx w_RUNNING w_TIMED_OUT w_FAILED w_FAILEDx w_TIMED_OUTx h0 n0 Z0 S) hZ (hw _ (List.mem_of_getElem? (i := 11) rfl)) (hw _ (List.mem_of_getElem? (i := 2) rfl)) (by decide) (by decide)) q3a q3c (g := (mkF m 111 #[.val (.int p0), .val (.int p1), .val (.int (0 : Int32)), .val (.ref w_NEW), .val (.int (0 : Int32)), .val (.int (2 : Int32)), .val (.ref w_TIMED_OUTx)] [(.ref w_NEW)])) rfl (by rw [hml]; rfl) (Steps.refl _) (argsL := []) (rest := []) (lenOf pd_0 rfl) rfl (by show 2 * 0 + _ ≤ _; exact Nat.le_of_eq rfl) (hb hby at_111) (fun _ _ => ⟨rfl, e2, (by decide : 0 + 0 ≤ _), (by decide : 0 + 0 ≤ _)⟩)
  dsimp only [Pt.U, Pt.locs, Pt.cells, Pt.slots] at X3 l3 y3 z3 st3 hQ3
  subst l3 y3 z3
  obtain ⟨rfl, Nq3, e3⟩ := hQ3
  have N3 := Fr.app N0 Nq3
  obtain ⟨_, _, ⟨T4, L4, k4, n4⟩, -, X4, ⟨Lc4, hQ4, l4, y4, z4⟩, st4⟩ := Jvm.LawKit.callS X3 hx (y := (⟨"com/example/bowline/bowline/server/RunState", "of", "(Lcom/example/bowline/bowline/runtime/Status;)Lcom/example/bowline/bowline/server/RunState;"⟩ : MethodName)) hown (mvT hZ (hw _ (List.mem_of_getElem? (i := 13) rfl))) (mvT hZ (hw _ (List.mem_of_getElem? (i := 14) rfl))) (mvT hZ (hw _ (List.mem_of_getElem? (i := 2) rfl))) (mvT hZ (hw _ (List.mem_of_getElem? (i := 15) rfl))) (by decide) (backOf (W := 0) (rm2_2 l Z a0 hw [] w_NEW w_FINISHED w_sm w_FINISHEDx w_RUNNING w_TIMED_OUT w_FAILED w_FAILEDx w_TIMED_OUTx h0 n0 Z0 S) hZ (hw _ (List.mem_of_getElem? (i := 15) rfl)) (hw _ (List.mem_of_getElem? (i := 2) rfl)) (by decide) (by decide)) (g := (mkF m 121 #[.val (.int p0), .val (.int p1), .val (.int (0 : Int32)), .val (.ref w_NEW), .val (.int (0 : Int32)), .val (.int (2 : Int32)), .val (.ref w_TIMED_OUTx)] [(.ref w_TIMED_OUTx)])) rfl (by rw [hml]; rfl) (argsL := [(.ref w_TIMED_OUTx)]) (rest := []) (lenOf pd_2 rfl) rfl (by show 2 * 0 + _ ≤ _; exact Nat.le_of_eq rfl) (hb hby at_121) (fun _ _ => ⟨rfl, e3, (by decide : 0 + 0 ≤ _), (by decide : 0 + 0 ≤ _)⟩)
  dsimp only [Pt.U, Pt.locs, Pt.cells, Pt.slots] at X4 l4 y4 z4 st4 hQ4
  subst l4 y4 z4
  obtain ⟨rfl, Nq4, e4⟩ := hQ4
  have N4 := Fr.app N3 Nq4
  obtain ⟨cq5, kq5, q5a, q5b, q5c⟩ := isOf hZ e4 E_w_TIMED_OUT
  obtain ⟨_, _, ⟨T5, L5, k5, n5⟩, -, X5, ⟨Lc5, hQ5, l5, y5, z5⟩, st5⟩ := X4.virtualBack hx (y := (⟨"com/example/bowline/bowline/server/RunState", "ended", "()Z"⟩ : MethodName)) (z := (⟨"com/example/bowline/bowline/server/RunState", "ended", "()Z"⟩ : MethodName)) hown (mvT hZ (hw _ (List.mem_of_getElem? (i := 7) rfl))) (mvT hZ (hw _ (List.mem_of_getElem? (i := 8) rfl))) (notFace_of_selects (args := #[]) (mvT hZ (hw _ (List.mem_of_getElem? (i := 10) rfl)))) (mvT hZ (hw _ (List.mem_of_getElem? (i := 10) rfl))) (mvT hZ (hw _ (List.mem_of_getElem? (i := 9) rfl))) (by decide) (backOf (W := 0) (rm1_3 l Z a0 hw [] w_NEW w_FINISHED w_sm w_FINISHEDx w_RUNNING w_TIMED_OUT w_FAILED w_FAILEDx w_TIMED_OUTx h0 n0 Z0 S) hZ (hw _ (List.mem_of_getElem? (i := 11) rfl)) (hw _ (List.mem_of_getElem? (i := 2) rfl)) (by decide) (by decide)) q5a q5c (g := (mkF m 124 #[.val (.int p0), .val (.int p1), .val (.int (0 : Int32)), .val (.ref w_NEW), .val (.int (0 : Int32)), .val (.int (2 : Int32)), .val (.ref w_TIMED_OUTx)] [(.ref w_TIMED_OUT)])) rfl (by rw [hml]; rfl) (Steps.refl _) (argsL := []) (rest := []) (lenOf pd_0 rfl) rfl (by show 2 * 0 + _ ≤ _; exact Nat.le_of_eq rfl) (hb hby at_124) (fun _ _ => ⟨rfl, e4, (by decide : 0 + 0 ≤ _), (by decide : 0 + 0 ≤ _)⟩)
  dsimp only [Pt.U, Pt.locs, Pt.cells, Pt.slots] at X5 l5 y5 z5 st5 hQ5
  subst l5 y5 z5
  obtain ⟨rfl, Nq5, e5⟩ := hQ5
  have N5 := Fr.app N4 Nq5
  obtain ⟨fs, hr, hrun, hended, hW, hsame⟩ := X5.leave (v := (some (.int (1 : Int32)))) (fun h => by rw [Bd.returns] at h; cases h)
  refine ⟨_, _, pre0 _ ?_, hrun, hended, _, _, rfl, ⟨rfl, N5, e5⟩, ⟨_, rfl⟩, hW, hsame.mono (by decide) (by decide)⟩
  show Steps p.tables e below (s₁.setTop (mkF m 0 #[.val (.int p0), .val (.int p1), .unset, .unset, .unset, .unset, .unset] [])) _
  refine XS.iloadN X0.here hx rfl (hb hby at_0) rfl ?_
  show Steps p.tables e below (s₁.setTop (mkF m 1 #[.val (.int p0), .val (.int p1), .unset, .unset, .unset, .unset, .unset] [(.int p0)])) _
  refine X0.ldcInt hx hown (mvT hZ (hw _ (List.mem_of_getElem? (i := 0) rfl))) (g := (mkF m 1 #[.val (.int p0), .val (.int p1), .unset, .unset, .unset, .unset, .unset] [(.int p0)])) rfl (hb hby at_1) _ ?_
  show Steps p.tables e below (s₁.setTop (mkF m 3 #[.val (.int p0), .val (.int p1), .unset, .unset, .unset, .unset, .unset] [(.int (2147483647 : Int32)), (.int p0)])) _
  refine XS.iand X0.here hx rfl (hb hby at_3) rfl ?_
  show Steps p.tables e below (s₁.setTop (mkF m 4 #[.val (.int p0), .val (.int p1), .unset, .unset, .unset, .unset, .unset] [(.int (p0 &&& (2147483647 : Int32)))])) _
  show Steps p.tables e below (s₁.setTop (mkF m 4 #[.val (.int p0), .val (.int p1), .unset, .unset, .unset, .unset, .unset] [(.int (p0 &&& (2147483647 : Int32)))])) _
  refine XS.iconst X0.here hx rfl (hb hby at_4) ?_
  show Steps p.tables e below (s₁.setTop (mkF m 5 #[.val (.int p0), .val (.int p1), .unset, .unset, .unset, .unset, .unset] [(.int (5 : Int32)), (.int (p0 &&& (2147483647 : Int32)))])) _
  refine iremM X0 hx rfl (hb hby at_5) rfl (by decide) ?_
  show Steps p.tables e below (s₁.setTop (mkF m 6 #[.val (.int p0), .val (.int p1), .unset, .unset, .unset, .unset, .unset] [(.int ((p0 &&& (2147483647 : Int32)) % (5 : Int32)))])) _
  rw [hk]
  show Steps p.tables e below (s₁.setTop (mkF m 6 #[.val (.int p0), .val (.int p1), .unset, .unset, .unset, .unset, .unset] [(.int (0 : Int32))])) _
  refine XS.istoreN X0.here hx rfl (hb hby at_6) rfl (l' := #[.val (.int p0), .val (.int p1), .val (.int (0 : Int32)), .unset, .unset, .unset, .unset]) rfl ?_
  show Steps p.tables e below (s₁.setTop (mkF m 7 #[.val (.int p0), .val (.int p1), .val (.int (0 : Int32)), .unset, .unset, .unset, .unset] [])) _
  refine XS.iloadN X0.here hx rfl (hb hby at_7) rfl ?_
  show Steps p.tables e below (s₁.setTop (mkF m 8 #[.val (.int p0), .val (.int p1), .val (.int (0 : Int32)), .unset, .unset, .unset, .unset] [(.int (0 : Int32))])) _
  refine XS.ifNo X0.here hx rfl (hb hby at_8) rfl ((if0 _ _).trans (teq (by decide : (0 : Int32) = (0 : Int32))).2) ?_
  show Steps p.tables e below (s₁.setTop (mkF m 11 #[.val (.int p0), .val (.int p1), .val (.int (0 : Int32)), .unset, .unset, .unset, .unset] [])) _
  refine st1 _ ?_
  show Steps p.tables e below (T1.setTop (mkF m 14 #[.val (.int p0), .val (.int p1), .val (.int (0 : Int32)), .unset, .unset, .unset, .unset] [(.ref w_NEW)])) _
  refine XS.astoreN X1.here hx rfl (hb hby at_14) rfl rfl (l' := #[.val (.int p0), .val (.int p1), .val (.int (0 : Int32)), .val (.ref w_NEW), .unset, .unset, .unset]) rfl ?_
  show Steps p.tables e below (T1.setTop (mkF m 15 #[.val (.int p0), .val (.int p1), .val (.int (0 : Int32)), .val (.ref w_NEW), .unset, .unset, .unset] [])) _
  refine XS.goto X1.here hx rfl (pc0 := 15) (pc' := 58) rfl (hb hby at_15) (by decide) (by decide) ?_
  show Steps p.tables e below (T1.setTop (mkF m 58 #[.val (.int p0), .val (.int p1), .val (.int (0 : Int32)), .val (.ref w_NEW), .unset, .unset, .unset] [])) _
  refine XS.iloadN X1.here hx rfl (hb hby at_58) rfl ?_
  show Steps p.tables e below (T1.setTop (mkF m 59 #[.val (.int p0), .val (.int p1), .val (.int (0 : Int32)), .val (.ref w_NEW), .unset, .unset, .unset] [(.int (0 : Int32))])) _
  refine XS.iconst X1.here hx rfl (hb hby at_59) ?_
  show Steps p.tables e below (T1.setTop (mkF m 60 #[.val (.int p0), .val (.int p1), .val (.int (0 : Int32)), .val (.ref w_NEW), .unset, .unset, .unset] [(.int (2 : Int32)), (.int (0 : Int32))])) _
  refine XS.icmpYes X1.here hx rfl (pc0 := 60) (pc' := 67) rfl (hb hby at_60) rfl (tlt (by decide : (0 : Int32) < (2 : Int32))).1 (by decide) (by decide) ?_
  show Steps p.tables e below (T1.setTop (mkF m 67 #[.val (.int p0), .val (.int p1), .val (.int (0 : Int32)), .val (.ref w_NEW), .unset, .unset, .unset] [])) _
  refine XS.iconst X1.here hx rfl (hb hby at_67) ?_
  show Steps p.tables e below (T1.setTop (mkF m 68 #[.val (.int p0), .val (.int p1), .val (.int (0 : Int32)), .val (.ref w_NEW), .unset, .unset, .unset] [(.int (0 : Int32))])) _
  refine XS.istore X1.here hx rfl (hb hby at_68) rfl (l' := #[.val (.int p0), .val (.int p1), .val (.int (0 : Int32)), .val (.ref w_NEW), .val (.int (0 : Int32)), .unset, .unset]) rfl ?_
  show Steps p.tables e below (T1.setTop (mkF m 70 #[.val (.int p0), .val (.int p1), .val (.int (0 : Int32)), .val (.ref w_NEW), .val (.int (0 : Int32)), .unset, .unset] [])) _
  refine XS.iloadN X1.here hx rfl (hb hby at_70) rfl ?_
  show Steps p.tables e below (T1.setTop (mkF m 71 #[.val (.int p0), .val (.int p1), .val (.int (0 : Int32)), .val (.ref w_NEW), .val (.int (0 : Int32)), .unset, .unset] [(.int p1)])) _
  refine X1.ldcInt hx hown (mvT hZ (hw _ (List.mem_of_getElem? (i := 0) rfl))) (g := (mkF m 71 #[.val (.int p0), .val (.int p1), .val (.int (0 : Int32)), .val (.ref w_NEW), .val (.int (0 : Int32)), .unset, .unset] [(.int p1)])) rfl (hb hby at_71) _ ?_
  show Steps p.tables e below (T1.setTop (mkF m 73 #[.val (.int p0), .val (.int p1), .val (.int (0 : Int32)), .val (.ref w_NEW), .val (.int (0 : Int32)), .unset, .unset] [(.int (2147483647 : Int32)), (.int p1)])) _
  refine XS.iand X1.here hx rfl (hb hby at_73) rfl ?_
  show Steps p.tables e below (T1.setTop (mkF m 74 #[.val (.int p0), .val (.int p1), .val (.int (0 : Int32)), .val (.ref w_NEW), .val (.int (0 : Int32)), .unset, .unset] [(.int (p1 &&& (2147483647 : Int32)))])) _
  show Steps p.tables e below (T1.setTop (mkF m 74 #[.val (.int p0), .val (.int p1), .val (.int (0 : Int32)), .val (.ref w_NEW), .val (.int (0 : Int32)), .unset, .unset] [(.int (p1 &&& (2147483647 : Int32)))])) _
  refine XS.iconst X1.here hx rfl (hb hby at_74) ?_
  show Steps p.tables e below (T1.setTop (mkF m 75 #[.val (.int p0), .val (.int p1), .val (.int (0 : Int32)), .val (.ref w_NEW), .val (.int (0 : Int32)), .unset, .unset] [(.int (3 : Int32)), (.int (p1 &&& (2147483647 : Int32)))])) _
  refine iremM X1 hx rfl (hb hby at_75) rfl (by decide) ?_
  show Steps p.tables e below (T1.setTop (mkF m 76 #[.val (.int p0), .val (.int p1), .val (.int (0 : Int32)), .val (.ref w_NEW), .val (.int (0 : Int32)), .unset, .unset] [(.int ((p1 &&& (2147483647 : Int32)) % (3 : Int32)))])) _
  rw [hj]
  show Steps p.tables e below (T1.setTop (mkF m 76 #[.val (.int p0), .val (.int p1), .val (.int (0 : Int32)), .val (.ref w_NEW), .val (.int (0 : Int32)), .unset, .unset] [(.int (2 : Int32))])) _
  refine XS.istore X1.here hx rfl (hb hby at_76) rfl (l' := #[.val (.int p0), .val (.int p1), .val (.int (0 : Int32)), .val (.ref w_NEW), .val (.int (0 : Int32)), .val (.int (2 : Int32)), .unset]) rfl ?_
  show Steps p.tables e below (T1.setTop (mkF m 78 #[.val (.int p0), .val (.int p1), .val (.int (0 : Int32)), .val (.ref w_NEW), .val (.int (0 : Int32)), .val (.int (2 : Int32)), .unset] [])) _
  refine XS.iload X1.here hx rfl (hb hby at_78) rfl ?_
  show Steps p.tables e below (T1.setTop (mkF m 80 #[.val (.int p0), .val (.int p1), .val (.int (0 : Int32)), .val (.ref w_NEW), .val (.int (0 : Int32)), .val (.int (2 : Int32)), .unset] [(.int (2 : Int32))])) _
  refine XS.ifYes X1.here hx rfl (pc0 := 80) (pc' := 91) rfl (hb hby at_80) rfl ((if0 _ _).trans (feq (by decide : ¬ ((2 : Int32) = (0 : Int32)))).2) (by decide) (by decide) ?_
  show Steps p.tables e below (T1.setTop (mkF m 91 #[.val (.int p0), .val (.int p1), .val (.int (0 : Int32)), .val (.ref w_NEW), .val (.int (0 : Int32)), .val (.int (2 : Int32)), .unset] [])) _
  refine XS.iload X1.here hx rfl (hb hby at_91) rfl ?_
  show Steps p.tables e below (T1.setTop (mkF m 93 #[.val (.int p0), .val (.int p1), .val (.int (0 : Int32)), .val (.ref w_NEW), .val (.int (0 : Int32)), .val (.int (2 : Int32)), .unset] [(.int (2 : Int32))])) _
  refine XS.iconst X1.here hx rfl (hb hby at_93) ?_
  show Steps p.tables e below (T1.setTop (mkF m 94 #[.val (.int p0), .val (.int p1), .val (.int (0 : Int32)), .val (.ref w_NEW), .val (.int (0 : Int32)), .val (.int (2 : Int32)), .unset] [(.int (1 : Int32)), (.int (2 : Int32))])) _
  refine XS.icmpYes X1.here hx rfl (pc0 := 94) (pc' := 105) rfl (hb hby at_94) rfl (feq (by decide : ¬ ((2 : Int32) = (1 : Int32)))).2 (by decide) (by decide) ?_
  show Steps p.tables e below (T1.setTop (mkF m 105 #[.val (.int p0), .val (.int p1), .val (.int (0 : Int32)), .val (.ref w_NEW), .val (.int (0 : Int32)), .val (.int (2 : Int32)), .unset] [])) _
  refine st2 _ ?_
  show Steps p.tables e below (T2.setTop (mkF m 108 #[.val (.int p0), .val (.int p1), .val (.int (0 : Int32)), .val (.ref w_NEW), .val (.int (0 : Int32)), .val (.int (2 : Int32)), .unset] [(.ref w_TIMED_OUTx)])) _
  refine XS.astore X2.here hx rfl (hb hby at_108) rfl rfl (l' := #[.val (.int p0), .val (.int p1), .val (.int (0 : Int32)), .val (.ref w_NEW), .val (.int (0 : Int32)), .val (.int (2 : Int32)), .val (.ref w_TIMED_OUTx)]) rfl ?_
  show Steps p.tables e below (T2.setTop (mkF m 110 #[.val (.int p0), .val (.int p1), .val (.int (0 : Int32)), .val (.ref w_NEW), .val (.int (0 : Int32)), .val (.int (2 : Int32)), .val (.ref w_TIMED_OUTx)] [])) _
  refine XS.aloadN X2.here hx rfl (hb hby at_110) rfl rfl ?_
  show Steps p.tables e below (T2.setTop (mkF m 111 #[.val (.int p0), .val (.int p1), .val (.int (0 : Int32)), .val (.ref w_NEW), .val (.int (0 : Int32)), .val (.int (2 : Int32)), .val (.ref w_TIMED_OUTx)] [(.ref w_NEW)])) _
  refine st3.trans ?_
  show Steps p.tables e below (T3.setTop (mkF m 114 #[.val (.int p0), .val (.int p1), .val (.int (0 : Int32)), .val (.ref w_NEW), .val (.int (0 : Int32)), .val (.int (2 : Int32)), .val (.ref w_TIMED_OUTx)] [(.int (0 : Int32))])) _
  refine XS.iload X3.here hx rfl (hb hby at_114) rfl ?_
  show Steps p.tables e below (T3.setTop (mkF m 116 #[.val (.int p0), .val (.int p1), .val (.int (0 : Int32)), .val (.ref w_NEW), .val (.int (0 : Int32)), .val (.int (2 : Int32)), .val (.ref w_TIMED_OUTx)] [(.int (0 : Int32)), (.int (0 : Int32))])) _
  refine XS.icmpNo X3.here hx rfl (hb hby at_116) rfl (teq (by decide : (0 : Int32) = (0 : Int32))).2 ?_
  show Steps p.tables e below (T3.setTop (mkF m 119 #[.val (.int p0), .val (.int p1), .val (.int (0 : Int32)), .val (.ref w_NEW), .val (.int (0 : Int32)), .val (.int (2 : Int32)), .val (.ref w_TIMED_OUTx)] [])) _
  refine XS.aload X3.here hx rfl (hb hby at_119) rfl rfl ?_
  show Steps p.tables e below (T3.setTop (mkF m 121 #[.val (.int p0), .val (.int p1), .val (.int (0 : Int32)), .val (.ref w_NEW), .val (.int (0 : Int32)), .val (.int (2 : Int32)), .val (.ref w_TIMED_OUTx)] [(.ref w_TIMED_OUTx)])) _
  refine st4 _ ?_
  show Steps p.tables e below (T4.setTop (mkF m 124 #[.val (.int p0), .val (.int p1), .val (.int (0 : Int32)), .val (.ref w_NEW), .val (.int (0 : Int32)), .val (.int (2 : Int32)), .val (.ref w_TIMED_OUTx)] [(.ref w_TIMED_OUT)])) _
  refine st5.trans ?_
  show Steps p.tables e below (T5.setTop (mkF m 127 #[.val (.int p0), .val (.int p1), .val (.int (0 : Int32)), .val (.ref w_NEW), .val (.int (0 : Int32)), .val (.int (2 : Int32)), .val (.ref w_TIMED_OUTx)] [(.int (1 : Int32))])) _
  refine XS.ifNo X5.here hx rfl (hb hby at_127) rfl ((if0 _ _).trans (feq (by decide : ¬ ((1 : Int32) = (0 : Int32)))).1) ?_
  show Steps p.tables e below (T5.setTop (mkF m 130 #[.val (.int p0), .val (.int p1), .val (.int (0 : Int32)), .val (.ref w_NEW), .val (.int (0 : Int32)), .val (.int (2 : Int32)), .val (.ref w_TIMED_OUTx)] [])) _
  refine XS.iconst X5.here hx rfl (hb hby at_130) ?_
  show Steps p.tables e below (T5.setTop (mkF m 131 #[.val (.int p0), .val (.int p1), .val (.int (0 : Int32)), .val (.ref w_NEW), .val (.int (0 : Int32)), .val (.int (2 : Int32)), .val (.ref w_TIMED_OUTx)] [(.int (1 : Int32))])) _
  refine XS.goto X5.here hx rfl (pc0 := 131) (pc' := 135) rfl (hb hby at_131) (by decide) (by decide) ?_
  show Steps p.tables e below (T5.setTop (mkF m 135 #[.val (.int p0), .val (.int p1), .val (.int (0 : Int32)), .val (.ref w_NEW), .val (.int (0 : Int32)), .val (.int (2 : Int32)), .val (.ref w_TIMED_OUTx)] [(.int (1 : Int32))])) _
  exact retN X5 hx (t := .boolean) Bd.returns (by simp) (hb hby at_135) hr
set_option maxRecDepth 65536 in
set_option maxHeartbeats 40000000 in
theorem rm1_4 (l : Launch) (Z : State) (a0 : Array Value) (hw : ∀ d ∈ tables_1, d.before a0 Z = true) (ws : List Jvm.Cond) (w_NEW w_FINISHED w_sm w_FINISHEDx w_RUNNING w_TIMED_OUT w_FAILED w_FAILEDx w_TIMED_OUTx : Addr) (h0 : Heap) (n0 : Nat) (Z0 : n0 ≤ h0.size) (S : SF Z h0 w_NEW w_FINISHED w_sm w_FINISHEDx w_RUNNING w_TIMED_OUT w_FAILED w_FAILEDx w_TIMED_OUTx) :
    Pay l Z (⟨"com/example/bowline/bowline/server/RunState", "ended", "()Z"⟩ : MethodName) ws prog_30_method_5_code 1 (some .boolean) #[(.ref w_RUNNING)] h0 n0 ({ frames := 0, cells := 0, slots := 0, locals := 0 } : Room) (some (.int (0 : Int32))) := by
  obtain ⟨S_w_NEW, E_w_NEW, S_w_FINISHED, E_w_FINISHED, S_w_sm, V_w_sm, S_w_FINISHEDx, E_w_FINISHEDx, S_w_RUNNING, E_w_RUNNING, S_w_TIMED_OUT, E_w_TIMED_OUT, S_w_FAILED, E_w_FAILED, S_w_FAILEDx, E_w_FAILEDx, S_w_TIMED_OUTx, E_w_TIMED_OUTx, F_ordinal_w_FINISHED, F_ordinal_w_FINISHEDx, F_ordinal_w_NEW, F_ordinal_w_RUNNING, F_ordinal_w_TIMED_OUT, F_ordinal_w_FAILED, F_ordinal_w_FAILEDx, F_ordinal_w_TIMED_OUTx, hne_w_NEW_w_FINISHEDx, hne_w_NEW_w_RUNNING, hne_w_NEW_w_TIMED_OUT, hne_w_NEW_w_FAILEDx, hne_w_FINISHED_w_FAILED, hne_w_FINISHED_w_TIMED_OUTx, hne_w_FINISHEDx_w_RUNNING, hne_w_FINISHEDx_w_TIMED_OUT, hne_w_FINISHEDx_w_FAILEDx, hne_w_RUNNING_w_TIMED_OUT, hne_w_RUNNING_w_FAILEDx, hne_w_TIMED_OUT_w_FAILEDx, hne_w_FAILED_w_TIMED_OUTx⟩ := id S
  refine MetFree.of_bodySF (plainFor_of_name pn_0) hisR ?_
  intro p e s m args below meth c s₁ Bd hml0 hP hK
  obtain ⟨rfl, hZ, hh⟩ := hP
  have hx := Bd.exec
  have hby := Bd.bytes
  have hml : c.maxLocals = 1 := hml0
  have hown : s.vm.findClass "com/example/bowline/bowline/server/RunState" = some m.cls := findClass_of_methodNamed Bd.named
  have X0 : Stand p l e ({ frames := 0, cells := 0, slots := 0, locals := 0 } : Room) s m #[(.ref w_RUNNING)] below meth c s₁ [] 0 0 := Stand.of_body Bd
  have e0 : s₁.heap = h0 := by rw [← hh, Bd.state]; rfl
  have N0 := Fr.nil n0
  have pre0 : ∀ t, Steps p.tables e below (s₁.setTop (mkF m 0 #[.val (.ref w_RUNNING)] [])) t → Steps p.tables e below (s₁.setTop (entryFrame m #[(.ref w_RUNNING)] 1)) t := fun t k => castTop (by first | rfl | (simp [entryFrame, mkF, argsToLocals, Value.category]; done)) k
  obtain ⟨T1, X1, e1, st1⟩ := getS2 X0 hx hZ hown (host := "") (Or.inl (hw _ (List.mem_of_getElem? (i := 12) rfl))) Via.refl e0 S_w_NEW (g := (mkF m 1 #[.val (.ref w_RUNNING)] [(.ref w_RUNNING)])) rfl (hb hby d1_1)
  obtain ⟨T2, X2, e2, st2⟩ := getS2 X1 hx hZ hown (host := "") (Or.inl (hw _ (List.mem_of_getElem? (i := 30) rfl))) Via.refl e1 S_w_RUNNING (g := (mkF m 8 #[.val (.ref w_RUNNING)] [(.ref w_RUNNING)])) rfl (hb hby d1_8)
  obtain ⟨fs, hr, hrun, hended, hW, hsame⟩ := X2.leave (v := (some (.int (0 : Int32)))) (fun h => by rw [Bd.returns] at h; cases h)
  refine ⟨_, _, pre0 _ ?_, hrun, hended, _, _, rfl, ⟨rfl, N0, e2⟩, ⟨_, rfl⟩, hW, hsame.mono (by decide) (by decide)⟩
  show Steps p.tables e below (s₁.setTop (mkF m 0 #[.val (.ref w_RUNNING)] [])) _
  refine XS.aloadN X0.here hx rfl (hb hby d1_0) rfl rfl ?_
  show Steps p.tables e below (s₁.setTop (mkF m 1 #[.val (.ref w_RUNNING)] [(.ref w_RUNNING)])) _
  refine st1 _ ?_
  show Steps p.tables e below (T1.setTop (mkF m 4 #[.val (.ref w_RUNNING)] [(.ref w_NEW), (.ref w_RUNNING)])) _
  refine Jvm.RoadKit.acmp (g := (mkF m 4 #[.val (.ref w_RUNNING)] [(.ref w_NEW), (.ref w_RUNNING)])) X1 hx rfl rfl rfl (pc0 := 4) (pc' := 7) (same := false) rfl (hb hby d1_4) rfl (decide_eq_false fun q => hne_w_NEW_w_RUNNING (Value.ref.inj q).symm) (by decide) (by decide) ?_
  show Steps p.tables e below (T1.setTop (mkF m 7 #[.val (.ref w_RUNNING)] [])) _
  refine XS.aloadN X1.here hx rfl (hb hby d1_7) rfl rfl ?_
  show Steps p.tables e below (T1.setTop (mkF m 8 #[.val (.ref w_RUNNING)] [(.ref w_RUNNING)])) _
  refine st2 _ ?_
  show Steps p.tables e below (T2.setTop (mkF m 11 #[.val (.ref w_RUNNING)] [(.ref w_RUNNING), (.ref w_RUNNING)])) _
  refine Jvm.RoadKit.acmp (g := (mkF m 11 #[.val (.ref w_RUNNING)] [(.ref w_RUNNING), (.ref w_RUNNING)])) X2 hx rfl rfl rfl (pc0 := 11) (pc' := 18) (same := true) rfl (hb hby d1_11) rfl (decide_eq_true rfl) (by decide) (by decide) ?_
  show Steps p.tables e below (T2.setTop (mkF m 18 #[.val (.ref w_RUNNING)] [])) _
  refine XS.iconst X2.here hx rfl (hb hby d1_18) ?_
  show Steps p.tables e below (T2.setTop (mkF m 19 #[.val (.ref w_RUNNING)] [(.int (0 : Int32))])) _
  exact retN X2 hx (t := .boolean) Bd.returns (by simp) (hb hby d1_19) hr
set_option maxRecDepth 65536 in
set_option maxHeartbeats 40000000 in
theorem rm0_3 (l : Launch) (Z : State) (a0 : Array Value) (hw : ∀ d ∈ tables_1, d.before a0 Z = true) (ws : List Jvm.Cond) (w_NEW w_FINISHED w_sm w_FINISHEDx w_RUNNING w_TIMED_OUT w_FAILED w_FAILEDx w_TIMED_OUTx : Addr) (h0 : Heap) (n0 : Nat) (Z0 : n0 ≤ h0.size) (S : SF Z h0 w_NEW w_FINISHED w_sm w_FINISHEDx w_RUNNING w_TIMED_OUT w_FAILED w_FAILEDx w_TIMED_OUTx) (p0 : Int32) (p1 : Int32) (hk : ((p0 &&& (2147483647 : Int32)) % (5 : Int32)) = (1 : Int32)) (hj : ((p1 &&& (2147483647 : Int32)) % (3 : Int32)) = (0 : Int32)) :
    Pay l Z x ws code maxLocals ret #[(.int p0), (.int p1)] h0 n0 room_1 (some (.int (1 : Int32))) := by
  obtain ⟨S_w_NEW, E_w_NEW, S_w_FINISHED, E_w_FINISHED, S_w_sm, V_w_sm, S_w_FINISHEDx, E_w_FINISHEDx, S_w_RUNNING, E_w_RUNNING, S_w_TIMED_OUT, E_w_TIMED_OUT, S_w_FAILED, E_w_FAILED, S_w_FAILEDx, E_w_FAILEDx, S_w_TIMED_OUTx, E_w_TIMED_OUTx, F_ordinal_w_FINISHED, F_ordinal_w_FINISHEDx, F_ordinal_w_NEW, F_ordinal_w_RUNNING, F_ordinal_w_TIMED_OUT, F_ordinal_w_FAILED, F_ordinal_w_FAILEDx, F_ordinal_w_TIMED_OUTx, hne_w_NEW_w_FINISHEDx, hne_w_NEW_w_RUNNING, hne_w_NEW_w_TIMED_OUT, hne_w_NEW_w_FAILEDx, hne_w_FINISHED_w_FAILED, hne_w_FINISHED_w_TIMED_OUTx, hne_w_FINISHEDx_w_RUNNING, hne_w_FINISHEDx_w_TIMED_OUT, hne_w_FINISHEDx_w_FAILEDx, hne_w_RUNNING_w_TIMED_OUT, hne_w_RUNNING_w_FAILEDx, hne_w_TIMED_OUT_w_FAILEDx, hne_w_FAILED_w_TIMED_OUTx⟩ := id S
  refine MetFree.of_bodySF (plainFor_of_name pn_2) hisR ?_
  intro p e s m args below meth c s₁ Bd hml0 hP hK
  obtain ⟨rfl, hZ, hh⟩ := hP
  have hx := Bd.exec
  have hby := Bd.bytes
  have hml : c.maxLocals = 7 := hml0
  have hown : s.vm.findClass "com/example/bowline/bowline/server/RunStateEndedPinLaw" = some m.cls := findClass_of_methodNamed Bd.named
  have X0 : Stand p l e room_1 s m #[(.int p0), (.int p1)] below meth c s₁ [] 0 0 := Stand.of_body Bd
  have e0 : s₁.heap = h0 := by rw [← hh, Bd.state]; rfl
  have N0 := Fr.nil n0
  have pre0 : ∀ t, Steps p.tables e below (s₁.setTop (mkF m 0 #[.val (.int p0), .val (.int p1), .unset, .unset, .unset, .unset, .unset] [])) t → Steps p.tables e below (s₁.setTop (entryFrame m #[(.int p0), (.int p1)] maxLocals)) t := fun t k => castTop (by first | rfl | (simp [entryFrame, mkF, argsToLocals, Value.category, maxLocals]; done)) k
  obtain ⟨T1, X1, e1, st1⟩ := getS2 X0 hx hZ hown (host := "") (Or.inl (hw _ (List.mem_of_getElem? (i := 42) rfl))) Via.refl e0 S_w_RUNNING (g := (mkF m 23 #[.val (.int p0), .val (.int p1), .val (.int (1 : Int32)), .unset, .unset, .unset, .unset] [])) rfl (hb hby at_23)
  obtain ⟨T2, X2, e2, st2⟩ := getS2 X1 hx hZ hown (host := "") (Or.inl (hw _ (List.mem_of_getElem? (i := 4) rfl))) Via.refl e1 S_w_FINISHED (g := (mkF m 83 #[.val (.int p0), .val (.int p1), .val (.int (1 : Int32)), .val (.ref w_RUNNING), .val (.int (0 : Int32)), .val (.int (0 : Int32)), .unset] [])) rfl (hb hby at_83)
  obtain ⟨cq3, kq3, q3a, q3b, q3c⟩ := isOf hZ e2 E_w_RUNNING
  obtain ⟨_, _, ⟨T3, L3, k3, n3⟩, -, X3, ⟨Lc3, hQ3, l3, y3, z3⟩, st3⟩ := X2.virtualBack hx (y := (⟨"com/example/bowline/bowline/server/RunState", "ended", "()Z"⟩ : MethodName)) (z := (⟨"com/example/bowline/bowline/server/RunState", "ended", "()Z"⟩ : MethodName)) hown (mvT hZ (hw _ (List.mem_of_getElem? (i := 7) rfl))) (mvT hZ (hw _ (List.mem_of_getElem? (i := 8) rfl))) (notFace_of_selects (args := #[]) (mvT hZ (hw _ (List.mem_of_getElem? (i := 10) rfl)))) (mvT hZ (hw _ (List.mem_of_getElem? (i := 10) rfl))) (mvT hZ (hw _ (List.mem_of_getElem? (i := 9) rfl))) (by decide) (backOf (W := 0) (rm1_4 l Z a0 hw [] w_NEW w_FINISHED w_sm w_FINISHEDx w_RUNNING w_TIMED_OUT w_FAILED w_FAILEDx w_TIMED_OUTx h0 n0 Z0 S) hZ (hw _ (List.mem_of_getElem? (i := 11) rfl)) (hw _ (List.mem_of_getElem? (i := 2) rfl)) (by decide) (by decide)) q3a q3c (g := (mkF m 111 #[.val (.int p0), .val (.int p1), .val (.int (1 : Int32)), .val (.ref w_RUNNING), .val (.int (0 : Int32)), .val (.int (0 : Int32)), .val (.ref w_FINISHED)] [(.ref w_RUNNING)])) rfl (by rw [hml]; rfl) (Steps.refl _) (argsL := []) (rest := []) (lenOf pd_0 rfl) rfl (by show 2 * 0 + _ ≤ _; exact Nat.le_of_eq rfl) (hb hby at_111) (fun _ _ => ⟨rfl, e2, (by decide : 0 + 0 ≤ _), (by decide : 0 + 0 ≤ _)⟩)
  dsimp only [Pt.U, Pt.locs, Pt.cells, Pt.slots] at X3 l3 y3 z3 st3 hQ3
  subst l3 y3 z3
  obtain ⟨rfl, Nq3, e3⟩ := hQ3
  have N3 := Fr.app N0 Nq3
  obtain ⟨_, _, ⟨T4, L4, k4, n4⟩, -, X4, ⟨Lc4, hQ4, l4, y4, z4⟩, st4⟩ := Jvm.LawKit.callS X3 hx (y := (⟨"com/example/bowline/bowline/server/RunState", "of", "(Lcom/example/bowline/bowline/runtime/Status;)Lcom/example/bowline/bowline/server/RunState;"⟩ : MethodName)) hown (mvT hZ (hw _ (List.mem_of_getElem? (i := 13) rfl))) (mvT hZ (hw _ (List.mem_of_getElem? (i := 14) rfl))) (mvT hZ (hw _ (List.mem_of_getElem? (i := 2) rfl))) (mvT hZ (hw _ (List.mem_of_getElem? (i := 15) rfl))) (by decide) (backOf (W := 0) (rm2_0 l Z a0 hw [] w_NEW w_FINISHED w_sm w_FINISHEDx w_RUNNING w_TIMED_OUT w_FAILED w_FAILEDx w_TIMED_OUTx h0 n0 Z0 S) hZ (hw _ (List.mem_of_getElem? (i := 15) rfl)) (hw _ (List.mem_of_getElem? (i := 2) rfl)) (by decide) (by decide)) (g := (mkF m 121 #[.val (.int p0), .val (.int p1), .val (.int (1 : Int32)), .val (.ref w_RUNNING), .val (.int (0 : Int32)), .val (.int (0 : Int32)), .val (.ref w_FINISHED)] [(.ref w_FINISHED)])) rfl (by rw [hml]; rfl) (argsL := [(.ref w_FINISHED)]) (rest := []) (lenOf pd_2 rfl) rfl (by show 2 * 0 + _ ≤ _; exact Nat.le_of_eq rfl) (hb hby at_121) (fun _ _ => ⟨rfl, e3, (by decide : 0 + 0 ≤ _), (by decide : 0 + 0 ≤ _)⟩)
  dsimp only [Pt.U, Pt.locs, Pt.cells, Pt.slots] at X4 l4 y4 z4 st4 hQ4
  subst l4 y4 z4
  obtain ⟨rfl, Nq4, e4⟩ := hQ4
  have N4 := Fr.app N3 Nq4
  obtain ⟨cq5, kq5, q5a, q5b, q5c⟩ := isOf hZ e4 E_w_FINISHEDx
  obtain ⟨_, _, ⟨T5, L5, k5, n5⟩, -, X5, ⟨Lc5, hQ5, l5, y5, z5⟩, st5⟩ := X4.virtualBack hx (y := (⟨"com/example/bowline/bowline/server/RunState", "ended", "()Z"⟩ : MethodName)) (z := (⟨"com/example/bowline/bowline/server/RunState", "ended", "()Z"⟩ : MethodName)) hown (mvT hZ (hw _ (List.mem_of_getElem? (i := 7) rfl))) (mvT hZ (hw _ (List.mem_of_getElem? (i := 8) rfl))) (notFace_of_selects (args := #[]) (mvT hZ (hw _ (List.mem_of_getElem? (i := 10) rfl)))) (mvT hZ (hw _ (List.mem_of_getElem? (i := 10) rfl))) (mvT hZ (hw _ (List.mem_of_getElem? (i := 9) rfl))) (by decide) (backOf (W := 0) (rm1_1 l Z a0 hw [] w_NEW w_FINISHED w_sm w_FINISHEDx w_RUNNING w_TIMED_OUT w_FAILED w_FAILEDx w_TIMED_OUTx h0 n0 Z0 S) hZ (hw _ (List.mem_of_getElem? (i := 11) rfl)) (hw _ (List.mem_of_getElem? (i := 2) rfl)) (by decide) (by decide)) q5a q5c (g := (mkF m 124 #[.val (.int p0), .val (.int p1), .val (.int (1 : Int32)), .val (.ref w_RUNNING), .val (.int (0 : Int32)), .val (.int (0 : Int32)), .val (.ref w_FINISHED)] [(.ref w_FINISHEDx)])) rfl (by rw [hml]; rfl) (Steps.refl _) (argsL := []) (rest := []) (lenOf pd_0 rfl) rfl (by show 2 * 0 + _ ≤ _; exact Nat.le_of_eq rfl) (hb hby at_124) (fun _ _ => ⟨rfl, e4, (by decide : 0 + 0 ≤ _), (by decide : 0 + 0 ≤ _)⟩)
  dsimp only [Pt.U, Pt.locs, Pt.cells, Pt.slots] at X5 l5 y5 z5 st5 hQ5
  subst l5 y5 z5
  obtain ⟨rfl, Nq5, e5⟩ := hQ5
  have N5 := Fr.app N4 Nq5
  obtain ⟨fs, hr, hrun, hended, hW, hsame⟩ := X5.leave (v := (some (.int (1 : Int32)))) (fun h => by rw [Bd.returns] at h; cases h)
  refine ⟨_, _, pre0 _ ?_, hrun, hended, _, _, rfl, ⟨rfl, N5, e5⟩, ⟨_, rfl⟩, hW, hsame.mono (by decide) (by decide)⟩
  show Steps p.tables e below (s₁.setTop (mkF m 0 #[.val (.int p0), .val (.int p1), .unset, .unset, .unset, .unset, .unset] [])) _
  refine XS.iloadN X0.here hx rfl (hb hby at_0) rfl ?_
  show Steps p.tables e below (s₁.setTop (mkF m 1 #[.val (.int p0), .val (.int p1), .unset, .unset, .unset, .unset, .unset] [(.int p0)])) _
  refine X0.ldcInt hx hown (mvT hZ (hw _ (List.mem_of_getElem? (i := 0) rfl))) (g := (mkF m 1 #[.val (.int p0), .val (.int p1), .unset, .unset, .unset, .unset, .unset] [(.int p0)])) rfl (hb hby at_1) _ ?_
  show Steps p.tables e below (s₁.setTop (mkF m 3 #[.val (.int p0), .val (.int p1), .unset, .unset, .unset, .unset, .unset] [(.int (2147483647 : Int32)), (.int p0)])) _
  refine XS.iand X0.here hx rfl (hb hby at_3) rfl ?_
  show Steps p.tables e below (s₁.setTop (mkF m 4 #[.val (.int p0), .val (.int p1), .unset, .unset, .unset, .unset, .unset] [(.int (p0 &&& (2147483647 : Int32)))])) _
  show Steps p.tables e below (s₁.setTop (mkF m 4 #[.val (.int p0), .val (.int p1), .unset, .unset, .unset, .unset, .unset] [(.int (p0 &&& (2147483647 : Int32)))])) _
  refine XS.iconst X0.here hx rfl (hb hby at_4) ?_
  show Steps p.tables e below (s₁.setTop (mkF m 5 #[.val (.int p0), .val (.int p1), .unset, .unset, .unset, .unset, .unset] [(.int (5 : Int32)), (.int (p0 &&& (2147483647 : Int32)))])) _
  refine iremM X0 hx rfl (hb hby at_5) rfl (by decide) ?_
  show Steps p.tables e below (s₁.setTop (mkF m 6 #[.val (.int p0), .val (.int p1), .unset, .unset, .unset, .unset, .unset] [(.int ((p0 &&& (2147483647 : Int32)) % (5 : Int32)))])) _
  rw [hk]
  show Steps p.tables e below (s₁.setTop (mkF m 6 #[.val (.int p0), .val (.int p1), .unset, .unset, .unset, .unset, .unset] [(.int (1 : Int32))])) _
  refine XS.istoreN X0.here hx rfl (hb hby at_6) rfl (l' := #[.val (.int p0), .val (.int p1), .val (.int (1 : Int32)), .unset, .unset, .unset, .unset]) rfl ?_
  show Steps p.tables e below (s₁.setTop (mkF m 7 #[.val (.int p0), .val (.int p1), .val (.int (1 : Int32)), .unset, .unset, .unset, .unset] [])) _
  refine XS.iloadN X0.here hx rfl (hb hby at_7) rfl ?_
  show Steps p.tables e below (s₁.setTop (mkF m 8 #[.val (.int p0), .val (.int p1), .val (.int (1 : Int32)), .unset, .unset, .unset, .unset] [(.int (1 : Int32))])) _
  refine XS.ifYes X0.here hx rfl (pc0 := 8) (pc' := 18) rfl (hb hby at_8) rfl ((if0 _ _).trans (feq (by decide : ¬ ((1 : Int32) = (0 : Int32)))).2) (by decide) (by decide) ?_
  show Steps p.tables e below (s₁.setTop (mkF m 18 #[.val (.int p0), .val (.int p1), .val (.int (1 : Int32)), .unset, .unset, .unset, .unset] [])) _
  refine XS.iloadN X0.here hx rfl (hb hby at_18) rfl ?_
  show Steps p.tables e below (s₁.setTop (mkF m 19 #[.val (.int p0), .val (.int p1), .val (.int (1 : Int32)), .unset, .unset, .unset, .unset] [(.int (1 : Int32))])) _
  refine XS.iconst X0.here hx rfl (hb hby at_19) ?_
  show Steps p.tables e below (s₁.setTop (mkF m 20 #[.val (.int p0), .val (.int p1), .val (.int (1 : Int32)), .unset, .unset, .unset, .unset] [(.int (1 : Int32)), (.int (1 : Int32))])) _
  refine XS.icmpNo X0.here hx rfl (hb hby at_20) rfl (teq (by decide : (1 : Int32) = (1 : Int32))).2 ?_
  show Steps p.tables e below (s₁.setTop (mkF m 23 #[.val (.int p0), .val (.int p1), .val (.int (1 : Int32)), .unset, .unset, .unset, .unset] [])) _
  refine st1 _ ?_
  show Steps p.tables e below (T1.setTop (mkF m 26 #[.val (.int p0), .val (.int p1), .val (.int (1 : Int32)), .unset, .unset, .unset, .unset] [(.ref w_RUNNING)])) _
  refine XS.astoreN X1.here hx rfl (hb hby at_26) rfl rfl (l' := #[.val (.int p0), .val (.int p1), .val (.int (1 : Int32)), .val (.ref w_RUNNING), .unset, .unset, .unset]) rfl ?_
  show Steps p.tables e below (T1.setTop (mkF m 27 #[.val (.int p0), .val (.int p1), .val (.int (1 : Int32)), .val (.ref w_RUNNING), .unset, .unset, .unset] [])) _
  refine XS.goto X1.here hx rfl (pc0 := 27) (pc' := 58) rfl (hb hby at_27) (by decide) (by decide) ?_
  show Steps p.tables e below (T1.setTop (mkF m 58 #[.val (.int p0), .val (.int p1), .val (.int (1 : Int32)), .val (.ref w_RUNNING), .unset, .unset, .unset] [])) _
  refine XS.iloadN X1.here hx rfl (hb hby at_58) rfl ?_
  show Steps p.tables e below (T1.setTop (mkF m 59 #[.val (.int p0), .val (.int p1), .val (.int (1 : Int32)), .val (.ref w_RUNNING), .unset, .unset, .unset] [(.int (1 : Int32))])) _
  refine XS.iconst X1.here hx rfl (hb hby at_59) ?_
  show Steps p.tables e below (T1.setTop (mkF m 60 #[.val (.int p0), .val (.int p1), .val (.int (1 : Int32)), .val (.ref w_RUNNING), .unset, .unset, .unset] [(.int (2 : Int32)), (.int (1 : Int32))])) _
  refine XS.icmpYes X1.here hx rfl (pc0 := 60) (pc' := 67) rfl (hb hby at_60) rfl (tlt (by decide : (1 : Int32) < (2 : Int32))).1 (by decide) (by decide) ?_
  show Steps p.tables e below (T1.setTop (mkF m 67 #[.val (.int p0), .val (.int p1), .val (.int (1 : Int32)), .val (.ref w_RUNNING), .unset, .unset, .unset] [])) _
  refine XS.iconst X1.here hx rfl (hb hby at_67) ?_
  show Steps p.tables e below (T1.setTop (mkF m 68 #[.val (.int p0), .val (.int p1), .val (.int (1 : Int32)), .val (.ref w_RUNNING), .unset, .unset, .unset] [(.int (0 : Int32))])) _
  refine XS.istore X1.here hx rfl (hb hby at_68) rfl (l' := #[.val (.int p0), .val (.int p1), .val (.int (1 : Int32)), .val (.ref w_RUNNING), .val (.int (0 : Int32)), .unset, .unset]) rfl ?_
  show Steps p.tables e below (T1.setTop (mkF m 70 #[.val (.int p0), .val (.int p1), .val (.int (1 : Int32)), .val (.ref w_RUNNING), .val (.int (0 : Int32)), .unset, .unset] [])) _
  refine XS.iloadN X1.here hx rfl (hb hby at_70) rfl ?_
  show Steps p.tables e below (T1.setTop (mkF m 71 #[.val (.int p0), .val (.int p1), .val (.int (1 : Int32)), .val (.ref w_RUNNING), .val (.int (0 : Int32)), .unset, .unset] [(.int p1)])) _
  refine X1.ldcInt hx hown (mvT hZ (hw _ (List.mem_of_getElem? (i := 0) rfl))) (g := (mkF m 71 #[.val (.int p0), .val (.int p1), .val (.int (1 : Int32)), .val (.ref w_RUNNING), .val (.int (0 : Int32)), .unset, .unset] [(.int p1)])) rfl (hb hby at_71) _ ?_
  show Steps p.tables e below (T1.setTop (mkF m 73 #[.val (.int p0), .val (.int p1), .val (.int (1 : Int32)), .val (.ref w_RUNNING), .val (.int (0 : Int32)), .unset, .unset] [(.int (2147483647 : Int32)), (.int p1)])) _
  refine XS.iand X1.here hx rfl (hb hby at_73) rfl ?_
  show Steps p.tables e below (T1.setTop (mkF m 74 #[.val (.int p0), .val (.int p1), .val (.int (1 : Int32)), .val (.ref w_RUNNING), .val (.int (0 : Int32)), .unset, .unset] [(.int (p1 &&& (2147483647 : Int32)))])) _
  show Steps p.tables e below (T1.setTop (mkF m 74 #[.val (.int p0), .val (.int p1), .val (.int (1 : Int32)), .val (.ref w_RUNNING), .val (.int (0 : Int32)), .unset, .unset] [(.int (p1 &&& (2147483647 : Int32)))])) _
  refine XS.iconst X1.here hx rfl (hb hby at_74) ?_
  show Steps p.tables e below (T1.setTop (mkF m 75 #[.val (.int p0), .val (.int p1), .val (.int (1 : Int32)), .val (.ref w_RUNNING), .val (.int (0 : Int32)), .unset, .unset] [(.int (3 : Int32)), (.int (p1 &&& (2147483647 : Int32)))])) _
  refine iremM X1 hx rfl (hb hby at_75) rfl (by decide) ?_
  show Steps p.tables e below (T1.setTop (mkF m 76 #[.val (.int p0), .val (.int p1), .val (.int (1 : Int32)), .val (.ref w_RUNNING), .val (.int (0 : Int32)), .unset, .unset] [(.int ((p1 &&& (2147483647 : Int32)) % (3 : Int32)))])) _
  rw [hj]
  show Steps p.tables e below (T1.setTop (mkF m 76 #[.val (.int p0), .val (.int p1), .val (.int (1 : Int32)), .val (.ref w_RUNNING), .val (.int (0 : Int32)), .unset, .unset] [(.int (0 : Int32))])) _
  refine XS.istore X1.here hx rfl (hb hby at_76) rfl (l' := #[.val (.int p0), .val (.int p1), .val (.int (1 : Int32)), .val (.ref w_RUNNING), .val (.int (0 : Int32)), .val (.int (0 : Int32)), .unset]) rfl ?_
  show Steps p.tables e below (T1.setTop (mkF m 78 #[.val (.int p0), .val (.int p1), .val (.int (1 : Int32)), .val (.ref w_RUNNING), .val (.int (0 : Int32)), .val (.int (0 : Int32)), .unset] [])) _
  refine XS.iload X1.here hx rfl (hb hby at_78) rfl ?_
  show Steps p.tables e below (T1.setTop (mkF m 80 #[.val (.int p0), .val (.int p1), .val (.int (1 : Int32)), .val (.ref w_RUNNING), .val (.int (0 : Int32)), .val (.int (0 : Int32)), .unset] [(.int (0 : Int32))])) _
  refine XS.ifNo X1.here hx rfl (hb hby at_80) rfl ((if0 _ _).trans (teq (by decide : (0 : Int32) = (0 : Int32))).2) ?_
  show Steps p.tables e below (T1.setTop (mkF m 83 #[.val (.int p0), .val (.int p1), .val (.int (1 : Int32)), .val (.ref w_RUNNING), .val (.int (0 : Int32)), .val (.int (0 : Int32)), .unset] [])) _
  refine st2 _ ?_
  show Steps p.tables e below (T2.setTop (mkF m 86 #[.val (.int p0), .val (.int p1), .val (.int (1 : Int32)), .val (.ref w_RUNNING), .val (.int (0 : Int32)), .val (.int (0 : Int32)), .unset] [(.ref w_FINISHED)])) _
  refine XS.astore X2.here hx rfl (hb hby at_86) rfl rfl (l' := #[.val (.int p0), .val (.int p1), .val (.int (1 : Int32)), .val (.ref w_RUNNING), .val (.int (0 : Int32)), .val (.int (0 : Int32)), .val (.ref w_FINISHED)]) rfl ?_
  show Steps p.tables e below (T2.setTop (mkF m 88 #[.val (.int p0), .val (.int p1), .val (.int (1 : Int32)), .val (.ref w_RUNNING), .val (.int (0 : Int32)), .val (.int (0 : Int32)), .val (.ref w_FINISHED)] [])) _
  refine XS.goto X2.here hx rfl (pc0 := 88) (pc' := 110) rfl (hb hby at_88) (by decide) (by decide) ?_
  show Steps p.tables e below (T2.setTop (mkF m 110 #[.val (.int p0), .val (.int p1), .val (.int (1 : Int32)), .val (.ref w_RUNNING), .val (.int (0 : Int32)), .val (.int (0 : Int32)), .val (.ref w_FINISHED)] [])) _
  refine XS.aloadN X2.here hx rfl (hb hby at_110) rfl rfl ?_
  show Steps p.tables e below (T2.setTop (mkF m 111 #[.val (.int p0), .val (.int p1), .val (.int (1 : Int32)), .val (.ref w_RUNNING), .val (.int (0 : Int32)), .val (.int (0 : Int32)), .val (.ref w_FINISHED)] [(.ref w_RUNNING)])) _
  refine st3.trans ?_
  show Steps p.tables e below (T3.setTop (mkF m 114 #[.val (.int p0), .val (.int p1), .val (.int (1 : Int32)), .val (.ref w_RUNNING), .val (.int (0 : Int32)), .val (.int (0 : Int32)), .val (.ref w_FINISHED)] [(.int (0 : Int32))])) _
  refine XS.iload X3.here hx rfl (hb hby at_114) rfl ?_
  show Steps p.tables e below (T3.setTop (mkF m 116 #[.val (.int p0), .val (.int p1), .val (.int (1 : Int32)), .val (.ref w_RUNNING), .val (.int (0 : Int32)), .val (.int (0 : Int32)), .val (.ref w_FINISHED)] [(.int (0 : Int32)), (.int (0 : Int32))])) _
  refine XS.icmpNo X3.here hx rfl (hb hby at_116) rfl (teq (by decide : (0 : Int32) = (0 : Int32))).2 ?_
  show Steps p.tables e below (T3.setTop (mkF m 119 #[.val (.int p0), .val (.int p1), .val (.int (1 : Int32)), .val (.ref w_RUNNING), .val (.int (0 : Int32)), .val (.int (0 : Int32)), .val (.ref w_FINISHED)] [])) _
  refine XS.aload X3.here hx rfl (hb hby at_119) rfl rfl ?_
  show Steps p.tables e below (T3.setTop (mkF m 121 #[.val (.int p0), .val (.int p1), .val (.int (1 : Int32)), .val (.ref w_RUNNING), .val (.int (0 : Int32)), .val (.int (0 : Int32)), .val (.ref w_FINISHED)] [(.ref w_FINISHED)])) _
  refine st4 _ ?_
  show Steps p.tables e below (T4.setTop (mkF m 124 #[.val (.int p0), .val (.int p1), .val (.int (1 : Int32)), .val (.ref w_RUNNING), .val (.int (0 : Int32)), .val (.int (0 : Int32)), .val (.ref w_FINISHED)] [(.ref w_FINISHEDx)])) _
  refine st5.trans ?_
  show Steps p.tables e below (T5.setTop (mkF m 127 #[.val (.int p0), .val (.int p1), .val (.int (1 : Int32)), .val (.ref w_RUNNING), .val (.int (0 : Int32)), .val (.int (0 : Int32)), .val (.ref w_FINISHED)] [(.int (1 : Int32))])) _
  refine XS.ifNo X5.here hx rfl (hb hby at_127) rfl ((if0 _ _).trans (feq (by decide : ¬ ((1 : Int32) = (0 : Int32)))).1) ?_
  show Steps p.tables e below (T5.setTop (mkF m 130 #[.val (.int p0), .val (.int p1), .val (.int (1 : Int32)), .val (.ref w_RUNNING), .val (.int (0 : Int32)), .val (.int (0 : Int32)), .val (.ref w_FINISHED)] [])) _
  refine XS.iconst X5.here hx rfl (hb hby at_130) ?_
  show Steps p.tables e below (T5.setTop (mkF m 131 #[.val (.int p0), .val (.int p1), .val (.int (1 : Int32)), .val (.ref w_RUNNING), .val (.int (0 : Int32)), .val (.int (0 : Int32)), .val (.ref w_FINISHED)] [(.int (1 : Int32))])) _
  refine XS.goto X5.here hx rfl (pc0 := 131) (pc' := 135) rfl (hb hby at_131) (by decide) (by decide) ?_
  show Steps p.tables e below (T5.setTop (mkF m 135 #[.val (.int p0), .val (.int p1), .val (.int (1 : Int32)), .val (.ref w_RUNNING), .val (.int (0 : Int32)), .val (.int (0 : Int32)), .val (.ref w_FINISHED)] [(.int (1 : Int32))])) _
  exact retN X5 hx (t := .boolean) Bd.returns (by simp) (hb hby at_135) hr
set_option maxRecDepth 65536 in
set_option maxHeartbeats 40000000 in
theorem rm0_4 (l : Launch) (Z : State) (a0 : Array Value) (hw : ∀ d ∈ tables_1, d.before a0 Z = true) (ws : List Jvm.Cond) (w_NEW w_FINISHED w_sm w_FINISHEDx w_RUNNING w_TIMED_OUT w_FAILED w_FAILEDx w_TIMED_OUTx : Addr) (h0 : Heap) (n0 : Nat) (Z0 : n0 ≤ h0.size) (S : SF Z h0 w_NEW w_FINISHED w_sm w_FINISHEDx w_RUNNING w_TIMED_OUT w_FAILED w_FAILEDx w_TIMED_OUTx) (p0 : Int32) (p1 : Int32) (hk : ((p0 &&& (2147483647 : Int32)) % (5 : Int32)) = (1 : Int32)) (hj : ((p1 &&& (2147483647 : Int32)) % (3 : Int32)) = (1 : Int32)) :
    Pay l Z x ws code maxLocals ret #[(.int p0), (.int p1)] h0 n0 room_1 (some (.int (1 : Int32))) := by
  obtain ⟨S_w_NEW, E_w_NEW, S_w_FINISHED, E_w_FINISHED, S_w_sm, V_w_sm, S_w_FINISHEDx, E_w_FINISHEDx, S_w_RUNNING, E_w_RUNNING, S_w_TIMED_OUT, E_w_TIMED_OUT, S_w_FAILED, E_w_FAILED, S_w_FAILEDx, E_w_FAILEDx, S_w_TIMED_OUTx, E_w_TIMED_OUTx, F_ordinal_w_FINISHED, F_ordinal_w_FINISHEDx, F_ordinal_w_NEW, F_ordinal_w_RUNNING, F_ordinal_w_TIMED_OUT, F_ordinal_w_FAILED, F_ordinal_w_FAILEDx, F_ordinal_w_TIMED_OUTx, hne_w_NEW_w_FINISHEDx, hne_w_NEW_w_RUNNING, hne_w_NEW_w_TIMED_OUT, hne_w_NEW_w_FAILEDx, hne_w_FINISHED_w_FAILED, hne_w_FINISHED_w_TIMED_OUTx, hne_w_FINISHEDx_w_RUNNING, hne_w_FINISHEDx_w_TIMED_OUT, hne_w_FINISHEDx_w_FAILEDx, hne_w_RUNNING_w_TIMED_OUT, hne_w_RUNNING_w_FAILEDx, hne_w_TIMED_OUT_w_FAILEDx, hne_w_FAILED_w_TIMED_OUTx⟩ := id S
  refine MetFree.of_bodySF (plainFor_of_name pn_2) hisR ?_
  intro p e s m args below meth c s₁ Bd hml0 hP hK
  obtain ⟨rfl, hZ, hh⟩ := hP
  have hx := Bd.exec
  have hby := Bd.bytes
  have hml : c.maxLocals = 7 := hml0
  have hown : s.vm.findClass "com/example/bowline/bowline/server/RunStateEndedPinLaw" = some m.cls := findClass_of_methodNamed Bd.named
  have X0 : Stand p l e room_1 s m #[(.int p0), (.int p1)] below meth c s₁ [] 0 0 := Stand.of_body Bd
  have e0 : s₁.heap = h0 := by rw [← hh, Bd.state]; rfl
  have N0 := Fr.nil n0
  have pre0 : ∀ t, Steps p.tables e below (s₁.setTop (mkF m 0 #[.val (.int p0), .val (.int p1), .unset, .unset, .unset, .unset, .unset] [])) t → Steps p.tables e below (s₁.setTop (entryFrame m #[(.int p0), (.int p1)] maxLocals)) t := fun t k => castTop (by first | rfl | (simp [entryFrame, mkF, argsToLocals, Value.category, maxLocals]; done)) k
  obtain ⟨T1, X1, e1, st1⟩ := getS2 X0 hx hZ hown (host := "") (Or.inl (hw _ (List.mem_of_getElem? (i := 42) rfl))) Via.refl e0 S_w_RUNNING (g := (mkF m 23 #[.val (.int p0), .val (.int p1), .val (.int (1 : Int32)), .unset, .unset, .unset, .unset] [])) rfl (hb hby at_23)
  obtain ⟨T2, X2, e2, st2⟩ := getS2 X1 hx hZ hown (host := "") (Or.inl (hw _ (List.mem_of_getElem? (i := 34) rfl))) Via.refl e1 S_w_FAILED (g := (mkF m 97 #[.val (.int p0), .val (.int p1), .val (.int (1 : Int32)), .val (.ref w_RUNNING), .val (.int (0 : Int32)), .val (.int (1 : Int32)), .unset] [])) rfl (hb hby at_97)
  obtain ⟨cq3, kq3, q3a, q3b, q3c⟩ := isOf hZ e2 E_w_RUNNING
  obtain ⟨_, _, ⟨T3, L3, k3, n3⟩, -, X3, ⟨Lc3, hQ3, l3, y3, z3⟩, st3⟩ := X2.virtualBack hx (y := (⟨"com/example/bowline/bowline/server/RunState", "ended", "()Z"⟩ : MethodName)) (z := (⟨"com/example/bowline/bowline/server/RunState", "ended", "()Z"⟩ : MethodName)) hown (mvT hZ (hw _ (List.mem_of_getElem? (i := 7) rfl))) (mvT hZ (hw _ (List.mem_of_getElem? (i := 8) rfl))) (notFace_of_selects (args := #[]) (mvT hZ (hw _ (List.mem_of_getElem? (i := 10) rfl)))) (mvT hZ (hw _ (List.mem_of_getElem? (i := 10) rfl))) (mvT hZ (hw _ (List.mem_of_getElem? (i := 9) rfl))) (by decide) (backOf (W := 0) (rm1_4 l Z a0 hw [] w_NEW w_FINISHED w_sm w_FINISHEDx w_RUNNING w_TIMED_OUT w_FAILED w_FAILEDx w_TIMED_OUTx h0 n0 Z0 S) hZ (hw _ (List.mem_of_getElem? (i := 11) rfl)) (hw _ (List.mem_of_getElem? (i := 2) rfl)) (by decide) (by decide)) q3a q3c (g := (mkF m 111 #[.val (.int p0), .val (.int p1), .val (.int (1 : Int32)), .val (.ref w_RUNNING), .val (.int (0 : Int32)), .val (.int (1 : Int32)), .val (.ref w_FAILED)] [(.ref w_RUNNING)])) rfl (by rw [hml]; rfl) (Steps.refl _) (argsL := []) (rest := []) (lenOf pd_0 rfl) rfl (by show 2 * 0 + _ ≤ _; exact Nat.le_of_eq rfl) (hb hby at_111) (fun _ _ => ⟨rfl, e2, (by decide : 0 + 0 ≤ _), (by decide : 0 + 0 ≤ _)⟩)
  dsimp only [Pt.U, Pt.locs, Pt.cells, Pt.slots] at X3 l3 y3 z3 st3 hQ3
  subst l3 y3 z3
  obtain ⟨rfl, Nq3, e3⟩ := hQ3
  have N3 := Fr.app N0 Nq3
  obtain ⟨_, _, ⟨T4, L4, k4, n4⟩, -, X4, ⟨Lc4, hQ4, l4, y4, z4⟩, st4⟩ := Jvm.LawKit.callS X3 hx (y := (⟨"com/example/bowline/bowline/server/RunState", "of", "(Lcom/example/bowline/bowline/runtime/Status;)Lcom/example/bowline/bowline/server/RunState;"⟩ : MethodName)) hown (mvT hZ (hw _ (List.mem_of_getElem? (i := 13) rfl))) (mvT hZ (hw _ (List.mem_of_getElem? (i := 14) rfl))) (mvT hZ (hw _ (List.mem_of_getElem? (i := 2) rfl))) (mvT hZ (hw _ (List.mem_of_getElem? (i := 15) rfl))) (by decide) (backOf (W := 0) (rm2_1 l Z a0 hw [] w_NEW w_FINISHED w_sm w_FINISHEDx w_RUNNING w_TIMED_OUT w_FAILED w_FAILEDx w_TIMED_OUTx h0 n0 Z0 S) hZ (hw _ (List.mem_of_getElem? (i := 15) rfl)) (hw _ (List.mem_of_getElem? (i := 2) rfl)) (by decide) (by decide)) (g := (mkF m 121 #[.val (.int p0), .val (.int p1), .val (.int (1 : Int32)), .val (.ref w_RUNNING), .val (.int (0 : Int32)), .val (.int (1 : Int32)), .val (.ref w_FAILED)] [(.ref w_FAILED)])) rfl (by rw [hml]; rfl) (argsL := [(.ref w_FAILED)]) (rest := []) (lenOf pd_2 rfl) rfl (by show 2 * 0 + _ ≤ _; exact Nat.le_of_eq rfl) (hb hby at_121) (fun _ _ => ⟨rfl, e3, (by decide : 0 + 0 ≤ _), (by decide : 0 + 0 ≤ _)⟩)
  dsimp only [Pt.U, Pt.locs, Pt.cells, Pt.slots] at X4 l4 y4 z4 st4 hQ4
  subst l4 y4 z4
  obtain ⟨rfl, Nq4, e4⟩ := hQ4
  have N4 := Fr.app N3 Nq4
  obtain ⟨cq5, kq5, q5a, q5b, q5c⟩ := isOf hZ e4 E_w_FAILEDx
  obtain ⟨_, _, ⟨T5, L5, k5, n5⟩, -, X5, ⟨Lc5, hQ5, l5, y5, z5⟩, st5⟩ := X4.virtualBack hx (y := (⟨"com/example/bowline/bowline/server/RunState", "ended", "()Z"⟩ : MethodName)) (z := (⟨"com/example/bowline/bowline/server/RunState", "ended", "()Z"⟩ : MethodName)) hown (mvT hZ (hw _ (List.mem_of_getElem? (i := 7) rfl))) (mvT hZ (hw _ (List.mem_of_getElem? (i := 8) rfl))) (notFace_of_selects (args := #[]) (mvT hZ (hw _ (List.mem_of_getElem? (i := 10) rfl)))) (mvT hZ (hw _ (List.mem_of_getElem? (i := 10) rfl))) (mvT hZ (hw _ (List.mem_of_getElem? (i := 9) rfl))) (by decide) (backOf (W := 0) (rm1_2 l Z a0 hw [] w_NEW w_FINISHED w_sm w_FINISHEDx w_RUNNING w_TIMED_OUT w_FAILED w_FAILEDx w_TIMED_OUTx h0 n0 Z0 S) hZ (hw _ (List.mem_of_getElem? (i := 11) rfl)) (hw _ (List.mem_of_getElem? (i := 2) rfl)) (by decide) (by decide)) q5a q5c (g := (mkF m 124 #[.val (.int p0), .val (.int p1), .val (.int (1 : Int32)), .val (.ref w_RUNNING), .val (.int (0 : Int32)), .val (.int (1 : Int32)), .val (.ref w_FAILED)] [(.ref w_FAILEDx)])) rfl (by rw [hml]; rfl) (Steps.refl _) (argsL := []) (rest := []) (lenOf pd_0 rfl) rfl (by show 2 * 0 + _ ≤ _; exact Nat.le_of_eq rfl) (hb hby at_124) (fun _ _ => ⟨rfl, e4, (by decide : 0 + 0 ≤ _), (by decide : 0 + 0 ≤ _)⟩)
  dsimp only [Pt.U, Pt.locs, Pt.cells, Pt.slots] at X5 l5 y5 z5 st5 hQ5
  subst l5 y5 z5
  obtain ⟨rfl, Nq5, e5⟩ := hQ5
  have N5 := Fr.app N4 Nq5
  obtain ⟨fs, hr, hrun, hended, hW, hsame⟩ := X5.leave (v := (some (.int (1 : Int32)))) (fun h => by rw [Bd.returns] at h; cases h)
  refine ⟨_, _, pre0 _ ?_, hrun, hended, _, _, rfl, ⟨rfl, N5, e5⟩, ⟨_, rfl⟩, hW, hsame.mono (by decide) (by decide)⟩
  show Steps p.tables e below (s₁.setTop (mkF m 0 #[.val (.int p0), .val (.int p1), .unset, .unset, .unset, .unset, .unset] [])) _
  refine XS.iloadN X0.here hx rfl (hb hby at_0) rfl ?_
  show Steps p.tables e below (s₁.setTop (mkF m 1 #[.val (.int p0), .val (.int p1), .unset, .unset, .unset, .unset, .unset] [(.int p0)])) _
  refine X0.ldcInt hx hown (mvT hZ (hw _ (List.mem_of_getElem? (i := 0) rfl))) (g := (mkF m 1 #[.val (.int p0), .val (.int p1), .unset, .unset, .unset, .unset, .unset] [(.int p0)])) rfl (hb hby at_1) _ ?_
  show Steps p.tables e below (s₁.setTop (mkF m 3 #[.val (.int p0), .val (.int p1), .unset, .unset, .unset, .unset, .unset] [(.int (2147483647 : Int32)), (.int p0)])) _
  refine XS.iand X0.here hx rfl (hb hby at_3) rfl ?_
  show Steps p.tables e below (s₁.setTop (mkF m 4 #[.val (.int p0), .val (.int p1), .unset, .unset, .unset, .unset, .unset] [(.int (p0 &&& (2147483647 : Int32)))])) _
  show Steps p.tables e below (s₁.setTop (mkF m 4 #[.val (.int p0), .val (.int p1), .unset, .unset, .unset, .unset, .unset] [(.int (p0 &&& (2147483647 : Int32)))])) _
  refine XS.iconst X0.here hx rfl (hb hby at_4) ?_
  show Steps p.tables e below (s₁.setTop (mkF m 5 #[.val (.int p0), .val (.int p1), .unset, .unset, .unset, .unset, .unset] [(.int (5 : Int32)), (.int (p0 &&& (2147483647 : Int32)))])) _
  refine iremM X0 hx rfl (hb hby at_5) rfl (by decide) ?_
  show Steps p.tables e below (s₁.setTop (mkF m 6 #[.val (.int p0), .val (.int p1), .unset, .unset, .unset, .unset, .unset] [(.int ((p0 &&& (2147483647 : Int32)) % (5 : Int32)))])) _
  rw [hk]
  show Steps p.tables e below (s₁.setTop (mkF m 6 #[.val (.int p0), .val (.int p1), .unset, .unset, .unset, .unset, .unset] [(.int (1 : Int32))])) _
  refine XS.istoreN X0.here hx rfl (hb hby at_6) rfl (l' := #[.val (.int p0), .val (.int p1), .val (.int (1 : Int32)), .unset, .unset, .unset, .unset]) rfl ?_
  show Steps p.tables e below (s₁.setTop (mkF m 7 #[.val (.int p0), .val (.int p1), .val (.int (1 : Int32)), .unset, .unset, .unset, .unset] [])) _
  refine XS.iloadN X0.here hx rfl (hb hby at_7) rfl ?_
  show Steps p.tables e below (s₁.setTop (mkF m 8 #[.val (.int p0), .val (.int p1), .val (.int (1 : Int32)), .unset, .unset, .unset, .unset] [(.int (1 : Int32))])) _
  refine XS.ifYes X0.here hx rfl (pc0 := 8) (pc' := 18) rfl (hb hby at_8) rfl ((if0 _ _).trans (feq (by decide : ¬ ((1 : Int32) = (0 : Int32)))).2) (by decide) (by decide) ?_
  show Steps p.tables e below (s₁.setTop (mkF m 18 #[.val (.int p0), .val (.int p1), .val (.int (1 : Int32)), .unset, .unset, .unset, .unset] [])) _
  refine XS.iloadN X0.here hx rfl (hb hby at_18) rfl ?_
  show Steps p.tables e below (s₁.setTop (mkF m 19 #[.val (.int p0), .val (.int p1), .val (.int (1 : Int32)), .unset, .unset, .unset, .unset] [(.int (1 : Int32))])) _
  refine XS.iconst X0.here hx rfl (hb hby at_19) ?_
  show Steps p.tables e below (s₁.setTop (mkF m 20 #[.val (.int p0), .val (.int p1), .val (.int (1 : Int32)), .unset, .unset, .unset, .unset] [(.int (1 : Int32)), (.int (1 : Int32))])) _
  refine XS.icmpNo X0.here hx rfl (hb hby at_20) rfl (teq (by decide : (1 : Int32) = (1 : Int32))).2 ?_
  show Steps p.tables e below (s₁.setTop (mkF m 23 #[.val (.int p0), .val (.int p1), .val (.int (1 : Int32)), .unset, .unset, .unset, .unset] [])) _
  refine st1 _ ?_
  show Steps p.tables e below (T1.setTop (mkF m 26 #[.val (.int p0), .val (.int p1), .val (.int (1 : Int32)), .unset, .unset, .unset, .unset] [(.ref w_RUNNING)])) _
  refine XS.astoreN X1.here hx rfl (hb hby at_26) rfl rfl (l' := #[.val (.int p0), .val (.int p1), .val (.int (1 : Int32)), .val (.ref w_RUNNING), .unset, .unset, .unset]) rfl ?_
  show Steps p.tables e below (T1.setTop (mkF m 27 #[.val (.int p0), .val (.int p1), .val (.int (1 : Int32)), .val (.ref w_RUNNING), .unset, .unset, .unset] [])) _
  refine XS.goto X1.here hx rfl (pc0 := 27) (pc' := 58) rfl (hb hby at_27) (by decide) (by decide) ?_
  show Steps p.tables e below (T1.setTop (mkF m 58 #[.val (.int p0), .val (.int p1), .val (.int (1 : Int32)), .val (.ref w_RUNNING), .unset, .unset, .unset] [])) _
  refine XS.iloadN X1.here hx rfl (hb hby at_58) rfl ?_
  show Steps p.tables e below (T1.setTop (mkF m 59 #[.val (.int p0), .val (.int p1), .val (.int (1 : Int32)), .val (.ref w_RUNNING), .unset, .unset, .unset] [(.int (1 : Int32))])) _
  refine XS.iconst X1.here hx rfl (hb hby at_59) ?_
  show Steps p.tables e below (T1.setTop (mkF m 60 #[.val (.int p0), .val (.int p1), .val (.int (1 : Int32)), .val (.ref w_RUNNING), .unset, .unset, .unset] [(.int (2 : Int32)), (.int (1 : Int32))])) _
  refine XS.icmpYes X1.here hx rfl (pc0 := 60) (pc' := 67) rfl (hb hby at_60) rfl (tlt (by decide : (1 : Int32) < (2 : Int32))).1 (by decide) (by decide) ?_
  show Steps p.tables e below (T1.setTop (mkF m 67 #[.val (.int p0), .val (.int p1), .val (.int (1 : Int32)), .val (.ref w_RUNNING), .unset, .unset, .unset] [])) _
  refine XS.iconst X1.here hx rfl (hb hby at_67) ?_
  show Steps p.tables e below (T1.setTop (mkF m 68 #[.val (.int p0), .val (.int p1), .val (.int (1 : Int32)), .val (.ref w_RUNNING), .unset, .unset, .unset] [(.int (0 : Int32))])) _
  refine XS.istore X1.here hx rfl (hb hby at_68) rfl (l' := #[.val (.int p0), .val (.int p1), .val (.int (1 : Int32)), .val (.ref w_RUNNING), .val (.int (0 : Int32)), .unset, .unset]) rfl ?_
  show Steps p.tables e below (T1.setTop (mkF m 70 #[.val (.int p0), .val (.int p1), .val (.int (1 : Int32)), .val (.ref w_RUNNING), .val (.int (0 : Int32)), .unset, .unset] [])) _
  refine XS.iloadN X1.here hx rfl (hb hby at_70) rfl ?_
  show Steps p.tables e below (T1.setTop (mkF m 71 #[.val (.int p0), .val (.int p1), .val (.int (1 : Int32)), .val (.ref w_RUNNING), .val (.int (0 : Int32)), .unset, .unset] [(.int p1)])) _
  refine X1.ldcInt hx hown (mvT hZ (hw _ (List.mem_of_getElem? (i := 0) rfl))) (g := (mkF m 71 #[.val (.int p0), .val (.int p1), .val (.int (1 : Int32)), .val (.ref w_RUNNING), .val (.int (0 : Int32)), .unset, .unset] [(.int p1)])) rfl (hb hby at_71) _ ?_
  show Steps p.tables e below (T1.setTop (mkF m 73 #[.val (.int p0), .val (.int p1), .val (.int (1 : Int32)), .val (.ref w_RUNNING), .val (.int (0 : Int32)), .unset, .unset] [(.int (2147483647 : Int32)), (.int p1)])) _
  refine XS.iand X1.here hx rfl (hb hby at_73) rfl ?_
  show Steps p.tables e below (T1.setTop (mkF m 74 #[.val (.int p0), .val (.int p1), .val (.int (1 : Int32)), .val (.ref w_RUNNING), .val (.int (0 : Int32)), .unset, .unset] [(.int (p1 &&& (2147483647 : Int32)))])) _
  show Steps p.tables e below (T1.setTop (mkF m 74 #[.val (.int p0), .val (.int p1), .val (.int (1 : Int32)), .val (.ref w_RUNNING), .val (.int (0 : Int32)), .unset, .unset] [(.int (p1 &&& (2147483647 : Int32)))])) _
  refine XS.iconst X1.here hx rfl (hb hby at_74) ?_
  show Steps p.tables e below (T1.setTop (mkF m 75 #[.val (.int p0), .val (.int p1), .val (.int (1 : Int32)), .val (.ref w_RUNNING), .val (.int (0 : Int32)), .unset, .unset] [(.int (3 : Int32)), (.int (p1 &&& (2147483647 : Int32)))])) _
  refine iremM X1 hx rfl (hb hby at_75) rfl (by decide) ?_
  show Steps p.tables e below (T1.setTop (mkF m 76 #[.val (.int p0), .val (.int p1), .val (.int (1 : Int32)), .val (.ref w_RUNNING), .val (.int (0 : Int32)), .unset, .unset] [(.int ((p1 &&& (2147483647 : Int32)) % (3 : Int32)))])) _
  rw [hj]
  show Steps p.tables e below (T1.setTop (mkF m 76 #[.val (.int p0), .val (.int p1), .val (.int (1 : Int32)), .val (.ref w_RUNNING), .val (.int (0 : Int32)), .unset, .unset] [(.int (1 : Int32))])) _
  refine XS.istore X1.here hx rfl (hb hby at_76) rfl (l' := #[.val (.int p0), .val (.int p1), .val (.int (1 : Int32)), .val (.ref w_RUNNING), .val (.int (0 : Int32)), .val (.int (1 : Int32)), .unset]) rfl ?_
  show Steps p.tables e below (T1.setTop (mkF m 78 #[.val (.int p0), .val (.int p1), .val (.int (1 : Int32)), .val (.ref w_RUNNING), .val (.int (0 : Int32)), .val (.int (1 : Int32)), .unset] [])) _
  refine XS.iload X1.here hx rfl (hb hby at_78) rfl ?_
  show Steps p.tables e below (T1.setTop (mkF m 80 #[.val (.int p0), .val (.int p1), .val (.int (1 : Int32)), .val (.ref w_RUNNING), .val (.int (0 : Int32)), .val (.int (1 : Int32)), .unset] [(.int (1 : Int32))])) _
  refine XS.ifYes X1.here hx rfl (pc0 := 80) (pc' := 91) rfl (hb hby at_80) rfl ((if0 _ _).trans (feq (by decide : ¬ ((1 : Int32) = (0 : Int32)))).2) (by decide) (by decide) ?_
  show Steps p.tables e below (T1.setTop (mkF m 91 #[.val (.int p0), .val (.int p1), .val (.int (1 : Int32)), .val (.ref w_RUNNING), .val (.int (0 : Int32)), .val (.int (1 : Int32)), .unset] [])) _
  refine XS.iload X1.here hx rfl (hb hby at_91) rfl ?_
  show Steps p.tables e below (T1.setTop (mkF m 93 #[.val (.int p0), .val (.int p1), .val (.int (1 : Int32)), .val (.ref w_RUNNING), .val (.int (0 : Int32)), .val (.int (1 : Int32)), .unset] [(.int (1 : Int32))])) _
  refine XS.iconst X1.here hx rfl (hb hby at_93) ?_
  show Steps p.tables e below (T1.setTop (mkF m 94 #[.val (.int p0), .val (.int p1), .val (.int (1 : Int32)), .val (.ref w_RUNNING), .val (.int (0 : Int32)), .val (.int (1 : Int32)), .unset] [(.int (1 : Int32)), (.int (1 : Int32))])) _
  refine XS.icmpNo X1.here hx rfl (hb hby at_94) rfl (teq (by decide : (1 : Int32) = (1 : Int32))).2 ?_
  show Steps p.tables e below (T1.setTop (mkF m 97 #[.val (.int p0), .val (.int p1), .val (.int (1 : Int32)), .val (.ref w_RUNNING), .val (.int (0 : Int32)), .val (.int (1 : Int32)), .unset] [])) _
  refine st2 _ ?_
  show Steps p.tables e below (T2.setTop (mkF m 100 #[.val (.int p0), .val (.int p1), .val (.int (1 : Int32)), .val (.ref w_RUNNING), .val (.int (0 : Int32)), .val (.int (1 : Int32)), .unset] [(.ref w_FAILED)])) _
  refine XS.astore X2.here hx rfl (hb hby at_100) rfl rfl (l' := #[.val (.int p0), .val (.int p1), .val (.int (1 : Int32)), .val (.ref w_RUNNING), .val (.int (0 : Int32)), .val (.int (1 : Int32)), .val (.ref w_FAILED)]) rfl ?_
  show Steps p.tables e below (T2.setTop (mkF m 102 #[.val (.int p0), .val (.int p1), .val (.int (1 : Int32)), .val (.ref w_RUNNING), .val (.int (0 : Int32)), .val (.int (1 : Int32)), .val (.ref w_FAILED)] [])) _
  refine XS.goto X2.here hx rfl (pc0 := 102) (pc' := 110) rfl (hb hby at_102) (by decide) (by decide) ?_
  show Steps p.tables e below (T2.setTop (mkF m 110 #[.val (.int p0), .val (.int p1), .val (.int (1 : Int32)), .val (.ref w_RUNNING), .val (.int (0 : Int32)), .val (.int (1 : Int32)), .val (.ref w_FAILED)] [])) _
  refine XS.aloadN X2.here hx rfl (hb hby at_110) rfl rfl ?_
  show Steps p.tables e below (T2.setTop (mkF m 111 #[.val (.int p0), .val (.int p1), .val (.int (1 : Int32)), .val (.ref w_RUNNING), .val (.int (0 : Int32)), .val (.int (1 : Int32)), .val (.ref w_FAILED)] [(.ref w_RUNNING)])) _
  refine st3.trans ?_
  show Steps p.tables e below (T3.setTop (mkF m 114 #[.val (.int p0), .val (.int p1), .val (.int (1 : Int32)), .val (.ref w_RUNNING), .val (.int (0 : Int32)), .val (.int (1 : Int32)), .val (.ref w_FAILED)] [(.int (0 : Int32))])) _
  refine XS.iload X3.here hx rfl (hb hby at_114) rfl ?_
  show Steps p.tables e below (T3.setTop (mkF m 116 #[.val (.int p0), .val (.int p1), .val (.int (1 : Int32)), .val (.ref w_RUNNING), .val (.int (0 : Int32)), .val (.int (1 : Int32)), .val (.ref w_FAILED)] [(.int (0 : Int32)), (.int (0 : Int32))])) _
  refine XS.icmpNo X3.here hx rfl (hb hby at_116) rfl (teq (by decide : (0 : Int32) = (0 : Int32))).2 ?_
  show Steps p.tables e below (T3.setTop (mkF m 119 #[.val (.int p0), .val (.int p1), .val (.int (1 : Int32)), .val (.ref w_RUNNING), .val (.int (0 : Int32)), .val (.int (1 : Int32)), .val (.ref w_FAILED)] [])) _
  refine XS.aload X3.here hx rfl (hb hby at_119) rfl rfl ?_
  show Steps p.tables e below (T3.setTop (mkF m 121 #[.val (.int p0), .val (.int p1), .val (.int (1 : Int32)), .val (.ref w_RUNNING), .val (.int (0 : Int32)), .val (.int (1 : Int32)), .val (.ref w_FAILED)] [(.ref w_FAILED)])) _
  refine st4 _ ?_
  show Steps p.tables e below (T4.setTop (mkF m 124 #[.val (.int p0), .val (.int p1), .val (.int (1 : Int32)), .val (.ref w_RUNNING), .val (.int (0 : Int32)), .val (.int (1 : Int32)), .val (.ref w_FAILED)] [(.ref w_FAILEDx)])) _
  refine st5.trans ?_
  show Steps p.tables e below (T5.setTop (mkF m 127 #[.val (.int p0), .val (.int p1), .val (.int (1 : Int32)), .val (.ref w_RUNNING), .val (.int (0 : Int32)), .val (.int (1 : Int32)), .val (.ref w_FAILED)] [(.int (1 : Int32))])) _
  refine XS.ifNo X5.here hx rfl (hb hby at_127) rfl ((if0 _ _).trans (feq (by decide : ¬ ((1 : Int32) = (0 : Int32)))).1) ?_
  show Steps p.tables e below (T5.setTop (mkF m 130 #[.val (.int p0), .val (.int p1), .val (.int (1 : Int32)), .val (.ref w_RUNNING), .val (.int (0 : Int32)), .val (.int (1 : Int32)), .val (.ref w_FAILED)] [])) _
  refine XS.iconst X5.here hx rfl (hb hby at_130) ?_
  show Steps p.tables e below (T5.setTop (mkF m 131 #[.val (.int p0), .val (.int p1), .val (.int (1 : Int32)), .val (.ref w_RUNNING), .val (.int (0 : Int32)), .val (.int (1 : Int32)), .val (.ref w_FAILED)] [(.int (1 : Int32))])) _
  refine XS.goto X5.here hx rfl (pc0 := 131) (pc' := 135) rfl (hb hby at_131) (by decide) (by decide) ?_
  show Steps p.tables e below (T5.setTop (mkF m 135 #[.val (.int p0), .val (.int p1), .val (.int (1 : Int32)), .val (.ref w_RUNNING), .val (.int (0 : Int32)), .val (.int (1 : Int32)), .val (.ref w_FAILED)] [(.int (1 : Int32))])) _
  exact retN X5 hx (t := .boolean) Bd.returns (by simp) (hb hby at_135) hr
set_option maxRecDepth 65536 in
set_option maxHeartbeats 40000000 in
theorem rm0_5 (l : Launch) (Z : State) (a0 : Array Value) (hw : ∀ d ∈ tables_1, d.before a0 Z = true) (ws : List Jvm.Cond) (w_NEW w_FINISHED w_sm w_FINISHEDx w_RUNNING w_TIMED_OUT w_FAILED w_FAILEDx w_TIMED_OUTx : Addr) (h0 : Heap) (n0 : Nat) (Z0 : n0 ≤ h0.size) (S : SF Z h0 w_NEW w_FINISHED w_sm w_FINISHEDx w_RUNNING w_TIMED_OUT w_FAILED w_FAILEDx w_TIMED_OUTx) (p0 : Int32) (p1 : Int32) (hk : ((p0 &&& (2147483647 : Int32)) % (5 : Int32)) = (1 : Int32)) (hj : ((p1 &&& (2147483647 : Int32)) % (3 : Int32)) = (2 : Int32)) :
    Pay l Z x ws code maxLocals ret #[(.int p0), (.int p1)] h0 n0 room_1 (some (.int (1 : Int32))) := by
  obtain ⟨S_w_NEW, E_w_NEW, S_w_FINISHED, E_w_FINISHED, S_w_sm, V_w_sm, S_w_FINISHEDx, E_w_FINISHEDx, S_w_RUNNING, E_w_RUNNING, S_w_TIMED_OUT, E_w_TIMED_OUT, S_w_FAILED, E_w_FAILED, S_w_FAILEDx, E_w_FAILEDx, S_w_TIMED_OUTx, E_w_TIMED_OUTx, F_ordinal_w_FINISHED, F_ordinal_w_FINISHEDx, F_ordinal_w_NEW, F_ordinal_w_RUNNING, F_ordinal_w_TIMED_OUT, F_ordinal_w_FAILED, F_ordinal_w_FAILEDx, F_ordinal_w_TIMED_OUTx, hne_w_NEW_w_FINISHEDx, hne_w_NEW_w_RUNNING, hne_w_NEW_w_TIMED_OUT, hne_w_NEW_w_FAILEDx, hne_w_FINISHED_w_FAILED, hne_w_FINISHED_w_TIMED_OUTx, hne_w_FINISHEDx_w_RUNNING, hne_w_FINISHEDx_w_TIMED_OUT, hne_w_FINISHEDx_w_FAILEDx, hne_w_RUNNING_w_TIMED_OUT, hne_w_RUNNING_w_FAILEDx, hne_w_TIMED_OUT_w_FAILEDx, hne_w_FAILED_w_TIMED_OUTx⟩ := id S
  refine MetFree.of_bodySF (plainFor_of_name pn_2) hisR ?_
  intro p e s m args below meth c s₁ Bd hml0 hP hK
  obtain ⟨rfl, hZ, hh⟩ := hP
  have hx := Bd.exec
  have hby := Bd.bytes
  have hml : c.maxLocals = 7 := hml0
  have hown : s.vm.findClass "com/example/bowline/bowline/server/RunStateEndedPinLaw" = some m.cls := findClass_of_methodNamed Bd.named
  have X0 : Stand p l e room_1 s m #[(.int p0), (.int p1)] below meth c s₁ [] 0 0 := Stand.of_body Bd
  have e0 : s₁.heap = h0 := by rw [← hh, Bd.state]; rfl
  have N0 := Fr.nil n0
  have pre0 : ∀ t, Steps p.tables e below (s₁.setTop (mkF m 0 #[.val (.int p0), .val (.int p1), .unset, .unset, .unset, .unset, .unset] [])) t → Steps p.tables e below (s₁.setTop (entryFrame m #[(.int p0), (.int p1)] maxLocals)) t := fun t k => castTop (by first | rfl | (simp [entryFrame, mkF, argsToLocals, Value.category, maxLocals]; done)) k
  obtain ⟨T1, X1, e1, st1⟩ := getS2 X0 hx hZ hown (host := "") (Or.inl (hw _ (List.mem_of_getElem? (i := 42) rfl))) Via.refl e0 S_w_RUNNING (g := (mkF m 23 #[.val (.int p0), .val (.int p1), .val (.int (1 : Int32)), .unset, .unset, .unset, .unset] [])) rfl (hb hby at_23)
  obtain ⟨T2, X2, e2, st2⟩ := getS2 X1 hx hZ hown (host := "") (Or.inl (hw _ (List.mem_of_getElem? (i := 39) rfl))) Via.refl e1 S_w_TIMED_OUTx (g := (mkF m 105 #[.val (.int p0), .val (.int p1), .val (.int (1 : Int32)), .val (.ref w_RUNNING), .val (.int (0 : Int32)), .val (.int (2 : Int32)), .unset] [])) rfl (hb hby at_105)
  obtain ⟨cq3, kq3, q3a, q3b, q3c⟩ := isOf hZ e2 E_w_RUNNING
  obtain ⟨_, _, ⟨T3, L3, k3, n3⟩, -, X3, ⟨Lc3, hQ3, l3, y3, z3⟩, st3⟩ := X2.virtualBack hx (y := (⟨"com/example/bowline/bowline/server/RunState", "ended", "()Z"⟩ : MethodName)) (z := (⟨"com/example/bowline/bowline/server/RunState", "ended", "()Z"⟩ : MethodName)) hown (mvT hZ (hw _ (List.mem_of_getElem? (i := 7) rfl))) (mvT hZ (hw _ (List.mem_of_getElem? (i := 8) rfl))) (notFace_of_selects (args := #[]) (mvT hZ (hw _ (List.mem_of_getElem? (i := 10) rfl)))) (mvT hZ (hw _ (List.mem_of_getElem? (i := 10) rfl))) (mvT hZ (hw _ (List.mem_of_getElem? (i := 9) rfl))) (by decide) (backOf (W := 0) (rm1_4 l Z a0 hw [] w_NEW w_FINISHED w_sm w_FINISHEDx w_RUNNING w_TIMED_OUT w_FAILED w_FAILEDx w_TIMED_OUTx h0 n0 Z0 S) hZ (hw _ (List.mem_of_getElem? (i := 11) rfl)) (hw _ (List.mem_of_getElem? (i := 2) rfl)) (by decide) (by decide)) q3a q3c (g := (mkF m 111 #[.val (.int p0), .val (.int p1), .val (.int (1 : Int32)), .val (.ref w_RUNNING), .val (.int (0 : Int32)), .val (.int (2 : Int32)), .val (.ref w_TIMED_OUTx)] [(.ref w_RUNNING)])) rfl (by rw [hml]; rfl) (Steps.refl _) (argsL := []) (rest := []) (lenOf pd_0 rfl) rfl (by show 2 * 0 + _ ≤ _; exact Nat.le_of_eq rfl) (hb hby at_111) (fun _ _ => ⟨rfl, e2, (by decide : 0 + 0 ≤ _), (by decide : 0 + 0 ≤ _)⟩)
  dsimp only [Pt.U, Pt.locs, Pt.cells, Pt.slots] at X3 l3 y3 z3 st3 hQ3
  subst l3 y3 z3
  obtain ⟨rfl, Nq3, e3⟩ := hQ3
  have N3 := Fr.app N0 Nq3
  obtain ⟨_, _, ⟨T4, L4, k4, n4⟩, -, X4, ⟨Lc4, hQ4, l4, y4, z4⟩, st4⟩ := Jvm.LawKit.callS X3 hx (y := (⟨"com/example/bowline/bowline/server/RunState", "of", "(Lcom/example/bowline/bowline/runtime/Status;)Lcom/example/bowline/bowline/server/RunState;"⟩ : MethodName)) hown (mvT hZ (hw _ (List.mem_of_getElem? (i := 13) rfl))) (mvT hZ (hw _ (List.mem_of_getElem? (i := 14) rfl))) (mvT hZ (hw _ (List.mem_of_getElem? (i := 2) rfl))) (mvT hZ (hw _ (List.mem_of_getElem? (i := 15) rfl))) (by decide) (backOf (W := 0) (rm2_2 l Z a0 hw [] w_NEW w_FINISHED w_sm w_FINISHEDx w_RUNNING w_TIMED_OUT w_FAILED w_FAILEDx w_TIMED_OUTx h0 n0 Z0 S) hZ (hw _ (List.mem_of_getElem? (i := 15) rfl)) (hw _ (List.mem_of_getElem? (i := 2) rfl)) (by decide) (by decide)) (g := (mkF m 121 #[.val (.int p0), .val (.int p1), .val (.int (1 : Int32)), .val (.ref w_RUNNING), .val (.int (0 : Int32)), .val (.int (2 : Int32)), .val (.ref w_TIMED_OUTx)] [(.ref w_TIMED_OUTx)])) rfl (by rw [hml]; rfl) (argsL := [(.ref w_TIMED_OUTx)]) (rest := []) (lenOf pd_2 rfl) rfl (by show 2 * 0 + _ ≤ _; exact Nat.le_of_eq rfl) (hb hby at_121) (fun _ _ => ⟨rfl, e3, (by decide : 0 + 0 ≤ _), (by decide : 0 + 0 ≤ _)⟩)
  dsimp only [Pt.U, Pt.locs, Pt.cells, Pt.slots] at X4 l4 y4 z4 st4 hQ4
  subst l4 y4 z4
  obtain ⟨rfl, Nq4, e4⟩ := hQ4
  have N4 := Fr.app N3 Nq4
  obtain ⟨cq5, kq5, q5a, q5b, q5c⟩ := isOf hZ e4 E_w_TIMED_OUT
  obtain ⟨_, _, ⟨T5, L5, k5, n5⟩, -, X5, ⟨Lc5, hQ5, l5, y5, z5⟩, st5⟩ := X4.virtualBack hx (y := (⟨"com/example/bowline/bowline/server/RunState", "ended", "()Z"⟩ : MethodName)) (z := (⟨"com/example/bowline/bowline/server/RunState", "ended", "()Z"⟩ : MethodName)) hown (mvT hZ (hw _ (List.mem_of_getElem? (i := 7) rfl))) (mvT hZ (hw _ (List.mem_of_getElem? (i := 8) rfl))) (notFace_of_selects (args := #[]) (mvT hZ (hw _ (List.mem_of_getElem? (i := 10) rfl)))) (mvT hZ (hw _ (List.mem_of_getElem? (i := 10) rfl))) (mvT hZ (hw _ (List.mem_of_getElem? (i := 9) rfl))) (by decide) (backOf (W := 0) (rm1_3 l Z a0 hw [] w_NEW w_FINISHED w_sm w_FINISHEDx w_RUNNING w_TIMED_OUT w_FAILED w_FAILEDx w_TIMED_OUTx h0 n0 Z0 S) hZ (hw _ (List.mem_of_getElem? (i := 11) rfl)) (hw _ (List.mem_of_getElem? (i := 2) rfl)) (by decide) (by decide)) q5a q5c (g := (mkF m 124 #[.val (.int p0), .val (.int p1), .val (.int (1 : Int32)), .val (.ref w_RUNNING), .val (.int (0 : Int32)), .val (.int (2 : Int32)), .val (.ref w_TIMED_OUTx)] [(.ref w_TIMED_OUT)])) rfl (by rw [hml]; rfl) (Steps.refl _) (argsL := []) (rest := []) (lenOf pd_0 rfl) rfl (by show 2 * 0 + _ ≤ _; exact Nat.le_of_eq rfl) (hb hby at_124) (fun _ _ => ⟨rfl, e4, (by decide : 0 + 0 ≤ _), (by decide : 0 + 0 ≤ _)⟩)
  dsimp only [Pt.U, Pt.locs, Pt.cells, Pt.slots] at X5 l5 y5 z5 st5 hQ5
  subst l5 y5 z5
  obtain ⟨rfl, Nq5, e5⟩ := hQ5
  have N5 := Fr.app N4 Nq5
  obtain ⟨fs, hr, hrun, hended, hW, hsame⟩ := X5.leave (v := (some (.int (1 : Int32)))) (fun h => by rw [Bd.returns] at h; cases h)
  refine ⟨_, _, pre0 _ ?_, hrun, hended, _, _, rfl, ⟨rfl, N5, e5⟩, ⟨_, rfl⟩, hW, hsame.mono (by decide) (by decide)⟩
  show Steps p.tables e below (s₁.setTop (mkF m 0 #[.val (.int p0), .val (.int p1), .unset, .unset, .unset, .unset, .unset] [])) _
  refine XS.iloadN X0.here hx rfl (hb hby at_0) rfl ?_
  show Steps p.tables e below (s₁.setTop (mkF m 1 #[.val (.int p0), .val (.int p1), .unset, .unset, .unset, .unset, .unset] [(.int p0)])) _
  refine X0.ldcInt hx hown (mvT hZ (hw _ (List.mem_of_getElem? (i := 0) rfl))) (g := (mkF m 1 #[.val (.int p0), .val (.int p1), .unset, .unset, .unset, .unset, .unset] [(.int p0)])) rfl (hb hby at_1) _ ?_
  show Steps p.tables e below (s₁.setTop (mkF m 3 #[.val (.int p0), .val (.int p1), .unset, .unset, .unset, .unset, .unset] [(.int (2147483647 : Int32)), (.int p0)])) _
  refine XS.iand X0.here hx rfl (hb hby at_3) rfl ?_
  show Steps p.tables e below (s₁.setTop (mkF m 4 #[.val (.int p0), .val (.int p1), .unset, .unset, .unset, .unset, .unset] [(.int (p0 &&& (2147483647 : Int32)))])) _
  show Steps p.tables e below (s₁.setTop (mkF m 4 #[.val (.int p0), .val (.int p1), .unset, .unset, .unset, .unset, .unset] [(.int (p0 &&& (2147483647 : Int32)))])) _
  refine XS.iconst X0.here hx rfl (hb hby at_4) ?_
  show Steps p.tables e below (s₁.setTop (mkF m 5 #[.val (.int p0), .val (.int p1), .unset, .unset, .unset, .unset, .unset] [(.int (5 : Int32)), (.int (p0 &&& (2147483647 : Int32)))])) _
  refine iremM X0 hx rfl (hb hby at_5) rfl (by decide) ?_
  show Steps p.tables e below (s₁.setTop (mkF m 6 #[.val (.int p0), .val (.int p1), .unset, .unset, .unset, .unset, .unset] [(.int ((p0 &&& (2147483647 : Int32)) % (5 : Int32)))])) _
  rw [hk]
  show Steps p.tables e below (s₁.setTop (mkF m 6 #[.val (.int p0), .val (.int p1), .unset, .unset, .unset, .unset, .unset] [(.int (1 : Int32))])) _
  refine XS.istoreN X0.here hx rfl (hb hby at_6) rfl (l' := #[.val (.int p0), .val (.int p1), .val (.int (1 : Int32)), .unset, .unset, .unset, .unset]) rfl ?_
  show Steps p.tables e below (s₁.setTop (mkF m 7 #[.val (.int p0), .val (.int p1), .val (.int (1 : Int32)), .unset, .unset, .unset, .unset] [])) _
  refine XS.iloadN X0.here hx rfl (hb hby at_7) rfl ?_
  show Steps p.tables e below (s₁.setTop (mkF m 8 #[.val (.int p0), .val (.int p1), .val (.int (1 : Int32)), .unset, .unset, .unset, .unset] [(.int (1 : Int32))])) _
  refine XS.ifYes X0.here hx rfl (pc0 := 8) (pc' := 18) rfl (hb hby at_8) rfl ((if0 _ _).trans (feq (by decide : ¬ ((1 : Int32) = (0 : Int32)))).2) (by decide) (by decide) ?_
  show Steps p.tables e below (s₁.setTop (mkF m 18 #[.val (.int p0), .val (.int p1), .val (.int (1 : Int32)), .unset, .unset, .unset, .unset] [])) _
  refine XS.iloadN X0.here hx rfl (hb hby at_18) rfl ?_
  show Steps p.tables e below (s₁.setTop (mkF m 19 #[.val (.int p0), .val (.int p1), .val (.int (1 : Int32)), .unset, .unset, .unset, .unset] [(.int (1 : Int32))])) _
  refine XS.iconst X0.here hx rfl (hb hby at_19) ?_
  show Steps p.tables e below (s₁.setTop (mkF m 20 #[.val (.int p0), .val (.int p1), .val (.int (1 : Int32)), .unset, .unset, .unset, .unset] [(.int (1 : Int32)), (.int (1 : Int32))])) _
  refine XS.icmpNo X0.here hx rfl (hb hby at_20) rfl (teq (by decide : (1 : Int32) = (1 : Int32))).2 ?_
  show Steps p.tables e below (s₁.setTop (mkF m 23 #[.val (.int p0), .val (.int p1), .val (.int (1 : Int32)), .unset, .unset, .unset, .unset] [])) _
  refine st1 _ ?_
  show Steps p.tables e below (T1.setTop (mkF m 26 #[.val (.int p0), .val (.int p1), .val (.int (1 : Int32)), .unset, .unset, .unset, .unset] [(.ref w_RUNNING)])) _
  refine XS.astoreN X1.here hx rfl (hb hby at_26) rfl rfl (l' := #[.val (.int p0), .val (.int p1), .val (.int (1 : Int32)), .val (.ref w_RUNNING), .unset, .unset, .unset]) rfl ?_
  show Steps p.tables e below (T1.setTop (mkF m 27 #[.val (.int p0), .val (.int p1), .val (.int (1 : Int32)), .val (.ref w_RUNNING), .unset, .unset, .unset] [])) _
  refine XS.goto X1.here hx rfl (pc0 := 27) (pc' := 58) rfl (hb hby at_27) (by decide) (by decide) ?_
  show Steps p.tables e below (T1.setTop (mkF m 58 #[.val (.int p0), .val (.int p1), .val (.int (1 : Int32)), .val (.ref w_RUNNING), .unset, .unset, .unset] [])) _
  refine XS.iloadN X1.here hx rfl (hb hby at_58) rfl ?_
  show Steps p.tables e below (T1.setTop (mkF m 59 #[.val (.int p0), .val (.int p1), .val (.int (1 : Int32)), .val (.ref w_RUNNING), .unset, .unset, .unset] [(.int (1 : Int32))])) _
  refine XS.iconst X1.here hx rfl (hb hby at_59) ?_
  show Steps p.tables e below (T1.setTop (mkF m 60 #[.val (.int p0), .val (.int p1), .val (.int (1 : Int32)), .val (.ref w_RUNNING), .unset, .unset, .unset] [(.int (2 : Int32)), (.int (1 : Int32))])) _
  refine XS.icmpYes X1.here hx rfl (pc0 := 60) (pc' := 67) rfl (hb hby at_60) rfl (tlt (by decide : (1 : Int32) < (2 : Int32))).1 (by decide) (by decide) ?_
  show Steps p.tables e below (T1.setTop (mkF m 67 #[.val (.int p0), .val (.int p1), .val (.int (1 : Int32)), .val (.ref w_RUNNING), .unset, .unset, .unset] [])) _
  refine XS.iconst X1.here hx rfl (hb hby at_67) ?_
  show Steps p.tables e below (T1.setTop (mkF m 68 #[.val (.int p0), .val (.int p1), .val (.int (1 : Int32)), .val (.ref w_RUNNING), .unset, .unset, .unset] [(.int (0 : Int32))])) _
  refine XS.istore X1.here hx rfl (hb hby at_68) rfl (l' := #[.val (.int p0), .val (.int p1), .val (.int (1 : Int32)), .val (.ref w_RUNNING), .val (.int (0 : Int32)), .unset, .unset]) rfl ?_
  show Steps p.tables e below (T1.setTop (mkF m 70 #[.val (.int p0), .val (.int p1), .val (.int (1 : Int32)), .val (.ref w_RUNNING), .val (.int (0 : Int32)), .unset, .unset] [])) _
  refine XS.iloadN X1.here hx rfl (hb hby at_70) rfl ?_
  show Steps p.tables e below (T1.setTop (mkF m 71 #[.val (.int p0), .val (.int p1), .val (.int (1 : Int32)), .val (.ref w_RUNNING), .val (.int (0 : Int32)), .unset, .unset] [(.int p1)])) _
  refine X1.ldcInt hx hown (mvT hZ (hw _ (List.mem_of_getElem? (i := 0) rfl))) (g := (mkF m 71 #[.val (.int p0), .val (.int p1), .val (.int (1 : Int32)), .val (.ref w_RUNNING), .val (.int (0 : Int32)), .unset, .unset] [(.int p1)])) rfl (hb hby at_71) _ ?_
  show Steps p.tables e below (T1.setTop (mkF m 73 #[.val (.int p0), .val (.int p1), .val (.int (1 : Int32)), .val (.ref w_RUNNING), .val (.int (0 : Int32)), .unset, .unset] [(.int (2147483647 : Int32)), (.int p1)])) _
  refine XS.iand X1.here hx rfl (hb hby at_73) rfl ?_
  show Steps p.tables e below (T1.setTop (mkF m 74 #[.val (.int p0), .val (.int p1), .val (.int (1 : Int32)), .val (.ref w_RUNNING), .val (.int (0 : Int32)), .unset, .unset] [(.int (p1 &&& (2147483647 : Int32)))])) _
  show Steps p.tables e below (T1.setTop (mkF m 74 #[.val (.int p0), .val (.int p1), .val (.int (1 : Int32)), .val (.ref w_RUNNING), .val (.int (0 : Int32)), .unset, .unset] [(.int (p1 &&& (2147483647 : Int32)))])) _
  refine XS.iconst X1.here hx rfl (hb hby at_74) ?_
  show Steps p.tables e below (T1.setTop (mkF m 75 #[.val (.int p0), .val (.int p1), .val (.int (1 : Int32)), .val (.ref w_RUNNING), .val (.int (0 : Int32)), .unset, .unset] [(.int (3 : Int32)), (.int (p1 &&& (2147483647 : Int32)))])) _
  refine iremM X1 hx rfl (hb hby at_75) rfl (by decide) ?_
  show Steps p.tables e below (T1.setTop (mkF m 76 #[.val (.int p0), .val (.int p1), .val (.int (1 : Int32)), .val (.ref w_RUNNING), .val (.int (0 : Int32)), .unset, .unset] [(.int ((p1 &&& (2147483647 : Int32)) % (3 : Int32)))])) _
  rw [hj]
  show Steps p.tables e below (T1.setTop (mkF m 76 #[.val (.int p0), .val (.int p1), .val (.int (1 : Int32)), .val (.ref w_RUNNING), .val (.int (0 : Int32)), .unset, .unset] [(.int (2 : Int32))])) _
  refine XS.istore X1.here hx rfl (hb hby at_76) rfl (l' := #[.val (.int p0), .val (.int p1), .val (.int (1 : Int32)), .val (.ref w_RUNNING), .val (.int (0 : Int32)), .val (.int (2 : Int32)), .unset]) rfl ?_
  show Steps p.tables e below (T1.setTop (mkF m 78 #[.val (.int p0), .val (.int p1), .val (.int (1 : Int32)), .val (.ref w_RUNNING), .val (.int (0 : Int32)), .val (.int (2 : Int32)), .unset] [])) _
  refine XS.iload X1.here hx rfl (hb hby at_78) rfl ?_
  show Steps p.tables e below (T1.setTop (mkF m 80 #[.val (.int p0), .val (.int p1), .val (.int (1 : Int32)), .val (.ref w_RUNNING), .val (.int (0 : Int32)), .val (.int (2 : Int32)), .unset] [(.int (2 : Int32))])) _
  refine XS.ifYes X1.here hx rfl (pc0 := 80) (pc' := 91) rfl (hb hby at_80) rfl ((if0 _ _).trans (feq (by decide : ¬ ((2 : Int32) = (0 : Int32)))).2) (by decide) (by decide) ?_
  show Steps p.tables e below (T1.setTop (mkF m 91 #[.val (.int p0), .val (.int p1), .val (.int (1 : Int32)), .val (.ref w_RUNNING), .val (.int (0 : Int32)), .val (.int (2 : Int32)), .unset] [])) _
  refine XS.iload X1.here hx rfl (hb hby at_91) rfl ?_
  show Steps p.tables e below (T1.setTop (mkF m 93 #[.val (.int p0), .val (.int p1), .val (.int (1 : Int32)), .val (.ref w_RUNNING), .val (.int (0 : Int32)), .val (.int (2 : Int32)), .unset] [(.int (2 : Int32))])) _
  refine XS.iconst X1.here hx rfl (hb hby at_93) ?_
  show Steps p.tables e below (T1.setTop (mkF m 94 #[.val (.int p0), .val (.int p1), .val (.int (1 : Int32)), .val (.ref w_RUNNING), .val (.int (0 : Int32)), .val (.int (2 : Int32)), .unset] [(.int (1 : Int32)), (.int (2 : Int32))])) _
  refine XS.icmpYes X1.here hx rfl (pc0 := 94) (pc' := 105) rfl (hb hby at_94) rfl (feq (by decide : ¬ ((2 : Int32) = (1 : Int32)))).2 (by decide) (by decide) ?_
  show Steps p.tables e below (T1.setTop (mkF m 105 #[.val (.int p0), .val (.int p1), .val (.int (1 : Int32)), .val (.ref w_RUNNING), .val (.int (0 : Int32)), .val (.int (2 : Int32)), .unset] [])) _
  refine st2 _ ?_
  show Steps p.tables e below (T2.setTop (mkF m 108 #[.val (.int p0), .val (.int p1), .val (.int (1 : Int32)), .val (.ref w_RUNNING), .val (.int (0 : Int32)), .val (.int (2 : Int32)), .unset] [(.ref w_TIMED_OUTx)])) _
  refine XS.astore X2.here hx rfl (hb hby at_108) rfl rfl (l' := #[.val (.int p0), .val (.int p1), .val (.int (1 : Int32)), .val (.ref w_RUNNING), .val (.int (0 : Int32)), .val (.int (2 : Int32)), .val (.ref w_TIMED_OUTx)]) rfl ?_
  show Steps p.tables e below (T2.setTop (mkF m 110 #[.val (.int p0), .val (.int p1), .val (.int (1 : Int32)), .val (.ref w_RUNNING), .val (.int (0 : Int32)), .val (.int (2 : Int32)), .val (.ref w_TIMED_OUTx)] [])) _
  refine XS.aloadN X2.here hx rfl (hb hby at_110) rfl rfl ?_
  show Steps p.tables e below (T2.setTop (mkF m 111 #[.val (.int p0), .val (.int p1), .val (.int (1 : Int32)), .val (.ref w_RUNNING), .val (.int (0 : Int32)), .val (.int (2 : Int32)), .val (.ref w_TIMED_OUTx)] [(.ref w_RUNNING)])) _
  refine st3.trans ?_
  show Steps p.tables e below (T3.setTop (mkF m 114 #[.val (.int p0), .val (.int p1), .val (.int (1 : Int32)), .val (.ref w_RUNNING), .val (.int (0 : Int32)), .val (.int (2 : Int32)), .val (.ref w_TIMED_OUTx)] [(.int (0 : Int32))])) _
  refine XS.iload X3.here hx rfl (hb hby at_114) rfl ?_
  show Steps p.tables e below (T3.setTop (mkF m 116 #[.val (.int p0), .val (.int p1), .val (.int (1 : Int32)), .val (.ref w_RUNNING), .val (.int (0 : Int32)), .val (.int (2 : Int32)), .val (.ref w_TIMED_OUTx)] [(.int (0 : Int32)), (.int (0 : Int32))])) _
  refine XS.icmpNo X3.here hx rfl (hb hby at_116) rfl (teq (by decide : (0 : Int32) = (0 : Int32))).2 ?_
  show Steps p.tables e below (T3.setTop (mkF m 119 #[.val (.int p0), .val (.int p1), .val (.int (1 : Int32)), .val (.ref w_RUNNING), .val (.int (0 : Int32)), .val (.int (2 : Int32)), .val (.ref w_TIMED_OUTx)] [])) _
  refine XS.aload X3.here hx rfl (hb hby at_119) rfl rfl ?_
  show Steps p.tables e below (T3.setTop (mkF m 121 #[.val (.int p0), .val (.int p1), .val (.int (1 : Int32)), .val (.ref w_RUNNING), .val (.int (0 : Int32)), .val (.int (2 : Int32)), .val (.ref w_TIMED_OUTx)] [(.ref w_TIMED_OUTx)])) _
  refine st4 _ ?_
  show Steps p.tables e below (T4.setTop (mkF m 124 #[.val (.int p0), .val (.int p1), .val (.int (1 : Int32)), .val (.ref w_RUNNING), .val (.int (0 : Int32)), .val (.int (2 : Int32)), .val (.ref w_TIMED_OUTx)] [(.ref w_TIMED_OUT)])) _
  refine st5.trans ?_
  show Steps p.tables e below (T5.setTop (mkF m 127 #[.val (.int p0), .val (.int p1), .val (.int (1 : Int32)), .val (.ref w_RUNNING), .val (.int (0 : Int32)), .val (.int (2 : Int32)), .val (.ref w_TIMED_OUTx)] [(.int (1 : Int32))])) _
  refine XS.ifNo X5.here hx rfl (hb hby at_127) rfl ((if0 _ _).trans (feq (by decide : ¬ ((1 : Int32) = (0 : Int32)))).1) ?_
  show Steps p.tables e below (T5.setTop (mkF m 130 #[.val (.int p0), .val (.int p1), .val (.int (1 : Int32)), .val (.ref w_RUNNING), .val (.int (0 : Int32)), .val (.int (2 : Int32)), .val (.ref w_TIMED_OUTx)] [])) _
  refine XS.iconst X5.here hx rfl (hb hby at_130) ?_
  show Steps p.tables e below (T5.setTop (mkF m 131 #[.val (.int p0), .val (.int p1), .val (.int (1 : Int32)), .val (.ref w_RUNNING), .val (.int (0 : Int32)), .val (.int (2 : Int32)), .val (.ref w_TIMED_OUTx)] [(.int (1 : Int32))])) _
  refine XS.goto X5.here hx rfl (pc0 := 131) (pc' := 135) rfl (hb hby at_131) (by decide) (by decide) ?_
  show Steps p.tables e below (T5.setTop (mkF m 135 #[.val (.int p0), .val (.int p1), .val (.int (1 : Int32)), .val (.ref w_RUNNING), .val (.int (0 : Int32)), .val (.int (2 : Int32)), .val (.ref w_TIMED_OUTx)] [(.int (1 : Int32))])) _
  exact retN X5 hx (t := .boolean) Bd.returns (by simp) (hb hby at_135) hr
set_option maxRecDepth 65536 in
set_option maxHeartbeats 40000000 in
theorem rm0_6 (l : Launch) (Z : State) (a0 : Array Value) (hw : ∀ d ∈ tables_1, d.before a0 Z = true) (ws : List Jvm.Cond) (w_NEW w_FINISHED w_sm w_FINISHEDx w_RUNNING w_TIMED_OUT w_FAILED w_FAILEDx w_TIMED_OUTx : Addr) (h0 : Heap) (n0 : Nat) (Z0 : n0 ≤ h0.size) (S : SF Z h0 w_NEW w_FINISHED w_sm w_FINISHEDx w_RUNNING w_TIMED_OUT w_FAILED w_FAILEDx w_TIMED_OUTx) (p0 : Int32) (p1 : Int32) (hk : ((p0 &&& (2147483647 : Int32)) % (5 : Int32)) = (2 : Int32)) (hj : ((p1 &&& (2147483647 : Int32)) % (3 : Int32)) = (0 : Int32)) :
    Pay l Z x ws code maxLocals ret #[(.int p0), (.int p1)] h0 n0 room_1 (some (.int (1 : Int32))) := by
  obtain ⟨S_w_NEW, E_w_NEW, S_w_FINISHED, E_w_FINISHED, S_w_sm, V_w_sm, S_w_FINISHEDx, E_w_FINISHEDx, S_w_RUNNING, E_w_RUNNING, S_w_TIMED_OUT, E_w_TIMED_OUT, S_w_FAILED, E_w_FAILED, S_w_FAILEDx, E_w_FAILEDx, S_w_TIMED_OUTx, E_w_TIMED_OUTx, F_ordinal_w_FINISHED, F_ordinal_w_FINISHEDx, F_ordinal_w_NEW, F_ordinal_w_RUNNING, F_ordinal_w_TIMED_OUT, F_ordinal_w_FAILED, F_ordinal_w_FAILEDx, F_ordinal_w_TIMED_OUTx, hne_w_NEW_w_FINISHEDx, hne_w_NEW_w_RUNNING, hne_w_NEW_w_TIMED_OUT, hne_w_NEW_w_FAILEDx, hne_w_FINISHED_w_FAILED, hne_w_FINISHED_w_TIMED_OUTx, hne_w_FINISHEDx_w_RUNNING, hne_w_FINISHEDx_w_TIMED_OUT, hne_w_FINISHEDx_w_FAILEDx, hne_w_RUNNING_w_TIMED_OUT, hne_w_RUNNING_w_FAILEDx, hne_w_TIMED_OUT_w_FAILEDx, hne_w_FAILED_w_TIMED_OUTx⟩ := id S
  refine MetFree.of_bodySF (plainFor_of_name pn_2) hisR ?_
  intro p e s m args below meth c s₁ Bd hml0 hP hK
  obtain ⟨rfl, hZ, hh⟩ := hP
  have hx := Bd.exec
  have hby := Bd.bytes
  have hml : c.maxLocals = 7 := hml0
  have hown : s.vm.findClass "com/example/bowline/bowline/server/RunStateEndedPinLaw" = some m.cls := findClass_of_methodNamed Bd.named
  have X0 : Stand p l e room_1 s m #[(.int p0), (.int p1)] below meth c s₁ [] 0 0 := Stand.of_body Bd
  have e0 : s₁.heap = h0 := by rw [← hh, Bd.state]; rfl
  have N0 := Fr.nil n0
  have pre0 : ∀ t, Steps p.tables e below (s₁.setTop (mkF m 0 #[.val (.int p0), .val (.int p1), .unset, .unset, .unset, .unset, .unset] [])) t → Steps p.tables e below (s₁.setTop (entryFrame m #[(.int p0), (.int p1)] maxLocals)) t := fun t k => castTop (by first | rfl | (simp [entryFrame, mkF, argsToLocals, Value.category, maxLocals]; done)) k
  obtain ⟨T1, X1, e1, st1⟩ := getS2 X0 hx hZ hown (host := "") (Or.inl (hw _ (List.mem_of_getElem? (i := 43) rfl))) Via.refl e0 S_w_FINISHEDx (g := (mkF m 35 #[.val (.int p0), .val (.int p1), .val (.int (2 : Int32)), .unset, .unset, .unset, .unset] [])) rfl (hb hby at_35)
  obtain ⟨T2, X2, e2, st2⟩ := getS2 X1 hx hZ hown (host := "") (Or.inl (hw _ (List.mem_of_getElem? (i := 4) rfl))) Via.refl e1 S_w_FINISHED (g := (mkF m 83 #[.val (.int p0), .val (.int p1), .val (.int (2 : Int32)), .val (.ref w_FINISHEDx), .val (.int (1 : Int32)), .val (.int (0 : Int32)), .unset] [])) rfl (hb hby at_83)
  obtain ⟨cq3, kq3, q3a, q3b, q3c⟩ := isOf hZ e2 E_w_FINISHEDx
  obtain ⟨_, _, ⟨T3, L3, k3, n3⟩, -, X3, ⟨Lc3, hQ3, l3, y3, z3⟩, st3⟩ := X2.virtualBack hx (y := (⟨"com/example/bowline/bowline/server/RunState", "ended", "()Z"⟩ : MethodName)) (z := (⟨"com/example/bowline/bowline/server/RunState", "ended", "()Z"⟩ : MethodName)) hown (mvT hZ (hw _ (List.mem_of_getElem? (i := 7) rfl))) (mvT hZ (hw _ (List.mem_of_getElem? (i := 8) rfl))) (notFace_of_selects (args := #[]) (mvT hZ (hw _ (List.mem_of_getElem? (i := 10) rfl)))) (mvT hZ (hw _ (List.mem_of_getElem? (i := 10) rfl))) (mvT hZ (hw _ (List.mem_of_getElem? (i := 9) rfl))) (by decide) (backOf (W := 0) (rm1_1 l Z a0 hw [] w_NEW w_FINISHED w_sm w_FINISHEDx w_RUNNING w_TIMED_OUT w_FAILED w_FAILEDx w_TIMED_OUTx h0 n0 Z0 S) hZ (hw _ (List.mem_of_getElem? (i := 11) rfl)) (hw _ (List.mem_of_getElem? (i := 2) rfl)) (by decide) (by decide)) q3a q3c (g := (mkF m 111 #[.val (.int p0), .val (.int p1), .val (.int (2 : Int32)), .val (.ref w_FINISHEDx), .val (.int (1 : Int32)), .val (.int (0 : Int32)), .val (.ref w_FINISHED)] [(.ref w_FINISHEDx)])) rfl (by rw [hml]; rfl) (Steps.refl _) (argsL := []) (rest := []) (lenOf pd_0 rfl) rfl (by show 2 * 0 + _ ≤ _; exact Nat.le_of_eq rfl) (hb hby at_111) (fun _ _ => ⟨rfl, e2, (by decide : 0 + 0 ≤ _), (by decide : 0 + 0 ≤ _)⟩)
  dsimp only [Pt.U, Pt.locs, Pt.cells, Pt.slots] at X3 l3 y3 z3 st3 hQ3
  subst l3 y3 z3
  obtain ⟨rfl, Nq3, e3⟩ := hQ3
  have N3 := Fr.app N0 Nq3
  obtain ⟨_, _, ⟨T4, L4, k4, n4⟩, -, X4, ⟨Lc4, hQ4, l4, y4, z4⟩, st4⟩ := Jvm.LawKit.callS X3 hx (y := (⟨"com/example/bowline/bowline/server/RunState", "of", "(Lcom/example/bowline/bowline/runtime/Status;)Lcom/example/bowline/bowline/server/RunState;"⟩ : MethodName)) hown (mvT hZ (hw _ (List.mem_of_getElem? (i := 13) rfl))) (mvT hZ (hw _ (List.mem_of_getElem? (i := 14) rfl))) (mvT hZ (hw _ (List.mem_of_getElem? (i := 2) rfl))) (mvT hZ (hw _ (List.mem_of_getElem? (i := 15) rfl))) (by decide) (backOf (W := 0) (rm2_0 l Z a0 hw [] w_NEW w_FINISHED w_sm w_FINISHEDx w_RUNNING w_TIMED_OUT w_FAILED w_FAILEDx w_TIMED_OUTx h0 n0 Z0 S) hZ (hw _ (List.mem_of_getElem? (i := 15) rfl)) (hw _ (List.mem_of_getElem? (i := 2) rfl)) (by decide) (by decide)) (g := (mkF m 121 #[.val (.int p0), .val (.int p1), .val (.int (2 : Int32)), .val (.ref w_FINISHEDx), .val (.int (1 : Int32)), .val (.int (0 : Int32)), .val (.ref w_FINISHED)] [(.ref w_FINISHED)])) rfl (by rw [hml]; rfl) (argsL := [(.ref w_FINISHED)]) (rest := []) (lenOf pd_2 rfl) rfl (by show 2 * 0 + _ ≤ _; exact Nat.le_of_eq rfl) (hb hby at_121) (fun _ _ => ⟨rfl, e3, (by decide : 0 + 0 ≤ _), (by decide : 0 + 0 ≤ _)⟩)
  dsimp only [Pt.U, Pt.locs, Pt.cells, Pt.slots] at X4 l4 y4 z4 st4 hQ4
  subst l4 y4 z4
  obtain ⟨rfl, Nq4, e4⟩ := hQ4
  have N4 := Fr.app N3 Nq4
  obtain ⟨cq5, kq5, q5a, q5b, q5c⟩ := isOf hZ e4 E_w_FINISHEDx
  obtain ⟨_, _, ⟨T5, L5, k5, n5⟩, -, X5, ⟨Lc5, hQ5, l5, y5, z5⟩, st5⟩ := X4.virtualBack hx (y := (⟨"com/example/bowline/bowline/server/RunState", "ended", "()Z"⟩ : MethodName)) (z := (⟨"com/example/bowline/bowline/server/RunState", "ended", "()Z"⟩ : MethodName)) hown (mvT hZ (hw _ (List.mem_of_getElem? (i := 7) rfl))) (mvT hZ (hw _ (List.mem_of_getElem? (i := 8) rfl))) (notFace_of_selects (args := #[]) (mvT hZ (hw _ (List.mem_of_getElem? (i := 10) rfl)))) (mvT hZ (hw _ (List.mem_of_getElem? (i := 10) rfl))) (mvT hZ (hw _ (List.mem_of_getElem? (i := 9) rfl))) (by decide) (backOf (W := 0) (rm1_1 l Z a0 hw [] w_NEW w_FINISHED w_sm w_FINISHEDx w_RUNNING w_TIMED_OUT w_FAILED w_FAILEDx w_TIMED_OUTx h0 n0 Z0 S) hZ (hw _ (List.mem_of_getElem? (i := 11) rfl)) (hw _ (List.mem_of_getElem? (i := 2) rfl)) (by decide) (by decide)) q5a q5c (g := (mkF m 124 #[.val (.int p0), .val (.int p1), .val (.int (2 : Int32)), .val (.ref w_FINISHEDx), .val (.int (1 : Int32)), .val (.int (0 : Int32)), .val (.ref w_FINISHED)] [(.ref w_FINISHEDx)])) rfl (by rw [hml]; rfl) (Steps.refl _) (argsL := []) (rest := []) (lenOf pd_0 rfl) rfl (by show 2 * 0 + _ ≤ _; exact Nat.le_of_eq rfl) (hb hby at_124) (fun _ _ => ⟨rfl, e4, (by decide : 0 + 0 ≤ _), (by decide : 0 + 0 ≤ _)⟩)
  dsimp only [Pt.U, Pt.locs, Pt.cells, Pt.slots] at X5 l5 y5 z5 st5 hQ5
  subst l5 y5 z5
  obtain ⟨rfl, Nq5, e5⟩ := hQ5
  have N5 := Fr.app N4 Nq5
  obtain ⟨fs, hr, hrun, hended, hW, hsame⟩ := X5.leave (v := (some (.int (1 : Int32)))) (fun h => by rw [Bd.returns] at h; cases h)
  refine ⟨_, _, pre0 _ ?_, hrun, hended, _, _, rfl, ⟨rfl, N5, e5⟩, ⟨_, rfl⟩, hW, hsame.mono (by decide) (by decide)⟩
  show Steps p.tables e below (s₁.setTop (mkF m 0 #[.val (.int p0), .val (.int p1), .unset, .unset, .unset, .unset, .unset] [])) _
  refine XS.iloadN X0.here hx rfl (hb hby at_0) rfl ?_
  show Steps p.tables e below (s₁.setTop (mkF m 1 #[.val (.int p0), .val (.int p1), .unset, .unset, .unset, .unset, .unset] [(.int p0)])) _
  refine X0.ldcInt hx hown (mvT hZ (hw _ (List.mem_of_getElem? (i := 0) rfl))) (g := (mkF m 1 #[.val (.int p0), .val (.int p1), .unset, .unset, .unset, .unset, .unset] [(.int p0)])) rfl (hb hby at_1) _ ?_
  show Steps p.tables e below (s₁.setTop (mkF m 3 #[.val (.int p0), .val (.int p1), .unset, .unset, .unset, .unset, .unset] [(.int (2147483647 : Int32)), (.int p0)])) _
  refine XS.iand X0.here hx rfl (hb hby at_3) rfl ?_
  show Steps p.tables e below (s₁.setTop (mkF m 4 #[.val (.int p0), .val (.int p1), .unset, .unset, .unset, .unset, .unset] [(.int (p0 &&& (2147483647 : Int32)))])) _
  show Steps p.tables e below (s₁.setTop (mkF m 4 #[.val (.int p0), .val (.int p1), .unset, .unset, .unset, .unset, .unset] [(.int (p0 &&& (2147483647 : Int32)))])) _
  refine XS.iconst X0.here hx rfl (hb hby at_4) ?_
  show Steps p.tables e below (s₁.setTop (mkF m 5 #[.val (.int p0), .val (.int p1), .unset, .unset, .unset, .unset, .unset] [(.int (5 : Int32)), (.int (p0 &&& (2147483647 : Int32)))])) _
  refine iremM X0 hx rfl (hb hby at_5) rfl (by decide) ?_
  show Steps p.tables e below (s₁.setTop (mkF m 6 #[.val (.int p0), .val (.int p1), .unset, .unset, .unset, .unset, .unset] [(.int ((p0 &&& (2147483647 : Int32)) % (5 : Int32)))])) _
  rw [hk]
  show Steps p.tables e below (s₁.setTop (mkF m 6 #[.val (.int p0), .val (.int p1), .unset, .unset, .unset, .unset, .unset] [(.int (2 : Int32))])) _
  refine XS.istoreN X0.here hx rfl (hb hby at_6) rfl (l' := #[.val (.int p0), .val (.int p1), .val (.int (2 : Int32)), .unset, .unset, .unset, .unset]) rfl ?_
  show Steps p.tables e below (s₁.setTop (mkF m 7 #[.val (.int p0), .val (.int p1), .val (.int (2 : Int32)), .unset, .unset, .unset, .unset] [])) _
  refine XS.iloadN X0.here hx rfl (hb hby at_7) rfl ?_
  show Steps p.tables e below (s₁.setTop (mkF m 8 #[.val (.int p0), .val (.int p1), .val (.int (2 : Int32)), .unset, .unset, .unset, .unset] [(.int (2 : Int32))])) _
  refine XS.ifYes X0.here hx rfl (pc0 := 8) (pc' := 18) rfl (hb hby at_8) rfl ((if0 _ _).trans (feq (by decide : ¬ ((2 : Int32) = (0 : Int32)))).2) (by decide) (by decide) ?_
  show Steps p.tables e below (s₁.setTop (mkF m 18 #[.val (.int p0), .val (.int p1), .val (.int (2 : Int32)), .unset, .unset, .unset, .unset] [])) _
  refine XS.iloadN X0.here hx rfl (hb hby at_18) rfl ?_
  show Steps p.tables e below (s₁.setTop (mkF m 19 #[.val (.int p0), .val (.int p1), .val (.int (2 : Int32)), .unset, .unset, .unset, .unset] [(.int (2 : Int32))])) _
  refine XS.iconst X0.here hx rfl (hb hby at_19) ?_
  show Steps p.tables e below (s₁.setTop (mkF m 20 #[.val (.int p0), .val (.int p1), .val (.int (2 : Int32)), .unset, .unset, .unset, .unset] [(.int (1 : Int32)), (.int (2 : Int32))])) _
  refine XS.icmpYes X0.here hx rfl (pc0 := 20) (pc' := 30) rfl (hb hby at_20) rfl (feq (by decide : ¬ ((2 : Int32) = (1 : Int32)))).2 (by decide) (by decide) ?_
  show Steps p.tables e below (s₁.setTop (mkF m 30 #[.val (.int p0), .val (.int p1), .val (.int (2 : Int32)), .unset, .unset, .unset, .unset] [])) _
  refine XS.iloadN X0.here hx rfl (hb hby at_30) rfl ?_
  show Steps p.tables e below (s₁.setTop (mkF m 31 #[.val (.int p0), .val (.int p1), .val (.int (2 : Int32)), .unset, .unset, .unset, .unset] [(.int (2 : Int32))])) _
  refine XS.iconst X0.here hx rfl (hb hby at_31) ?_
  show Steps p.tables e below (s₁.setTop (mkF m 32 #[.val (.int p0), .val (.int p1), .val (.int (2 : Int32)), .unset, .unset, .unset, .unset] [(.int (2 : Int32)), (.int (2 : Int32))])) _
  refine XS.icmpNo X0.here hx rfl (hb hby at_32) rfl (teq (by decide : (2 : Int32) = (2 : Int32))).2 ?_
  show Steps p.tables e below (s₁.setTop (mkF m 35 #[.val (.int p0), .val (.int p1), .val (.int (2 : Int32)), .unset, .unset, .unset, .unset] [])) _
  refine st1 _ ?_
  show Steps p.tables e below (T1.setTop (mkF m 38 #[.val (.int p0), .val (.int p1), .val (.int (2 : Int32)), .unset, .unset, .unset, .unset] [(.ref w_FINISHEDx)])) _
  refine XS.astoreN X1.here hx rfl (hb hby at_38) rfl rfl (l' := #[.val (.int p0), .val (.int p1), .val (.int (2 : Int32)), .val (.ref w_FINISHEDx), .unset, .unset, .unset]) rfl ?_
  show Steps p.tables e below (T1.setTop (mkF m 39 #[.val (.int p0), .val (.int p1), .val (.int (2 : Int32)), .val (.ref w_FINISHEDx), .unset, .unset, .unset] [])) _
  refine XS.goto X1.here hx rfl (pc0 := 39) (pc' := 58) rfl (hb hby at_39) (by decide) (by decide) ?_
  show Steps p.tables e below (T1.setTop (mkF m 58 #[.val (.int p0), .val (.int p1), .val (.int (2 : Int32)), .val (.ref w_FINISHEDx), .unset, .unset, .unset] [])) _
  refine XS.iloadN X1.here hx rfl (hb hby at_58) rfl ?_
  show Steps p.tables e below (T1.setTop (mkF m 59 #[.val (.int p0), .val (.int p1), .val (.int (2 : Int32)), .val (.ref w_FINISHEDx), .unset, .unset, .unset] [(.int (2 : Int32))])) _
  refine XS.iconst X1.here hx rfl (hb hby at_59) ?_
  show Steps p.tables e below (T1.setTop (mkF m 60 #[.val (.int p0), .val (.int p1), .val (.int (2 : Int32)), .val (.ref w_FINISHEDx), .unset, .unset, .unset] [(.int (2 : Int32)), (.int (2 : Int32))])) _
  refine XS.icmpNo X1.here hx rfl (hb hby at_60) rfl (flt (by decide : ¬ ((2 : Int32) < (2 : Int32)))).1 ?_
  show Steps p.tables e below (T1.setTop (mkF m 63 #[.val (.int p0), .val (.int p1), .val (.int (2 : Int32)), .val (.ref w_FINISHEDx), .unset, .unset, .unset] [])) _
  refine XS.iconst X1.here hx rfl (hb hby at_63) ?_
  show Steps p.tables e below (T1.setTop (mkF m 64 #[.val (.int p0), .val (.int p1), .val (.int (2 : Int32)), .val (.ref w_FINISHEDx), .unset, .unset, .unset] [(.int (1 : Int32))])) _
  refine XS.goto X1.here hx rfl (pc0 := 64) (pc' := 68) rfl (hb hby at_64) (by decide) (by decide) ?_
  show Steps p.tables e below (T1.setTop (mkF m 68 #[.val (.int p0), .val (.int p1), .val (.int (2 : Int32)), .val (.ref w_FINISHEDx), .unset, .unset, .unset] [(.int (1 : Int32))])) _
  refine XS.istore X1.here hx rfl (hb hby at_68) rfl (l' := #[.val (.int p0), .val (.int p1), .val (.int (2 : Int32)), .val (.ref w_FINISHEDx), .val (.int (1 : Int32)), .unset, .unset]) rfl ?_
  show Steps p.tables e below (T1.setTop (mkF m 70 #[.val (.int p0), .val (.int p1), .val (.int (2 : Int32)), .val (.ref w_FINISHEDx), .val (.int (1 : Int32)), .unset, .unset] [])) _
  refine XS.iloadN X1.here hx rfl (hb hby at_70) rfl ?_
  show Steps p.tables e below (T1.setTop (mkF m 71 #[.val (.int p0), .val (.int p1), .val (.int (2 : Int32)), .val (.ref w_FINISHEDx), .val (.int (1 : Int32)), .unset, .unset] [(.int p1)])) _
  refine X1.ldcInt hx hown (mvT hZ (hw _ (List.mem_of_getElem? (i := 0) rfl))) (g := (mkF m 71 #[.val (.int p0), .val (.int p1), .val (.int (2 : Int32)), .val (.ref w_FINISHEDx), .val (.int (1 : Int32)), .unset, .unset] [(.int p1)])) rfl (hb hby at_71) _ ?_
  show Steps p.tables e below (T1.setTop (mkF m 73 #[.val (.int p0), .val (.int p1), .val (.int (2 : Int32)), .val (.ref w_FINISHEDx), .val (.int (1 : Int32)), .unset, .unset] [(.int (2147483647 : Int32)), (.int p1)])) _
  refine XS.iand X1.here hx rfl (hb hby at_73) rfl ?_
  show Steps p.tables e below (T1.setTop (mkF m 74 #[.val (.int p0), .val (.int p1), .val (.int (2 : Int32)), .val (.ref w_FINISHEDx), .val (.int (1 : Int32)), .unset, .unset] [(.int (p1 &&& (2147483647 : Int32)))])) _
  show Steps p.tables e below (T1.setTop (mkF m 74 #[.val (.int p0), .val (.int p1), .val (.int (2 : Int32)), .val (.ref w_FINISHEDx), .val (.int (1 : Int32)), .unset, .unset] [(.int (p1 &&& (2147483647 : Int32)))])) _
  refine XS.iconst X1.here hx rfl (hb hby at_74) ?_
  show Steps p.tables e below (T1.setTop (mkF m 75 #[.val (.int p0), .val (.int p1), .val (.int (2 : Int32)), .val (.ref w_FINISHEDx), .val (.int (1 : Int32)), .unset, .unset] [(.int (3 : Int32)), (.int (p1 &&& (2147483647 : Int32)))])) _
  refine iremM X1 hx rfl (hb hby at_75) rfl (by decide) ?_
  show Steps p.tables e below (T1.setTop (mkF m 76 #[.val (.int p0), .val (.int p1), .val (.int (2 : Int32)), .val (.ref w_FINISHEDx), .val (.int (1 : Int32)), .unset, .unset] [(.int ((p1 &&& (2147483647 : Int32)) % (3 : Int32)))])) _
  rw [hj]
  show Steps p.tables e below (T1.setTop (mkF m 76 #[.val (.int p0), .val (.int p1), .val (.int (2 : Int32)), .val (.ref w_FINISHEDx), .val (.int (1 : Int32)), .unset, .unset] [(.int (0 : Int32))])) _
  refine XS.istore X1.here hx rfl (hb hby at_76) rfl (l' := #[.val (.int p0), .val (.int p1), .val (.int (2 : Int32)), .val (.ref w_FINISHEDx), .val (.int (1 : Int32)), .val (.int (0 : Int32)), .unset]) rfl ?_
  show Steps p.tables e below (T1.setTop (mkF m 78 #[.val (.int p0), .val (.int p1), .val (.int (2 : Int32)), .val (.ref w_FINISHEDx), .val (.int (1 : Int32)), .val (.int (0 : Int32)), .unset] [])) _
  refine XS.iload X1.here hx rfl (hb hby at_78) rfl ?_
  show Steps p.tables e below (T1.setTop (mkF m 80 #[.val (.int p0), .val (.int p1), .val (.int (2 : Int32)), .val (.ref w_FINISHEDx), .val (.int (1 : Int32)), .val (.int (0 : Int32)), .unset] [(.int (0 : Int32))])) _
  refine XS.ifNo X1.here hx rfl (hb hby at_80) rfl ((if0 _ _).trans (teq (by decide : (0 : Int32) = (0 : Int32))).2) ?_
  show Steps p.tables e below (T1.setTop (mkF m 83 #[.val (.int p0), .val (.int p1), .val (.int (2 : Int32)), .val (.ref w_FINISHEDx), .val (.int (1 : Int32)), .val (.int (0 : Int32)), .unset] [])) _
  refine st2 _ ?_
  show Steps p.tables e below (T2.setTop (mkF m 86 #[.val (.int p0), .val (.int p1), .val (.int (2 : Int32)), .val (.ref w_FINISHEDx), .val (.int (1 : Int32)), .val (.int (0 : Int32)), .unset] [(.ref w_FINISHED)])) _
  refine XS.astore X2.here hx rfl (hb hby at_86) rfl rfl (l' := #[.val (.int p0), .val (.int p1), .val (.int (2 : Int32)), .val (.ref w_FINISHEDx), .val (.int (1 : Int32)), .val (.int (0 : Int32)), .val (.ref w_FINISHED)]) rfl ?_
  show Steps p.tables e below (T2.setTop (mkF m 88 #[.val (.int p0), .val (.int p1), .val (.int (2 : Int32)), .val (.ref w_FINISHEDx), .val (.int (1 : Int32)), .val (.int (0 : Int32)), .val (.ref w_FINISHED)] [])) _
  refine XS.goto X2.here hx rfl (pc0 := 88) (pc' := 110) rfl (hb hby at_88) (by decide) (by decide) ?_
  show Steps p.tables e below (T2.setTop (mkF m 110 #[.val (.int p0), .val (.int p1), .val (.int (2 : Int32)), .val (.ref w_FINISHEDx), .val (.int (1 : Int32)), .val (.int (0 : Int32)), .val (.ref w_FINISHED)] [])) _
  refine XS.aloadN X2.here hx rfl (hb hby at_110) rfl rfl ?_
  show Steps p.tables e below (T2.setTop (mkF m 111 #[.val (.int p0), .val (.int p1), .val (.int (2 : Int32)), .val (.ref w_FINISHEDx), .val (.int (1 : Int32)), .val (.int (0 : Int32)), .val (.ref w_FINISHED)] [(.ref w_FINISHEDx)])) _
  refine st3.trans ?_
  show Steps p.tables e below (T3.setTop (mkF m 114 #[.val (.int p0), .val (.int p1), .val (.int (2 : Int32)), .val (.ref w_FINISHEDx), .val (.int (1 : Int32)), .val (.int (0 : Int32)), .val (.ref w_FINISHED)] [(.int (1 : Int32))])) _
  refine XS.iload X3.here hx rfl (hb hby at_114) rfl ?_
  show Steps p.tables e below (T3.setTop (mkF m 116 #[.val (.int p0), .val (.int p1), .val (.int (2 : Int32)), .val (.ref w_FINISHEDx), .val (.int (1 : Int32)), .val (.int (0 : Int32)), .val (.ref w_FINISHED)] [(.int (1 : Int32)), (.int (1 : Int32))])) _
  refine XS.icmpNo X3.here hx rfl (hb hby at_116) rfl (teq (by decide : (1 : Int32) = (1 : Int32))).2 ?_
  show Steps p.tables e below (T3.setTop (mkF m 119 #[.val (.int p0), .val (.int p1), .val (.int (2 : Int32)), .val (.ref w_FINISHEDx), .val (.int (1 : Int32)), .val (.int (0 : Int32)), .val (.ref w_FINISHED)] [])) _
  refine XS.aload X3.here hx rfl (hb hby at_119) rfl rfl ?_
  show Steps p.tables e below (T3.setTop (mkF m 121 #[.val (.int p0), .val (.int p1), .val (.int (2 : Int32)), .val (.ref w_FINISHEDx), .val (.int (1 : Int32)), .val (.int (0 : Int32)), .val (.ref w_FINISHED)] [(.ref w_FINISHED)])) _
  refine st4 _ ?_
  show Steps p.tables e below (T4.setTop (mkF m 124 #[.val (.int p0), .val (.int p1), .val (.int (2 : Int32)), .val (.ref w_FINISHEDx), .val (.int (1 : Int32)), .val (.int (0 : Int32)), .val (.ref w_FINISHED)] [(.ref w_FINISHEDx)])) _
  refine st5.trans ?_
  show Steps p.tables e below (T5.setTop (mkF m 127 #[.val (.int p0), .val (.int p1), .val (.int (2 : Int32)), .val (.ref w_FINISHEDx), .val (.int (1 : Int32)), .val (.int (0 : Int32)), .val (.ref w_FINISHED)] [(.int (1 : Int32))])) _
  refine XS.ifNo X5.here hx rfl (hb hby at_127) rfl ((if0 _ _).trans (feq (by decide : ¬ ((1 : Int32) = (0 : Int32)))).1) ?_
  show Steps p.tables e below (T5.setTop (mkF m 130 #[.val (.int p0), .val (.int p1), .val (.int (2 : Int32)), .val (.ref w_FINISHEDx), .val (.int (1 : Int32)), .val (.int (0 : Int32)), .val (.ref w_FINISHED)] [])) _
  refine XS.iconst X5.here hx rfl (hb hby at_130) ?_
  show Steps p.tables e below (T5.setTop (mkF m 131 #[.val (.int p0), .val (.int p1), .val (.int (2 : Int32)), .val (.ref w_FINISHEDx), .val (.int (1 : Int32)), .val (.int (0 : Int32)), .val (.ref w_FINISHED)] [(.int (1 : Int32))])) _
  refine XS.goto X5.here hx rfl (pc0 := 131) (pc' := 135) rfl (hb hby at_131) (by decide) (by decide) ?_
  show Steps p.tables e below (T5.setTop (mkF m 135 #[.val (.int p0), .val (.int p1), .val (.int (2 : Int32)), .val (.ref w_FINISHEDx), .val (.int (1 : Int32)), .val (.int (0 : Int32)), .val (.ref w_FINISHED)] [(.int (1 : Int32))])) _
  exact retN X5 hx (t := .boolean) Bd.returns (by simp) (hb hby at_135) hr
set_option maxRecDepth 65536 in
set_option maxHeartbeats 40000000 in
theorem rm0_7 (l : Launch) (Z : State) (a0 : Array Value) (hw : ∀ d ∈ tables_1, d.before a0 Z = true) (ws : List Jvm.Cond) (w_NEW w_FINISHED w_sm w_FINISHEDx w_RUNNING w_TIMED_OUT w_FAILED w_FAILEDx w_TIMED_OUTx : Addr) (h0 : Heap) (n0 : Nat) (Z0 : n0 ≤ h0.size) (S : SF Z h0 w_NEW w_FINISHED w_sm w_FINISHEDx w_RUNNING w_TIMED_OUT w_FAILED w_FAILEDx w_TIMED_OUTx) (p0 : Int32) (p1 : Int32) (hk : ((p0 &&& (2147483647 : Int32)) % (5 : Int32)) = (2 : Int32)) (hj : ((p1 &&& (2147483647 : Int32)) % (3 : Int32)) = (1 : Int32)) :
    Pay l Z x ws code maxLocals ret #[(.int p0), (.int p1)] h0 n0 room_1 (some (.int (1 : Int32))) := by
  obtain ⟨S_w_NEW, E_w_NEW, S_w_FINISHED, E_w_FINISHED, S_w_sm, V_w_sm, S_w_FINISHEDx, E_w_FINISHEDx, S_w_RUNNING, E_w_RUNNING, S_w_TIMED_OUT, E_w_TIMED_OUT, S_w_FAILED, E_w_FAILED, S_w_FAILEDx, E_w_FAILEDx, S_w_TIMED_OUTx, E_w_TIMED_OUTx, F_ordinal_w_FINISHED, F_ordinal_w_FINISHEDx, F_ordinal_w_NEW, F_ordinal_w_RUNNING, F_ordinal_w_TIMED_OUT, F_ordinal_w_FAILED, F_ordinal_w_FAILEDx, F_ordinal_w_TIMED_OUTx, hne_w_NEW_w_FINISHEDx, hne_w_NEW_w_RUNNING, hne_w_NEW_w_TIMED_OUT, hne_w_NEW_w_FAILEDx, hne_w_FINISHED_w_FAILED, hne_w_FINISHED_w_TIMED_OUTx, hne_w_FINISHEDx_w_RUNNING, hne_w_FINISHEDx_w_TIMED_OUT, hne_w_FINISHEDx_w_FAILEDx, hne_w_RUNNING_w_TIMED_OUT, hne_w_RUNNING_w_FAILEDx, hne_w_TIMED_OUT_w_FAILEDx, hne_w_FAILED_w_TIMED_OUTx⟩ := id S
  refine MetFree.of_bodySF (plainFor_of_name pn_2) hisR ?_
  intro p e s m args below meth c s₁ Bd hml0 hP hK
  obtain ⟨rfl, hZ, hh⟩ := hP
  have hx := Bd.exec
  have hby := Bd.bytes
  have hml : c.maxLocals = 7 := hml0
  have hown : s.vm.findClass "com/example/bowline/bowline/server/RunStateEndedPinLaw" = some m.cls := findClass_of_methodNamed Bd.named
  have X0 : Stand p l e room_1 s m #[(.int p0), (.int p1)] below meth c s₁ [] 0 0 := Stand.of_body Bd
  have e0 : s₁.heap = h0 := by rw [← hh, Bd.state]; rfl
  have N0 := Fr.nil n0
  have pre0 : ∀ t, Steps p.tables e below (s₁.setTop (mkF m 0 #[.val (.int p0), .val (.int p1), .unset, .unset, .unset, .unset, .unset] [])) t → Steps p.tables e below (s₁.setTop (entryFrame m #[(.int p0), (.int p1)] maxLocals)) t := fun t k => castTop (by first | rfl | (simp [entryFrame, mkF, argsToLocals, Value.category, maxLocals]; done)) k
  obtain ⟨T1, X1, e1, st1⟩ := getS2 X0 hx hZ hown (host := "") (Or.inl (hw _ (List.mem_of_getElem? (i := 43) rfl))) Via.refl e0 S_w_FINISHEDx (g := (mkF m 35 #[.val (.int p0), .val (.int p1), .val (.int (2 : Int32)), .unset, .unset, .unset, .unset] [])) rfl (hb hby at_35)
  obtain ⟨T2, X2, e2, st2⟩ := getS2 X1 hx hZ hown (host := "") (Or.inl (hw _ (List.mem_of_getElem? (i := 34) rfl))) Via.refl e1 S_w_FAILED (g := (mkF m 97 #[.val (.int p0), .val (.int p1), .val (.int (2 : Int32)), .val (.ref w_FINISHEDx), .val (.int (1 : Int32)), .val (.int (1 : Int32)), .unset] [])) rfl (hb hby at_97)
  obtain ⟨cq3, kq3, q3a, q3b, q3c⟩ := isOf hZ e2 E_w_FINISHEDx
  obtain ⟨_, _, ⟨T3, L3, k3, n3⟩, -, X3, ⟨Lc3, hQ3, l3, y3, z3⟩, st3⟩ := X2.virtualBack hx (y := (⟨"com/example/bowline/bowline/server/RunState", "ended", "()Z"⟩ : MethodName)) (z := (⟨"com/example/bowline/bowline/server/RunState", "ended", "()Z"⟩ : MethodName)) hown (mvT hZ (hw _ (List.mem_of_getElem? (i := 7) rfl))) (mvT hZ (hw _ (List.mem_of_getElem? (i := 8) rfl))) (notFace_of_selects (args := #[]) (mvT hZ (hw _ (List.mem_of_getElem? (i := 10) rfl)))) (mvT hZ (hw _ (List.mem_of_getElem? (i := 10) rfl))) (mvT hZ (hw _ (List.mem_of_getElem? (i := 9) rfl))) (by decide) (backOf (W := 0) (rm1_1 l Z a0 hw [] w_NEW w_FINISHED w_sm w_FINISHEDx w_RUNNING w_TIMED_OUT w_FAILED w_FAILEDx w_TIMED_OUTx h0 n0 Z0 S) hZ (hw _ (List.mem_of_getElem? (i := 11) rfl)) (hw _ (List.mem_of_getElem? (i := 2) rfl)) (by decide) (by decide)) q3a q3c (g := (mkF m 111 #[.val (.int p0), .val (.int p1), .val (.int (2 : Int32)), .val (.ref w_FINISHEDx), .val (.int (1 : Int32)), .val (.int (1 : Int32)), .val (.ref w_FAILED)] [(.ref w_FINISHEDx)])) rfl (by rw [hml]; rfl) (Steps.refl _) (argsL := []) (rest := []) (lenOf pd_0 rfl) rfl (by show 2 * 0 + _ ≤ _; exact Nat.le_of_eq rfl) (hb hby at_111) (fun _ _ => ⟨rfl, e2, (by decide : 0 + 0 ≤ _), (by decide : 0 + 0 ≤ _)⟩)
  dsimp only [Pt.U, Pt.locs, Pt.cells, Pt.slots] at X3 l3 y3 z3 st3 hQ3
  subst l3 y3 z3
  obtain ⟨rfl, Nq3, e3⟩ := hQ3
  have N3 := Fr.app N0 Nq3
  obtain ⟨_, _, ⟨T4, L4, k4, n4⟩, -, X4, ⟨Lc4, hQ4, l4, y4, z4⟩, st4⟩ := Jvm.LawKit.callS X3 hx (y := (⟨"com/example/bowline/bowline/server/RunState", "of", "(Lcom/example/bowline/bowline/runtime/Status;)Lcom/example/bowline/bowline/server/RunState;"⟩ : MethodName)) hown (mvT hZ (hw _ (List.mem_of_getElem? (i := 13) rfl))) (mvT hZ (hw _ (List.mem_of_getElem? (i := 14) rfl))) (mvT hZ (hw _ (List.mem_of_getElem? (i := 2) rfl))) (mvT hZ (hw _ (List.mem_of_getElem? (i := 15) rfl))) (by decide) (backOf (W := 0) (rm2_1 l Z a0 hw [] w_NEW w_FINISHED w_sm w_FINISHEDx w_RUNNING w_TIMED_OUT w_FAILED w_FAILEDx w_TIMED_OUTx h0 n0 Z0 S) hZ (hw _ (List.mem_of_getElem? (i := 15) rfl)) (hw _ (List.mem_of_getElem? (i := 2) rfl)) (by decide) (by decide)) (g := (mkF m 121 #[.val (.int p0), .val (.int p1), .val (.int (2 : Int32)), .val (.ref w_FINISHEDx), .val (.int (1 : Int32)), .val (.int (1 : Int32)), .val (.ref w_FAILED)] [(.ref w_FAILED)])) rfl (by rw [hml]; rfl) (argsL := [(.ref w_FAILED)]) (rest := []) (lenOf pd_2 rfl) rfl (by show 2 * 0 + _ ≤ _; exact Nat.le_of_eq rfl) (hb hby at_121) (fun _ _ => ⟨rfl, e3, (by decide : 0 + 0 ≤ _), (by decide : 0 + 0 ≤ _)⟩)
  dsimp only [Pt.U, Pt.locs, Pt.cells, Pt.slots] at X4 l4 y4 z4 st4 hQ4
  subst l4 y4 z4
  obtain ⟨rfl, Nq4, e4⟩ := hQ4
  have N4 := Fr.app N3 Nq4
  obtain ⟨cq5, kq5, q5a, q5b, q5c⟩ := isOf hZ e4 E_w_FAILEDx
  obtain ⟨_, _, ⟨T5, L5, k5, n5⟩, -, X5, ⟨Lc5, hQ5, l5, y5, z5⟩, st5⟩ := X4.virtualBack hx (y := (⟨"com/example/bowline/bowline/server/RunState", "ended", "()Z"⟩ : MethodName)) (z := (⟨"com/example/bowline/bowline/server/RunState", "ended", "()Z"⟩ : MethodName)) hown (mvT hZ (hw _ (List.mem_of_getElem? (i := 7) rfl))) (mvT hZ (hw _ (List.mem_of_getElem? (i := 8) rfl))) (notFace_of_selects (args := #[]) (mvT hZ (hw _ (List.mem_of_getElem? (i := 10) rfl)))) (mvT hZ (hw _ (List.mem_of_getElem? (i := 10) rfl))) (mvT hZ (hw _ (List.mem_of_getElem? (i := 9) rfl))) (by decide) (backOf (W := 0) (rm1_2 l Z a0 hw [] w_NEW w_FINISHED w_sm w_FINISHEDx w_RUNNING w_TIMED_OUT w_FAILED w_FAILEDx w_TIMED_OUTx h0 n0 Z0 S) hZ (hw _ (List.mem_of_getElem? (i := 11) rfl)) (hw _ (List.mem_of_getElem? (i := 2) rfl)) (by decide) (by decide)) q5a q5c (g := (mkF m 124 #[.val (.int p0), .val (.int p1), .val (.int (2 : Int32)), .val (.ref w_FINISHEDx), .val (.int (1 : Int32)), .val (.int (1 : Int32)), .val (.ref w_FAILED)] [(.ref w_FAILEDx)])) rfl (by rw [hml]; rfl) (Steps.refl _) (argsL := []) (rest := []) (lenOf pd_0 rfl) rfl (by show 2 * 0 + _ ≤ _; exact Nat.le_of_eq rfl) (hb hby at_124) (fun _ _ => ⟨rfl, e4, (by decide : 0 + 0 ≤ _), (by decide : 0 + 0 ≤ _)⟩)
  dsimp only [Pt.U, Pt.locs, Pt.cells, Pt.slots] at X5 l5 y5 z5 st5 hQ5
  subst l5 y5 z5
  obtain ⟨rfl, Nq5, e5⟩ := hQ5
  have N5 := Fr.app N4 Nq5
  obtain ⟨fs, hr, hrun, hended, hW, hsame⟩ := X5.leave (v := (some (.int (1 : Int32)))) (fun h => by rw [Bd.returns] at h; cases h)
  refine ⟨_, _, pre0 _ ?_, hrun, hended, _, _, rfl, ⟨rfl, N5, e5⟩, ⟨_, rfl⟩, hW, hsame.mono (by decide) (by decide)⟩
  show Steps p.tables e below (s₁.setTop (mkF m 0 #[.val (.int p0), .val (.int p1), .unset, .unset, .unset, .unset, .unset] [])) _
  refine XS.iloadN X0.here hx rfl (hb hby at_0) rfl ?_
  show Steps p.tables e below (s₁.setTop (mkF m 1 #[.val (.int p0), .val (.int p1), .unset, .unset, .unset, .unset, .unset] [(.int p0)])) _
  refine X0.ldcInt hx hown (mvT hZ (hw _ (List.mem_of_getElem? (i := 0) rfl))) (g := (mkF m 1 #[.val (.int p0), .val (.int p1), .unset, .unset, .unset, .unset, .unset] [(.int p0)])) rfl (hb hby at_1) _ ?_
  show Steps p.tables e below (s₁.setTop (mkF m 3 #[.val (.int p0), .val (.int p1), .unset, .unset, .unset, .unset, .unset] [(.int (2147483647 : Int32)), (.int p0)])) _
  refine XS.iand X0.here hx rfl (hb hby at_3) rfl ?_
  show Steps p.tables e below (s₁.setTop (mkF m 4 #[.val (.int p0), .val (.int p1), .unset, .unset, .unset, .unset, .unset] [(.int (p0 &&& (2147483647 : Int32)))])) _
  show Steps p.tables e below (s₁.setTop (mkF m 4 #[.val (.int p0), .val (.int p1), .unset, .unset, .unset, .unset, .unset] [(.int (p0 &&& (2147483647 : Int32)))])) _
  refine XS.iconst X0.here hx rfl (hb hby at_4) ?_
  show Steps p.tables e below (s₁.setTop (mkF m 5 #[.val (.int p0), .val (.int p1), .unset, .unset, .unset, .unset, .unset] [(.int (5 : Int32)), (.int (p0 &&& (2147483647 : Int32)))])) _
  refine iremM X0 hx rfl (hb hby at_5) rfl (by decide) ?_
  show Steps p.tables e below (s₁.setTop (mkF m 6 #[.val (.int p0), .val (.int p1), .unset, .unset, .unset, .unset, .unset] [(.int ((p0 &&& (2147483647 : Int32)) % (5 : Int32)))])) _
  rw [hk]
  show Steps p.tables e below (s₁.setTop (mkF m 6 #[.val (.int p0), .val (.int p1), .unset, .unset, .unset, .unset, .unset] [(.int (2 : Int32))])) _
  refine XS.istoreN X0.here hx rfl (hb hby at_6) rfl (l' := #[.val (.int p0), .val (.int p1), .val (.int (2 : Int32)), .unset, .unset, .unset, .unset]) rfl ?_
  show Steps p.tables e below (s₁.setTop (mkF m 7 #[.val (.int p0), .val (.int p1), .val (.int (2 : Int32)), .unset, .unset, .unset, .unset] [])) _
  refine XS.iloadN X0.here hx rfl (hb hby at_7) rfl ?_
  show Steps p.tables e below (s₁.setTop (mkF m 8 #[.val (.int p0), .val (.int p1), .val (.int (2 : Int32)), .unset, .unset, .unset, .unset] [(.int (2 : Int32))])) _
  refine XS.ifYes X0.here hx rfl (pc0 := 8) (pc' := 18) rfl (hb hby at_8) rfl ((if0 _ _).trans (feq (by decide : ¬ ((2 : Int32) = (0 : Int32)))).2) (by decide) (by decide) ?_
  show Steps p.tables e below (s₁.setTop (mkF m 18 #[.val (.int p0), .val (.int p1), .val (.int (2 : Int32)), .unset, .unset, .unset, .unset] [])) _
  refine XS.iloadN X0.here hx rfl (hb hby at_18) rfl ?_
  show Steps p.tables e below (s₁.setTop (mkF m 19 #[.val (.int p0), .val (.int p1), .val (.int (2 : Int32)), .unset, .unset, .unset, .unset] [(.int (2 : Int32))])) _
  refine XS.iconst X0.here hx rfl (hb hby at_19) ?_
  show Steps p.tables e below (s₁.setTop (mkF m 20 #[.val (.int p0), .val (.int p1), .val (.int (2 : Int32)), .unset, .unset, .unset, .unset] [(.int (1 : Int32)), (.int (2 : Int32))])) _
  refine XS.icmpYes X0.here hx rfl (pc0 := 20) (pc' := 30) rfl (hb hby at_20) rfl (feq (by decide : ¬ ((2 : Int32) = (1 : Int32)))).2 (by decide) (by decide) ?_
  show Steps p.tables e below (s₁.setTop (mkF m 30 #[.val (.int p0), .val (.int p1), .val (.int (2 : Int32)), .unset, .unset, .unset, .unset] [])) _
  refine XS.iloadN X0.here hx rfl (hb hby at_30) rfl ?_
  show Steps p.tables e below (s₁.setTop (mkF m 31 #[.val (.int p0), .val (.int p1), .val (.int (2 : Int32)), .unset, .unset, .unset, .unset] [(.int (2 : Int32))])) _
  refine XS.iconst X0.here hx rfl (hb hby at_31) ?_
  show Steps p.tables e below (s₁.setTop (mkF m 32 #[.val (.int p0), .val (.int p1), .val (.int (2 : Int32)), .unset, .unset, .unset, .unset] [(.int (2 : Int32)), (.int (2 : Int32))])) _
  refine XS.icmpNo X0.here hx rfl (hb hby at_32) rfl (teq (by decide : (2 : Int32) = (2 : Int32))).2 ?_
  show Steps p.tables e below (s₁.setTop (mkF m 35 #[.val (.int p0), .val (.int p1), .val (.int (2 : Int32)), .unset, .unset, .unset, .unset] [])) _
  refine st1 _ ?_
  show Steps p.tables e below (T1.setTop (mkF m 38 #[.val (.int p0), .val (.int p1), .val (.int (2 : Int32)), .unset, .unset, .unset, .unset] [(.ref w_FINISHEDx)])) _
  refine XS.astoreN X1.here hx rfl (hb hby at_38) rfl rfl (l' := #[.val (.int p0), .val (.int p1), .val (.int (2 : Int32)), .val (.ref w_FINISHEDx), .unset, .unset, .unset]) rfl ?_
  show Steps p.tables e below (T1.setTop (mkF m 39 #[.val (.int p0), .val (.int p1), .val (.int (2 : Int32)), .val (.ref w_FINISHEDx), .unset, .unset, .unset] [])) _
  refine XS.goto X1.here hx rfl (pc0 := 39) (pc' := 58) rfl (hb hby at_39) (by decide) (by decide) ?_
  show Steps p.tables e below (T1.setTop (mkF m 58 #[.val (.int p0), .val (.int p1), .val (.int (2 : Int32)), .val (.ref w_FINISHEDx), .unset, .unset, .unset] [])) _
  refine XS.iloadN X1.here hx rfl (hb hby at_58) rfl ?_
  show Steps p.tables e below (T1.setTop (mkF m 59 #[.val (.int p0), .val (.int p1), .val (.int (2 : Int32)), .val (.ref w_FINISHEDx), .unset, .unset, .unset] [(.int (2 : Int32))])) _
  refine XS.iconst X1.here hx rfl (hb hby at_59) ?_
  show Steps p.tables e below (T1.setTop (mkF m 60 #[.val (.int p0), .val (.int p1), .val (.int (2 : Int32)), .val (.ref w_FINISHEDx), .unset, .unset, .unset] [(.int (2 : Int32)), (.int (2 : Int32))])) _
  refine XS.icmpNo X1.here hx rfl (hb hby at_60) rfl (flt (by decide : ¬ ((2 : Int32) < (2 : Int32)))).1 ?_
  show Steps p.tables e below (T1.setTop (mkF m 63 #[.val (.int p0), .val (.int p1), .val (.int (2 : Int32)), .val (.ref w_FINISHEDx), .unset, .unset, .unset] [])) _
  refine XS.iconst X1.here hx rfl (hb hby at_63) ?_
  show Steps p.tables e below (T1.setTop (mkF m 64 #[.val (.int p0), .val (.int p1), .val (.int (2 : Int32)), .val (.ref w_FINISHEDx), .unset, .unset, .unset] [(.int (1 : Int32))])) _
  refine XS.goto X1.here hx rfl (pc0 := 64) (pc' := 68) rfl (hb hby at_64) (by decide) (by decide) ?_
  show Steps p.tables e below (T1.setTop (mkF m 68 #[.val (.int p0), .val (.int p1), .val (.int (2 : Int32)), .val (.ref w_FINISHEDx), .unset, .unset, .unset] [(.int (1 : Int32))])) _
  refine XS.istore X1.here hx rfl (hb hby at_68) rfl (l' := #[.val (.int p0), .val (.int p1), .val (.int (2 : Int32)), .val (.ref w_FINISHEDx), .val (.int (1 : Int32)), .unset, .unset]) rfl ?_
  show Steps p.tables e below (T1.setTop (mkF m 70 #[.val (.int p0), .val (.int p1), .val (.int (2 : Int32)), .val (.ref w_FINISHEDx), .val (.int (1 : Int32)), .unset, .unset] [])) _
  refine XS.iloadN X1.here hx rfl (hb hby at_70) rfl ?_
  show Steps p.tables e below (T1.setTop (mkF m 71 #[.val (.int p0), .val (.int p1), .val (.int (2 : Int32)), .val (.ref w_FINISHEDx), .val (.int (1 : Int32)), .unset, .unset] [(.int p1)])) _
  refine X1.ldcInt hx hown (mvT hZ (hw _ (List.mem_of_getElem? (i := 0) rfl))) (g := (mkF m 71 #[.val (.int p0), .val (.int p1), .val (.int (2 : Int32)), .val (.ref w_FINISHEDx), .val (.int (1 : Int32)), .unset, .unset] [(.int p1)])) rfl (hb hby at_71) _ ?_
  show Steps p.tables e below (T1.setTop (mkF m 73 #[.val (.int p0), .val (.int p1), .val (.int (2 : Int32)), .val (.ref w_FINISHEDx), .val (.int (1 : Int32)), .unset, .unset] [(.int (2147483647 : Int32)), (.int p1)])) _
  refine XS.iand X1.here hx rfl (hb hby at_73) rfl ?_
  show Steps p.tables e below (T1.setTop (mkF m 74 #[.val (.int p0), .val (.int p1), .val (.int (2 : Int32)), .val (.ref w_FINISHEDx), .val (.int (1 : Int32)), .unset, .unset] [(.int (p1 &&& (2147483647 : Int32)))])) _
  show Steps p.tables e below (T1.setTop (mkF m 74 #[.val (.int p0), .val (.int p1), .val (.int (2 : Int32)), .val (.ref w_FINISHEDx), .val (.int (1 : Int32)), .unset, .unset] [(.int (p1 &&& (2147483647 : Int32)))])) _
  refine XS.iconst X1.here hx rfl (hb hby at_74) ?_
  show Steps p.tables e below (T1.setTop (mkF m 75 #[.val (.int p0), .val (.int p1), .val (.int (2 : Int32)), .val (.ref w_FINISHEDx), .val (.int (1 : Int32)), .unset, .unset] [(.int (3 : Int32)), (.int (p1 &&& (2147483647 : Int32)))])) _
  refine iremM X1 hx rfl (hb hby at_75) rfl (by decide) ?_
  show Steps p.tables e below (T1.setTop (mkF m 76 #[.val (.int p0), .val (.int p1), .val (.int (2 : Int32)), .val (.ref w_FINISHEDx), .val (.int (1 : Int32)), .unset, .unset] [(.int ((p1 &&& (2147483647 : Int32)) % (3 : Int32)))])) _
  rw [hj]
  show Steps p.tables e below (T1.setTop (mkF m 76 #[.val (.int p0), .val (.int p1), .val (.int (2 : Int32)), .val (.ref w_FINISHEDx), .val (.int (1 : Int32)), .unset, .unset] [(.int (1 : Int32))])) _
  refine XS.istore X1.here hx rfl (hb hby at_76) rfl (l' := #[.val (.int p0), .val (.int p1), .val (.int (2 : Int32)), .val (.ref w_FINISHEDx), .val (.int (1 : Int32)), .val (.int (1 : Int32)), .unset]) rfl ?_
  show Steps p.tables e below (T1.setTop (mkF m 78 #[.val (.int p0), .val (.int p1), .val (.int (2 : Int32)), .val (.ref w_FINISHEDx), .val (.int (1 : Int32)), .val (.int (1 : Int32)), .unset] [])) _
  refine XS.iload X1.here hx rfl (hb hby at_78) rfl ?_
  show Steps p.tables e below (T1.setTop (mkF m 80 #[.val (.int p0), .val (.int p1), .val (.int (2 : Int32)), .val (.ref w_FINISHEDx), .val (.int (1 : Int32)), .val (.int (1 : Int32)), .unset] [(.int (1 : Int32))])) _
  refine XS.ifYes X1.here hx rfl (pc0 := 80) (pc' := 91) rfl (hb hby at_80) rfl ((if0 _ _).trans (feq (by decide : ¬ ((1 : Int32) = (0 : Int32)))).2) (by decide) (by decide) ?_
  show Steps p.tables e below (T1.setTop (mkF m 91 #[.val (.int p0), .val (.int p1), .val (.int (2 : Int32)), .val (.ref w_FINISHEDx), .val (.int (1 : Int32)), .val (.int (1 : Int32)), .unset] [])) _
  refine XS.iload X1.here hx rfl (hb hby at_91) rfl ?_
  show Steps p.tables e below (T1.setTop (mkF m 93 #[.val (.int p0), .val (.int p1), .val (.int (2 : Int32)), .val (.ref w_FINISHEDx), .val (.int (1 : Int32)), .val (.int (1 : Int32)), .unset] [(.int (1 : Int32))])) _
  refine XS.iconst X1.here hx rfl (hb hby at_93) ?_
  show Steps p.tables e below (T1.setTop (mkF m 94 #[.val (.int p0), .val (.int p1), .val (.int (2 : Int32)), .val (.ref w_FINISHEDx), .val (.int (1 : Int32)), .val (.int (1 : Int32)), .unset] [(.int (1 : Int32)), (.int (1 : Int32))])) _
  refine XS.icmpNo X1.here hx rfl (hb hby at_94) rfl (teq (by decide : (1 : Int32) = (1 : Int32))).2 ?_
  show Steps p.tables e below (T1.setTop (mkF m 97 #[.val (.int p0), .val (.int p1), .val (.int (2 : Int32)), .val (.ref w_FINISHEDx), .val (.int (1 : Int32)), .val (.int (1 : Int32)), .unset] [])) _
  refine st2 _ ?_
  show Steps p.tables e below (T2.setTop (mkF m 100 #[.val (.int p0), .val (.int p1), .val (.int (2 : Int32)), .val (.ref w_FINISHEDx), .val (.int (1 : Int32)), .val (.int (1 : Int32)), .unset] [(.ref w_FAILED)])) _
  refine XS.astore X2.here hx rfl (hb hby at_100) rfl rfl (l' := #[.val (.int p0), .val (.int p1), .val (.int (2 : Int32)), .val (.ref w_FINISHEDx), .val (.int (1 : Int32)), .val (.int (1 : Int32)), .val (.ref w_FAILED)]) rfl ?_
  show Steps p.tables e below (T2.setTop (mkF m 102 #[.val (.int p0), .val (.int p1), .val (.int (2 : Int32)), .val (.ref w_FINISHEDx), .val (.int (1 : Int32)), .val (.int (1 : Int32)), .val (.ref w_FAILED)] [])) _
  refine XS.goto X2.here hx rfl (pc0 := 102) (pc' := 110) rfl (hb hby at_102) (by decide) (by decide) ?_
  show Steps p.tables e below (T2.setTop (mkF m 110 #[.val (.int p0), .val (.int p1), .val (.int (2 : Int32)), .val (.ref w_FINISHEDx), .val (.int (1 : Int32)), .val (.int (1 : Int32)), .val (.ref w_FAILED)] [])) _
  refine XS.aloadN X2.here hx rfl (hb hby at_110) rfl rfl ?_
  show Steps p.tables e below (T2.setTop (mkF m 111 #[.val (.int p0), .val (.int p1), .val (.int (2 : Int32)), .val (.ref w_FINISHEDx), .val (.int (1 : Int32)), .val (.int (1 : Int32)), .val (.ref w_FAILED)] [(.ref w_FINISHEDx)])) _
  refine st3.trans ?_
  show Steps p.tables e below (T3.setTop (mkF m 114 #[.val (.int p0), .val (.int p1), .val (.int (2 : Int32)), .val (.ref w_FINISHEDx), .val (.int (1 : Int32)), .val (.int (1 : Int32)), .val (.ref w_FAILED)] [(.int (1 : Int32))])) _
  refine XS.iload X3.here hx rfl (hb hby at_114) rfl ?_
  show Steps p.tables e below (T3.setTop (mkF m 116 #[.val (.int p0), .val (.int p1), .val (.int (2 : Int32)), .val (.ref w_FINISHEDx), .val (.int (1 : Int32)), .val (.int (1 : Int32)), .val (.ref w_FAILED)] [(.int (1 : Int32)), (.int (1 : Int32))])) _
  refine XS.icmpNo X3.here hx rfl (hb hby at_116) rfl (teq (by decide : (1 : Int32) = (1 : Int32))).2 ?_
  show Steps p.tables e below (T3.setTop (mkF m 119 #[.val (.int p0), .val (.int p1), .val (.int (2 : Int32)), .val (.ref w_FINISHEDx), .val (.int (1 : Int32)), .val (.int (1 : Int32)), .val (.ref w_FAILED)] [])) _
  refine XS.aload X3.here hx rfl (hb hby at_119) rfl rfl ?_
  show Steps p.tables e below (T3.setTop (mkF m 121 #[.val (.int p0), .val (.int p1), .val (.int (2 : Int32)), .val (.ref w_FINISHEDx), .val (.int (1 : Int32)), .val (.int (1 : Int32)), .val (.ref w_FAILED)] [(.ref w_FAILED)])) _
  refine st4 _ ?_
  show Steps p.tables e below (T4.setTop (mkF m 124 #[.val (.int p0), .val (.int p1), .val (.int (2 : Int32)), .val (.ref w_FINISHEDx), .val (.int (1 : Int32)), .val (.int (1 : Int32)), .val (.ref w_FAILED)] [(.ref w_FAILEDx)])) _
  refine st5.trans ?_
  show Steps p.tables e below (T5.setTop (mkF m 127 #[.val (.int p0), .val (.int p1), .val (.int (2 : Int32)), .val (.ref w_FINISHEDx), .val (.int (1 : Int32)), .val (.int (1 : Int32)), .val (.ref w_FAILED)] [(.int (1 : Int32))])) _
  refine XS.ifNo X5.here hx rfl (hb hby at_127) rfl ((if0 _ _).trans (feq (by decide : ¬ ((1 : Int32) = (0 : Int32)))).1) ?_
  show Steps p.tables e below (T5.setTop (mkF m 130 #[.val (.int p0), .val (.int p1), .val (.int (2 : Int32)), .val (.ref w_FINISHEDx), .val (.int (1 : Int32)), .val (.int (1 : Int32)), .val (.ref w_FAILED)] [])) _
  refine XS.iconst X5.here hx rfl (hb hby at_130) ?_
  show Steps p.tables e below (T5.setTop (mkF m 131 #[.val (.int p0), .val (.int p1), .val (.int (2 : Int32)), .val (.ref w_FINISHEDx), .val (.int (1 : Int32)), .val (.int (1 : Int32)), .val (.ref w_FAILED)] [(.int (1 : Int32))])) _
  refine XS.goto X5.here hx rfl (pc0 := 131) (pc' := 135) rfl (hb hby at_131) (by decide) (by decide) ?_
  show Steps p.tables e below (T5.setTop (mkF m 135 #[.val (.int p0), .val (.int p1), .val (.int (2 : Int32)), .val (.ref w_FINISHEDx), .val (.int (1 : Int32)), .val (.int (1 : Int32)), .val (.ref w_FAILED)] [(.int (1 : Int32))])) _
  exact retN X5 hx (t := .boolean) Bd.returns (by simp) (hb hby at_135) hr
set_option maxRecDepth 65536 in
set_option maxHeartbeats 40000000 in
theorem rm0_8 (l : Launch) (Z : State) (a0 : Array Value) (hw : ∀ d ∈ tables_1, d.before a0 Z = true) (ws : List Jvm.Cond) (w_NEW w_FINISHED w_sm w_FINISHEDx w_RUNNING w_TIMED_OUT w_FAILED w_FAILEDx w_TIMED_OUTx : Addr) (h0 : Heap) (n0 : Nat) (Z0 : n0 ≤ h0.size) (S : SF Z h0 w_NEW w_FINISHED w_sm w_FINISHEDx w_RUNNING w_TIMED_OUT w_FAILED w_FAILEDx w_TIMED_OUTx) (p0 : Int32) (p1 : Int32) (hk : ((p0 &&& (2147483647 : Int32)) % (5 : Int32)) = (2 : Int32)) (hj : ((p1 &&& (2147483647 : Int32)) % (3 : Int32)) = (2 : Int32)) :
    Pay l Z x ws code maxLocals ret #[(.int p0), (.int p1)] h0 n0 room_1 (some (.int (1 : Int32))) := by
  obtain ⟨S_w_NEW, E_w_NEW, S_w_FINISHED, E_w_FINISHED, S_w_sm, V_w_sm, S_w_FINISHEDx, E_w_FINISHEDx, S_w_RUNNING, E_w_RUNNING, S_w_TIMED_OUT, E_w_TIMED_OUT, S_w_FAILED, E_w_FAILED, S_w_FAILEDx, E_w_FAILEDx, S_w_TIMED_OUTx, E_w_TIMED_OUTx, F_ordinal_w_FINISHED, F_ordinal_w_FINISHEDx, F_ordinal_w_NEW, F_ordinal_w_RUNNING, F_ordinal_w_TIMED_OUT, F_ordinal_w_FAILED, F_ordinal_w_FAILEDx, F_ordinal_w_TIMED_OUTx, hne_w_NEW_w_FINISHEDx, hne_w_NEW_w_RUNNING, hne_w_NEW_w_TIMED_OUT, hne_w_NEW_w_FAILEDx, hne_w_FINISHED_w_FAILED, hne_w_FINISHED_w_TIMED_OUTx, hne_w_FINISHEDx_w_RUNNING, hne_w_FINISHEDx_w_TIMED_OUT, hne_w_FINISHEDx_w_FAILEDx, hne_w_RUNNING_w_TIMED_OUT, hne_w_RUNNING_w_FAILEDx, hne_w_TIMED_OUT_w_FAILEDx, hne_w_FAILED_w_TIMED_OUTx⟩ := id S
  refine MetFree.of_bodySF (plainFor_of_name pn_2) hisR ?_
  intro p e s m args below meth c s₁ Bd hml0 hP hK
  obtain ⟨rfl, hZ, hh⟩ := hP
  have hx := Bd.exec
  have hby := Bd.bytes
  have hml : c.maxLocals = 7 := hml0
  have hown : s.vm.findClass "com/example/bowline/bowline/server/RunStateEndedPinLaw" = some m.cls := findClass_of_methodNamed Bd.named
  have X0 : Stand p l e room_1 s m #[(.int p0), (.int p1)] below meth c s₁ [] 0 0 := Stand.of_body Bd
  have e0 : s₁.heap = h0 := by rw [← hh, Bd.state]; rfl
  have N0 := Fr.nil n0
  have pre0 : ∀ t, Steps p.tables e below (s₁.setTop (mkF m 0 #[.val (.int p0), .val (.int p1), .unset, .unset, .unset, .unset, .unset] [])) t → Steps p.tables e below (s₁.setTop (entryFrame m #[(.int p0), (.int p1)] maxLocals)) t := fun t k => castTop (by first | rfl | (simp [entryFrame, mkF, argsToLocals, Value.category, maxLocals]; done)) k
  obtain ⟨T1, X1, e1, st1⟩ := getS2 X0 hx hZ hown (host := "") (Or.inl (hw _ (List.mem_of_getElem? (i := 43) rfl))) Via.refl e0 S_w_FINISHEDx (g := (mkF m 35 #[.val (.int p0), .val (.int p1), .val (.int (2 : Int32)), .unset, .unset, .unset, .unset] [])) rfl (hb hby at_35)
  obtain ⟨T2, X2, e2, st2⟩ := getS2 X1 hx hZ hown (host := "") (Or.inl (hw _ (List.mem_of_getElem? (i := 39) rfl))) Via.refl e1 S_w_TIMED_OUTx (g := (mkF m 105 #[.val (.int p0), .val (.int p1), .val (.int (2 : Int32)), .val (.ref w_FINISHEDx), .val (.int (1 : Int32)), .val (.int (2 : Int32)), .unset] [])) rfl (hb hby at_105)
  obtain ⟨cq3, kq3, q3a, q3b, q3c⟩ := isOf hZ e2 E_w_FINISHEDx
  obtain ⟨_, _, ⟨T3, L3, k3, n3⟩, -, X3, ⟨Lc3, hQ3, l3, y3, z3⟩, st3⟩ := X2.virtualBack hx (y := (⟨"com/example/bowline/bowline/server/RunState", "ended", "()Z"⟩ : MethodName)) (z := (⟨"com/example/bowline/bowline/server/RunState", "ended", "()Z"⟩ : MethodName)) hown (mvT hZ (hw _ (List.mem_of_getElem? (i := 7) rfl))) (mvT hZ (hw _ (List.mem_of_getElem? (i := 8) rfl))) (notFace_of_selects (args := #[]) (mvT hZ (hw _ (List.mem_of_getElem? (i := 10) rfl)))) (mvT hZ (hw _ (List.mem_of_getElem? (i := 10) rfl))) (mvT hZ (hw _ (List.mem_of_getElem? (i := 9) rfl))) (by decide) (backOf (W := 0) (rm1_1 l Z a0 hw [] w_NEW w_FINISHED w_sm w_FINISHEDx w_RUNNING w_TIMED_OUT w_FAILED w_FAILEDx w_TIMED_OUTx h0 n0 Z0 S) hZ (hw _ (List.mem_of_getElem? (i := 11) rfl)) (hw _ (List.mem_of_getElem? (i := 2) rfl)) (by decide) (by decide)) q3a q3c (g := (mkF m 111 #[.val (.int p0), .val (.int p1), .val (.int (2 : Int32)), .val (.ref w_FINISHEDx), .val (.int (1 : Int32)), .val (.int (2 : Int32)), .val (.ref w_TIMED_OUTx)] [(.ref w_FINISHEDx)])) rfl (by rw [hml]; rfl) (Steps.refl _) (argsL := []) (rest := []) (lenOf pd_0 rfl) rfl (by show 2 * 0 + _ ≤ _; exact Nat.le_of_eq rfl) (hb hby at_111) (fun _ _ => ⟨rfl, e2, (by decide : 0 + 0 ≤ _), (by decide : 0 + 0 ≤ _)⟩)
  dsimp only [Pt.U, Pt.locs, Pt.cells, Pt.slots] at X3 l3 y3 z3 st3 hQ3
  subst l3 y3 z3
  obtain ⟨rfl, Nq3, e3⟩ := hQ3
  have N3 := Fr.app N0 Nq3
  obtain ⟨_, _, ⟨T4, L4, k4, n4⟩, -, X4, ⟨Lc4, hQ4, l4, y4, z4⟩, st4⟩ := Jvm.LawKit.callS X3 hx (y := (⟨"com/example/bowline/bowline/server/RunState", "of", "(Lcom/example/bowline/bowline/runtime/Status;)Lcom/example/bowline/bowline/server/RunState;"⟩ : MethodName)) hown (mvT hZ (hw _ (List.mem_of_getElem? (i := 13) rfl))) (mvT hZ (hw _ (List.mem_of_getElem? (i := 14) rfl))) (mvT hZ (hw _ (List.mem_of_getElem? (i := 2) rfl))) (mvT hZ (hw _ (List.mem_of_getElem? (i := 15) rfl))) (by decide) (backOf (W := 0) (rm2_2 l Z a0 hw [] w_NEW w_FINISHED w_sm w_FINISHEDx w_RUNNING w_TIMED_OUT w_FAILED w_FAILEDx w_TIMED_OUTx h0 n0 Z0 S) hZ (hw _ (List.mem_of_getElem? (i := 15) rfl)) (hw _ (List.mem_of_getElem? (i := 2) rfl)) (by decide) (by decide)) (g := (mkF m 121 #[.val (.int p0), .val (.int p1), .val (.int (2 : Int32)), .val (.ref w_FINISHEDx), .val (.int (1 : Int32)), .val (.int (2 : Int32)), .val (.ref w_TIMED_OUTx)] [(.ref w_TIMED_OUTx)])) rfl (by rw [hml]; rfl) (argsL := [(.ref w_TIMED_OUTx)]) (rest := []) (lenOf pd_2 rfl) rfl (by show 2 * 0 + _ ≤ _; exact Nat.le_of_eq rfl) (hb hby at_121) (fun _ _ => ⟨rfl, e3, (by decide : 0 + 0 ≤ _), (by decide : 0 + 0 ≤ _)⟩)
  dsimp only [Pt.U, Pt.locs, Pt.cells, Pt.slots] at X4 l4 y4 z4 st4 hQ4
  subst l4 y4 z4
  obtain ⟨rfl, Nq4, e4⟩ := hQ4
  have N4 := Fr.app N3 Nq4
  obtain ⟨cq5, kq5, q5a, q5b, q5c⟩ := isOf hZ e4 E_w_TIMED_OUT
  obtain ⟨_, _, ⟨T5, L5, k5, n5⟩, -, X5, ⟨Lc5, hQ5, l5, y5, z5⟩, st5⟩ := X4.virtualBack hx (y := (⟨"com/example/bowline/bowline/server/RunState", "ended", "()Z"⟩ : MethodName)) (z := (⟨"com/example/bowline/bowline/server/RunState", "ended", "()Z"⟩ : MethodName)) hown (mvT hZ (hw _ (List.mem_of_getElem? (i := 7) rfl))) (mvT hZ (hw _ (List.mem_of_getElem? (i := 8) rfl))) (notFace_of_selects (args := #[]) (mvT hZ (hw _ (List.mem_of_getElem? (i := 10) rfl)))) (mvT hZ (hw _ (List.mem_of_getElem? (i := 10) rfl))) (mvT hZ (hw _ (List.mem_of_getElem? (i := 9) rfl))) (by decide) (backOf (W := 0) (rm1_3 l Z a0 hw [] w_NEW w_FINISHED w_sm w_FINISHEDx w_RUNNING w_TIMED_OUT w_FAILED w_FAILEDx w_TIMED_OUTx h0 n0 Z0 S) hZ (hw _ (List.mem_of_getElem? (i := 11) rfl)) (hw _ (List.mem_of_getElem? (i := 2) rfl)) (by decide) (by decide)) q5a q5c (g := (mkF m 124 #[.val (.int p0), .val (.int p1), .val (.int (2 : Int32)), .val (.ref w_FINISHEDx), .val (.int (1 : Int32)), .val (.int (2 : Int32)), .val (.ref w_TIMED_OUTx)] [(.ref w_TIMED_OUT)])) rfl (by rw [hml]; rfl) (Steps.refl _) (argsL := []) (rest := []) (lenOf pd_0 rfl) rfl (by show 2 * 0 + _ ≤ _; exact Nat.le_of_eq rfl) (hb hby at_124) (fun _ _ => ⟨rfl, e4, (by decide : 0 + 0 ≤ _), (by decide : 0 + 0 ≤ _)⟩)
  dsimp only [Pt.U, Pt.locs, Pt.cells, Pt.slots] at X5 l5 y5 z5 st5 hQ5
  subst l5 y5 z5
  obtain ⟨rfl, Nq5, e5⟩ := hQ5
  have N5 := Fr.app N4 Nq5
  obtain ⟨fs, hr, hrun, hended, hW, hsame⟩ := X5.leave (v := (some (.int (1 : Int32)))) (fun h => by rw [Bd.returns] at h; cases h)
  refine ⟨_, _, pre0 _ ?_, hrun, hended, _, _, rfl, ⟨rfl, N5, e5⟩, ⟨_, rfl⟩, hW, hsame.mono (by decide) (by decide)⟩
  show Steps p.tables e below (s₁.setTop (mkF m 0 #[.val (.int p0), .val (.int p1), .unset, .unset, .unset, .unset, .unset] [])) _
  refine XS.iloadN X0.here hx rfl (hb hby at_0) rfl ?_
  show Steps p.tables e below (s₁.setTop (mkF m 1 #[.val (.int p0), .val (.int p1), .unset, .unset, .unset, .unset, .unset] [(.int p0)])) _
  refine X0.ldcInt hx hown (mvT hZ (hw _ (List.mem_of_getElem? (i := 0) rfl))) (g := (mkF m 1 #[.val (.int p0), .val (.int p1), .unset, .unset, .unset, .unset, .unset] [(.int p0)])) rfl (hb hby at_1) _ ?_
  show Steps p.tables e below (s₁.setTop (mkF m 3 #[.val (.int p0), .val (.int p1), .unset, .unset, .unset, .unset, .unset] [(.int (2147483647 : Int32)), (.int p0)])) _
  refine XS.iand X0.here hx rfl (hb hby at_3) rfl ?_
  show Steps p.tables e below (s₁.setTop (mkF m 4 #[.val (.int p0), .val (.int p1), .unset, .unset, .unset, .unset, .unset] [(.int (p0 &&& (2147483647 : Int32)))])) _
  show Steps p.tables e below (s₁.setTop (mkF m 4 #[.val (.int p0), .val (.int p1), .unset, .unset, .unset, .unset, .unset] [(.int (p0 &&& (2147483647 : Int32)))])) _
  refine XS.iconst X0.here hx rfl (hb hby at_4) ?_
  show Steps p.tables e below (s₁.setTop (mkF m 5 #[.val (.int p0), .val (.int p1), .unset, .unset, .unset, .unset, .unset] [(.int (5 : Int32)), (.int (p0 &&& (2147483647 : Int32)))])) _
  refine iremM X0 hx rfl (hb hby at_5) rfl (by decide) ?_
  show Steps p.tables e below (s₁.setTop (mkF m 6 #[.val (.int p0), .val (.int p1), .unset, .unset, .unset, .unset, .unset] [(.int ((p0 &&& (2147483647 : Int32)) % (5 : Int32)))])) _
  rw [hk]
  show Steps p.tables e below (s₁.setTop (mkF m 6 #[.val (.int p0), .val (.int p1), .unset, .unset, .unset, .unset, .unset] [(.int (2 : Int32))])) _
  refine XS.istoreN X0.here hx rfl (hb hby at_6) rfl (l' := #[.val (.int p0), .val (.int p1), .val (.int (2 : Int32)), .unset, .unset, .unset, .unset]) rfl ?_
  show Steps p.tables e below (s₁.setTop (mkF m 7 #[.val (.int p0), .val (.int p1), .val (.int (2 : Int32)), .unset, .unset, .unset, .unset] [])) _
  refine XS.iloadN X0.here hx rfl (hb hby at_7) rfl ?_
  show Steps p.tables e below (s₁.setTop (mkF m 8 #[.val (.int p0), .val (.int p1), .val (.int (2 : Int32)), .unset, .unset, .unset, .unset] [(.int (2 : Int32))])) _
  refine XS.ifYes X0.here hx rfl (pc0 := 8) (pc' := 18) rfl (hb hby at_8) rfl ((if0 _ _).trans (feq (by decide : ¬ ((2 : Int32) = (0 : Int32)))).2) (by decide) (by decide) ?_
  show Steps p.tables e below (s₁.setTop (mkF m 18 #[.val (.int p0), .val (.int p1), .val (.int (2 : Int32)), .unset, .unset, .unset, .unset] [])) _
  refine XS.iloadN X0.here hx rfl (hb hby at_18) rfl ?_
  show Steps p.tables e below (s₁.setTop (mkF m 19 #[.val (.int p0), .val (.int p1), .val (.int (2 : Int32)), .unset, .unset, .unset, .unset] [(.int (2 : Int32))])) _
  refine XS.iconst X0.here hx rfl (hb hby at_19) ?_
  show Steps p.tables e below (s₁.setTop (mkF m 20 #[.val (.int p0), .val (.int p1), .val (.int (2 : Int32)), .unset, .unset, .unset, .unset] [(.int (1 : Int32)), (.int (2 : Int32))])) _
  refine XS.icmpYes X0.here hx rfl (pc0 := 20) (pc' := 30) rfl (hb hby at_20) rfl (feq (by decide : ¬ ((2 : Int32) = (1 : Int32)))).2 (by decide) (by decide) ?_
  show Steps p.tables e below (s₁.setTop (mkF m 30 #[.val (.int p0), .val (.int p1), .val (.int (2 : Int32)), .unset, .unset, .unset, .unset] [])) _
  refine XS.iloadN X0.here hx rfl (hb hby at_30) rfl ?_
  show Steps p.tables e below (s₁.setTop (mkF m 31 #[.val (.int p0), .val (.int p1), .val (.int (2 : Int32)), .unset, .unset, .unset, .unset] [(.int (2 : Int32))])) _
  refine XS.iconst X0.here hx rfl (hb hby at_31) ?_
  show Steps p.tables e below (s₁.setTop (mkF m 32 #[.val (.int p0), .val (.int p1), .val (.int (2 : Int32)), .unset, .unset, .unset, .unset] [(.int (2 : Int32)), (.int (2 : Int32))])) _
  refine XS.icmpNo X0.here hx rfl (hb hby at_32) rfl (teq (by decide : (2 : Int32) = (2 : Int32))).2 ?_
  show Steps p.tables e below (s₁.setTop (mkF m 35 #[.val (.int p0), .val (.int p1), .val (.int (2 : Int32)), .unset, .unset, .unset, .unset] [])) _
  refine st1 _ ?_
  show Steps p.tables e below (T1.setTop (mkF m 38 #[.val (.int p0), .val (.int p1), .val (.int (2 : Int32)), .unset, .unset, .unset, .unset] [(.ref w_FINISHEDx)])) _
  refine XS.astoreN X1.here hx rfl (hb hby at_38) rfl rfl (l' := #[.val (.int p0), .val (.int p1), .val (.int (2 : Int32)), .val (.ref w_FINISHEDx), .unset, .unset, .unset]) rfl ?_
  show Steps p.tables e below (T1.setTop (mkF m 39 #[.val (.int p0), .val (.int p1), .val (.int (2 : Int32)), .val (.ref w_FINISHEDx), .unset, .unset, .unset] [])) _
  refine XS.goto X1.here hx rfl (pc0 := 39) (pc' := 58) rfl (hb hby at_39) (by decide) (by decide) ?_
  show Steps p.tables e below (T1.setTop (mkF m 58 #[.val (.int p0), .val (.int p1), .val (.int (2 : Int32)), .val (.ref w_FINISHEDx), .unset, .unset, .unset] [])) _
  refine XS.iloadN X1.here hx rfl (hb hby at_58) rfl ?_
  show Steps p.tables e below (T1.setTop (mkF m 59 #[.val (.int p0), .val (.int p1), .val (.int (2 : Int32)), .val (.ref w_FINISHEDx), .unset, .unset, .unset] [(.int (2 : Int32))])) _
  refine XS.iconst X1.here hx rfl (hb hby at_59) ?_
  show Steps p.tables e below (T1.setTop (mkF m 60 #[.val (.int p0), .val (.int p1), .val (.int (2 : Int32)), .val (.ref w_FINISHEDx), .unset, .unset, .unset] [(.int (2 : Int32)), (.int (2 : Int32))])) _
  refine XS.icmpNo X1.here hx rfl (hb hby at_60) rfl (flt (by decide : ¬ ((2 : Int32) < (2 : Int32)))).1 ?_
  show Steps p.tables e below (T1.setTop (mkF m 63 #[.val (.int p0), .val (.int p1), .val (.int (2 : Int32)), .val (.ref w_FINISHEDx), .unset, .unset, .unset] [])) _
  refine XS.iconst X1.here hx rfl (hb hby at_63) ?_
  show Steps p.tables e below (T1.setTop (mkF m 64 #[.val (.int p0), .val (.int p1), .val (.int (2 : Int32)), .val (.ref w_FINISHEDx), .unset, .unset, .unset] [(.int (1 : Int32))])) _
  refine XS.goto X1.here hx rfl (pc0 := 64) (pc' := 68) rfl (hb hby at_64) (by decide) (by decide) ?_
  show Steps p.tables e below (T1.setTop (mkF m 68 #[.val (.int p0), .val (.int p1), .val (.int (2 : Int32)), .val (.ref w_FINISHEDx), .unset, .unset, .unset] [(.int (1 : Int32))])) _
  refine XS.istore X1.here hx rfl (hb hby at_68) rfl (l' := #[.val (.int p0), .val (.int p1), .val (.int (2 : Int32)), .val (.ref w_FINISHEDx), .val (.int (1 : Int32)), .unset, .unset]) rfl ?_
  show Steps p.tables e below (T1.setTop (mkF m 70 #[.val (.int p0), .val (.int p1), .val (.int (2 : Int32)), .val (.ref w_FINISHEDx), .val (.int (1 : Int32)), .unset, .unset] [])) _
  refine XS.iloadN X1.here hx rfl (hb hby at_70) rfl ?_
  show Steps p.tables e below (T1.setTop (mkF m 71 #[.val (.int p0), .val (.int p1), .val (.int (2 : Int32)), .val (.ref w_FINISHEDx), .val (.int (1 : Int32)), .unset, .unset] [(.int p1)])) _
  refine X1.ldcInt hx hown (mvT hZ (hw _ (List.mem_of_getElem? (i := 0) rfl))) (g := (mkF m 71 #[.val (.int p0), .val (.int p1), .val (.int (2 : Int32)), .val (.ref w_FINISHEDx), .val (.int (1 : Int32)), .unset, .unset] [(.int p1)])) rfl (hb hby at_71) _ ?_
  show Steps p.tables e below (T1.setTop (mkF m 73 #[.val (.int p0), .val (.int p1), .val (.int (2 : Int32)), .val (.ref w_FINISHEDx), .val (.int (1 : Int32)), .unset, .unset] [(.int (2147483647 : Int32)), (.int p1)])) _
  refine XS.iand X1.here hx rfl (hb hby at_73) rfl ?_
  show Steps p.tables e below (T1.setTop (mkF m 74 #[.val (.int p0), .val (.int p1), .val (.int (2 : Int32)), .val (.ref w_FINISHEDx), .val (.int (1 : Int32)), .unset, .unset] [(.int (p1 &&& (2147483647 : Int32)))])) _
  show Steps p.tables e below (T1.setTop (mkF m 74 #[.val (.int p0), .val (.int p1), .val (.int (2 : Int32)), .val (.ref w_FINISHEDx), .val (.int (1 : Int32)), .unset, .unset] [(.int (p1 &&& (2147483647 : Int32)))])) _
  refine XS.iconst X1.here hx rfl (hb hby at_74) ?_
  show Steps p.tables e below (T1.setTop (mkF m 75 #[.val (.int p0), .val (.int p1), .val (.int (2 : Int32)), .val (.ref w_FINISHEDx), .val (.int (1 : Int32)), .unset, .unset] [(.int (3 : Int32)), (.int (p1 &&& (2147483647 : Int32)))])) _
  refine iremM X1 hx rfl (hb hby at_75) rfl (by decide) ?_
  show Steps p.tables e below (T1.setTop (mkF m 76 #[.val (.int p0), .val (.int p1), .val (.int (2 : Int32)), .val (.ref w_FINISHEDx), .val (.int (1 : Int32)), .unset, .unset] [(.int ((p1 &&& (2147483647 : Int32)) % (3 : Int32)))])) _
  rw [hj]
  show Steps p.tables e below (T1.setTop (mkF m 76 #[.val (.int p0), .val (.int p1), .val (.int (2 : Int32)), .val (.ref w_FINISHEDx), .val (.int (1 : Int32)), .unset, .unset] [(.int (2 : Int32))])) _
  refine XS.istore X1.here hx rfl (hb hby at_76) rfl (l' := #[.val (.int p0), .val (.int p1), .val (.int (2 : Int32)), .val (.ref w_FINISHEDx), .val (.int (1 : Int32)), .val (.int (2 : Int32)), .unset]) rfl ?_
  show Steps p.tables e below (T1.setTop (mkF m 78 #[.val (.int p0), .val (.int p1), .val (.int (2 : Int32)), .val (.ref w_FINISHEDx), .val (.int (1 : Int32)), .val (.int (2 : Int32)), .unset] [])) _
  refine XS.iload X1.here hx rfl (hb hby at_78) rfl ?_
  show Steps p.tables e below (T1.setTop (mkF m 80 #[.val (.int p0), .val (.int p1), .val (.int (2 : Int32)), .val (.ref w_FINISHEDx), .val (.int (1 : Int32)), .val (.int (2 : Int32)), .unset] [(.int (2 : Int32))])) _
  refine XS.ifYes X1.here hx rfl (pc0 := 80) (pc' := 91) rfl (hb hby at_80) rfl ((if0 _ _).trans (feq (by decide : ¬ ((2 : Int32) = (0 : Int32)))).2) (by decide) (by decide) ?_
  show Steps p.tables e below (T1.setTop (mkF m 91 #[.val (.int p0), .val (.int p1), .val (.int (2 : Int32)), .val (.ref w_FINISHEDx), .val (.int (1 : Int32)), .val (.int (2 : Int32)), .unset] [])) _
  refine XS.iload X1.here hx rfl (hb hby at_91) rfl ?_
  show Steps p.tables e below (T1.setTop (mkF m 93 #[.val (.int p0), .val (.int p1), .val (.int (2 : Int32)), .val (.ref w_FINISHEDx), .val (.int (1 : Int32)), .val (.int (2 : Int32)), .unset] [(.int (2 : Int32))])) _
  refine XS.iconst X1.here hx rfl (hb hby at_93) ?_
  show Steps p.tables e below (T1.setTop (mkF m 94 #[.val (.int p0), .val (.int p1), .val (.int (2 : Int32)), .val (.ref w_FINISHEDx), .val (.int (1 : Int32)), .val (.int (2 : Int32)), .unset] [(.int (1 : Int32)), (.int (2 : Int32))])) _
  refine XS.icmpYes X1.here hx rfl (pc0 := 94) (pc' := 105) rfl (hb hby at_94) rfl (feq (by decide : ¬ ((2 : Int32) = (1 : Int32)))).2 (by decide) (by decide) ?_
  show Steps p.tables e below (T1.setTop (mkF m 105 #[.val (.int p0), .val (.int p1), .val (.int (2 : Int32)), .val (.ref w_FINISHEDx), .val (.int (1 : Int32)), .val (.int (2 : Int32)), .unset] [])) _
  refine st2 _ ?_
  show Steps p.tables e below (T2.setTop (mkF m 108 #[.val (.int p0), .val (.int p1), .val (.int (2 : Int32)), .val (.ref w_FINISHEDx), .val (.int (1 : Int32)), .val (.int (2 : Int32)), .unset] [(.ref w_TIMED_OUTx)])) _
  refine XS.astore X2.here hx rfl (hb hby at_108) rfl rfl (l' := #[.val (.int p0), .val (.int p1), .val (.int (2 : Int32)), .val (.ref w_FINISHEDx), .val (.int (1 : Int32)), .val (.int (2 : Int32)), .val (.ref w_TIMED_OUTx)]) rfl ?_
  show Steps p.tables e below (T2.setTop (mkF m 110 #[.val (.int p0), .val (.int p1), .val (.int (2 : Int32)), .val (.ref w_FINISHEDx), .val (.int (1 : Int32)), .val (.int (2 : Int32)), .val (.ref w_TIMED_OUTx)] [])) _
  refine XS.aloadN X2.here hx rfl (hb hby at_110) rfl rfl ?_
  show Steps p.tables e below (T2.setTop (mkF m 111 #[.val (.int p0), .val (.int p1), .val (.int (2 : Int32)), .val (.ref w_FINISHEDx), .val (.int (1 : Int32)), .val (.int (2 : Int32)), .val (.ref w_TIMED_OUTx)] [(.ref w_FINISHEDx)])) _
  refine st3.trans ?_
  show Steps p.tables e below (T3.setTop (mkF m 114 #[.val (.int p0), .val (.int p1), .val (.int (2 : Int32)), .val (.ref w_FINISHEDx), .val (.int (1 : Int32)), .val (.int (2 : Int32)), .val (.ref w_TIMED_OUTx)] [(.int (1 : Int32))])) _
  refine XS.iload X3.here hx rfl (hb hby at_114) rfl ?_
  show Steps p.tables e below (T3.setTop (mkF m 116 #[.val (.int p0), .val (.int p1), .val (.int (2 : Int32)), .val (.ref w_FINISHEDx), .val (.int (1 : Int32)), .val (.int (2 : Int32)), .val (.ref w_TIMED_OUTx)] [(.int (1 : Int32)), (.int (1 : Int32))])) _
  refine XS.icmpNo X3.here hx rfl (hb hby at_116) rfl (teq (by decide : (1 : Int32) = (1 : Int32))).2 ?_
  show Steps p.tables e below (T3.setTop (mkF m 119 #[.val (.int p0), .val (.int p1), .val (.int (2 : Int32)), .val (.ref w_FINISHEDx), .val (.int (1 : Int32)), .val (.int (2 : Int32)), .val (.ref w_TIMED_OUTx)] [])) _
  refine XS.aload X3.here hx rfl (hb hby at_119) rfl rfl ?_
  show Steps p.tables e below (T3.setTop (mkF m 121 #[.val (.int p0), .val (.int p1), .val (.int (2 : Int32)), .val (.ref w_FINISHEDx), .val (.int (1 : Int32)), .val (.int (2 : Int32)), .val (.ref w_TIMED_OUTx)] [(.ref w_TIMED_OUTx)])) _
  refine st4 _ ?_
  show Steps p.tables e below (T4.setTop (mkF m 124 #[.val (.int p0), .val (.int p1), .val (.int (2 : Int32)), .val (.ref w_FINISHEDx), .val (.int (1 : Int32)), .val (.int (2 : Int32)), .val (.ref w_TIMED_OUTx)] [(.ref w_TIMED_OUT)])) _
  refine st5.trans ?_
  show Steps p.tables e below (T5.setTop (mkF m 127 #[.val (.int p0), .val (.int p1), .val (.int (2 : Int32)), .val (.ref w_FINISHEDx), .val (.int (1 : Int32)), .val (.int (2 : Int32)), .val (.ref w_TIMED_OUTx)] [(.int (1 : Int32))])) _
  refine XS.ifNo X5.here hx rfl (hb hby at_127) rfl ((if0 _ _).trans (feq (by decide : ¬ ((1 : Int32) = (0 : Int32)))).1) ?_
  show Steps p.tables e below (T5.setTop (mkF m 130 #[.val (.int p0), .val (.int p1), .val (.int (2 : Int32)), .val (.ref w_FINISHEDx), .val (.int (1 : Int32)), .val (.int (2 : Int32)), .val (.ref w_TIMED_OUTx)] [])) _
  refine XS.iconst X5.here hx rfl (hb hby at_130) ?_
  show Steps p.tables e below (T5.setTop (mkF m 131 #[.val (.int p0), .val (.int p1), .val (.int (2 : Int32)), .val (.ref w_FINISHEDx), .val (.int (1 : Int32)), .val (.int (2 : Int32)), .val (.ref w_TIMED_OUTx)] [(.int (1 : Int32))])) _
  refine XS.goto X5.here hx rfl (pc0 := 131) (pc' := 135) rfl (hb hby at_131) (by decide) (by decide) ?_
  show Steps p.tables e below (T5.setTop (mkF m 135 #[.val (.int p0), .val (.int p1), .val (.int (2 : Int32)), .val (.ref w_FINISHEDx), .val (.int (1 : Int32)), .val (.int (2 : Int32)), .val (.ref w_TIMED_OUTx)] [(.int (1 : Int32))])) _
  exact retN X5 hx (t := .boolean) Bd.returns (by simp) (hb hby at_135) hr
set_option maxRecDepth 65536 in
set_option maxHeartbeats 40000000 in
theorem rm0_9 (l : Launch) (Z : State) (a0 : Array Value) (hw : ∀ d ∈ tables_1, d.before a0 Z = true) (ws : List Jvm.Cond) (w_NEW w_FINISHED w_sm w_FINISHEDx w_RUNNING w_TIMED_OUT w_FAILED w_FAILEDx w_TIMED_OUTx : Addr) (h0 : Heap) (n0 : Nat) (Z0 : n0 ≤ h0.size) (S : SF Z h0 w_NEW w_FINISHED w_sm w_FINISHEDx w_RUNNING w_TIMED_OUT w_FAILED w_FAILEDx w_TIMED_OUTx) (p0 : Int32) (p1 : Int32) (hk : ((p0 &&& (2147483647 : Int32)) % (5 : Int32)) = (3 : Int32)) (hj : ((p1 &&& (2147483647 : Int32)) % (3 : Int32)) = (0 : Int32)) :
    Pay l Z x ws code maxLocals ret #[(.int p0), (.int p1)] h0 n0 room_1 (some (.int (1 : Int32))) := by
  obtain ⟨S_w_NEW, E_w_NEW, S_w_FINISHED, E_w_FINISHED, S_w_sm, V_w_sm, S_w_FINISHEDx, E_w_FINISHEDx, S_w_RUNNING, E_w_RUNNING, S_w_TIMED_OUT, E_w_TIMED_OUT, S_w_FAILED, E_w_FAILED, S_w_FAILEDx, E_w_FAILEDx, S_w_TIMED_OUTx, E_w_TIMED_OUTx, F_ordinal_w_FINISHED, F_ordinal_w_FINISHEDx, F_ordinal_w_NEW, F_ordinal_w_RUNNING, F_ordinal_w_TIMED_OUT, F_ordinal_w_FAILED, F_ordinal_w_FAILEDx, F_ordinal_w_TIMED_OUTx, hne_w_NEW_w_FINISHEDx, hne_w_NEW_w_RUNNING, hne_w_NEW_w_TIMED_OUT, hne_w_NEW_w_FAILEDx, hne_w_FINISHED_w_FAILED, hne_w_FINISHED_w_TIMED_OUTx, hne_w_FINISHEDx_w_RUNNING, hne_w_FINISHEDx_w_TIMED_OUT, hne_w_FINISHEDx_w_FAILEDx, hne_w_RUNNING_w_TIMED_OUT, hne_w_RUNNING_w_FAILEDx, hne_w_TIMED_OUT_w_FAILEDx, hne_w_FAILED_w_TIMED_OUTx⟩ := id S
  refine MetFree.of_bodySF (plainFor_of_name pn_2) hisR ?_
  intro p e s m args below meth c s₁ Bd hml0 hP hK
  obtain ⟨rfl, hZ, hh⟩ := hP
  have hx := Bd.exec
  have hby := Bd.bytes
  have hml : c.maxLocals = 7 := hml0
  have hown : s.vm.findClass "com/example/bowline/bowline/server/RunStateEndedPinLaw" = some m.cls := findClass_of_methodNamed Bd.named
  have X0 : Stand p l e room_1 s m #[(.int p0), (.int p1)] below meth c s₁ [] 0 0 := Stand.of_body Bd
  have e0 : s₁.heap = h0 := by rw [← hh, Bd.state]; rfl
  have N0 := Fr.nil n0
  have pre0 : ∀ t, Steps p.tables e below (s₁.setTop (mkF m 0 #[.val (.int p0), .val (.int p1), .unset, .unset, .unset, .unset, .unset] [])) t → Steps p.tables e below (s₁.setTop (entryFrame m #[(.int p0), (.int p1)] maxLocals)) t := fun t k => castTop (by first | rfl | (simp [entryFrame, mkF, argsToLocals, Value.category, maxLocals]; done)) k
  obtain ⟨T1, X1, e1, st1⟩ := getS2 X0 hx hZ hown (host := "") (Or.inl (hw _ (List.mem_of_getElem? (i := 38) rfl))) Via.refl e0 S_w_FAILEDx (g := (mkF m 47 #[.val (.int p0), .val (.int p1), .val (.int (3 : Int32)), .unset, .unset, .unset, .unset] [])) rfl (hb hby at_47)
  obtain ⟨T2, X2, e2, st2⟩ := getS2 X1 hx hZ hown (host := "") (Or.inl (hw _ (List.mem_of_getElem? (i := 4) rfl))) Via.refl e1 S_w_FINISHED (g := (mkF m 83 #[.val (.int p0), .val (.int p1), .val (.int (3 : Int32)), .val (.ref w_FAILEDx), .val (.int (1 : Int32)), .val (.int (0 : Int32)), .unset] [])) rfl (hb hby at_83)
  obtain ⟨cq3, kq3, q3a, q3b, q3c⟩ := isOf hZ e2 E_w_FAILEDx
  obtain ⟨_, _, ⟨T3, L3, k3, n3⟩, -, X3, ⟨Lc3, hQ3, l3, y3, z3⟩, st3⟩ := X2.virtualBack hx (y := (⟨"com/example/bowline/bowline/server/RunState", "ended", "()Z"⟩ : MethodName)) (z := (⟨"com/example/bowline/bowline/server/RunState", "ended", "()Z"⟩ : MethodName)) hown (mvT hZ (hw _ (List.mem_of_getElem? (i := 7) rfl))) (mvT hZ (hw _ (List.mem_of_getElem? (i := 8) rfl))) (notFace_of_selects (args := #[]) (mvT hZ (hw _ (List.mem_of_getElem? (i := 10) rfl)))) (mvT hZ (hw _ (List.mem_of_getElem? (i := 10) rfl))) (mvT hZ (hw _ (List.mem_of_getElem? (i := 9) rfl))) (by decide) (backOf (W := 0) (rm1_2 l Z a0 hw [] w_NEW w_FINISHED w_sm w_FINISHEDx w_RUNNING w_TIMED_OUT w_FAILED w_FAILEDx w_TIMED_OUTx h0 n0 Z0 S) hZ (hw _ (List.mem_of_getElem? (i := 11) rfl)) (hw _ (List.mem_of_getElem? (i := 2) rfl)) (by decide) (by decide)) q3a q3c (g := (mkF m 111 #[.val (.int p0), .val (.int p1), .val (.int (3 : Int32)), .val (.ref w_FAILEDx), .val (.int (1 : Int32)), .val (.int (0 : Int32)), .val (.ref w_FINISHED)] [(.ref w_FAILEDx)])) rfl (by rw [hml]; rfl) (Steps.refl _) (argsL := []) (rest := []) (lenOf pd_0 rfl) rfl (by show 2 * 0 + _ ≤ _; exact Nat.le_of_eq rfl) (hb hby at_111) (fun _ _ => ⟨rfl, e2, (by decide : 0 + 0 ≤ _), (by decide : 0 + 0 ≤ _)⟩)
  dsimp only [Pt.U, Pt.locs, Pt.cells, Pt.slots] at X3 l3 y3 z3 st3 hQ3
  subst l3 y3 z3
  obtain ⟨rfl, Nq3, e3⟩ := hQ3
  have N3 := Fr.app N0 Nq3
  obtain ⟨_, _, ⟨T4, L4, k4, n4⟩, -, X4, ⟨Lc4, hQ4, l4, y4, z4⟩, st4⟩ := Jvm.LawKit.callS X3 hx (y := (⟨"com/example/bowline/bowline/server/RunState", "of", "(Lcom/example/bowline/bowline/runtime/Status;)Lcom/example/bowline/bowline/server/RunState;"⟩ : MethodName)) hown (mvT hZ (hw _ (List.mem_of_getElem? (i := 13) rfl))) (mvT hZ (hw _ (List.mem_of_getElem? (i := 14) rfl))) (mvT hZ (hw _ (List.mem_of_getElem? (i := 2) rfl))) (mvT hZ (hw _ (List.mem_of_getElem? (i := 15) rfl))) (by decide) (backOf (W := 0) (rm2_0 l Z a0 hw [] w_NEW w_FINISHED w_sm w_FINISHEDx w_RUNNING w_TIMED_OUT w_FAILED w_FAILEDx w_TIMED_OUTx h0 n0 Z0 S) hZ (hw _ (List.mem_of_getElem? (i := 15) rfl)) (hw _ (List.mem_of_getElem? (i := 2) rfl)) (by decide) (by decide)) (g := (mkF m 121 #[.val (.int p0), .val (.int p1), .val (.int (3 : Int32)), .val (.ref w_FAILEDx), .val (.int (1 : Int32)), .val (.int (0 : Int32)), .val (.ref w_FINISHED)] [(.ref w_FINISHED)])) rfl (by rw [hml]; rfl) (argsL := [(.ref w_FINISHED)]) (rest := []) (lenOf pd_2 rfl) rfl (by show 2 * 0 + _ ≤ _; exact Nat.le_of_eq rfl) (hb hby at_121) (fun _ _ => ⟨rfl, e3, (by decide : 0 + 0 ≤ _), (by decide : 0 + 0 ≤ _)⟩)
  dsimp only [Pt.U, Pt.locs, Pt.cells, Pt.slots] at X4 l4 y4 z4 st4 hQ4
  subst l4 y4 z4
  obtain ⟨rfl, Nq4, e4⟩ := hQ4
  have N4 := Fr.app N3 Nq4
  obtain ⟨cq5, kq5, q5a, q5b, q5c⟩ := isOf hZ e4 E_w_FINISHEDx
  obtain ⟨_, _, ⟨T5, L5, k5, n5⟩, -, X5, ⟨Lc5, hQ5, l5, y5, z5⟩, st5⟩ := X4.virtualBack hx (y := (⟨"com/example/bowline/bowline/server/RunState", "ended", "()Z"⟩ : MethodName)) (z := (⟨"com/example/bowline/bowline/server/RunState", "ended", "()Z"⟩ : MethodName)) hown (mvT hZ (hw _ (List.mem_of_getElem? (i := 7) rfl))) (mvT hZ (hw _ (List.mem_of_getElem? (i := 8) rfl))) (notFace_of_selects (args := #[]) (mvT hZ (hw _ (List.mem_of_getElem? (i := 10) rfl)))) (mvT hZ (hw _ (List.mem_of_getElem? (i := 10) rfl))) (mvT hZ (hw _ (List.mem_of_getElem? (i := 9) rfl))) (by decide) (backOf (W := 0) (rm1_1 l Z a0 hw [] w_NEW w_FINISHED w_sm w_FINISHEDx w_RUNNING w_TIMED_OUT w_FAILED w_FAILEDx w_TIMED_OUTx h0 n0 Z0 S) hZ (hw _ (List.mem_of_getElem? (i := 11) rfl)) (hw _ (List.mem_of_getElem? (i := 2) rfl)) (by decide) (by decide)) q5a q5c (g := (mkF m 124 #[.val (.int p0), .val (.int p1), .val (.int (3 : Int32)), .val (.ref w_FAILEDx), .val (.int (1 : Int32)), .val (.int (0 : Int32)), .val (.ref w_FINISHED)] [(.ref w_FINISHEDx)])) rfl (by rw [hml]; rfl) (Steps.refl _) (argsL := []) (rest := []) (lenOf pd_0 rfl) rfl (by show 2 * 0 + _ ≤ _; exact Nat.le_of_eq rfl) (hb hby at_124) (fun _ _ => ⟨rfl, e4, (by decide : 0 + 0 ≤ _), (by decide : 0 + 0 ≤ _)⟩)
  dsimp only [Pt.U, Pt.locs, Pt.cells, Pt.slots] at X5 l5 y5 z5 st5 hQ5
  subst l5 y5 z5
  obtain ⟨rfl, Nq5, e5⟩ := hQ5
  have N5 := Fr.app N4 Nq5
  obtain ⟨fs, hr, hrun, hended, hW, hsame⟩ := X5.leave (v := (some (.int (1 : Int32)))) (fun h => by rw [Bd.returns] at h; cases h)
  refine ⟨_, _, pre0 _ ?_, hrun, hended, _, _, rfl, ⟨rfl, N5, e5⟩, ⟨_, rfl⟩, hW, hsame.mono (by decide) (by decide)⟩
  show Steps p.tables e below (s₁.setTop (mkF m 0 #[.val (.int p0), .val (.int p1), .unset, .unset, .unset, .unset, .unset] [])) _
  refine XS.iloadN X0.here hx rfl (hb hby at_0) rfl ?_
  show Steps p.tables e below (s₁.setTop (mkF m 1 #[.val (.int p0), .val (.int p1), .unset, .unset, .unset, .unset, .unset] [(.int p0)])) _
  refine X0.ldcInt hx hown (mvT hZ (hw _ (List.mem_of_getElem? (i := 0) rfl))) (g := (mkF m 1 #[.val (.int p0), .val (.int p1), .unset, .unset, .unset, .unset, .unset] [(.int p0)])) rfl (hb hby at_1) _ ?_
  show Steps p.tables e below (s₁.setTop (mkF m 3 #[.val (.int p0), .val (.int p1), .unset, .unset, .unset, .unset, .unset] [(.int (2147483647 : Int32)), (.int p0)])) _
  refine XS.iand X0.here hx rfl (hb hby at_3) rfl ?_
  show Steps p.tables e below (s₁.setTop (mkF m 4 #[.val (.int p0), .val (.int p1), .unset, .unset, .unset, .unset, .unset] [(.int (p0 &&& (2147483647 : Int32)))])) _
  show Steps p.tables e below (s₁.setTop (mkF m 4 #[.val (.int p0), .val (.int p1), .unset, .unset, .unset, .unset, .unset] [(.int (p0 &&& (2147483647 : Int32)))])) _
  refine XS.iconst X0.here hx rfl (hb hby at_4) ?_
  show Steps p.tables e below (s₁.setTop (mkF m 5 #[.val (.int p0), .val (.int p1), .unset, .unset, .unset, .unset, .unset] [(.int (5 : Int32)), (.int (p0 &&& (2147483647 : Int32)))])) _
  refine iremM X0 hx rfl (hb hby at_5) rfl (by decide) ?_
  show Steps p.tables e below (s₁.setTop (mkF m 6 #[.val (.int p0), .val (.int p1), .unset, .unset, .unset, .unset, .unset] [(.int ((p0 &&& (2147483647 : Int32)) % (5 : Int32)))])) _
  rw [hk]
  show Steps p.tables e below (s₁.setTop (mkF m 6 #[.val (.int p0), .val (.int p1), .unset, .unset, .unset, .unset, .unset] [(.int (3 : Int32))])) _
  refine XS.istoreN X0.here hx rfl (hb hby at_6) rfl (l' := #[.val (.int p0), .val (.int p1), .val (.int (3 : Int32)), .unset, .unset, .unset, .unset]) rfl ?_
  show Steps p.tables e below (s₁.setTop (mkF m 7 #[.val (.int p0), .val (.int p1), .val (.int (3 : Int32)), .unset, .unset, .unset, .unset] [])) _
  refine XS.iloadN X0.here hx rfl (hb hby at_7) rfl ?_
  show Steps p.tables e below (s₁.setTop (mkF m 8 #[.val (.int p0), .val (.int p1), .val (.int (3 : Int32)), .unset, .unset, .unset, .unset] [(.int (3 : Int32))])) _
  refine XS.ifYes X0.here hx rfl (pc0 := 8) (pc' := 18) rfl (hb hby at_8) rfl ((if0 _ _).trans (feq (by decide : ¬ ((3 : Int32) = (0 : Int32)))).2) (by decide) (by decide) ?_
  show Steps p.tables e below (s₁.setTop (mkF m 18 #[.val (.int p0), .val (.int p1), .val (.int (3 : Int32)), .unset, .unset, .unset, .unset] [])) _
  refine XS.iloadN X0.here hx rfl (hb hby at_18) rfl ?_
  show Steps p.tables e below (s₁.setTop (mkF m 19 #[.val (.int p0), .val (.int p1), .val (.int (3 : Int32)), .unset, .unset, .unset, .unset] [(.int (3 : Int32))])) _
  refine XS.iconst X0.here hx rfl (hb hby at_19) ?_
  show Steps p.tables e below (s₁.setTop (mkF m 20 #[.val (.int p0), .val (.int p1), .val (.int (3 : Int32)), .unset, .unset, .unset, .unset] [(.int (1 : Int32)), (.int (3 : Int32))])) _
  refine XS.icmpYes X0.here hx rfl (pc0 := 20) (pc' := 30) rfl (hb hby at_20) rfl (feq (by decide : ¬ ((3 : Int32) = (1 : Int32)))).2 (by decide) (by decide) ?_
  show Steps p.tables e below (s₁.setTop (mkF m 30 #[.val (.int p0), .val (.int p1), .val (.int (3 : Int32)), .unset, .unset, .unset, .unset] [])) _
  refine XS.iloadN X0.here hx rfl (hb hby at_30) rfl ?_
  show Steps p.tables e below (s₁.setTop (mkF m 31 #[.val (.int p0), .val (.int p1), .val (.int (3 : Int32)), .unset, .unset, .unset, .unset] [(.int (3 : Int32))])) _
  refine XS.iconst X0.here hx rfl (hb hby at_31) ?_
  show Steps p.tables e below (s₁.setTop (mkF m 32 #[.val (.int p0), .val (.int p1), .val (.int (3 : Int32)), .unset, .unset, .unset, .unset] [(.int (2 : Int32)), (.int (3 : Int32))])) _
  refine XS.icmpYes X0.here hx rfl (pc0 := 32) (pc' := 42) rfl (hb hby at_32) rfl (feq (by decide : ¬ ((3 : Int32) = (2 : Int32)))).2 (by decide) (by decide) ?_
  show Steps p.tables e below (s₁.setTop (mkF m 42 #[.val (.int p0), .val (.int p1), .val (.int (3 : Int32)), .unset, .unset, .unset, .unset] [])) _
  refine XS.iloadN X0.here hx rfl (hb hby at_42) rfl ?_
  show Steps p.tables e below (s₁.setTop (mkF m 43 #[.val (.int p0), .val (.int p1), .val (.int (3 : Int32)), .unset, .unset, .unset, .unset] [(.int (3 : Int32))])) _
  refine XS.iconst X0.here hx rfl (hb hby at_43) ?_
  show Steps p.tables e below (s₁.setTop (mkF m 44 #[.val (.int p0), .val (.int p1), .val (.int (3 : Int32)), .unset, .unset, .unset, .unset] [(.int (3 : Int32)), (.int (3 : Int32))])) _
  refine XS.icmpNo X0.here hx rfl (hb hby at_44) rfl (teq (by decide : (3 : Int32) = (3 : Int32))).2 ?_
  show Steps p.tables e below (s₁.setTop (mkF m 47 #[.val (.int p0), .val (.int p1), .val (.int (3 : Int32)), .unset, .unset, .unset, .unset] [])) _
  refine st1 _ ?_
  show Steps p.tables e below (T1.setTop (mkF m 50 #[.val (.int p0), .val (.int p1), .val (.int (3 : Int32)), .unset, .unset, .unset, .unset] [(.ref w_FAILEDx)])) _
  refine XS.astoreN X1.here hx rfl (hb hby at_50) rfl rfl (l' := #[.val (.int p0), .val (.int p1), .val (.int (3 : Int32)), .val (.ref w_FAILEDx), .unset, .unset, .unset]) rfl ?_
  show Steps p.tables e below (T1.setTop (mkF m 51 #[.val (.int p0), .val (.int p1), .val (.int (3 : Int32)), .val (.ref w_FAILEDx), .unset, .unset, .unset] [])) _
  refine XS.goto X1.here hx rfl (pc0 := 51) (pc' := 58) rfl (hb hby at_51) (by decide) (by decide) ?_
  show Steps p.tables e below (T1.setTop (mkF m 58 #[.val (.int p0), .val (.int p1), .val (.int (3 : Int32)), .val (.ref w_FAILEDx), .unset, .unset, .unset] [])) _
  refine XS.iloadN X1.here hx rfl (hb hby at_58) rfl ?_
  show Steps p.tables e below (T1.setTop (mkF m 59 #[.val (.int p0), .val (.int p1), .val (.int (3 : Int32)), .val (.ref w_FAILEDx), .unset, .unset, .unset] [(.int (3 : Int32))])) _
  refine XS.iconst X1.here hx rfl (hb hby at_59) ?_
  show Steps p.tables e below (T1.setTop (mkF m 60 #[.val (.int p0), .val (.int p1), .val (.int (3 : Int32)), .val (.ref w_FAILEDx), .unset, .unset, .unset] [(.int (2 : Int32)), (.int (3 : Int32))])) _
  refine XS.icmpNo X1.here hx rfl (hb hby at_60) rfl (flt (by decide : ¬ ((3 : Int32) < (2 : Int32)))).1 ?_
  show Steps p.tables e below (T1.setTop (mkF m 63 #[.val (.int p0), .val (.int p1), .val (.int (3 : Int32)), .val (.ref w_FAILEDx), .unset, .unset, .unset] [])) _
  refine XS.iconst X1.here hx rfl (hb hby at_63) ?_
  show Steps p.tables e below (T1.setTop (mkF m 64 #[.val (.int p0), .val (.int p1), .val (.int (3 : Int32)), .val (.ref w_FAILEDx), .unset, .unset, .unset] [(.int (1 : Int32))])) _
  refine XS.goto X1.here hx rfl (pc0 := 64) (pc' := 68) rfl (hb hby at_64) (by decide) (by decide) ?_
  show Steps p.tables e below (T1.setTop (mkF m 68 #[.val (.int p0), .val (.int p1), .val (.int (3 : Int32)), .val (.ref w_FAILEDx), .unset, .unset, .unset] [(.int (1 : Int32))])) _
  refine XS.istore X1.here hx rfl (hb hby at_68) rfl (l' := #[.val (.int p0), .val (.int p1), .val (.int (3 : Int32)), .val (.ref w_FAILEDx), .val (.int (1 : Int32)), .unset, .unset]) rfl ?_
  show Steps p.tables e below (T1.setTop (mkF m 70 #[.val (.int p0), .val (.int p1), .val (.int (3 : Int32)), .val (.ref w_FAILEDx), .val (.int (1 : Int32)), .unset, .unset] [])) _
  refine XS.iloadN X1.here hx rfl (hb hby at_70) rfl ?_
  show Steps p.tables e below (T1.setTop (mkF m 71 #[.val (.int p0), .val (.int p1), .val (.int (3 : Int32)), .val (.ref w_FAILEDx), .val (.int (1 : Int32)), .unset, .unset] [(.int p1)])) _
  refine X1.ldcInt hx hown (mvT hZ (hw _ (List.mem_of_getElem? (i := 0) rfl))) (g := (mkF m 71 #[.val (.int p0), .val (.int p1), .val (.int (3 : Int32)), .val (.ref w_FAILEDx), .val (.int (1 : Int32)), .unset, .unset] [(.int p1)])) rfl (hb hby at_71) _ ?_
  show Steps p.tables e below (T1.setTop (mkF m 73 #[.val (.int p0), .val (.int p1), .val (.int (3 : Int32)), .val (.ref w_FAILEDx), .val (.int (1 : Int32)), .unset, .unset] [(.int (2147483647 : Int32)), (.int p1)])) _
  refine XS.iand X1.here hx rfl (hb hby at_73) rfl ?_
  show Steps p.tables e below (T1.setTop (mkF m 74 #[.val (.int p0), .val (.int p1), .val (.int (3 : Int32)), .val (.ref w_FAILEDx), .val (.int (1 : Int32)), .unset, .unset] [(.int (p1 &&& (2147483647 : Int32)))])) _
  show Steps p.tables e below (T1.setTop (mkF m 74 #[.val (.int p0), .val (.int p1), .val (.int (3 : Int32)), .val (.ref w_FAILEDx), .val (.int (1 : Int32)), .unset, .unset] [(.int (p1 &&& (2147483647 : Int32)))])) _
  refine XS.iconst X1.here hx rfl (hb hby at_74) ?_
  show Steps p.tables e below (T1.setTop (mkF m 75 #[.val (.int p0), .val (.int p1), .val (.int (3 : Int32)), .val (.ref w_FAILEDx), .val (.int (1 : Int32)), .unset, .unset] [(.int (3 : Int32)), (.int (p1 &&& (2147483647 : Int32)))])) _
  refine iremM X1 hx rfl (hb hby at_75) rfl (by decide) ?_
  show Steps p.tables e below (T1.setTop (mkF m 76 #[.val (.int p0), .val (.int p1), .val (.int (3 : Int32)), .val (.ref w_FAILEDx), .val (.int (1 : Int32)), .unset, .unset] [(.int ((p1 &&& (2147483647 : Int32)) % (3 : Int32)))])) _
  rw [hj]
  show Steps p.tables e below (T1.setTop (mkF m 76 #[.val (.int p0), .val (.int p1), .val (.int (3 : Int32)), .val (.ref w_FAILEDx), .val (.int (1 : Int32)), .unset, .unset] [(.int (0 : Int32))])) _
  refine XS.istore X1.here hx rfl (hb hby at_76) rfl (l' := #[.val (.int p0), .val (.int p1), .val (.int (3 : Int32)), .val (.ref w_FAILEDx), .val (.int (1 : Int32)), .val (.int (0 : Int32)), .unset]) rfl ?_
  show Steps p.tables e below (T1.setTop (mkF m 78 #[.val (.int p0), .val (.int p1), .val (.int (3 : Int32)), .val (.ref w_FAILEDx), .val (.int (1 : Int32)), .val (.int (0 : Int32)), .unset] [])) _
  refine XS.iload X1.here hx rfl (hb hby at_78) rfl ?_
  show Steps p.tables e below (T1.setTop (mkF m 80 #[.val (.int p0), .val (.int p1), .val (.int (3 : Int32)), .val (.ref w_FAILEDx), .val (.int (1 : Int32)), .val (.int (0 : Int32)), .unset] [(.int (0 : Int32))])) _
  refine XS.ifNo X1.here hx rfl (hb hby at_80) rfl ((if0 _ _).trans (teq (by decide : (0 : Int32) = (0 : Int32))).2) ?_
  show Steps p.tables e below (T1.setTop (mkF m 83 #[.val (.int p0), .val (.int p1), .val (.int (3 : Int32)), .val (.ref w_FAILEDx), .val (.int (1 : Int32)), .val (.int (0 : Int32)), .unset] [])) _
  refine st2 _ ?_
  show Steps p.tables e below (T2.setTop (mkF m 86 #[.val (.int p0), .val (.int p1), .val (.int (3 : Int32)), .val (.ref w_FAILEDx), .val (.int (1 : Int32)), .val (.int (0 : Int32)), .unset] [(.ref w_FINISHED)])) _
  refine XS.astore X2.here hx rfl (hb hby at_86) rfl rfl (l' := #[.val (.int p0), .val (.int p1), .val (.int (3 : Int32)), .val (.ref w_FAILEDx), .val (.int (1 : Int32)), .val (.int (0 : Int32)), .val (.ref w_FINISHED)]) rfl ?_
  show Steps p.tables e below (T2.setTop (mkF m 88 #[.val (.int p0), .val (.int p1), .val (.int (3 : Int32)), .val (.ref w_FAILEDx), .val (.int (1 : Int32)), .val (.int (0 : Int32)), .val (.ref w_FINISHED)] [])) _
  refine XS.goto X2.here hx rfl (pc0 := 88) (pc' := 110) rfl (hb hby at_88) (by decide) (by decide) ?_
  show Steps p.tables e below (T2.setTop (mkF m 110 #[.val (.int p0), .val (.int p1), .val (.int (3 : Int32)), .val (.ref w_FAILEDx), .val (.int (1 : Int32)), .val (.int (0 : Int32)), .val (.ref w_FINISHED)] [])) _
  refine XS.aloadN X2.here hx rfl (hb hby at_110) rfl rfl ?_
  show Steps p.tables e below (T2.setTop (mkF m 111 #[.val (.int p0), .val (.int p1), .val (.int (3 : Int32)), .val (.ref w_FAILEDx), .val (.int (1 : Int32)), .val (.int (0 : Int32)), .val (.ref w_FINISHED)] [(.ref w_FAILEDx)])) _
  refine st3.trans ?_
  show Steps p.tables e below (T3.setTop (mkF m 114 #[.val (.int p0), .val (.int p1), .val (.int (3 : Int32)), .val (.ref w_FAILEDx), .val (.int (1 : Int32)), .val (.int (0 : Int32)), .val (.ref w_FINISHED)] [(.int (1 : Int32))])) _
  refine XS.iload X3.here hx rfl (hb hby at_114) rfl ?_
  show Steps p.tables e below (T3.setTop (mkF m 116 #[.val (.int p0), .val (.int p1), .val (.int (3 : Int32)), .val (.ref w_FAILEDx), .val (.int (1 : Int32)), .val (.int (0 : Int32)), .val (.ref w_FINISHED)] [(.int (1 : Int32)), (.int (1 : Int32))])) _
  refine XS.icmpNo X3.here hx rfl (hb hby at_116) rfl (teq (by decide : (1 : Int32) = (1 : Int32))).2 ?_
  show Steps p.tables e below (T3.setTop (mkF m 119 #[.val (.int p0), .val (.int p1), .val (.int (3 : Int32)), .val (.ref w_FAILEDx), .val (.int (1 : Int32)), .val (.int (0 : Int32)), .val (.ref w_FINISHED)] [])) _
  refine XS.aload X3.here hx rfl (hb hby at_119) rfl rfl ?_
  show Steps p.tables e below (T3.setTop (mkF m 121 #[.val (.int p0), .val (.int p1), .val (.int (3 : Int32)), .val (.ref w_FAILEDx), .val (.int (1 : Int32)), .val (.int (0 : Int32)), .val (.ref w_FINISHED)] [(.ref w_FINISHED)])) _
  refine st4 _ ?_
  show Steps p.tables e below (T4.setTop (mkF m 124 #[.val (.int p0), .val (.int p1), .val (.int (3 : Int32)), .val (.ref w_FAILEDx), .val (.int (1 : Int32)), .val (.int (0 : Int32)), .val (.ref w_FINISHED)] [(.ref w_FINISHEDx)])) _
  refine st5.trans ?_
  show Steps p.tables e below (T5.setTop (mkF m 127 #[.val (.int p0), .val (.int p1), .val (.int (3 : Int32)), .val (.ref w_FAILEDx), .val (.int (1 : Int32)), .val (.int (0 : Int32)), .val (.ref w_FINISHED)] [(.int (1 : Int32))])) _
  refine XS.ifNo X5.here hx rfl (hb hby at_127) rfl ((if0 _ _).trans (feq (by decide : ¬ ((1 : Int32) = (0 : Int32)))).1) ?_
  show Steps p.tables e below (T5.setTop (mkF m 130 #[.val (.int p0), .val (.int p1), .val (.int (3 : Int32)), .val (.ref w_FAILEDx), .val (.int (1 : Int32)), .val (.int (0 : Int32)), .val (.ref w_FINISHED)] [])) _
  refine XS.iconst X5.here hx rfl (hb hby at_130) ?_
  show Steps p.tables e below (T5.setTop (mkF m 131 #[.val (.int p0), .val (.int p1), .val (.int (3 : Int32)), .val (.ref w_FAILEDx), .val (.int (1 : Int32)), .val (.int (0 : Int32)), .val (.ref w_FINISHED)] [(.int (1 : Int32))])) _
  refine XS.goto X5.here hx rfl (pc0 := 131) (pc' := 135) rfl (hb hby at_131) (by decide) (by decide) ?_
  show Steps p.tables e below (T5.setTop (mkF m 135 #[.val (.int p0), .val (.int p1), .val (.int (3 : Int32)), .val (.ref w_FAILEDx), .val (.int (1 : Int32)), .val (.int (0 : Int32)), .val (.ref w_FINISHED)] [(.int (1 : Int32))])) _
  exact retN X5 hx (t := .boolean) Bd.returns (by simp) (hb hby at_135) hr
set_option maxRecDepth 65536 in
set_option maxHeartbeats 40000000 in
theorem rm0_10 (l : Launch) (Z : State) (a0 : Array Value) (hw : ∀ d ∈ tables_1, d.before a0 Z = true) (ws : List Jvm.Cond) (w_NEW w_FINISHED w_sm w_FINISHEDx w_RUNNING w_TIMED_OUT w_FAILED w_FAILEDx w_TIMED_OUTx : Addr) (h0 : Heap) (n0 : Nat) (Z0 : n0 ≤ h0.size) (S : SF Z h0 w_NEW w_FINISHED w_sm w_FINISHEDx w_RUNNING w_TIMED_OUT w_FAILED w_FAILEDx w_TIMED_OUTx) (p0 : Int32) (p1 : Int32) (hk : ((p0 &&& (2147483647 : Int32)) % (5 : Int32)) = (3 : Int32)) (hj : ((p1 &&& (2147483647 : Int32)) % (3 : Int32)) = (1 : Int32)) :
    Pay l Z x ws code maxLocals ret #[(.int p0), (.int p1)] h0 n0 room_1 (some (.int (1 : Int32))) := by
  obtain ⟨S_w_NEW, E_w_NEW, S_w_FINISHED, E_w_FINISHED, S_w_sm, V_w_sm, S_w_FINISHEDx, E_w_FINISHEDx, S_w_RUNNING, E_w_RUNNING, S_w_TIMED_OUT, E_w_TIMED_OUT, S_w_FAILED, E_w_FAILED, S_w_FAILEDx, E_w_FAILEDx, S_w_TIMED_OUTx, E_w_TIMED_OUTx, F_ordinal_w_FINISHED, F_ordinal_w_FINISHEDx, F_ordinal_w_NEW, F_ordinal_w_RUNNING, F_ordinal_w_TIMED_OUT, F_ordinal_w_FAILED, F_ordinal_w_FAILEDx, F_ordinal_w_TIMED_OUTx, hne_w_NEW_w_FINISHEDx, hne_w_NEW_w_RUNNING, hne_w_NEW_w_TIMED_OUT, hne_w_NEW_w_FAILEDx, hne_w_FINISHED_w_FAILED, hne_w_FINISHED_w_TIMED_OUTx, hne_w_FINISHEDx_w_RUNNING, hne_w_FINISHEDx_w_TIMED_OUT, hne_w_FINISHEDx_w_FAILEDx, hne_w_RUNNING_w_TIMED_OUT, hne_w_RUNNING_w_FAILEDx, hne_w_TIMED_OUT_w_FAILEDx, hne_w_FAILED_w_TIMED_OUTx⟩ := id S
  refine MetFree.of_bodySF (plainFor_of_name pn_2) hisR ?_
  intro p e s m args below meth c s₁ Bd hml0 hP hK
  obtain ⟨rfl, hZ, hh⟩ := hP
  have hx := Bd.exec
  have hby := Bd.bytes
  have hml : c.maxLocals = 7 := hml0
  have hown : s.vm.findClass "com/example/bowline/bowline/server/RunStateEndedPinLaw" = some m.cls := findClass_of_methodNamed Bd.named
  have X0 : Stand p l e room_1 s m #[(.int p0), (.int p1)] below meth c s₁ [] 0 0 := Stand.of_body Bd
  have e0 : s₁.heap = h0 := by rw [← hh, Bd.state]; rfl
  have N0 := Fr.nil n0
  have pre0 : ∀ t, Steps p.tables e below (s₁.setTop (mkF m 0 #[.val (.int p0), .val (.int p1), .unset, .unset, .unset, .unset, .unset] [])) t → Steps p.tables e below (s₁.setTop (entryFrame m #[(.int p0), (.int p1)] maxLocals)) t := fun t k => castTop (by first | rfl | (simp [entryFrame, mkF, argsToLocals, Value.category, maxLocals]; done)) k
  obtain ⟨T1, X1, e1, st1⟩ := getS2 X0 hx hZ hown (host := "") (Or.inl (hw _ (List.mem_of_getElem? (i := 38) rfl))) Via.refl e0 S_w_FAILEDx (g := (mkF m 47 #[.val (.int p0), .val (.int p1), .val (.int (3 : Int32)), .unset, .unset, .unset, .unset] [])) rfl (hb hby at_47)
  obtain ⟨T2, X2, e2, st2⟩ := getS2 X1 hx hZ hown (host := "") (Or.inl (hw _ (List.mem_of_getElem? (i := 34) rfl))) Via.refl e1 S_w_FAILED (g := (mkF m 97 #[.val (.int p0), .val (.int p1), .val (.int (3 : Int32)), .val (.ref w_FAILEDx), .val (.int (1 : Int32)), .val (.int (1 : Int32)), .unset] [])) rfl (hb hby at_97)
  obtain ⟨cq3, kq3, q3a, q3b, q3c⟩ := isOf hZ e2 E_w_FAILEDx
  obtain ⟨_, _, ⟨T3, L3, k3, n3⟩, -, X3, ⟨Lc3, hQ3, l3, y3, z3⟩, st3⟩ := X2.virtualBack hx (y := (⟨"com/example/bowline/bowline/server/RunState", "ended", "()Z"⟩ : MethodName)) (z := (⟨"com/example/bowline/bowline/server/RunState", "ended", "()Z"⟩ : MethodName)) hown (mvT hZ (hw _ (List.mem_of_getElem? (i := 7) rfl))) (mvT hZ (hw _ (List.mem_of_getElem? (i := 8) rfl))) (notFace_of_selects (args := #[]) (mvT hZ (hw _ (List.mem_of_getElem? (i := 10) rfl)))) (mvT hZ (hw _ (List.mem_of_getElem? (i := 10) rfl))) (mvT hZ (hw _ (List.mem_of_getElem? (i := 9) rfl))) (by decide) (backOf (W := 0) (rm1_2 l Z a0 hw [] w_NEW w_FINISHED w_sm w_FINISHEDx w_RUNNING w_TIMED_OUT w_FAILED w_FAILEDx w_TIMED_OUTx h0 n0 Z0 S) hZ (hw _ (List.mem_of_getElem? (i := 11) rfl)) (hw _ (List.mem_of_getElem? (i := 2) rfl)) (by decide) (by decide)) q3a q3c (g := (mkF m 111 #[.val (.int p0), .val (.int p1), .val (.int (3 : Int32)), .val (.ref w_FAILEDx), .val (.int (1 : Int32)), .val (.int (1 : Int32)), .val (.ref w_FAILED)] [(.ref w_FAILEDx)])) rfl (by rw [hml]; rfl) (Steps.refl _) (argsL := []) (rest := []) (lenOf pd_0 rfl) rfl (by show 2 * 0 + _ ≤ _; exact Nat.le_of_eq rfl) (hb hby at_111) (fun _ _ => ⟨rfl, e2, (by decide : 0 + 0 ≤ _), (by decide : 0 + 0 ≤ _)⟩)
  dsimp only [Pt.U, Pt.locs, Pt.cells, Pt.slots] at X3 l3 y3 z3 st3 hQ3
  subst l3 y3 z3
  obtain ⟨rfl, Nq3, e3⟩ := hQ3
  have N3 := Fr.app N0 Nq3
  obtain ⟨_, _, ⟨T4, L4, k4, n4⟩, -, X4, ⟨Lc4, hQ4, l4, y4, z4⟩, st4⟩ := Jvm.LawKit.callS X3 hx (y := (⟨"com/example/bowline/bowline/server/RunState", "of", "(Lcom/example/bowline/bowline/runtime/Status;)Lcom/example/bowline/bowline/server/RunState;"⟩ : MethodName)) hown (mvT hZ (hw _ (List.mem_of_getElem? (i := 13) rfl))) (mvT hZ (hw _ (List.mem_of_getElem? (i := 14) rfl))) (mvT hZ (hw _ (List.mem_of_getElem? (i := 2) rfl))) (mvT hZ (hw _ (List.mem_of_getElem? (i := 15) rfl))) (by decide) (backOf (W := 0) (rm2_1 l Z a0 hw [] w_NEW w_FINISHED w_sm w_FINISHEDx w_RUNNING w_TIMED_OUT w_FAILED w_FAILEDx w_TIMED_OUTx h0 n0 Z0 S) hZ (hw _ (List.mem_of_getElem? (i := 15) rfl)) (hw _ (List.mem_of_getElem? (i := 2) rfl)) (by decide) (by decide)) (g := (mkF m 121 #[.val (.int p0), .val (.int p1), .val (.int (3 : Int32)), .val (.ref w_FAILEDx), .val (.int (1 : Int32)), .val (.int (1 : Int32)), .val (.ref w_FAILED)] [(.ref w_FAILED)])) rfl (by rw [hml]; rfl) (argsL := [(.ref w_FAILED)]) (rest := []) (lenOf pd_2 rfl) rfl (by show 2 * 0 + _ ≤ _; exact Nat.le_of_eq rfl) (hb hby at_121) (fun _ _ => ⟨rfl, e3, (by decide : 0 + 0 ≤ _), (by decide : 0 + 0 ≤ _)⟩)
  dsimp only [Pt.U, Pt.locs, Pt.cells, Pt.slots] at X4 l4 y4 z4 st4 hQ4
  subst l4 y4 z4
  obtain ⟨rfl, Nq4, e4⟩ := hQ4
  have N4 := Fr.app N3 Nq4
  obtain ⟨cq5, kq5, q5a, q5b, q5c⟩ := isOf hZ e4 E_w_FAILEDx
  obtain ⟨_, _, ⟨T5, L5, k5, n5⟩, -, X5, ⟨Lc5, hQ5, l5, y5, z5⟩, st5⟩ := X4.virtualBack hx (y := (⟨"com/example/bowline/bowline/server/RunState", "ended", "()Z"⟩ : MethodName)) (z := (⟨"com/example/bowline/bowline/server/RunState", "ended", "()Z"⟩ : MethodName)) hown (mvT hZ (hw _ (List.mem_of_getElem? (i := 7) rfl))) (mvT hZ (hw _ (List.mem_of_getElem? (i := 8) rfl))) (notFace_of_selects (args := #[]) (mvT hZ (hw _ (List.mem_of_getElem? (i := 10) rfl)))) (mvT hZ (hw _ (List.mem_of_getElem? (i := 10) rfl))) (mvT hZ (hw _ (List.mem_of_getElem? (i := 9) rfl))) (by decide) (backOf (W := 0) (rm1_2 l Z a0 hw [] w_NEW w_FINISHED w_sm w_FINISHEDx w_RUNNING w_TIMED_OUT w_FAILED w_FAILEDx w_TIMED_OUTx h0 n0 Z0 S) hZ (hw _ (List.mem_of_getElem? (i := 11) rfl)) (hw _ (List.mem_of_getElem? (i := 2) rfl)) (by decide) (by decide)) q5a q5c (g := (mkF m 124 #[.val (.int p0), .val (.int p1), .val (.int (3 : Int32)), .val (.ref w_FAILEDx), .val (.int (1 : Int32)), .val (.int (1 : Int32)), .val (.ref w_FAILED)] [(.ref w_FAILEDx)])) rfl (by rw [hml]; rfl) (Steps.refl _) (argsL := []) (rest := []) (lenOf pd_0 rfl) rfl (by show 2 * 0 + _ ≤ _; exact Nat.le_of_eq rfl) (hb hby at_124) (fun _ _ => ⟨rfl, e4, (by decide : 0 + 0 ≤ _), (by decide : 0 + 0 ≤ _)⟩)
  dsimp only [Pt.U, Pt.locs, Pt.cells, Pt.slots] at X5 l5 y5 z5 st5 hQ5
  subst l5 y5 z5
  obtain ⟨rfl, Nq5, e5⟩ := hQ5
  have N5 := Fr.app N4 Nq5
  obtain ⟨fs, hr, hrun, hended, hW, hsame⟩ := X5.leave (v := (some (.int (1 : Int32)))) (fun h => by rw [Bd.returns] at h; cases h)
  refine ⟨_, _, pre0 _ ?_, hrun, hended, _, _, rfl, ⟨rfl, N5, e5⟩, ⟨_, rfl⟩, hW, hsame.mono (by decide) (by decide)⟩
  show Steps p.tables e below (s₁.setTop (mkF m 0 #[.val (.int p0), .val (.int p1), .unset, .unset, .unset, .unset, .unset] [])) _
  refine XS.iloadN X0.here hx rfl (hb hby at_0) rfl ?_
  show Steps p.tables e below (s₁.setTop (mkF m 1 #[.val (.int p0), .val (.int p1), .unset, .unset, .unset, .unset, .unset] [(.int p0)])) _
  refine X0.ldcInt hx hown (mvT hZ (hw _ (List.mem_of_getElem? (i := 0) rfl))) (g := (mkF m 1 #[.val (.int p0), .val (.int p1), .unset, .unset, .unset, .unset, .unset] [(.int p0)])) rfl (hb hby at_1) _ ?_
  show Steps p.tables e below (s₁.setTop (mkF m 3 #[.val (.int p0), .val (.int p1), .unset, .unset, .unset, .unset, .unset] [(.int (2147483647 : Int32)), (.int p0)])) _
  refine XS.iand X0.here hx rfl (hb hby at_3) rfl ?_
  show Steps p.tables e below (s₁.setTop (mkF m 4 #[.val (.int p0), .val (.int p1), .unset, .unset, .unset, .unset, .unset] [(.int (p0 &&& (2147483647 : Int32)))])) _
  show Steps p.tables e below (s₁.setTop (mkF m 4 #[.val (.int p0), .val (.int p1), .unset, .unset, .unset, .unset, .unset] [(.int (p0 &&& (2147483647 : Int32)))])) _
  refine XS.iconst X0.here hx rfl (hb hby at_4) ?_
  show Steps p.tables e below (s₁.setTop (mkF m 5 #[.val (.int p0), .val (.int p1), .unset, .unset, .unset, .unset, .unset] [(.int (5 : Int32)), (.int (p0 &&& (2147483647 : Int32)))])) _
  refine iremM X0 hx rfl (hb hby at_5) rfl (by decide) ?_
  show Steps p.tables e below (s₁.setTop (mkF m 6 #[.val (.int p0), .val (.int p1), .unset, .unset, .unset, .unset, .unset] [(.int ((p0 &&& (2147483647 : Int32)) % (5 : Int32)))])) _
  rw [hk]
  show Steps p.tables e below (s₁.setTop (mkF m 6 #[.val (.int p0), .val (.int p1), .unset, .unset, .unset, .unset, .unset] [(.int (3 : Int32))])) _
  refine XS.istoreN X0.here hx rfl (hb hby at_6) rfl (l' := #[.val (.int p0), .val (.int p1), .val (.int (3 : Int32)), .unset, .unset, .unset, .unset]) rfl ?_
  show Steps p.tables e below (s₁.setTop (mkF m 7 #[.val (.int p0), .val (.int p1), .val (.int (3 : Int32)), .unset, .unset, .unset, .unset] [])) _
  refine XS.iloadN X0.here hx rfl (hb hby at_7) rfl ?_
  show Steps p.tables e below (s₁.setTop (mkF m 8 #[.val (.int p0), .val (.int p1), .val (.int (3 : Int32)), .unset, .unset, .unset, .unset] [(.int (3 : Int32))])) _
  refine XS.ifYes X0.here hx rfl (pc0 := 8) (pc' := 18) rfl (hb hby at_8) rfl ((if0 _ _).trans (feq (by decide : ¬ ((3 : Int32) = (0 : Int32)))).2) (by decide) (by decide) ?_
  show Steps p.tables e below (s₁.setTop (mkF m 18 #[.val (.int p0), .val (.int p1), .val (.int (3 : Int32)), .unset, .unset, .unset, .unset] [])) _
  refine XS.iloadN X0.here hx rfl (hb hby at_18) rfl ?_
  show Steps p.tables e below (s₁.setTop (mkF m 19 #[.val (.int p0), .val (.int p1), .val (.int (3 : Int32)), .unset, .unset, .unset, .unset] [(.int (3 : Int32))])) _
  refine XS.iconst X0.here hx rfl (hb hby at_19) ?_
  show Steps p.tables e below (s₁.setTop (mkF m 20 #[.val (.int p0), .val (.int p1), .val (.int (3 : Int32)), .unset, .unset, .unset, .unset] [(.int (1 : Int32)), (.int (3 : Int32))])) _
  refine XS.icmpYes X0.here hx rfl (pc0 := 20) (pc' := 30) rfl (hb hby at_20) rfl (feq (by decide : ¬ ((3 : Int32) = (1 : Int32)))).2 (by decide) (by decide) ?_
  show Steps p.tables e below (s₁.setTop (mkF m 30 #[.val (.int p0), .val (.int p1), .val (.int (3 : Int32)), .unset, .unset, .unset, .unset] [])) _
  refine XS.iloadN X0.here hx rfl (hb hby at_30) rfl ?_
  show Steps p.tables e below (s₁.setTop (mkF m 31 #[.val (.int p0), .val (.int p1), .val (.int (3 : Int32)), .unset, .unset, .unset, .unset] [(.int (3 : Int32))])) _
  refine XS.iconst X0.here hx rfl (hb hby at_31) ?_
  show Steps p.tables e below (s₁.setTop (mkF m 32 #[.val (.int p0), .val (.int p1), .val (.int (3 : Int32)), .unset, .unset, .unset, .unset] [(.int (2 : Int32)), (.int (3 : Int32))])) _
  refine XS.icmpYes X0.here hx rfl (pc0 := 32) (pc' := 42) rfl (hb hby at_32) rfl (feq (by decide : ¬ ((3 : Int32) = (2 : Int32)))).2 (by decide) (by decide) ?_
  show Steps p.tables e below (s₁.setTop (mkF m 42 #[.val (.int p0), .val (.int p1), .val (.int (3 : Int32)), .unset, .unset, .unset, .unset] [])) _
  refine XS.iloadN X0.here hx rfl (hb hby at_42) rfl ?_
  show Steps p.tables e below (s₁.setTop (mkF m 43 #[.val (.int p0), .val (.int p1), .val (.int (3 : Int32)), .unset, .unset, .unset, .unset] [(.int (3 : Int32))])) _
  refine XS.iconst X0.here hx rfl (hb hby at_43) ?_
  show Steps p.tables e below (s₁.setTop (mkF m 44 #[.val (.int p0), .val (.int p1), .val (.int (3 : Int32)), .unset, .unset, .unset, .unset] [(.int (3 : Int32)), (.int (3 : Int32))])) _
  refine XS.icmpNo X0.here hx rfl (hb hby at_44) rfl (teq (by decide : (3 : Int32) = (3 : Int32))).2 ?_
  show Steps p.tables e below (s₁.setTop (mkF m 47 #[.val (.int p0), .val (.int p1), .val (.int (3 : Int32)), .unset, .unset, .unset, .unset] [])) _
  refine st1 _ ?_
  show Steps p.tables e below (T1.setTop (mkF m 50 #[.val (.int p0), .val (.int p1), .val (.int (3 : Int32)), .unset, .unset, .unset, .unset] [(.ref w_FAILEDx)])) _
  refine XS.astoreN X1.here hx rfl (hb hby at_50) rfl rfl (l' := #[.val (.int p0), .val (.int p1), .val (.int (3 : Int32)), .val (.ref w_FAILEDx), .unset, .unset, .unset]) rfl ?_
  show Steps p.tables e below (T1.setTop (mkF m 51 #[.val (.int p0), .val (.int p1), .val (.int (3 : Int32)), .val (.ref w_FAILEDx), .unset, .unset, .unset] [])) _
  refine XS.goto X1.here hx rfl (pc0 := 51) (pc' := 58) rfl (hb hby at_51) (by decide) (by decide) ?_
  show Steps p.tables e below (T1.setTop (mkF m 58 #[.val (.int p0), .val (.int p1), .val (.int (3 : Int32)), .val (.ref w_FAILEDx), .unset, .unset, .unset] [])) _
  refine XS.iloadN X1.here hx rfl (hb hby at_58) rfl ?_
  show Steps p.tables e below (T1.setTop (mkF m 59 #[.val (.int p0), .val (.int p1), .val (.int (3 : Int32)), .val (.ref w_FAILEDx), .unset, .unset, .unset] [(.int (3 : Int32))])) _
  refine XS.iconst X1.here hx rfl (hb hby at_59) ?_
  show Steps p.tables e below (T1.setTop (mkF m 60 #[.val (.int p0), .val (.int p1), .val (.int (3 : Int32)), .val (.ref w_FAILEDx), .unset, .unset, .unset] [(.int (2 : Int32)), (.int (3 : Int32))])) _
  refine XS.icmpNo X1.here hx rfl (hb hby at_60) rfl (flt (by decide : ¬ ((3 : Int32) < (2 : Int32)))).1 ?_
  show Steps p.tables e below (T1.setTop (mkF m 63 #[.val (.int p0), .val (.int p1), .val (.int (3 : Int32)), .val (.ref w_FAILEDx), .unset, .unset, .unset] [])) _
  refine XS.iconst X1.here hx rfl (hb hby at_63) ?_
  show Steps p.tables e below (T1.setTop (mkF m 64 #[.val (.int p0), .val (.int p1), .val (.int (3 : Int32)), .val (.ref w_FAILEDx), .unset, .unset, .unset] [(.int (1 : Int32))])) _
  refine XS.goto X1.here hx rfl (pc0 := 64) (pc' := 68) rfl (hb hby at_64) (by decide) (by decide) ?_
  show Steps p.tables e below (T1.setTop (mkF m 68 #[.val (.int p0), .val (.int p1), .val (.int (3 : Int32)), .val (.ref w_FAILEDx), .unset, .unset, .unset] [(.int (1 : Int32))])) _
  refine XS.istore X1.here hx rfl (hb hby at_68) rfl (l' := #[.val (.int p0), .val (.int p1), .val (.int (3 : Int32)), .val (.ref w_FAILEDx), .val (.int (1 : Int32)), .unset, .unset]) rfl ?_
  show Steps p.tables e below (T1.setTop (mkF m 70 #[.val (.int p0), .val (.int p1), .val (.int (3 : Int32)), .val (.ref w_FAILEDx), .val (.int (1 : Int32)), .unset, .unset] [])) _
  refine XS.iloadN X1.here hx rfl (hb hby at_70) rfl ?_
  show Steps p.tables e below (T1.setTop (mkF m 71 #[.val (.int p0), .val (.int p1), .val (.int (3 : Int32)), .val (.ref w_FAILEDx), .val (.int (1 : Int32)), .unset, .unset] [(.int p1)])) _
  refine X1.ldcInt hx hown (mvT hZ (hw _ (List.mem_of_getElem? (i := 0) rfl))) (g := (mkF m 71 #[.val (.int p0), .val (.int p1), .val (.int (3 : Int32)), .val (.ref w_FAILEDx), .val (.int (1 : Int32)), .unset, .unset] [(.int p1)])) rfl (hb hby at_71) _ ?_
  show Steps p.tables e below (T1.setTop (mkF m 73 #[.val (.int p0), .val (.int p1), .val (.int (3 : Int32)), .val (.ref w_FAILEDx), .val (.int (1 : Int32)), .unset, .unset] [(.int (2147483647 : Int32)), (.int p1)])) _
  refine XS.iand X1.here hx rfl (hb hby at_73) rfl ?_
  show Steps p.tables e below (T1.setTop (mkF m 74 #[.val (.int p0), .val (.int p1), .val (.int (3 : Int32)), .val (.ref w_FAILEDx), .val (.int (1 : Int32)), .unset, .unset] [(.int (p1 &&& (2147483647 : Int32)))])) _
  show Steps p.tables e below (T1.setTop (mkF m 74 #[.val (.int p0), .val (.int p1), .val (.int (3 : Int32)), .val (.ref w_FAILEDx), .val (.int (1 : Int32)), .unset, .unset] [(.int (p1 &&& (2147483647 : Int32)))])) _
  refine XS.iconst X1.here hx rfl (hb hby at_74) ?_
  show Steps p.tables e below (T1.setTop (mkF m 75 #[.val (.int p0), .val (.int p1), .val (.int (3 : Int32)), .val (.ref w_FAILEDx), .val (.int (1 : Int32)), .unset, .unset] [(.int (3 : Int32)), (.int (p1 &&& (2147483647 : Int32)))])) _
  refine iremM X1 hx rfl (hb hby at_75) rfl (by decide) ?_
  show Steps p.tables e below (T1.setTop (mkF m 76 #[.val (.int p0), .val (.int p1), .val (.int (3 : Int32)), .val (.ref w_FAILEDx), .val (.int (1 : Int32)), .unset, .unset] [(.int ((p1 &&& (2147483647 : Int32)) % (3 : Int32)))])) _
  rw [hj]
  show Steps p.tables e below (T1.setTop (mkF m 76 #[.val (.int p0), .val (.int p1), .val (.int (3 : Int32)), .val (.ref w_FAILEDx), .val (.int (1 : Int32)), .unset, .unset] [(.int (1 : Int32))])) _
  refine XS.istore X1.here hx rfl (hb hby at_76) rfl (l' := #[.val (.int p0), .val (.int p1), .val (.int (3 : Int32)), .val (.ref w_FAILEDx), .val (.int (1 : Int32)), .val (.int (1 : Int32)), .unset]) rfl ?_
  show Steps p.tables e below (T1.setTop (mkF m 78 #[.val (.int p0), .val (.int p1), .val (.int (3 : Int32)), .val (.ref w_FAILEDx), .val (.int (1 : Int32)), .val (.int (1 : Int32)), .unset] [])) _
  refine XS.iload X1.here hx rfl (hb hby at_78) rfl ?_
  show Steps p.tables e below (T1.setTop (mkF m 80 #[.val (.int p0), .val (.int p1), .val (.int (3 : Int32)), .val (.ref w_FAILEDx), .val (.int (1 : Int32)), .val (.int (1 : Int32)), .unset] [(.int (1 : Int32))])) _
  refine XS.ifYes X1.here hx rfl (pc0 := 80) (pc' := 91) rfl (hb hby at_80) rfl ((if0 _ _).trans (feq (by decide : ¬ ((1 : Int32) = (0 : Int32)))).2) (by decide) (by decide) ?_
  show Steps p.tables e below (T1.setTop (mkF m 91 #[.val (.int p0), .val (.int p1), .val (.int (3 : Int32)), .val (.ref w_FAILEDx), .val (.int (1 : Int32)), .val (.int (1 : Int32)), .unset] [])) _
  refine XS.iload X1.here hx rfl (hb hby at_91) rfl ?_
  show Steps p.tables e below (T1.setTop (mkF m 93 #[.val (.int p0), .val (.int p1), .val (.int (3 : Int32)), .val (.ref w_FAILEDx), .val (.int (1 : Int32)), .val (.int (1 : Int32)), .unset] [(.int (1 : Int32))])) _
  refine XS.iconst X1.here hx rfl (hb hby at_93) ?_
  show Steps p.tables e below (T1.setTop (mkF m 94 #[.val (.int p0), .val (.int p1), .val (.int (3 : Int32)), .val (.ref w_FAILEDx), .val (.int (1 : Int32)), .val (.int (1 : Int32)), .unset] [(.int (1 : Int32)), (.int (1 : Int32))])) _
  refine XS.icmpNo X1.here hx rfl (hb hby at_94) rfl (teq (by decide : (1 : Int32) = (1 : Int32))).2 ?_
  show Steps p.tables e below (T1.setTop (mkF m 97 #[.val (.int p0), .val (.int p1), .val (.int (3 : Int32)), .val (.ref w_FAILEDx), .val (.int (1 : Int32)), .val (.int (1 : Int32)), .unset] [])) _
  refine st2 _ ?_
  show Steps p.tables e below (T2.setTop (mkF m 100 #[.val (.int p0), .val (.int p1), .val (.int (3 : Int32)), .val (.ref w_FAILEDx), .val (.int (1 : Int32)), .val (.int (1 : Int32)), .unset] [(.ref w_FAILED)])) _
  refine XS.astore X2.here hx rfl (hb hby at_100) rfl rfl (l' := #[.val (.int p0), .val (.int p1), .val (.int (3 : Int32)), .val (.ref w_FAILEDx), .val (.int (1 : Int32)), .val (.int (1 : Int32)), .val (.ref w_FAILED)]) rfl ?_
  show Steps p.tables e below (T2.setTop (mkF m 102 #[.val (.int p0), .val (.int p1), .val (.int (3 : Int32)), .val (.ref w_FAILEDx), .val (.int (1 : Int32)), .val (.int (1 : Int32)), .val (.ref w_FAILED)] [])) _
  refine XS.goto X2.here hx rfl (pc0 := 102) (pc' := 110) rfl (hb hby at_102) (by decide) (by decide) ?_
  show Steps p.tables e below (T2.setTop (mkF m 110 #[.val (.int p0), .val (.int p1), .val (.int (3 : Int32)), .val (.ref w_FAILEDx), .val (.int (1 : Int32)), .val (.int (1 : Int32)), .val (.ref w_FAILED)] [])) _
  refine XS.aloadN X2.here hx rfl (hb hby at_110) rfl rfl ?_
  show Steps p.tables e below (T2.setTop (mkF m 111 #[.val (.int p0), .val (.int p1), .val (.int (3 : Int32)), .val (.ref w_FAILEDx), .val (.int (1 : Int32)), .val (.int (1 : Int32)), .val (.ref w_FAILED)] [(.ref w_FAILEDx)])) _
  refine st3.trans ?_
  show Steps p.tables e below (T3.setTop (mkF m 114 #[.val (.int p0), .val (.int p1), .val (.int (3 : Int32)), .val (.ref w_FAILEDx), .val (.int (1 : Int32)), .val (.int (1 : Int32)), .val (.ref w_FAILED)] [(.int (1 : Int32))])) _
  refine XS.iload X3.here hx rfl (hb hby at_114) rfl ?_
  show Steps p.tables e below (T3.setTop (mkF m 116 #[.val (.int p0), .val (.int p1), .val (.int (3 : Int32)), .val (.ref w_FAILEDx), .val (.int (1 : Int32)), .val (.int (1 : Int32)), .val (.ref w_FAILED)] [(.int (1 : Int32)), (.int (1 : Int32))])) _
  refine XS.icmpNo X3.here hx rfl (hb hby at_116) rfl (teq (by decide : (1 : Int32) = (1 : Int32))).2 ?_
  show Steps p.tables e below (T3.setTop (mkF m 119 #[.val (.int p0), .val (.int p1), .val (.int (3 : Int32)), .val (.ref w_FAILEDx), .val (.int (1 : Int32)), .val (.int (1 : Int32)), .val (.ref w_FAILED)] [])) _
  refine XS.aload X3.here hx rfl (hb hby at_119) rfl rfl ?_
  show Steps p.tables e below (T3.setTop (mkF m 121 #[.val (.int p0), .val (.int p1), .val (.int (3 : Int32)), .val (.ref w_FAILEDx), .val (.int (1 : Int32)), .val (.int (1 : Int32)), .val (.ref w_FAILED)] [(.ref w_FAILED)])) _
  refine st4 _ ?_
  show Steps p.tables e below (T4.setTop (mkF m 124 #[.val (.int p0), .val (.int p1), .val (.int (3 : Int32)), .val (.ref w_FAILEDx), .val (.int (1 : Int32)), .val (.int (1 : Int32)), .val (.ref w_FAILED)] [(.ref w_FAILEDx)])) _
  refine st5.trans ?_
  show Steps p.tables e below (T5.setTop (mkF m 127 #[.val (.int p0), .val (.int p1), .val (.int (3 : Int32)), .val (.ref w_FAILEDx), .val (.int (1 : Int32)), .val (.int (1 : Int32)), .val (.ref w_FAILED)] [(.int (1 : Int32))])) _
  refine XS.ifNo X5.here hx rfl (hb hby at_127) rfl ((if0 _ _).trans (feq (by decide : ¬ ((1 : Int32) = (0 : Int32)))).1) ?_
  show Steps p.tables e below (T5.setTop (mkF m 130 #[.val (.int p0), .val (.int p1), .val (.int (3 : Int32)), .val (.ref w_FAILEDx), .val (.int (1 : Int32)), .val (.int (1 : Int32)), .val (.ref w_FAILED)] [])) _
  refine XS.iconst X5.here hx rfl (hb hby at_130) ?_
  show Steps p.tables e below (T5.setTop (mkF m 131 #[.val (.int p0), .val (.int p1), .val (.int (3 : Int32)), .val (.ref w_FAILEDx), .val (.int (1 : Int32)), .val (.int (1 : Int32)), .val (.ref w_FAILED)] [(.int (1 : Int32))])) _
  refine XS.goto X5.here hx rfl (pc0 := 131) (pc' := 135) rfl (hb hby at_131) (by decide) (by decide) ?_
  show Steps p.tables e below (T5.setTop (mkF m 135 #[.val (.int p0), .val (.int p1), .val (.int (3 : Int32)), .val (.ref w_FAILEDx), .val (.int (1 : Int32)), .val (.int (1 : Int32)), .val (.ref w_FAILED)] [(.int (1 : Int32))])) _
  exact retN X5 hx (t := .boolean) Bd.returns (by simp) (hb hby at_135) hr
set_option maxRecDepth 65536 in
set_option maxHeartbeats 40000000 in
theorem rm0_11 (l : Launch) (Z : State) (a0 : Array Value) (hw : ∀ d ∈ tables_1, d.before a0 Z = true) (ws : List Jvm.Cond) (w_NEW w_FINISHED w_sm w_FINISHEDx w_RUNNING w_TIMED_OUT w_FAILED w_FAILEDx w_TIMED_OUTx : Addr) (h0 : Heap) (n0 : Nat) (Z0 : n0 ≤ h0.size) (S : SF Z h0 w_NEW w_FINISHED w_sm w_FINISHEDx w_RUNNING w_TIMED_OUT w_FAILED w_FAILEDx w_TIMED_OUTx) (p0 : Int32) (p1 : Int32) (hk : ((p0 &&& (2147483647 : Int32)) % (5 : Int32)) = (3 : Int32)) (hj : ((p1 &&& (2147483647 : Int32)) % (3 : Int32)) = (2 : Int32)) :
    Pay l Z x ws code maxLocals ret #[(.int p0), (.int p1)] h0 n0 room_1 (some (.int (1 : Int32))) := by
  obtain ⟨S_w_NEW, E_w_NEW, S_w_FINISHED, E_w_FINISHED, S_w_sm, V_w_sm, S_w_FINISHEDx, E_w_FINISHEDx, S_w_RUNNING, E_w_RUNNING, S_w_TIMED_OUT, E_w_TIMED_OUT, S_w_FAILED, E_w_FAILED, S_w_FAILEDx, E_w_FAILEDx, S_w_TIMED_OUTx, E_w_TIMED_OUTx, F_ordinal_w_FINISHED, F_ordinal_w_FINISHEDx, F_ordinal_w_NEW, F_ordinal_w_RUNNING, F_ordinal_w_TIMED_OUT, F_ordinal_w_FAILED, F_ordinal_w_FAILEDx, F_ordinal_w_TIMED_OUTx, hne_w_NEW_w_FINISHEDx, hne_w_NEW_w_RUNNING, hne_w_NEW_w_TIMED_OUT, hne_w_NEW_w_FAILEDx, hne_w_FINISHED_w_FAILED, hne_w_FINISHED_w_TIMED_OUTx, hne_w_FINISHEDx_w_RUNNING, hne_w_FINISHEDx_w_TIMED_OUT, hne_w_FINISHEDx_w_FAILEDx, hne_w_RUNNING_w_TIMED_OUT, hne_w_RUNNING_w_FAILEDx, hne_w_TIMED_OUT_w_FAILEDx, hne_w_FAILED_w_TIMED_OUTx⟩ := id S
  refine MetFree.of_bodySF (plainFor_of_name pn_2) hisR ?_
  intro p e s m args below meth c s₁ Bd hml0 hP hK
  obtain ⟨rfl, hZ, hh⟩ := hP
  have hx := Bd.exec
  have hby := Bd.bytes
  have hml : c.maxLocals = 7 := hml0
  have hown : s.vm.findClass "com/example/bowline/bowline/server/RunStateEndedPinLaw" = some m.cls := findClass_of_methodNamed Bd.named
  have X0 : Stand p l e room_1 s m #[(.int p0), (.int p1)] below meth c s₁ [] 0 0 := Stand.of_body Bd
  have e0 : s₁.heap = h0 := by rw [← hh, Bd.state]; rfl
  have N0 := Fr.nil n0
  have pre0 : ∀ t, Steps p.tables e below (s₁.setTop (mkF m 0 #[.val (.int p0), .val (.int p1), .unset, .unset, .unset, .unset, .unset] [])) t → Steps p.tables e below (s₁.setTop (entryFrame m #[(.int p0), (.int p1)] maxLocals)) t := fun t k => castTop (by first | rfl | (simp [entryFrame, mkF, argsToLocals, Value.category, maxLocals]; done)) k
  obtain ⟨T1, X1, e1, st1⟩ := getS2 X0 hx hZ hown (host := "") (Or.inl (hw _ (List.mem_of_getElem? (i := 38) rfl))) Via.refl e0 S_w_FAILEDx (g := (mkF m 47 #[.val (.int p0), .val (.int p1), .val (.int (3 : Int32)), .unset, .unset, .unset, .unset] [])) rfl (hb hby at_47)
  obtain ⟨T2, X2, e2, st2⟩ := getS2 X1 hx hZ hown (host := "") (Or.inl (hw _ (List.mem_of_getElem? (i := 39) rfl))) Via.refl e1 S_w_TIMED_OUTx (g := (mkF m 105 #[.val (.int p0), .val (.int p1), .val (.int (3 : Int32)), .val (.ref w_FAILEDx), .val (.int (1 : Int32)), .val (.int (2 : Int32)), .unset] [])) rfl (hb hby at_105)
  obtain ⟨cq3, kq3, q3a, q3b, q3c⟩ := isOf hZ e2 E_w_FAILEDx
  obtain ⟨_, _, ⟨T3, L3, k3, n3⟩, -, X3, ⟨Lc3, hQ3, l3, y3, z3⟩, st3⟩ := X2.virtualBack hx (y := (⟨"com/example/bowline/bowline/server/RunState", "ended", "()Z"⟩ : MethodName)) (z := (⟨"com/example/bowline/bowline/server/RunState", "ended", "()Z"⟩ : MethodName)) hown (mvT hZ (hw _ (List.mem_of_getElem? (i := 7) rfl))) (mvT hZ (hw _ (List.mem_of_getElem? (i := 8) rfl))) (notFace_of_selects (args := #[]) (mvT hZ (hw _ (List.mem_of_getElem? (i := 10) rfl)))) (mvT hZ (hw _ (List.mem_of_getElem? (i := 10) rfl))) (mvT hZ (hw _ (List.mem_of_getElem? (i := 9) rfl))) (by decide) (backOf (W := 0) (rm1_2 l Z a0 hw [] w_NEW w_FINISHED w_sm w_FINISHEDx w_RUNNING w_TIMED_OUT w_FAILED w_FAILEDx w_TIMED_OUTx h0 n0 Z0 S) hZ (hw _ (List.mem_of_getElem? (i := 11) rfl)) (hw _ (List.mem_of_getElem? (i := 2) rfl)) (by decide) (by decide)) q3a q3c (g := (mkF m 111 #[.val (.int p0), .val (.int p1), .val (.int (3 : Int32)), .val (.ref w_FAILEDx), .val (.int (1 : Int32)), .val (.int (2 : Int32)), .val (.ref w_TIMED_OUTx)] [(.ref w_FAILEDx)])) rfl (by rw [hml]; rfl) (Steps.refl _) (argsL := []) (rest := []) (lenOf pd_0 rfl) rfl (by show 2 * 0 + _ ≤ _; exact Nat.le_of_eq rfl) (hb hby at_111) (fun _ _ => ⟨rfl, e2, (by decide : 0 + 0 ≤ _), (by decide : 0 + 0 ≤ _)⟩)
  dsimp only [Pt.U, Pt.locs, Pt.cells, Pt.slots] at X3 l3 y3 z3 st3 hQ3
  subst l3 y3 z3
  obtain ⟨rfl, Nq3, e3⟩ := hQ3
  have N3 := Fr.app N0 Nq3
  obtain ⟨_, _, ⟨T4, L4, k4, n4⟩, -, X4, ⟨Lc4, hQ4, l4, y4, z4⟩, st4⟩ := Jvm.LawKit.callS X3 hx (y := (⟨"com/example/bowline/bowline/server/RunState", "of", "(Lcom/example/bowline/bowline/runtime/Status;)Lcom/example/bowline/bowline/server/RunState;"⟩ : MethodName)) hown (mvT hZ (hw _ (List.mem_of_getElem? (i := 13) rfl))) (mvT hZ (hw _ (List.mem_of_getElem? (i := 14) rfl))) (mvT hZ (hw _ (List.mem_of_getElem? (i := 2) rfl))) (mvT hZ (hw _ (List.mem_of_getElem? (i := 15) rfl))) (by decide) (backOf (W := 0) (rm2_2 l Z a0 hw [] w_NEW w_FINISHED w_sm w_FINISHEDx w_RUNNING w_TIMED_OUT w_FAILED w_FAILEDx w_TIMED_OUTx h0 n0 Z0 S) hZ (hw _ (List.mem_of_getElem? (i := 15) rfl)) (hw _ (List.mem_of_getElem? (i := 2) rfl)) (by decide) (by decide)) (g := (mkF m 121 #[.val (.int p0), .val (.int p1), .val (.int (3 : Int32)), .val (.ref w_FAILEDx), .val (.int (1 : Int32)), .val (.int (2 : Int32)), .val (.ref w_TIMED_OUTx)] [(.ref w_TIMED_OUTx)])) rfl (by rw [hml]; rfl) (argsL := [(.ref w_TIMED_OUTx)]) (rest := []) (lenOf pd_2 rfl) rfl (by show 2 * 0 + _ ≤ _; exact Nat.le_of_eq rfl) (hb hby at_121) (fun _ _ => ⟨rfl, e3, (by decide : 0 + 0 ≤ _), (by decide : 0 + 0 ≤ _)⟩)
  dsimp only [Pt.U, Pt.locs, Pt.cells, Pt.slots] at X4 l4 y4 z4 st4 hQ4
  subst l4 y4 z4
  obtain ⟨rfl, Nq4, e4⟩ := hQ4
  have N4 := Fr.app N3 Nq4
  obtain ⟨cq5, kq5, q5a, q5b, q5c⟩ := isOf hZ e4 E_w_TIMED_OUT
  obtain ⟨_, _, ⟨T5, L5, k5, n5⟩, -, X5, ⟨Lc5, hQ5, l5, y5, z5⟩, st5⟩ := X4.virtualBack hx (y := (⟨"com/example/bowline/bowline/server/RunState", "ended", "()Z"⟩ : MethodName)) (z := (⟨"com/example/bowline/bowline/server/RunState", "ended", "()Z"⟩ : MethodName)) hown (mvT hZ (hw _ (List.mem_of_getElem? (i := 7) rfl))) (mvT hZ (hw _ (List.mem_of_getElem? (i := 8) rfl))) (notFace_of_selects (args := #[]) (mvT hZ (hw _ (List.mem_of_getElem? (i := 10) rfl)))) (mvT hZ (hw _ (List.mem_of_getElem? (i := 10) rfl))) (mvT hZ (hw _ (List.mem_of_getElem? (i := 9) rfl))) (by decide) (backOf (W := 0) (rm1_3 l Z a0 hw [] w_NEW w_FINISHED w_sm w_FINISHEDx w_RUNNING w_TIMED_OUT w_FAILED w_FAILEDx w_TIMED_OUTx h0 n0 Z0 S) hZ (hw _ (List.mem_of_getElem? (i := 11) rfl)) (hw _ (List.mem_of_getElem? (i := 2) rfl)) (by decide) (by decide)) q5a q5c (g := (mkF m 124 #[.val (.int p0), .val (.int p1), .val (.int (3 : Int32)), .val (.ref w_FAILEDx), .val (.int (1 : Int32)), .val (.int (2 : Int32)), .val (.ref w_TIMED_OUTx)] [(.ref w_TIMED_OUT)])) rfl (by rw [hml]; rfl) (Steps.refl _) (argsL := []) (rest := []) (lenOf pd_0 rfl) rfl (by show 2 * 0 + _ ≤ _; exact Nat.le_of_eq rfl) (hb hby at_124) (fun _ _ => ⟨rfl, e4, (by decide : 0 + 0 ≤ _), (by decide : 0 + 0 ≤ _)⟩)
  dsimp only [Pt.U, Pt.locs, Pt.cells, Pt.slots] at X5 l5 y5 z5 st5 hQ5
  subst l5 y5 z5
  obtain ⟨rfl, Nq5, e5⟩ := hQ5
  have N5 := Fr.app N4 Nq5
  obtain ⟨fs, hr, hrun, hended, hW, hsame⟩ := X5.leave (v := (some (.int (1 : Int32)))) (fun h => by rw [Bd.returns] at h; cases h)
  refine ⟨_, _, pre0 _ ?_, hrun, hended, _, _, rfl, ⟨rfl, N5, e5⟩, ⟨_, rfl⟩, hW, hsame.mono (by decide) (by decide)⟩
  show Steps p.tables e below (s₁.setTop (mkF m 0 #[.val (.int p0), .val (.int p1), .unset, .unset, .unset, .unset, .unset] [])) _
  refine XS.iloadN X0.here hx rfl (hb hby at_0) rfl ?_
  show Steps p.tables e below (s₁.setTop (mkF m 1 #[.val (.int p0), .val (.int p1), .unset, .unset, .unset, .unset, .unset] [(.int p0)])) _
  refine X0.ldcInt hx hown (mvT hZ (hw _ (List.mem_of_getElem? (i := 0) rfl))) (g := (mkF m 1 #[.val (.int p0), .val (.int p1), .unset, .unset, .unset, .unset, .unset] [(.int p0)])) rfl (hb hby at_1) _ ?_
  show Steps p.tables e below (s₁.setTop (mkF m 3 #[.val (.int p0), .val (.int p1), .unset, .unset, .unset, .unset, .unset] [(.int (2147483647 : Int32)), (.int p0)])) _
  refine XS.iand X0.here hx rfl (hb hby at_3) rfl ?_
  show Steps p.tables e below (s₁.setTop (mkF m 4 #[.val (.int p0), .val (.int p1), .unset, .unset, .unset, .unset, .unset] [(.int (p0 &&& (2147483647 : Int32)))])) _
  show Steps p.tables e below (s₁.setTop (mkF m 4 #[.val (.int p0), .val (.int p1), .unset, .unset, .unset, .unset, .unset] [(.int (p0 &&& (2147483647 : Int32)))])) _
  refine XS.iconst X0.here hx rfl (hb hby at_4) ?_
  show Steps p.tables e below (s₁.setTop (mkF m 5 #[.val (.int p0), .val (.int p1), .unset, .unset, .unset, .unset, .unset] [(.int (5 : Int32)), (.int (p0 &&& (2147483647 : Int32)))])) _
  refine iremM X0 hx rfl (hb hby at_5) rfl (by decide) ?_
  show Steps p.tables e below (s₁.setTop (mkF m 6 #[.val (.int p0), .val (.int p1), .unset, .unset, .unset, .unset, .unset] [(.int ((p0 &&& (2147483647 : Int32)) % (5 : Int32)))])) _
  rw [hk]
  show Steps p.tables e below (s₁.setTop (mkF m 6 #[.val (.int p0), .val (.int p1), .unset, .unset, .unset, .unset, .unset] [(.int (3 : Int32))])) _
  refine XS.istoreN X0.here hx rfl (hb hby at_6) rfl (l' := #[.val (.int p0), .val (.int p1), .val (.int (3 : Int32)), .unset, .unset, .unset, .unset]) rfl ?_
  show Steps p.tables e below (s₁.setTop (mkF m 7 #[.val (.int p0), .val (.int p1), .val (.int (3 : Int32)), .unset, .unset, .unset, .unset] [])) _
  refine XS.iloadN X0.here hx rfl (hb hby at_7) rfl ?_
  show Steps p.tables e below (s₁.setTop (mkF m 8 #[.val (.int p0), .val (.int p1), .val (.int (3 : Int32)), .unset, .unset, .unset, .unset] [(.int (3 : Int32))])) _
  refine XS.ifYes X0.here hx rfl (pc0 := 8) (pc' := 18) rfl (hb hby at_8) rfl ((if0 _ _).trans (feq (by decide : ¬ ((3 : Int32) = (0 : Int32)))).2) (by decide) (by decide) ?_
  show Steps p.tables e below (s₁.setTop (mkF m 18 #[.val (.int p0), .val (.int p1), .val (.int (3 : Int32)), .unset, .unset, .unset, .unset] [])) _
  refine XS.iloadN X0.here hx rfl (hb hby at_18) rfl ?_
  show Steps p.tables e below (s₁.setTop (mkF m 19 #[.val (.int p0), .val (.int p1), .val (.int (3 : Int32)), .unset, .unset, .unset, .unset] [(.int (3 : Int32))])) _
  refine XS.iconst X0.here hx rfl (hb hby at_19) ?_
  show Steps p.tables e below (s₁.setTop (mkF m 20 #[.val (.int p0), .val (.int p1), .val (.int (3 : Int32)), .unset, .unset, .unset, .unset] [(.int (1 : Int32)), (.int (3 : Int32))])) _
  refine XS.icmpYes X0.here hx rfl (pc0 := 20) (pc' := 30) rfl (hb hby at_20) rfl (feq (by decide : ¬ ((3 : Int32) = (1 : Int32)))).2 (by decide) (by decide) ?_
  show Steps p.tables e below (s₁.setTop (mkF m 30 #[.val (.int p0), .val (.int p1), .val (.int (3 : Int32)), .unset, .unset, .unset, .unset] [])) _
  refine XS.iloadN X0.here hx rfl (hb hby at_30) rfl ?_
  show Steps p.tables e below (s₁.setTop (mkF m 31 #[.val (.int p0), .val (.int p1), .val (.int (3 : Int32)), .unset, .unset, .unset, .unset] [(.int (3 : Int32))])) _
  refine XS.iconst X0.here hx rfl (hb hby at_31) ?_
  show Steps p.tables e below (s₁.setTop (mkF m 32 #[.val (.int p0), .val (.int p1), .val (.int (3 : Int32)), .unset, .unset, .unset, .unset] [(.int (2 : Int32)), (.int (3 : Int32))])) _
  refine XS.icmpYes X0.here hx rfl (pc0 := 32) (pc' := 42) rfl (hb hby at_32) rfl (feq (by decide : ¬ ((3 : Int32) = (2 : Int32)))).2 (by decide) (by decide) ?_
  show Steps p.tables e below (s₁.setTop (mkF m 42 #[.val (.int p0), .val (.int p1), .val (.int (3 : Int32)), .unset, .unset, .unset, .unset] [])) _
  refine XS.iloadN X0.here hx rfl (hb hby at_42) rfl ?_
  show Steps p.tables e below (s₁.setTop (mkF m 43 #[.val (.int p0), .val (.int p1), .val (.int (3 : Int32)), .unset, .unset, .unset, .unset] [(.int (3 : Int32))])) _
  refine XS.iconst X0.here hx rfl (hb hby at_43) ?_
  show Steps p.tables e below (s₁.setTop (mkF m 44 #[.val (.int p0), .val (.int p1), .val (.int (3 : Int32)), .unset, .unset, .unset, .unset] [(.int (3 : Int32)), (.int (3 : Int32))])) _
  refine XS.icmpNo X0.here hx rfl (hb hby at_44) rfl (teq (by decide : (3 : Int32) = (3 : Int32))).2 ?_
  show Steps p.tables e below (s₁.setTop (mkF m 47 #[.val (.int p0), .val (.int p1), .val (.int (3 : Int32)), .unset, .unset, .unset, .unset] [])) _
  refine st1 _ ?_
  show Steps p.tables e below (T1.setTop (mkF m 50 #[.val (.int p0), .val (.int p1), .val (.int (3 : Int32)), .unset, .unset, .unset, .unset] [(.ref w_FAILEDx)])) _
  refine XS.astoreN X1.here hx rfl (hb hby at_50) rfl rfl (l' := #[.val (.int p0), .val (.int p1), .val (.int (3 : Int32)), .val (.ref w_FAILEDx), .unset, .unset, .unset]) rfl ?_
  show Steps p.tables e below (T1.setTop (mkF m 51 #[.val (.int p0), .val (.int p1), .val (.int (3 : Int32)), .val (.ref w_FAILEDx), .unset, .unset, .unset] [])) _
  refine XS.goto X1.here hx rfl (pc0 := 51) (pc' := 58) rfl (hb hby at_51) (by decide) (by decide) ?_
  show Steps p.tables e below (T1.setTop (mkF m 58 #[.val (.int p0), .val (.int p1), .val (.int (3 : Int32)), .val (.ref w_FAILEDx), .unset, .unset, .unset] [])) _
  refine XS.iloadN X1.here hx rfl (hb hby at_58) rfl ?_
  show Steps p.tables e below (T1.setTop (mkF m 59 #[.val (.int p0), .val (.int p1), .val (.int (3 : Int32)), .val (.ref w_FAILEDx), .unset, .unset, .unset] [(.int (3 : Int32))])) _
  refine XS.iconst X1.here hx rfl (hb hby at_59) ?_
  show Steps p.tables e below (T1.setTop (mkF m 60 #[.val (.int p0), .val (.int p1), .val (.int (3 : Int32)), .val (.ref w_FAILEDx), .unset, .unset, .unset] [(.int (2 : Int32)), (.int (3 : Int32))])) _
  refine XS.icmpNo X1.here hx rfl (hb hby at_60) rfl (flt (by decide : ¬ ((3 : Int32) < (2 : Int32)))).1 ?_
  show Steps p.tables e below (T1.setTop (mkF m 63 #[.val (.int p0), .val (.int p1), .val (.int (3 : Int32)), .val (.ref w_FAILEDx), .unset, .unset, .unset] [])) _
  refine XS.iconst X1.here hx rfl (hb hby at_63) ?_
  show Steps p.tables e below (T1.setTop (mkF m 64 #[.val (.int p0), .val (.int p1), .val (.int (3 : Int32)), .val (.ref w_FAILEDx), .unset, .unset, .unset] [(.int (1 : Int32))])) _
  refine XS.goto X1.here hx rfl (pc0 := 64) (pc' := 68) rfl (hb hby at_64) (by decide) (by decide) ?_
  show Steps p.tables e below (T1.setTop (mkF m 68 #[.val (.int p0), .val (.int p1), .val (.int (3 : Int32)), .val (.ref w_FAILEDx), .unset, .unset, .unset] [(.int (1 : Int32))])) _
  refine XS.istore X1.here hx rfl (hb hby at_68) rfl (l' := #[.val (.int p0), .val (.int p1), .val (.int (3 : Int32)), .val (.ref w_FAILEDx), .val (.int (1 : Int32)), .unset, .unset]) rfl ?_
  show Steps p.tables e below (T1.setTop (mkF m 70 #[.val (.int p0), .val (.int p1), .val (.int (3 : Int32)), .val (.ref w_FAILEDx), .val (.int (1 : Int32)), .unset, .unset] [])) _
  refine XS.iloadN X1.here hx rfl (hb hby at_70) rfl ?_
  show Steps p.tables e below (T1.setTop (mkF m 71 #[.val (.int p0), .val (.int p1), .val (.int (3 : Int32)), .val (.ref w_FAILEDx), .val (.int (1 : Int32)), .unset, .unset] [(.int p1)])) _
  refine X1.ldcInt hx hown (mvT hZ (hw _ (List.mem_of_getElem? (i := 0) rfl))) (g := (mkF m 71 #[.val (.int p0), .val (.int p1), .val (.int (3 : Int32)), .val (.ref w_FAILEDx), .val (.int (1 : Int32)), .unset, .unset] [(.int p1)])) rfl (hb hby at_71) _ ?_
  show Steps p.tables e below (T1.setTop (mkF m 73 #[.val (.int p0), .val (.int p1), .val (.int (3 : Int32)), .val (.ref w_FAILEDx), .val (.int (1 : Int32)), .unset, .unset] [(.int (2147483647 : Int32)), (.int p1)])) _
  refine XS.iand X1.here hx rfl (hb hby at_73) rfl ?_
  show Steps p.tables e below (T1.setTop (mkF m 74 #[.val (.int p0), .val (.int p1), .val (.int (3 : Int32)), .val (.ref w_FAILEDx), .val (.int (1 : Int32)), .unset, .unset] [(.int (p1 &&& (2147483647 : Int32)))])) _
  show Steps p.tables e below (T1.setTop (mkF m 74 #[.val (.int p0), .val (.int p1), .val (.int (3 : Int32)), .val (.ref w_FAILEDx), .val (.int (1 : Int32)), .unset, .unset] [(.int (p1 &&& (2147483647 : Int32)))])) _
  refine XS.iconst X1.here hx rfl (hb hby at_74) ?_
  show Steps p.tables e below (T1.setTop (mkF m 75 #[.val (.int p0), .val (.int p1), .val (.int (3 : Int32)), .val (.ref w_FAILEDx), .val (.int (1 : Int32)), .unset, .unset] [(.int (3 : Int32)), (.int (p1 &&& (2147483647 : Int32)))])) _
  refine iremM X1 hx rfl (hb hby at_75) rfl (by decide) ?_
  show Steps p.tables e below (T1.setTop (mkF m 76 #[.val (.int p0), .val (.int p1), .val (.int (3 : Int32)), .val (.ref w_FAILEDx), .val (.int (1 : Int32)), .unset, .unset] [(.int ((p1 &&& (2147483647 : Int32)) % (3 : Int32)))])) _
  rw [hj]
  show Steps p.tables e below (T1.setTop (mkF m 76 #[.val (.int p0), .val (.int p1), .val (.int (3 : Int32)), .val (.ref w_FAILEDx), .val (.int (1 : Int32)), .unset, .unset] [(.int (2 : Int32))])) _
  refine XS.istore X1.here hx rfl (hb hby at_76) rfl (l' := #[.val (.int p0), .val (.int p1), .val (.int (3 : Int32)), .val (.ref w_FAILEDx), .val (.int (1 : Int32)), .val (.int (2 : Int32)), .unset]) rfl ?_
  show Steps p.tables e below (T1.setTop (mkF m 78 #[.val (.int p0), .val (.int p1), .val (.int (3 : Int32)), .val (.ref w_FAILEDx), .val (.int (1 : Int32)), .val (.int (2 : Int32)), .unset] [])) _
  refine XS.iload X1.here hx rfl (hb hby at_78) rfl ?_
  show Steps p.tables e below (T1.setTop (mkF m 80 #[.val (.int p0), .val (.int p1), .val (.int (3 : Int32)), .val (.ref w_FAILEDx), .val (.int (1 : Int32)), .val (.int (2 : Int32)), .unset] [(.int (2 : Int32))])) _
  refine XS.ifYes X1.here hx rfl (pc0 := 80) (pc' := 91) rfl (hb hby at_80) rfl ((if0 _ _).trans (feq (by decide : ¬ ((2 : Int32) = (0 : Int32)))).2) (by decide) (by decide) ?_
  show Steps p.tables e below (T1.setTop (mkF m 91 #[.val (.int p0), .val (.int p1), .val (.int (3 : Int32)), .val (.ref w_FAILEDx), .val (.int (1 : Int32)), .val (.int (2 : Int32)), .unset] [])) _
  refine XS.iload X1.here hx rfl (hb hby at_91) rfl ?_
  show Steps p.tables e below (T1.setTop (mkF m 93 #[.val (.int p0), .val (.int p1), .val (.int (3 : Int32)), .val (.ref w_FAILEDx), .val (.int (1 : Int32)), .val (.int (2 : Int32)), .unset] [(.int (2 : Int32))])) _
  refine XS.iconst X1.here hx rfl (hb hby at_93) ?_
  show Steps p.tables e below (T1.setTop (mkF m 94 #[.val (.int p0), .val (.int p1), .val (.int (3 : Int32)), .val (.ref w_FAILEDx), .val (.int (1 : Int32)), .val (.int (2 : Int32)), .unset] [(.int (1 : Int32)), (.int (2 : Int32))])) _
  refine XS.icmpYes X1.here hx rfl (pc0 := 94) (pc' := 105) rfl (hb hby at_94) rfl (feq (by decide : ¬ ((2 : Int32) = (1 : Int32)))).2 (by decide) (by decide) ?_
  show Steps p.tables e below (T1.setTop (mkF m 105 #[.val (.int p0), .val (.int p1), .val (.int (3 : Int32)), .val (.ref w_FAILEDx), .val (.int (1 : Int32)), .val (.int (2 : Int32)), .unset] [])) _
  refine st2 _ ?_
  show Steps p.tables e below (T2.setTop (mkF m 108 #[.val (.int p0), .val (.int p1), .val (.int (3 : Int32)), .val (.ref w_FAILEDx), .val (.int (1 : Int32)), .val (.int (2 : Int32)), .unset] [(.ref w_TIMED_OUTx)])) _
  refine XS.astore X2.here hx rfl (hb hby at_108) rfl rfl (l' := #[.val (.int p0), .val (.int p1), .val (.int (3 : Int32)), .val (.ref w_FAILEDx), .val (.int (1 : Int32)), .val (.int (2 : Int32)), .val (.ref w_TIMED_OUTx)]) rfl ?_
  show Steps p.tables e below (T2.setTop (mkF m 110 #[.val (.int p0), .val (.int p1), .val (.int (3 : Int32)), .val (.ref w_FAILEDx), .val (.int (1 : Int32)), .val (.int (2 : Int32)), .val (.ref w_TIMED_OUTx)] [])) _
  refine XS.aloadN X2.here hx rfl (hb hby at_110) rfl rfl ?_
  show Steps p.tables e below (T2.setTop (mkF m 111 #[.val (.int p0), .val (.int p1), .val (.int (3 : Int32)), .val (.ref w_FAILEDx), .val (.int (1 : Int32)), .val (.int (2 : Int32)), .val (.ref w_TIMED_OUTx)] [(.ref w_FAILEDx)])) _
  refine st3.trans ?_
  show Steps p.tables e below (T3.setTop (mkF m 114 #[.val (.int p0), .val (.int p1), .val (.int (3 : Int32)), .val (.ref w_FAILEDx), .val (.int (1 : Int32)), .val (.int (2 : Int32)), .val (.ref w_TIMED_OUTx)] [(.int (1 : Int32))])) _
  refine XS.iload X3.here hx rfl (hb hby at_114) rfl ?_
  show Steps p.tables e below (T3.setTop (mkF m 116 #[.val (.int p0), .val (.int p1), .val (.int (3 : Int32)), .val (.ref w_FAILEDx), .val (.int (1 : Int32)), .val (.int (2 : Int32)), .val (.ref w_TIMED_OUTx)] [(.int (1 : Int32)), (.int (1 : Int32))])) _
  refine XS.icmpNo X3.here hx rfl (hb hby at_116) rfl (teq (by decide : (1 : Int32) = (1 : Int32))).2 ?_
  show Steps p.tables e below (T3.setTop (mkF m 119 #[.val (.int p0), .val (.int p1), .val (.int (3 : Int32)), .val (.ref w_FAILEDx), .val (.int (1 : Int32)), .val (.int (2 : Int32)), .val (.ref w_TIMED_OUTx)] [])) _
  refine XS.aload X3.here hx rfl (hb hby at_119) rfl rfl ?_
  show Steps p.tables e below (T3.setTop (mkF m 121 #[.val (.int p0), .val (.int p1), .val (.int (3 : Int32)), .val (.ref w_FAILEDx), .val (.int (1 : Int32)), .val (.int (2 : Int32)), .val (.ref w_TIMED_OUTx)] [(.ref w_TIMED_OUTx)])) _
  refine st4 _ ?_
  show Steps p.tables e below (T4.setTop (mkF m 124 #[.val (.int p0), .val (.int p1), .val (.int (3 : Int32)), .val (.ref w_FAILEDx), .val (.int (1 : Int32)), .val (.int (2 : Int32)), .val (.ref w_TIMED_OUTx)] [(.ref w_TIMED_OUT)])) _
  refine st5.trans ?_
  show Steps p.tables e below (T5.setTop (mkF m 127 #[.val (.int p0), .val (.int p1), .val (.int (3 : Int32)), .val (.ref w_FAILEDx), .val (.int (1 : Int32)), .val (.int (2 : Int32)), .val (.ref w_TIMED_OUTx)] [(.int (1 : Int32))])) _
  refine XS.ifNo X5.here hx rfl (hb hby at_127) rfl ((if0 _ _).trans (feq (by decide : ¬ ((1 : Int32) = (0 : Int32)))).1) ?_
  show Steps p.tables e below (T5.setTop (mkF m 130 #[.val (.int p0), .val (.int p1), .val (.int (3 : Int32)), .val (.ref w_FAILEDx), .val (.int (1 : Int32)), .val (.int (2 : Int32)), .val (.ref w_TIMED_OUTx)] [])) _
  refine XS.iconst X5.here hx rfl (hb hby at_130) ?_
  show Steps p.tables e below (T5.setTop (mkF m 131 #[.val (.int p0), .val (.int p1), .val (.int (3 : Int32)), .val (.ref w_FAILEDx), .val (.int (1 : Int32)), .val (.int (2 : Int32)), .val (.ref w_TIMED_OUTx)] [(.int (1 : Int32))])) _
  refine XS.goto X5.here hx rfl (pc0 := 131) (pc' := 135) rfl (hb hby at_131) (by decide) (by decide) ?_
  show Steps p.tables e below (T5.setTop (mkF m 135 #[.val (.int p0), .val (.int p1), .val (.int (3 : Int32)), .val (.ref w_FAILEDx), .val (.int (1 : Int32)), .val (.int (2 : Int32)), .val (.ref w_TIMED_OUTx)] [(.int (1 : Int32))])) _
  exact retN X5 hx (t := .boolean) Bd.returns (by simp) (hb hby at_135) hr
set_option maxRecDepth 65536 in
set_option maxHeartbeats 40000000 in
theorem rm0_12 (l : Launch) (Z : State) (a0 : Array Value) (hw : ∀ d ∈ tables_1, d.before a0 Z = true) (ws : List Jvm.Cond) (w_NEW w_FINISHED w_sm w_FINISHEDx w_RUNNING w_TIMED_OUT w_FAILED w_FAILEDx w_TIMED_OUTx : Addr) (h0 : Heap) (n0 : Nat) (Z0 : n0 ≤ h0.size) (S : SF Z h0 w_NEW w_FINISHED w_sm w_FINISHEDx w_RUNNING w_TIMED_OUT w_FAILED w_FAILEDx w_TIMED_OUTx) (p0 : Int32) (p1 : Int32) (hk : ((p0 &&& (2147483647 : Int32)) % (5 : Int32)) = (4 : Int32)) (hj : ((p1 &&& (2147483647 : Int32)) % (3 : Int32)) = (0 : Int32)) :
    Pay l Z x ws code maxLocals ret #[(.int p0), (.int p1)] h0 n0 room_1 (some (.int (1 : Int32))) := by
  obtain ⟨S_w_NEW, E_w_NEW, S_w_FINISHED, E_w_FINISHED, S_w_sm, V_w_sm, S_w_FINISHEDx, E_w_FINISHEDx, S_w_RUNNING, E_w_RUNNING, S_w_TIMED_OUT, E_w_TIMED_OUT, S_w_FAILED, E_w_FAILED, S_w_FAILEDx, E_w_FAILEDx, S_w_TIMED_OUTx, E_w_TIMED_OUTx, F_ordinal_w_FINISHED, F_ordinal_w_FINISHEDx, F_ordinal_w_NEW, F_ordinal_w_RUNNING, F_ordinal_w_TIMED_OUT, F_ordinal_w_FAILED, F_ordinal_w_FAILEDx, F_ordinal_w_TIMED_OUTx, hne_w_NEW_w_FINISHEDx, hne_w_NEW_w_RUNNING, hne_w_NEW_w_TIMED_OUT, hne_w_NEW_w_FAILEDx, hne_w_FINISHED_w_FAILED, hne_w_FINISHED_w_TIMED_OUTx, hne_w_FINISHEDx_w_RUNNING, hne_w_FINISHEDx_w_TIMED_OUT, hne_w_FINISHEDx_w_FAILEDx, hne_w_RUNNING_w_TIMED_OUT, hne_w_RUNNING_w_FAILEDx, hne_w_TIMED_OUT_w_FAILEDx, hne_w_FAILED_w_TIMED_OUTx⟩ := id S
  refine MetFree.of_bodySF (plainFor_of_name pn_2) hisR ?_
  intro p e s m args below meth c s₁ Bd hml0 hP hK
  obtain ⟨rfl, hZ, hh⟩ := hP
  have hx := Bd.exec
  have hby := Bd.bytes
  have hml : c.maxLocals = 7 := hml0
  have hown : s.vm.findClass "com/example/bowline/bowline/server/RunStateEndedPinLaw" = some m.cls := findClass_of_methodNamed Bd.named
  have X0 : Stand p l e room_1 s m #[(.int p0), (.int p1)] below meth c s₁ [] 0 0 := Stand.of_body Bd
  have e0 : s₁.heap = h0 := by rw [← hh, Bd.state]; rfl
  have N0 := Fr.nil n0
  have pre0 : ∀ t, Steps p.tables e below (s₁.setTop (mkF m 0 #[.val (.int p0), .val (.int p1), .unset, .unset, .unset, .unset, .unset] [])) t → Steps p.tables e below (s₁.setTop (entryFrame m #[(.int p0), (.int p1)] maxLocals)) t := fun t k => castTop (by first | rfl | (simp [entryFrame, mkF, argsToLocals, Value.category, maxLocals]; done)) k
  obtain ⟨T1, X1, e1, st1⟩ := getS2 X0 hx hZ hown (host := "") (Or.inl (hw _ (List.mem_of_getElem? (i := 32) rfl))) Via.refl e0 S_w_TIMED_OUT (g := (mkF m 54 #[.val (.int p0), .val (.int p1), .val (.int (4 : Int32)), .unset, .unset, .unset, .unset] [])) rfl (hb hby at_54)
  obtain ⟨T2, X2, e2, st2⟩ := getS2 X1 hx hZ hown (host := "") (Or.inl (hw _ (List.mem_of_getElem? (i := 4) rfl))) Via.refl e1 S_w_FINISHED (g := (mkF m 83 #[.val (.int p0), .val (.int p1), .val (.int (4 : Int32)), .val (.ref w_TIMED_OUT), .val (.int (1 : Int32)), .val (.int (0 : Int32)), .unset] [])) rfl (hb hby at_83)
  obtain ⟨cq3, kq3, q3a, q3b, q3c⟩ := isOf hZ e2 E_w_TIMED_OUT
  obtain ⟨_, _, ⟨T3, L3, k3, n3⟩, -, X3, ⟨Lc3, hQ3, l3, y3, z3⟩, st3⟩ := X2.virtualBack hx (y := (⟨"com/example/bowline/bowline/server/RunState", "ended", "()Z"⟩ : MethodName)) (z := (⟨"com/example/bowline/bowline/server/RunState", "ended", "()Z"⟩ : MethodName)) hown (mvT hZ (hw _ (List.mem_of_getElem? (i := 7) rfl))) (mvT hZ (hw _ (List.mem_of_getElem? (i := 8) rfl))) (notFace_of_selects (args := #[]) (mvT hZ (hw _ (List.mem_of_getElem? (i := 10) rfl)))) (mvT hZ (hw _ (List.mem_of_getElem? (i := 10) rfl))) (mvT hZ (hw _ (List.mem_of_getElem? (i := 9) rfl))) (by decide) (backOf (W := 0) (rm1_3 l Z a0 hw [] w_NEW w_FINISHED w_sm w_FINISHEDx w_RUNNING w_TIMED_OUT w_FAILED w_FAILEDx w_TIMED_OUTx h0 n0 Z0 S) hZ (hw _ (List.mem_of_getElem? (i := 11) rfl)) (hw _ (List.mem_of_getElem? (i := 2) rfl)) (by decide) (by decide)) q3a q3c (g := (mkF m 111 #[.val (.int p0), .val (.int p1), .val (.int (4 : Int32)), .val (.ref w_TIMED_OUT), .val (.int (1 : Int32)), .val (.int (0 : Int32)), .val (.ref w_FINISHED)] [(.ref w_TIMED_OUT)])) rfl (by rw [hml]; rfl) (Steps.refl _) (argsL := []) (rest := []) (lenOf pd_0 rfl) rfl (by show 2 * 0 + _ ≤ _; exact Nat.le_of_eq rfl) (hb hby at_111) (fun _ _ => ⟨rfl, e2, (by decide : 0 + 0 ≤ _), (by decide : 0 + 0 ≤ _)⟩)
  dsimp only [Pt.U, Pt.locs, Pt.cells, Pt.slots] at X3 l3 y3 z3 st3 hQ3
  subst l3 y3 z3
  obtain ⟨rfl, Nq3, e3⟩ := hQ3
  have N3 := Fr.app N0 Nq3
  obtain ⟨_, _, ⟨T4, L4, k4, n4⟩, -, X4, ⟨Lc4, hQ4, l4, y4, z4⟩, st4⟩ := Jvm.LawKit.callS X3 hx (y := (⟨"com/example/bowline/bowline/server/RunState", "of", "(Lcom/example/bowline/bowline/runtime/Status;)Lcom/example/bowline/bowline/server/RunState;"⟩ : MethodName)) hown (mvT hZ (hw _ (List.mem_of_getElem? (i := 13) rfl))) (mvT hZ (hw _ (List.mem_of_getElem? (i := 14) rfl))) (mvT hZ (hw _ (List.mem_of_getElem? (i := 2) rfl))) (mvT hZ (hw _ (List.mem_of_getElem? (i := 15) rfl))) (by decide) (backOf (W := 0) (rm2_0 l Z a0 hw [] w_NEW w_FINISHED w_sm w_FINISHEDx w_RUNNING w_TIMED_OUT w_FAILED w_FAILEDx w_TIMED_OUTx h0 n0 Z0 S) hZ (hw _ (List.mem_of_getElem? (i := 15) rfl)) (hw _ (List.mem_of_getElem? (i := 2) rfl)) (by decide) (by decide)) (g := (mkF m 121 #[.val (.int p0), .val (.int p1), .val (.int (4 : Int32)), .val (.ref w_TIMED_OUT), .val (.int (1 : Int32)), .val (.int (0 : Int32)), .val (.ref w_FINISHED)] [(.ref w_FINISHED)])) rfl (by rw [hml]; rfl) (argsL := [(.ref w_FINISHED)]) (rest := []) (lenOf pd_2 rfl) rfl (by show 2 * 0 + _ ≤ _; exact Nat.le_of_eq rfl) (hb hby at_121) (fun _ _ => ⟨rfl, e3, (by decide : 0 + 0 ≤ _), (by decide : 0 + 0 ≤ _)⟩)
  dsimp only [Pt.U, Pt.locs, Pt.cells, Pt.slots] at X4 l4 y4 z4 st4 hQ4
  subst l4 y4 z4
  obtain ⟨rfl, Nq4, e4⟩ := hQ4
  have N4 := Fr.app N3 Nq4
  obtain ⟨cq5, kq5, q5a, q5b, q5c⟩ := isOf hZ e4 E_w_FINISHEDx
  obtain ⟨_, _, ⟨T5, L5, k5, n5⟩, -, X5, ⟨Lc5, hQ5, l5, y5, z5⟩, st5⟩ := X4.virtualBack hx (y := (⟨"com/example/bowline/bowline/server/RunState", "ended", "()Z"⟩ : MethodName)) (z := (⟨"com/example/bowline/bowline/server/RunState", "ended", "()Z"⟩ : MethodName)) hown (mvT hZ (hw _ (List.mem_of_getElem? (i := 7) rfl))) (mvT hZ (hw _ (List.mem_of_getElem? (i := 8) rfl))) (notFace_of_selects (args := #[]) (mvT hZ (hw _ (List.mem_of_getElem? (i := 10) rfl)))) (mvT hZ (hw _ (List.mem_of_getElem? (i := 10) rfl))) (mvT hZ (hw _ (List.mem_of_getElem? (i := 9) rfl))) (by decide) (backOf (W := 0) (rm1_1 l Z a0 hw [] w_NEW w_FINISHED w_sm w_FINISHEDx w_RUNNING w_TIMED_OUT w_FAILED w_FAILEDx w_TIMED_OUTx h0 n0 Z0 S) hZ (hw _ (List.mem_of_getElem? (i := 11) rfl)) (hw _ (List.mem_of_getElem? (i := 2) rfl)) (by decide) (by decide)) q5a q5c (g := (mkF m 124 #[.val (.int p0), .val (.int p1), .val (.int (4 : Int32)), .val (.ref w_TIMED_OUT), .val (.int (1 : Int32)), .val (.int (0 : Int32)), .val (.ref w_FINISHED)] [(.ref w_FINISHEDx)])) rfl (by rw [hml]; rfl) (Steps.refl _) (argsL := []) (rest := []) (lenOf pd_0 rfl) rfl (by show 2 * 0 + _ ≤ _; exact Nat.le_of_eq rfl) (hb hby at_124) (fun _ _ => ⟨rfl, e4, (by decide : 0 + 0 ≤ _), (by decide : 0 + 0 ≤ _)⟩)
  dsimp only [Pt.U, Pt.locs, Pt.cells, Pt.slots] at X5 l5 y5 z5 st5 hQ5
  subst l5 y5 z5
  obtain ⟨rfl, Nq5, e5⟩ := hQ5
  have N5 := Fr.app N4 Nq5
  obtain ⟨fs, hr, hrun, hended, hW, hsame⟩ := X5.leave (v := (some (.int (1 : Int32)))) (fun h => by rw [Bd.returns] at h; cases h)
  refine ⟨_, _, pre0 _ ?_, hrun, hended, _, _, rfl, ⟨rfl, N5, e5⟩, ⟨_, rfl⟩, hW, hsame.mono (by decide) (by decide)⟩
  show Steps p.tables e below (s₁.setTop (mkF m 0 #[.val (.int p0), .val (.int p1), .unset, .unset, .unset, .unset, .unset] [])) _
  refine XS.iloadN X0.here hx rfl (hb hby at_0) rfl ?_
  show Steps p.tables e below (s₁.setTop (mkF m 1 #[.val (.int p0), .val (.int p1), .unset, .unset, .unset, .unset, .unset] [(.int p0)])) _
  refine X0.ldcInt hx hown (mvT hZ (hw _ (List.mem_of_getElem? (i := 0) rfl))) (g := (mkF m 1 #[.val (.int p0), .val (.int p1), .unset, .unset, .unset, .unset, .unset] [(.int p0)])) rfl (hb hby at_1) _ ?_
  show Steps p.tables e below (s₁.setTop (mkF m 3 #[.val (.int p0), .val (.int p1), .unset, .unset, .unset, .unset, .unset] [(.int (2147483647 : Int32)), (.int p0)])) _
  refine XS.iand X0.here hx rfl (hb hby at_3) rfl ?_
  show Steps p.tables e below (s₁.setTop (mkF m 4 #[.val (.int p0), .val (.int p1), .unset, .unset, .unset, .unset, .unset] [(.int (p0 &&& (2147483647 : Int32)))])) _
  show Steps p.tables e below (s₁.setTop (mkF m 4 #[.val (.int p0), .val (.int p1), .unset, .unset, .unset, .unset, .unset] [(.int (p0 &&& (2147483647 : Int32)))])) _
  refine XS.iconst X0.here hx rfl (hb hby at_4) ?_
  show Steps p.tables e below (s₁.setTop (mkF m 5 #[.val (.int p0), .val (.int p1), .unset, .unset, .unset, .unset, .unset] [(.int (5 : Int32)), (.int (p0 &&& (2147483647 : Int32)))])) _
  refine iremM X0 hx rfl (hb hby at_5) rfl (by decide) ?_
  show Steps p.tables e below (s₁.setTop (mkF m 6 #[.val (.int p0), .val (.int p1), .unset, .unset, .unset, .unset, .unset] [(.int ((p0 &&& (2147483647 : Int32)) % (5 : Int32)))])) _
  rw [hk]
  show Steps p.tables e below (s₁.setTop (mkF m 6 #[.val (.int p0), .val (.int p1), .unset, .unset, .unset, .unset, .unset] [(.int (4 : Int32))])) _
  refine XS.istoreN X0.here hx rfl (hb hby at_6) rfl (l' := #[.val (.int p0), .val (.int p1), .val (.int (4 : Int32)), .unset, .unset, .unset, .unset]) rfl ?_
  show Steps p.tables e below (s₁.setTop (mkF m 7 #[.val (.int p0), .val (.int p1), .val (.int (4 : Int32)), .unset, .unset, .unset, .unset] [])) _
  refine XS.iloadN X0.here hx rfl (hb hby at_7) rfl ?_
  show Steps p.tables e below (s₁.setTop (mkF m 8 #[.val (.int p0), .val (.int p1), .val (.int (4 : Int32)), .unset, .unset, .unset, .unset] [(.int (4 : Int32))])) _
  refine XS.ifYes X0.here hx rfl (pc0 := 8) (pc' := 18) rfl (hb hby at_8) rfl ((if0 _ _).trans (feq (by decide : ¬ ((4 : Int32) = (0 : Int32)))).2) (by decide) (by decide) ?_
  show Steps p.tables e below (s₁.setTop (mkF m 18 #[.val (.int p0), .val (.int p1), .val (.int (4 : Int32)), .unset, .unset, .unset, .unset] [])) _
  refine XS.iloadN X0.here hx rfl (hb hby at_18) rfl ?_
  show Steps p.tables e below (s₁.setTop (mkF m 19 #[.val (.int p0), .val (.int p1), .val (.int (4 : Int32)), .unset, .unset, .unset, .unset] [(.int (4 : Int32))])) _
  refine XS.iconst X0.here hx rfl (hb hby at_19) ?_
  show Steps p.tables e below (s₁.setTop (mkF m 20 #[.val (.int p0), .val (.int p1), .val (.int (4 : Int32)), .unset, .unset, .unset, .unset] [(.int (1 : Int32)), (.int (4 : Int32))])) _
  refine XS.icmpYes X0.here hx rfl (pc0 := 20) (pc' := 30) rfl (hb hby at_20) rfl (feq (by decide : ¬ ((4 : Int32) = (1 : Int32)))).2 (by decide) (by decide) ?_
  show Steps p.tables e below (s₁.setTop (mkF m 30 #[.val (.int p0), .val (.int p1), .val (.int (4 : Int32)), .unset, .unset, .unset, .unset] [])) _
  refine XS.iloadN X0.here hx rfl (hb hby at_30) rfl ?_
  show Steps p.tables e below (s₁.setTop (mkF m 31 #[.val (.int p0), .val (.int p1), .val (.int (4 : Int32)), .unset, .unset, .unset, .unset] [(.int (4 : Int32))])) _
  refine XS.iconst X0.here hx rfl (hb hby at_31) ?_
  show Steps p.tables e below (s₁.setTop (mkF m 32 #[.val (.int p0), .val (.int p1), .val (.int (4 : Int32)), .unset, .unset, .unset, .unset] [(.int (2 : Int32)), (.int (4 : Int32))])) _
  refine XS.icmpYes X0.here hx rfl (pc0 := 32) (pc' := 42) rfl (hb hby at_32) rfl (feq (by decide : ¬ ((4 : Int32) = (2 : Int32)))).2 (by decide) (by decide) ?_
  show Steps p.tables e below (s₁.setTop (mkF m 42 #[.val (.int p0), .val (.int p1), .val (.int (4 : Int32)), .unset, .unset, .unset, .unset] [])) _
  refine XS.iloadN X0.here hx rfl (hb hby at_42) rfl ?_
  show Steps p.tables e below (s₁.setTop (mkF m 43 #[.val (.int p0), .val (.int p1), .val (.int (4 : Int32)), .unset, .unset, .unset, .unset] [(.int (4 : Int32))])) _
  refine XS.iconst X0.here hx rfl (hb hby at_43) ?_
  show Steps p.tables e below (s₁.setTop (mkF m 44 #[.val (.int p0), .val (.int p1), .val (.int (4 : Int32)), .unset, .unset, .unset, .unset] [(.int (3 : Int32)), (.int (4 : Int32))])) _
  refine XS.icmpYes X0.here hx rfl (pc0 := 44) (pc' := 54) rfl (hb hby at_44) rfl (feq (by decide : ¬ ((4 : Int32) = (3 : Int32)))).2 (by decide) (by decide) ?_
  show Steps p.tables e below (s₁.setTop (mkF m 54 #[.val (.int p0), .val (.int p1), .val (.int (4 : Int32)), .unset, .unset, .unset, .unset] [])) _
  refine st1 _ ?_
  show Steps p.tables e below (T1.setTop (mkF m 57 #[.val (.int p0), .val (.int p1), .val (.int (4 : Int32)), .unset, .unset, .unset, .unset] [(.ref w_TIMED_OUT)])) _
  refine XS.astoreN X1.here hx rfl (hb hby at_57) rfl rfl (l' := #[.val (.int p0), .val (.int p1), .val (.int (4 : Int32)), .val (.ref w_TIMED_OUT), .unset, .unset, .unset]) rfl ?_
  show Steps p.tables e below (T1.setTop (mkF m 58 #[.val (.int p0), .val (.int p1), .val (.int (4 : Int32)), .val (.ref w_TIMED_OUT), .unset, .unset, .unset] [])) _
  refine XS.iloadN X1.here hx rfl (hb hby at_58) rfl ?_
  show Steps p.tables e below (T1.setTop (mkF m 59 #[.val (.int p0), .val (.int p1), .val (.int (4 : Int32)), .val (.ref w_TIMED_OUT), .unset, .unset, .unset] [(.int (4 : Int32))])) _
  refine XS.iconst X1.here hx rfl (hb hby at_59) ?_
  show Steps p.tables e below (T1.setTop (mkF m 60 #[.val (.int p0), .val (.int p1), .val (.int (4 : Int32)), .val (.ref w_TIMED_OUT), .unset, .unset, .unset] [(.int (2 : Int32)), (.int (4 : Int32))])) _
  refine XS.icmpNo X1.here hx rfl (hb hby at_60) rfl (flt (by decide : ¬ ((4 : Int32) < (2 : Int32)))).1 ?_
  show Steps p.tables e below (T1.setTop (mkF m 63 #[.val (.int p0), .val (.int p1), .val (.int (4 : Int32)), .val (.ref w_TIMED_OUT), .unset, .unset, .unset] [])) _
  refine XS.iconst X1.here hx rfl (hb hby at_63) ?_
  show Steps p.tables e below (T1.setTop (mkF m 64 #[.val (.int p0), .val (.int p1), .val (.int (4 : Int32)), .val (.ref w_TIMED_OUT), .unset, .unset, .unset] [(.int (1 : Int32))])) _
  refine XS.goto X1.here hx rfl (pc0 := 64) (pc' := 68) rfl (hb hby at_64) (by decide) (by decide) ?_
  show Steps p.tables e below (T1.setTop (mkF m 68 #[.val (.int p0), .val (.int p1), .val (.int (4 : Int32)), .val (.ref w_TIMED_OUT), .unset, .unset, .unset] [(.int (1 : Int32))])) _
  refine XS.istore X1.here hx rfl (hb hby at_68) rfl (l' := #[.val (.int p0), .val (.int p1), .val (.int (4 : Int32)), .val (.ref w_TIMED_OUT), .val (.int (1 : Int32)), .unset, .unset]) rfl ?_
  show Steps p.tables e below (T1.setTop (mkF m 70 #[.val (.int p0), .val (.int p1), .val (.int (4 : Int32)), .val (.ref w_TIMED_OUT), .val (.int (1 : Int32)), .unset, .unset] [])) _
  refine XS.iloadN X1.here hx rfl (hb hby at_70) rfl ?_
  show Steps p.tables e below (T1.setTop (mkF m 71 #[.val (.int p0), .val (.int p1), .val (.int (4 : Int32)), .val (.ref w_TIMED_OUT), .val (.int (1 : Int32)), .unset, .unset] [(.int p1)])) _
  refine X1.ldcInt hx hown (mvT hZ (hw _ (List.mem_of_getElem? (i := 0) rfl))) (g := (mkF m 71 #[.val (.int p0), .val (.int p1), .val (.int (4 : Int32)), .val (.ref w_TIMED_OUT), .val (.int (1 : Int32)), .unset, .unset] [(.int p1)])) rfl (hb hby at_71) _ ?_
  show Steps p.tables e below (T1.setTop (mkF m 73 #[.val (.int p0), .val (.int p1), .val (.int (4 : Int32)), .val (.ref w_TIMED_OUT), .val (.int (1 : Int32)), .unset, .unset] [(.int (2147483647 : Int32)), (.int p1)])) _
  refine XS.iand X1.here hx rfl (hb hby at_73) rfl ?_
  show Steps p.tables e below (T1.setTop (mkF m 74 #[.val (.int p0), .val (.int p1), .val (.int (4 : Int32)), .val (.ref w_TIMED_OUT), .val (.int (1 : Int32)), .unset, .unset] [(.int (p1 &&& (2147483647 : Int32)))])) _
  show Steps p.tables e below (T1.setTop (mkF m 74 #[.val (.int p0), .val (.int p1), .val (.int (4 : Int32)), .val (.ref w_TIMED_OUT), .val (.int (1 : Int32)), .unset, .unset] [(.int (p1 &&& (2147483647 : Int32)))])) _
  refine XS.iconst X1.here hx rfl (hb hby at_74) ?_
  show Steps p.tables e below (T1.setTop (mkF m 75 #[.val (.int p0), .val (.int p1), .val (.int (4 : Int32)), .val (.ref w_TIMED_OUT), .val (.int (1 : Int32)), .unset, .unset] [(.int (3 : Int32)), (.int (p1 &&& (2147483647 : Int32)))])) _
  refine iremM X1 hx rfl (hb hby at_75) rfl (by decide) ?_
  show Steps p.tables e below (T1.setTop (mkF m 76 #[.val (.int p0), .val (.int p1), .val (.int (4 : Int32)), .val (.ref w_TIMED_OUT), .val (.int (1 : Int32)), .unset, .unset] [(.int ((p1 &&& (2147483647 : Int32)) % (3 : Int32)))])) _
  rw [hj]
  show Steps p.tables e below (T1.setTop (mkF m 76 #[.val (.int p0), .val (.int p1), .val (.int (4 : Int32)), .val (.ref w_TIMED_OUT), .val (.int (1 : Int32)), .unset, .unset] [(.int (0 : Int32))])) _
  refine XS.istore X1.here hx rfl (hb hby at_76) rfl (l' := #[.val (.int p0), .val (.int p1), .val (.int (4 : Int32)), .val (.ref w_TIMED_OUT), .val (.int (1 : Int32)), .val (.int (0 : Int32)), .unset]) rfl ?_
  show Steps p.tables e below (T1.setTop (mkF m 78 #[.val (.int p0), .val (.int p1), .val (.int (4 : Int32)), .val (.ref w_TIMED_OUT), .val (.int (1 : Int32)), .val (.int (0 : Int32)), .unset] [])) _
  refine XS.iload X1.here hx rfl (hb hby at_78) rfl ?_
  show Steps p.tables e below (T1.setTop (mkF m 80 #[.val (.int p0), .val (.int p1), .val (.int (4 : Int32)), .val (.ref w_TIMED_OUT), .val (.int (1 : Int32)), .val (.int (0 : Int32)), .unset] [(.int (0 : Int32))])) _
  refine XS.ifNo X1.here hx rfl (hb hby at_80) rfl ((if0 _ _).trans (teq (by decide : (0 : Int32) = (0 : Int32))).2) ?_
  show Steps p.tables e below (T1.setTop (mkF m 83 #[.val (.int p0), .val (.int p1), .val (.int (4 : Int32)), .val (.ref w_TIMED_OUT), .val (.int (1 : Int32)), .val (.int (0 : Int32)), .unset] [])) _
  refine st2 _ ?_
  show Steps p.tables e below (T2.setTop (mkF m 86 #[.val (.int p0), .val (.int p1), .val (.int (4 : Int32)), .val (.ref w_TIMED_OUT), .val (.int (1 : Int32)), .val (.int (0 : Int32)), .unset] [(.ref w_FINISHED)])) _
  refine XS.astore X2.here hx rfl (hb hby at_86) rfl rfl (l' := #[.val (.int p0), .val (.int p1), .val (.int (4 : Int32)), .val (.ref w_TIMED_OUT), .val (.int (1 : Int32)), .val (.int (0 : Int32)), .val (.ref w_FINISHED)]) rfl ?_
  show Steps p.tables e below (T2.setTop (mkF m 88 #[.val (.int p0), .val (.int p1), .val (.int (4 : Int32)), .val (.ref w_TIMED_OUT), .val (.int (1 : Int32)), .val (.int (0 : Int32)), .val (.ref w_FINISHED)] [])) _
  refine XS.goto X2.here hx rfl (pc0 := 88) (pc' := 110) rfl (hb hby at_88) (by decide) (by decide) ?_
  show Steps p.tables e below (T2.setTop (mkF m 110 #[.val (.int p0), .val (.int p1), .val (.int (4 : Int32)), .val (.ref w_TIMED_OUT), .val (.int (1 : Int32)), .val (.int (0 : Int32)), .val (.ref w_FINISHED)] [])) _
  refine XS.aloadN X2.here hx rfl (hb hby at_110) rfl rfl ?_
  show Steps p.tables e below (T2.setTop (mkF m 111 #[.val (.int p0), .val (.int p1), .val (.int (4 : Int32)), .val (.ref w_TIMED_OUT), .val (.int (1 : Int32)), .val (.int (0 : Int32)), .val (.ref w_FINISHED)] [(.ref w_TIMED_OUT)])) _
  refine st3.trans ?_
  show Steps p.tables e below (T3.setTop (mkF m 114 #[.val (.int p0), .val (.int p1), .val (.int (4 : Int32)), .val (.ref w_TIMED_OUT), .val (.int (1 : Int32)), .val (.int (0 : Int32)), .val (.ref w_FINISHED)] [(.int (1 : Int32))])) _
  refine XS.iload X3.here hx rfl (hb hby at_114) rfl ?_
  show Steps p.tables e below (T3.setTop (mkF m 116 #[.val (.int p0), .val (.int p1), .val (.int (4 : Int32)), .val (.ref w_TIMED_OUT), .val (.int (1 : Int32)), .val (.int (0 : Int32)), .val (.ref w_FINISHED)] [(.int (1 : Int32)), (.int (1 : Int32))])) _
  refine XS.icmpNo X3.here hx rfl (hb hby at_116) rfl (teq (by decide : (1 : Int32) = (1 : Int32))).2 ?_
  show Steps p.tables e below (T3.setTop (mkF m 119 #[.val (.int p0), .val (.int p1), .val (.int (4 : Int32)), .val (.ref w_TIMED_OUT), .val (.int (1 : Int32)), .val (.int (0 : Int32)), .val (.ref w_FINISHED)] [])) _
  refine XS.aload X3.here hx rfl (hb hby at_119) rfl rfl ?_
  show Steps p.tables e below (T3.setTop (mkF m 121 #[.val (.int p0), .val (.int p1), .val (.int (4 : Int32)), .val (.ref w_TIMED_OUT), .val (.int (1 : Int32)), .val (.int (0 : Int32)), .val (.ref w_FINISHED)] [(.ref w_FINISHED)])) _
  refine st4 _ ?_
  show Steps p.tables e below (T4.setTop (mkF m 124 #[.val (.int p0), .val (.int p1), .val (.int (4 : Int32)), .val (.ref w_TIMED_OUT), .val (.int (1 : Int32)), .val (.int (0 : Int32)), .val (.ref w_FINISHED)] [(.ref w_FINISHEDx)])) _
  refine st5.trans ?_
  show Steps p.tables e below (T5.setTop (mkF m 127 #[.val (.int p0), .val (.int p1), .val (.int (4 : Int32)), .val (.ref w_TIMED_OUT), .val (.int (1 : Int32)), .val (.int (0 : Int32)), .val (.ref w_FINISHED)] [(.int (1 : Int32))])) _
  refine XS.ifNo X5.here hx rfl (hb hby at_127) rfl ((if0 _ _).trans (feq (by decide : ¬ ((1 : Int32) = (0 : Int32)))).1) ?_
  show Steps p.tables e below (T5.setTop (mkF m 130 #[.val (.int p0), .val (.int p1), .val (.int (4 : Int32)), .val (.ref w_TIMED_OUT), .val (.int (1 : Int32)), .val (.int (0 : Int32)), .val (.ref w_FINISHED)] [])) _
  refine XS.iconst X5.here hx rfl (hb hby at_130) ?_
  show Steps p.tables e below (T5.setTop (mkF m 131 #[.val (.int p0), .val (.int p1), .val (.int (4 : Int32)), .val (.ref w_TIMED_OUT), .val (.int (1 : Int32)), .val (.int (0 : Int32)), .val (.ref w_FINISHED)] [(.int (1 : Int32))])) _
  refine XS.goto X5.here hx rfl (pc0 := 131) (pc' := 135) rfl (hb hby at_131) (by decide) (by decide) ?_
  show Steps p.tables e below (T5.setTop (mkF m 135 #[.val (.int p0), .val (.int p1), .val (.int (4 : Int32)), .val (.ref w_TIMED_OUT), .val (.int (1 : Int32)), .val (.int (0 : Int32)), .val (.ref w_FINISHED)] [(.int (1 : Int32))])) _
  exact retN X5 hx (t := .boolean) Bd.returns (by simp) (hb hby at_135) hr
set_option maxRecDepth 65536 in
set_option maxHeartbeats 40000000 in
theorem rm0_13 (l : Launch) (Z : State) (a0 : Array Value) (hw : ∀ d ∈ tables_1, d.before a0 Z = true) (ws : List Jvm.Cond) (w_NEW w_FINISHED w_sm w_FINISHEDx w_RUNNING w_TIMED_OUT w_FAILED w_FAILEDx w_TIMED_OUTx : Addr) (h0 : Heap) (n0 : Nat) (Z0 : n0 ≤ h0.size) (S : SF Z h0 w_NEW w_FINISHED w_sm w_FINISHEDx w_RUNNING w_TIMED_OUT w_FAILED w_FAILEDx w_TIMED_OUTx) (p0 : Int32) (p1 : Int32) (hk : ((p0 &&& (2147483647 : Int32)) % (5 : Int32)) = (4 : Int32)) (hj : ((p1 &&& (2147483647 : Int32)) % (3 : Int32)) = (1 : Int32)) :
    Pay l Z x ws code maxLocals ret #[(.int p0), (.int p1)] h0 n0 room_1 (some (.int (1 : Int32))) := by
  obtain ⟨S_w_NEW, E_w_NEW, S_w_FINISHED, E_w_FINISHED, S_w_sm, V_w_sm, S_w_FINISHEDx, E_w_FINISHEDx, S_w_RUNNING, E_w_RUNNING, S_w_TIMED_OUT, E_w_TIMED_OUT, S_w_FAILED, E_w_FAILED, S_w_FAILEDx, E_w_FAILEDx, S_w_TIMED_OUTx, E_w_TIMED_OUTx, F_ordinal_w_FINISHED, F_ordinal_w_FINISHEDx, F_ordinal_w_NEW, F_ordinal_w_RUNNING, F_ordinal_w_TIMED_OUT, F_ordinal_w_FAILED, F_ordinal_w_FAILEDx, F_ordinal_w_TIMED_OUTx, hne_w_NEW_w_FINISHEDx, hne_w_NEW_w_RUNNING, hne_w_NEW_w_TIMED_OUT, hne_w_NEW_w_FAILEDx, hne_w_FINISHED_w_FAILED, hne_w_FINISHED_w_TIMED_OUTx, hne_w_FINISHEDx_w_RUNNING, hne_w_FINISHEDx_w_TIMED_OUT, hne_w_FINISHEDx_w_FAILEDx, hne_w_RUNNING_w_TIMED_OUT, hne_w_RUNNING_w_FAILEDx, hne_w_TIMED_OUT_w_FAILEDx, hne_w_FAILED_w_TIMED_OUTx⟩ := id S
  refine MetFree.of_bodySF (plainFor_of_name pn_2) hisR ?_
  intro p e s m args below meth c s₁ Bd hml0 hP hK
  obtain ⟨rfl, hZ, hh⟩ := hP
  have hx := Bd.exec
  have hby := Bd.bytes
  have hml : c.maxLocals = 7 := hml0
  have hown : s.vm.findClass "com/example/bowline/bowline/server/RunStateEndedPinLaw" = some m.cls := findClass_of_methodNamed Bd.named
  have X0 : Stand p l e room_1 s m #[(.int p0), (.int p1)] below meth c s₁ [] 0 0 := Stand.of_body Bd
  have e0 : s₁.heap = h0 := by rw [← hh, Bd.state]; rfl
  have N0 := Fr.nil n0
  have pre0 : ∀ t, Steps p.tables e below (s₁.setTop (mkF m 0 #[.val (.int p0), .val (.int p1), .unset, .unset, .unset, .unset, .unset] [])) t → Steps p.tables e below (s₁.setTop (entryFrame m #[(.int p0), (.int p1)] maxLocals)) t := fun t k => castTop (by first | rfl | (simp [entryFrame, mkF, argsToLocals, Value.category, maxLocals]; done)) k
  obtain ⟨T1, X1, e1, st1⟩ := getS2 X0 hx hZ hown (host := "") (Or.inl (hw _ (List.mem_of_getElem? (i := 32) rfl))) Via.refl e0 S_w_TIMED_OUT (g := (mkF m 54 #[.val (.int p0), .val (.int p1), .val (.int (4 : Int32)), .unset, .unset, .unset, .unset] [])) rfl (hb hby at_54)
  obtain ⟨T2, X2, e2, st2⟩ := getS2 X1 hx hZ hown (host := "") (Or.inl (hw _ (List.mem_of_getElem? (i := 34) rfl))) Via.refl e1 S_w_FAILED (g := (mkF m 97 #[.val (.int p0), .val (.int p1), .val (.int (4 : Int32)), .val (.ref w_TIMED_OUT), .val (.int (1 : Int32)), .val (.int (1 : Int32)), .unset] [])) rfl (hb hby at_97)
  obtain ⟨cq3, kq3, q3a, q3b, q3c⟩ := isOf hZ e2 E_w_TIMED_OUT
  obtain ⟨_, _, ⟨T3, L3, k3, n3⟩, -, X3, ⟨Lc3, hQ3, l3, y3, z3⟩, st3⟩ := X2.virtualBack hx (y := (⟨"com/example/bowline/bowline/server/RunState", "ended", "()Z"⟩ : MethodName)) (z := (⟨"com/example/bowline/bowline/server/RunState", "ended", "()Z"⟩ : MethodName)) hown (mvT hZ (hw _ (List.mem_of_getElem? (i := 7) rfl))) (mvT hZ (hw _ (List.mem_of_getElem? (i := 8) rfl))) (notFace_of_selects (args := #[]) (mvT hZ (hw _ (List.mem_of_getElem? (i := 10) rfl)))) (mvT hZ (hw _ (List.mem_of_getElem? (i := 10) rfl))) (mvT hZ (hw _ (List.mem_of_getElem? (i := 9) rfl))) (by decide) (backOf (W := 0) (rm1_3 l Z a0 hw [] w_NEW w_FINISHED w_sm w_FINISHEDx w_RUNNING w_TIMED_OUT w_FAILED w_FAILEDx w_TIMED_OUTx h0 n0 Z0 S) hZ (hw _ (List.mem_of_getElem? (i := 11) rfl)) (hw _ (List.mem_of_getElem? (i := 2) rfl)) (by decide) (by decide)) q3a q3c (g := (mkF m 111 #[.val (.int p0), .val (.int p1), .val (.int (4 : Int32)), .val (.ref w_TIMED_OUT), .val (.int (1 : Int32)), .val (.int (1 : Int32)), .val (.ref w_FAILED)] [(.ref w_TIMED_OUT)])) rfl (by rw [hml]; rfl) (Steps.refl _) (argsL := []) (rest := []) (lenOf pd_0 rfl) rfl (by show 2 * 0 + _ ≤ _; exact Nat.le_of_eq rfl) (hb hby at_111) (fun _ _ => ⟨rfl, e2, (by decide : 0 + 0 ≤ _), (by decide : 0 + 0 ≤ _)⟩)
  dsimp only [Pt.U, Pt.locs, Pt.cells, Pt.slots] at X3 l3 y3 z3 st3 hQ3
  subst l3 y3 z3
  obtain ⟨rfl, Nq3, e3⟩ := hQ3
  have N3 := Fr.app N0 Nq3
  obtain ⟨_, _, ⟨T4, L4, k4, n4⟩, -, X4, ⟨Lc4, hQ4, l4, y4, z4⟩, st4⟩ := Jvm.LawKit.callS X3 hx (y := (⟨"com/example/bowline/bowline/server/RunState", "of", "(Lcom/example/bowline/bowline/runtime/Status;)Lcom/example/bowline/bowline/server/RunState;"⟩ : MethodName)) hown (mvT hZ (hw _ (List.mem_of_getElem? (i := 13) rfl))) (mvT hZ (hw _ (List.mem_of_getElem? (i := 14) rfl))) (mvT hZ (hw _ (List.mem_of_getElem? (i := 2) rfl))) (mvT hZ (hw _ (List.mem_of_getElem? (i := 15) rfl))) (by decide) (backOf (W := 0) (rm2_1 l Z a0 hw [] w_NEW w_FINISHED w_sm w_FINISHEDx w_RUNNING w_TIMED_OUT w_FAILED w_FAILEDx w_TIMED_OUTx h0 n0 Z0 S) hZ (hw _ (List.mem_of_getElem? (i := 15) rfl)) (hw _ (List.mem_of_getElem? (i := 2) rfl)) (by decide) (by decide)) (g := (mkF m 121 #[.val (.int p0), .val (.int p1), .val (.int (4 : Int32)), .val (.ref w_TIMED_OUT), .val (.int (1 : Int32)), .val (.int (1 : Int32)), .val (.ref w_FAILED)] [(.ref w_FAILED)])) rfl (by rw [hml]; rfl) (argsL := [(.ref w_FAILED)]) (rest := []) (lenOf pd_2 rfl) rfl (by show 2 * 0 + _ ≤ _; exact Nat.le_of_eq rfl) (hb hby at_121) (fun _ _ => ⟨rfl, e3, (by decide : 0 + 0 ≤ _), (by decide : 0 + 0 ≤ _)⟩)
  dsimp only [Pt.U, Pt.locs, Pt.cells, Pt.slots] at X4 l4 y4 z4 st4 hQ4
  subst l4 y4 z4
  obtain ⟨rfl, Nq4, e4⟩ := hQ4
  have N4 := Fr.app N3 Nq4
  obtain ⟨cq5, kq5, q5a, q5b, q5c⟩ := isOf hZ e4 E_w_FAILEDx
  obtain ⟨_, _, ⟨T5, L5, k5, n5⟩, -, X5, ⟨Lc5, hQ5, l5, y5, z5⟩, st5⟩ := X4.virtualBack hx (y := (⟨"com/example/bowline/bowline/server/RunState", "ended", "()Z"⟩ : MethodName)) (z := (⟨"com/example/bowline/bowline/server/RunState", "ended", "()Z"⟩ : MethodName)) hown (mvT hZ (hw _ (List.mem_of_getElem? (i := 7) rfl))) (mvT hZ (hw _ (List.mem_of_getElem? (i := 8) rfl))) (notFace_of_selects (args := #[]) (mvT hZ (hw _ (List.mem_of_getElem? (i := 10) rfl)))) (mvT hZ (hw _ (List.mem_of_getElem? (i := 10) rfl))) (mvT hZ (hw _ (List.mem_of_getElem? (i := 9) rfl))) (by decide) (backOf (W := 0) (rm1_2 l Z a0 hw [] w_NEW w_FINISHED w_sm w_FINISHEDx w_RUNNING w_TIMED_OUT w_FAILED w_FAILEDx w_TIMED_OUTx h0 n0 Z0 S) hZ (hw _ (List.mem_of_getElem? (i := 11) rfl)) (hw _ (List.mem_of_getElem? (i := 2) rfl)) (by decide) (by decide)) q5a q5c (g := (mkF m 124 #[.val (.int p0), .val (.int p1), .val (.int (4 : Int32)), .val (.ref w_TIMED_OUT), .val (.int (1 : Int32)), .val (.int (1 : Int32)), .val (.ref w_FAILED)] [(.ref w_FAILEDx)])) rfl (by rw [hml]; rfl) (Steps.refl _) (argsL := []) (rest := []) (lenOf pd_0 rfl) rfl (by show 2 * 0 + _ ≤ _; exact Nat.le_of_eq rfl) (hb hby at_124) (fun _ _ => ⟨rfl, e4, (by decide : 0 + 0 ≤ _), (by decide : 0 + 0 ≤ _)⟩)
  dsimp only [Pt.U, Pt.locs, Pt.cells, Pt.slots] at X5 l5 y5 z5 st5 hQ5
  subst l5 y5 z5
  obtain ⟨rfl, Nq5, e5⟩ := hQ5
  have N5 := Fr.app N4 Nq5
  obtain ⟨fs, hr, hrun, hended, hW, hsame⟩ := X5.leave (v := (some (.int (1 : Int32)))) (fun h => by rw [Bd.returns] at h; cases h)
  refine ⟨_, _, pre0 _ ?_, hrun, hended, _, _, rfl, ⟨rfl, N5, e5⟩, ⟨_, rfl⟩, hW, hsame.mono (by decide) (by decide)⟩
  show Steps p.tables e below (s₁.setTop (mkF m 0 #[.val (.int p0), .val (.int p1), .unset, .unset, .unset, .unset, .unset] [])) _
  refine XS.iloadN X0.here hx rfl (hb hby at_0) rfl ?_
  show Steps p.tables e below (s₁.setTop (mkF m 1 #[.val (.int p0), .val (.int p1), .unset, .unset, .unset, .unset, .unset] [(.int p0)])) _
  refine X0.ldcInt hx hown (mvT hZ (hw _ (List.mem_of_getElem? (i := 0) rfl))) (g := (mkF m 1 #[.val (.int p0), .val (.int p1), .unset, .unset, .unset, .unset, .unset] [(.int p0)])) rfl (hb hby at_1) _ ?_
  show Steps p.tables e below (s₁.setTop (mkF m 3 #[.val (.int p0), .val (.int p1), .unset, .unset, .unset, .unset, .unset] [(.int (2147483647 : Int32)), (.int p0)])) _
  refine XS.iand X0.here hx rfl (hb hby at_3) rfl ?_
  show Steps p.tables e below (s₁.setTop (mkF m 4 #[.val (.int p0), .val (.int p1), .unset, .unset, .unset, .unset, .unset] [(.int (p0 &&& (2147483647 : Int32)))])) _
  show Steps p.tables e below (s₁.setTop (mkF m 4 #[.val (.int p0), .val (.int p1), .unset, .unset, .unset, .unset, .unset] [(.int (p0 &&& (2147483647 : Int32)))])) _
  refine XS.iconst X0.here hx rfl (hb hby at_4) ?_
  show Steps p.tables e below (s₁.setTop (mkF m 5 #[.val (.int p0), .val (.int p1), .unset, .unset, .unset, .unset, .unset] [(.int (5 : Int32)), (.int (p0 &&& (2147483647 : Int32)))])) _
  refine iremM X0 hx rfl (hb hby at_5) rfl (by decide) ?_
  show Steps p.tables e below (s₁.setTop (mkF m 6 #[.val (.int p0), .val (.int p1), .unset, .unset, .unset, .unset, .unset] [(.int ((p0 &&& (2147483647 : Int32)) % (5 : Int32)))])) _
  rw [hk]
  show Steps p.tables e below (s₁.setTop (mkF m 6 #[.val (.int p0), .val (.int p1), .unset, .unset, .unset, .unset, .unset] [(.int (4 : Int32))])) _
  refine XS.istoreN X0.here hx rfl (hb hby at_6) rfl (l' := #[.val (.int p0), .val (.int p1), .val (.int (4 : Int32)), .unset, .unset, .unset, .unset]) rfl ?_
  show Steps p.tables e below (s₁.setTop (mkF m 7 #[.val (.int p0), .val (.int p1), .val (.int (4 : Int32)), .unset, .unset, .unset, .unset] [])) _
  refine XS.iloadN X0.here hx rfl (hb hby at_7) rfl ?_
  show Steps p.tables e below (s₁.setTop (mkF m 8 #[.val (.int p0), .val (.int p1), .val (.int (4 : Int32)), .unset, .unset, .unset, .unset] [(.int (4 : Int32))])) _
  refine XS.ifYes X0.here hx rfl (pc0 := 8) (pc' := 18) rfl (hb hby at_8) rfl ((if0 _ _).trans (feq (by decide : ¬ ((4 : Int32) = (0 : Int32)))).2) (by decide) (by decide) ?_
  show Steps p.tables e below (s₁.setTop (mkF m 18 #[.val (.int p0), .val (.int p1), .val (.int (4 : Int32)), .unset, .unset, .unset, .unset] [])) _
  refine XS.iloadN X0.here hx rfl (hb hby at_18) rfl ?_
  show Steps p.tables e below (s₁.setTop (mkF m 19 #[.val (.int p0), .val (.int p1), .val (.int (4 : Int32)), .unset, .unset, .unset, .unset] [(.int (4 : Int32))])) _
  refine XS.iconst X0.here hx rfl (hb hby at_19) ?_
  show Steps p.tables e below (s₁.setTop (mkF m 20 #[.val (.int p0), .val (.int p1), .val (.int (4 : Int32)), .unset, .unset, .unset, .unset] [(.int (1 : Int32)), (.int (4 : Int32))])) _
  refine XS.icmpYes X0.here hx rfl (pc0 := 20) (pc' := 30) rfl (hb hby at_20) rfl (feq (by decide : ¬ ((4 : Int32) = (1 : Int32)))).2 (by decide) (by decide) ?_
  show Steps p.tables e below (s₁.setTop (mkF m 30 #[.val (.int p0), .val (.int p1), .val (.int (4 : Int32)), .unset, .unset, .unset, .unset] [])) _
  refine XS.iloadN X0.here hx rfl (hb hby at_30) rfl ?_
  show Steps p.tables e below (s₁.setTop (mkF m 31 #[.val (.int p0), .val (.int p1), .val (.int (4 : Int32)), .unset, .unset, .unset, .unset] [(.int (4 : Int32))])) _
  refine XS.iconst X0.here hx rfl (hb hby at_31) ?_
  show Steps p.tables e below (s₁.setTop (mkF m 32 #[.val (.int p0), .val (.int p1), .val (.int (4 : Int32)), .unset, .unset, .unset, .unset] [(.int (2 : Int32)), (.int (4 : Int32))])) _
  refine XS.icmpYes X0.here hx rfl (pc0 := 32) (pc' := 42) rfl (hb hby at_32) rfl (feq (by decide : ¬ ((4 : Int32) = (2 : Int32)))).2 (by decide) (by decide) ?_
  show Steps p.tables e below (s₁.setTop (mkF m 42 #[.val (.int p0), .val (.int p1), .val (.int (4 : Int32)), .unset, .unset, .unset, .unset] [])) _
  refine XS.iloadN X0.here hx rfl (hb hby at_42) rfl ?_
  show Steps p.tables e below (s₁.setTop (mkF m 43 #[.val (.int p0), .val (.int p1), .val (.int (4 : Int32)), .unset, .unset, .unset, .unset] [(.int (4 : Int32))])) _
  refine XS.iconst X0.here hx rfl (hb hby at_43) ?_
  show Steps p.tables e below (s₁.setTop (mkF m 44 #[.val (.int p0), .val (.int p1), .val (.int (4 : Int32)), .unset, .unset, .unset, .unset] [(.int (3 : Int32)), (.int (4 : Int32))])) _
  refine XS.icmpYes X0.here hx rfl (pc0 := 44) (pc' := 54) rfl (hb hby at_44) rfl (feq (by decide : ¬ ((4 : Int32) = (3 : Int32)))).2 (by decide) (by decide) ?_
  show Steps p.tables e below (s₁.setTop (mkF m 54 #[.val (.int p0), .val (.int p1), .val (.int (4 : Int32)), .unset, .unset, .unset, .unset] [])) _
  refine st1 _ ?_
  show Steps p.tables e below (T1.setTop (mkF m 57 #[.val (.int p0), .val (.int p1), .val (.int (4 : Int32)), .unset, .unset, .unset, .unset] [(.ref w_TIMED_OUT)])) _
  refine XS.astoreN X1.here hx rfl (hb hby at_57) rfl rfl (l' := #[.val (.int p0), .val (.int p1), .val (.int (4 : Int32)), .val (.ref w_TIMED_OUT), .unset, .unset, .unset]) rfl ?_
  show Steps p.tables e below (T1.setTop (mkF m 58 #[.val (.int p0), .val (.int p1), .val (.int (4 : Int32)), .val (.ref w_TIMED_OUT), .unset, .unset, .unset] [])) _
  refine XS.iloadN X1.here hx rfl (hb hby at_58) rfl ?_
  show Steps p.tables e below (T1.setTop (mkF m 59 #[.val (.int p0), .val (.int p1), .val (.int (4 : Int32)), .val (.ref w_TIMED_OUT), .unset, .unset, .unset] [(.int (4 : Int32))])) _
  refine XS.iconst X1.here hx rfl (hb hby at_59) ?_
  show Steps p.tables e below (T1.setTop (mkF m 60 #[.val (.int p0), .val (.int p1), .val (.int (4 : Int32)), .val (.ref w_TIMED_OUT), .unset, .unset, .unset] [(.int (2 : Int32)), (.int (4 : Int32))])) _
  refine XS.icmpNo X1.here hx rfl (hb hby at_60) rfl (flt (by decide : ¬ ((4 : Int32) < (2 : Int32)))).1 ?_
  show Steps p.tables e below (T1.setTop (mkF m 63 #[.val (.int p0), .val (.int p1), .val (.int (4 : Int32)), .val (.ref w_TIMED_OUT), .unset, .unset, .unset] [])) _
  refine XS.iconst X1.here hx rfl (hb hby at_63) ?_
  show Steps p.tables e below (T1.setTop (mkF m 64 #[.val (.int p0), .val (.int p1), .val (.int (4 : Int32)), .val (.ref w_TIMED_OUT), .unset, .unset, .unset] [(.int (1 : Int32))])) _
  refine XS.goto X1.here hx rfl (pc0 := 64) (pc' := 68) rfl (hb hby at_64) (by decide) (by decide) ?_
  show Steps p.tables e below (T1.setTop (mkF m 68 #[.val (.int p0), .val (.int p1), .val (.int (4 : Int32)), .val (.ref w_TIMED_OUT), .unset, .unset, .unset] [(.int (1 : Int32))])) _
  refine XS.istore X1.here hx rfl (hb hby at_68) rfl (l' := #[.val (.int p0), .val (.int p1), .val (.int (4 : Int32)), .val (.ref w_TIMED_OUT), .val (.int (1 : Int32)), .unset, .unset]) rfl ?_
  show Steps p.tables e below (T1.setTop (mkF m 70 #[.val (.int p0), .val (.int p1), .val (.int (4 : Int32)), .val (.ref w_TIMED_OUT), .val (.int (1 : Int32)), .unset, .unset] [])) _
  refine XS.iloadN X1.here hx rfl (hb hby at_70) rfl ?_
  show Steps p.tables e below (T1.setTop (mkF m 71 #[.val (.int p0), .val (.int p1), .val (.int (4 : Int32)), .val (.ref w_TIMED_OUT), .val (.int (1 : Int32)), .unset, .unset] [(.int p1)])) _
  refine X1.ldcInt hx hown (mvT hZ (hw _ (List.mem_of_getElem? (i := 0) rfl))) (g := (mkF m 71 #[.val (.int p0), .val (.int p1), .val (.int (4 : Int32)), .val (.ref w_TIMED_OUT), .val (.int (1 : Int32)), .unset, .unset] [(.int p1)])) rfl (hb hby at_71) _ ?_
  show Steps p.tables e below (T1.setTop (mkF m 73 #[.val (.int p0), .val (.int p1), .val (.int (4 : Int32)), .val (.ref w_TIMED_OUT), .val (.int (1 : Int32)), .unset, .unset] [(.int (2147483647 : Int32)), (.int p1)])) _
  refine XS.iand X1.here hx rfl (hb hby at_73) rfl ?_
  show Steps p.tables e below (T1.setTop (mkF m 74 #[.val (.int p0), .val (.int p1), .val (.int (4 : Int32)), .val (.ref w_TIMED_OUT), .val (.int (1 : Int32)), .unset, .unset] [(.int (p1 &&& (2147483647 : Int32)))])) _
  show Steps p.tables e below (T1.setTop (mkF m 74 #[.val (.int p0), .val (.int p1), .val (.int (4 : Int32)), .val (.ref w_TIMED_OUT), .val (.int (1 : Int32)), .unset, .unset] [(.int (p1 &&& (2147483647 : Int32)))])) _
  refine XS.iconst X1.here hx rfl (hb hby at_74) ?_
  show Steps p.tables e below (T1.setTop (mkF m 75 #[.val (.int p0), .val (.int p1), .val (.int (4 : Int32)), .val (.ref w_TIMED_OUT), .val (.int (1 : Int32)), .unset, .unset] [(.int (3 : Int32)), (.int (p1 &&& (2147483647 : Int32)))])) _
  refine iremM X1 hx rfl (hb hby at_75) rfl (by decide) ?_
  show Steps p.tables e below (T1.setTop (mkF m 76 #[.val (.int p0), .val (.int p1), .val (.int (4 : Int32)), .val (.ref w_TIMED_OUT), .val (.int (1 : Int32)), .unset, .unset] [(.int ((p1 &&& (2147483647 : Int32)) % (3 : Int32)))])) _
  rw [hj]
  show Steps p.tables e below (T1.setTop (mkF m 76 #[.val (.int p0), .val (.int p1), .val (.int (4 : Int32)), .val (.ref w_TIMED_OUT), .val (.int (1 : Int32)), .unset, .unset] [(.int (1 : Int32))])) _
  refine XS.istore X1.here hx rfl (hb hby at_76) rfl (l' := #[.val (.int p0), .val (.int p1), .val (.int (4 : Int32)), .val (.ref w_TIMED_OUT), .val (.int (1 : Int32)), .val (.int (1 : Int32)), .unset]) rfl ?_
  show Steps p.tables e below (T1.setTop (mkF m 78 #[.val (.int p0), .val (.int p1), .val (.int (4 : Int32)), .val (.ref w_TIMED_OUT), .val (.int (1 : Int32)), .val (.int (1 : Int32)), .unset] [])) _
  refine XS.iload X1.here hx rfl (hb hby at_78) rfl ?_
  show Steps p.tables e below (T1.setTop (mkF m 80 #[.val (.int p0), .val (.int p1), .val (.int (4 : Int32)), .val (.ref w_TIMED_OUT), .val (.int (1 : Int32)), .val (.int (1 : Int32)), .unset] [(.int (1 : Int32))])) _
  refine XS.ifYes X1.here hx rfl (pc0 := 80) (pc' := 91) rfl (hb hby at_80) rfl ((if0 _ _).trans (feq (by decide : ¬ ((1 : Int32) = (0 : Int32)))).2) (by decide) (by decide) ?_
  show Steps p.tables e below (T1.setTop (mkF m 91 #[.val (.int p0), .val (.int p1), .val (.int (4 : Int32)), .val (.ref w_TIMED_OUT), .val (.int (1 : Int32)), .val (.int (1 : Int32)), .unset] [])) _
  refine XS.iload X1.here hx rfl (hb hby at_91) rfl ?_
  show Steps p.tables e below (T1.setTop (mkF m 93 #[.val (.int p0), .val (.int p1), .val (.int (4 : Int32)), .val (.ref w_TIMED_OUT), .val (.int (1 : Int32)), .val (.int (1 : Int32)), .unset] [(.int (1 : Int32))])) _
  refine XS.iconst X1.here hx rfl (hb hby at_93) ?_
  show Steps p.tables e below (T1.setTop (mkF m 94 #[.val (.int p0), .val (.int p1), .val (.int (4 : Int32)), .val (.ref w_TIMED_OUT), .val (.int (1 : Int32)), .val (.int (1 : Int32)), .unset] [(.int (1 : Int32)), (.int (1 : Int32))])) _
  refine XS.icmpNo X1.here hx rfl (hb hby at_94) rfl (teq (by decide : (1 : Int32) = (1 : Int32))).2 ?_
  show Steps p.tables e below (T1.setTop (mkF m 97 #[.val (.int p0), .val (.int p1), .val (.int (4 : Int32)), .val (.ref w_TIMED_OUT), .val (.int (1 : Int32)), .val (.int (1 : Int32)), .unset] [])) _
  refine st2 _ ?_
  show Steps p.tables e below (T2.setTop (mkF m 100 #[.val (.int p0), .val (.int p1), .val (.int (4 : Int32)), .val (.ref w_TIMED_OUT), .val (.int (1 : Int32)), .val (.int (1 : Int32)), .unset] [(.ref w_FAILED)])) _
  refine XS.astore X2.here hx rfl (hb hby at_100) rfl rfl (l' := #[.val (.int p0), .val (.int p1), .val (.int (4 : Int32)), .val (.ref w_TIMED_OUT), .val (.int (1 : Int32)), .val (.int (1 : Int32)), .val (.ref w_FAILED)]) rfl ?_
  show Steps p.tables e below (T2.setTop (mkF m 102 #[.val (.int p0), .val (.int p1), .val (.int (4 : Int32)), .val (.ref w_TIMED_OUT), .val (.int (1 : Int32)), .val (.int (1 : Int32)), .val (.ref w_FAILED)] [])) _
  refine XS.goto X2.here hx rfl (pc0 := 102) (pc' := 110) rfl (hb hby at_102) (by decide) (by decide) ?_
  show Steps p.tables e below (T2.setTop (mkF m 110 #[.val (.int p0), .val (.int p1), .val (.int (4 : Int32)), .val (.ref w_TIMED_OUT), .val (.int (1 : Int32)), .val (.int (1 : Int32)), .val (.ref w_FAILED)] [])) _
  refine XS.aloadN X2.here hx rfl (hb hby at_110) rfl rfl ?_
  show Steps p.tables e below (T2.setTop (mkF m 111 #[.val (.int p0), .val (.int p1), .val (.int (4 : Int32)), .val (.ref w_TIMED_OUT), .val (.int (1 : Int32)), .val (.int (1 : Int32)), .val (.ref w_FAILED)] [(.ref w_TIMED_OUT)])) _
  refine st3.trans ?_
  show Steps p.tables e below (T3.setTop (mkF m 114 #[.val (.int p0), .val (.int p1), .val (.int (4 : Int32)), .val (.ref w_TIMED_OUT), .val (.int (1 : Int32)), .val (.int (1 : Int32)), .val (.ref w_FAILED)] [(.int (1 : Int32))])) _
  refine XS.iload X3.here hx rfl (hb hby at_114) rfl ?_
  show Steps p.tables e below (T3.setTop (mkF m 116 #[.val (.int p0), .val (.int p1), .val (.int (4 : Int32)), .val (.ref w_TIMED_OUT), .val (.int (1 : Int32)), .val (.int (1 : Int32)), .val (.ref w_FAILED)] [(.int (1 : Int32)), (.int (1 : Int32))])) _
  refine XS.icmpNo X3.here hx rfl (hb hby at_116) rfl (teq (by decide : (1 : Int32) = (1 : Int32))).2 ?_
  show Steps p.tables e below (T3.setTop (mkF m 119 #[.val (.int p0), .val (.int p1), .val (.int (4 : Int32)), .val (.ref w_TIMED_OUT), .val (.int (1 : Int32)), .val (.int (1 : Int32)), .val (.ref w_FAILED)] [])) _
  refine XS.aload X3.here hx rfl (hb hby at_119) rfl rfl ?_
  show Steps p.tables e below (T3.setTop (mkF m 121 #[.val (.int p0), .val (.int p1), .val (.int (4 : Int32)), .val (.ref w_TIMED_OUT), .val (.int (1 : Int32)), .val (.int (1 : Int32)), .val (.ref w_FAILED)] [(.ref w_FAILED)])) _
  refine st4 _ ?_
  show Steps p.tables e below (T4.setTop (mkF m 124 #[.val (.int p0), .val (.int p1), .val (.int (4 : Int32)), .val (.ref w_TIMED_OUT), .val (.int (1 : Int32)), .val (.int (1 : Int32)), .val (.ref w_FAILED)] [(.ref w_FAILEDx)])) _
  refine st5.trans ?_
  show Steps p.tables e below (T5.setTop (mkF m 127 #[.val (.int p0), .val (.int p1), .val (.int (4 : Int32)), .val (.ref w_TIMED_OUT), .val (.int (1 : Int32)), .val (.int (1 : Int32)), .val (.ref w_FAILED)] [(.int (1 : Int32))])) _
  refine XS.ifNo X5.here hx rfl (hb hby at_127) rfl ((if0 _ _).trans (feq (by decide : ¬ ((1 : Int32) = (0 : Int32)))).1) ?_
  show Steps p.tables e below (T5.setTop (mkF m 130 #[.val (.int p0), .val (.int p1), .val (.int (4 : Int32)), .val (.ref w_TIMED_OUT), .val (.int (1 : Int32)), .val (.int (1 : Int32)), .val (.ref w_FAILED)] [])) _
  refine XS.iconst X5.here hx rfl (hb hby at_130) ?_
  show Steps p.tables e below (T5.setTop (mkF m 131 #[.val (.int p0), .val (.int p1), .val (.int (4 : Int32)), .val (.ref w_TIMED_OUT), .val (.int (1 : Int32)), .val (.int (1 : Int32)), .val (.ref w_FAILED)] [(.int (1 : Int32))])) _
  refine XS.goto X5.here hx rfl (pc0 := 131) (pc' := 135) rfl (hb hby at_131) (by decide) (by decide) ?_
  show Steps p.tables e below (T5.setTop (mkF m 135 #[.val (.int p0), .val (.int p1), .val (.int (4 : Int32)), .val (.ref w_TIMED_OUT), .val (.int (1 : Int32)), .val (.int (1 : Int32)), .val (.ref w_FAILED)] [(.int (1 : Int32))])) _
  exact retN X5 hx (t := .boolean) Bd.returns (by simp) (hb hby at_135) hr
set_option maxRecDepth 65536 in
set_option maxHeartbeats 40000000 in
theorem rm0_14 (l : Launch) (Z : State) (a0 : Array Value) (hw : ∀ d ∈ tables_1, d.before a0 Z = true) (ws : List Jvm.Cond) (w_NEW w_FINISHED w_sm w_FINISHEDx w_RUNNING w_TIMED_OUT w_FAILED w_FAILEDx w_TIMED_OUTx : Addr) (h0 : Heap) (n0 : Nat) (Z0 : n0 ≤ h0.size) (S : SF Z h0 w_NEW w_FINISHED w_sm w_FINISHEDx w_RUNNING w_TIMED_OUT w_FAILED w_FAILEDx w_TIMED_OUTx) (p0 : Int32) (p1 : Int32) (hk : ((p0 &&& (2147483647 : Int32)) % (5 : Int32)) = (4 : Int32)) (hj : ((p1 &&& (2147483647 : Int32)) % (3 : Int32)) = (2 : Int32)) :
    Pay l Z x ws code maxLocals ret #[(.int p0), (.int p1)] h0 n0 room_1 (some (.int (1 : Int32))) := by
  obtain ⟨S_w_NEW, E_w_NEW, S_w_FINISHED, E_w_FINISHED, S_w_sm, V_w_sm, S_w_FINISHEDx, E_w_FINISHEDx, S_w_RUNNING, E_w_RUNNING, S_w_TIMED_OUT, E_w_TIMED_OUT, S_w_FAILED, E_w_FAILED, S_w_FAILEDx, E_w_FAILEDx, S_w_TIMED_OUTx, E_w_TIMED_OUTx, F_ordinal_w_FINISHED, F_ordinal_w_FINISHEDx, F_ordinal_w_NEW, F_ordinal_w_RUNNING, F_ordinal_w_TIMED_OUT, F_ordinal_w_FAILED, F_ordinal_w_FAILEDx, F_ordinal_w_TIMED_OUTx, hne_w_NEW_w_FINISHEDx, hne_w_NEW_w_RUNNING, hne_w_NEW_w_TIMED_OUT, hne_w_NEW_w_FAILEDx, hne_w_FINISHED_w_FAILED, hne_w_FINISHED_w_TIMED_OUTx, hne_w_FINISHEDx_w_RUNNING, hne_w_FINISHEDx_w_TIMED_OUT, hne_w_FINISHEDx_w_FAILEDx, hne_w_RUNNING_w_TIMED_OUT, hne_w_RUNNING_w_FAILEDx, hne_w_TIMED_OUT_w_FAILEDx, hne_w_FAILED_w_TIMED_OUTx⟩ := id S
  refine MetFree.of_bodySF (plainFor_of_name pn_2) hisR ?_
  intro p e s m args below meth c s₁ Bd hml0 hP hK
  obtain ⟨rfl, hZ, hh⟩ := hP
  have hx := Bd.exec
  have hby := Bd.bytes
  have hml : c.maxLocals = 7 := hml0
  have hown : s.vm.findClass "com/example/bowline/bowline/server/RunStateEndedPinLaw" = some m.cls := findClass_of_methodNamed Bd.named
  have X0 : Stand p l e room_1 s m #[(.int p0), (.int p1)] below meth c s₁ [] 0 0 := Stand.of_body Bd
  have e0 : s₁.heap = h0 := by rw [← hh, Bd.state]; rfl
  have N0 := Fr.nil n0
  have pre0 : ∀ t, Steps p.tables e below (s₁.setTop (mkF m 0 #[.val (.int p0), .val (.int p1), .unset, .unset, .unset, .unset, .unset] [])) t → Steps p.tables e below (s₁.setTop (entryFrame m #[(.int p0), (.int p1)] maxLocals)) t := fun t k => castTop (by first | rfl | (simp [entryFrame, mkF, argsToLocals, Value.category, maxLocals]; done)) k
  obtain ⟨T1, X1, e1, st1⟩ := getS2 X0 hx hZ hown (host := "") (Or.inl (hw _ (List.mem_of_getElem? (i := 32) rfl))) Via.refl e0 S_w_TIMED_OUT (g := (mkF m 54 #[.val (.int p0), .val (.int p1), .val (.int (4 : Int32)), .unset, .unset, .unset, .unset] [])) rfl (hb hby at_54)
  obtain ⟨T2, X2, e2, st2⟩ := getS2 X1 hx hZ hown (host := "") (Or.inl (hw _ (List.mem_of_getElem? (i := 39) rfl))) Via.refl e1 S_w_TIMED_OUTx (g := (mkF m 105 #[.val (.int p0), .val (.int p1), .val (.int (4 : Int32)), .val (.ref w_TIMED_OUT), .val (.int (1 : Int32)), .val (.int (2 : Int32)), .unset] [])) rfl (hb hby at_105)
  obtain ⟨cq3, kq3, q3a, q3b, q3c⟩ := isOf hZ e2 E_w_TIMED_OUT
  obtain ⟨_, _, ⟨T3, L3, k3, n3⟩, -, X3, ⟨Lc3, hQ3, l3, y3, z3⟩, st3⟩ := X2.virtualBack hx (y := (⟨"com/example/bowline/bowline/server/RunState", "ended", "()Z"⟩ : MethodName)) (z := (⟨"com/example/bowline/bowline/server/RunState", "ended", "()Z"⟩ : MethodName)) hown (mvT hZ (hw _ (List.mem_of_getElem? (i := 7) rfl))) (mvT hZ (hw _ (List.mem_of_getElem? (i := 8) rfl))) (notFace_of_selects (args := #[]) (mvT hZ (hw _ (List.mem_of_getElem? (i := 10) rfl)))) (mvT hZ (hw _ (List.mem_of_getElem? (i := 10) rfl))) (mvT hZ (hw _ (List.mem_of_getElem? (i := 9) rfl))) (by decide) (backOf (W := 0) (rm1_3 l Z a0 hw [] w_NEW w_FINISHED w_sm w_FINISHEDx w_RUNNING w_TIMED_OUT w_FAILED w_FAILEDx w_TIMED_OUTx h0 n0 Z0 S) hZ (hw _ (List.mem_of_getElem? (i := 11) rfl)) (hw _ (List.mem_of_getElem? (i := 2) rfl)) (by decide) (by decide)) q3a q3c (g := (mkF m 111 #[.val (.int p0), .val (.int p1), .val (.int (4 : Int32)), .val (.ref w_TIMED_OUT), .val (.int (1 : Int32)), .val (.int (2 : Int32)), .val (.ref w_TIMED_OUTx)] [(.ref w_TIMED_OUT)])) rfl (by rw [hml]; rfl) (Steps.refl _) (argsL := []) (rest := []) (lenOf pd_0 rfl) rfl (by show 2 * 0 + _ ≤ _; exact Nat.le_of_eq rfl) (hb hby at_111) (fun _ _ => ⟨rfl, e2, (by decide : 0 + 0 ≤ _), (by decide : 0 + 0 ≤ _)⟩)
  dsimp only [Pt.U, Pt.locs, Pt.cells, Pt.slots] at X3 l3 y3 z3 st3 hQ3
  subst l3 y3 z3
  obtain ⟨rfl, Nq3, e3⟩ := hQ3
  have N3 := Fr.app N0 Nq3
  obtain ⟨_, _, ⟨T4, L4, k4, n4⟩, -, X4, ⟨Lc4, hQ4, l4, y4, z4⟩, st4⟩ := Jvm.LawKit.callS X3 hx (y := (⟨"com/example/bowline/bowline/server/RunState", "of", "(Lcom/example/bowline/bowline/runtime/Status;)Lcom/example/bowline/bowline/server/RunState;"⟩ : MethodName)) hown (mvT hZ (hw _ (List.mem_of_getElem? (i := 13) rfl))) (mvT hZ (hw _ (List.mem_of_getElem? (i := 14) rfl))) (mvT hZ (hw _ (List.mem_of_getElem? (i := 2) rfl))) (mvT hZ (hw _ (List.mem_of_getElem? (i := 15) rfl))) (by decide) (backOf (W := 0) (rm2_2 l Z a0 hw [] w_NEW w_FINISHED w_sm w_FINISHEDx w_RUNNING w_TIMED_OUT w_FAILED w_FAILEDx w_TIMED_OUTx h0 n0 Z0 S) hZ (hw _ (List.mem_of_getElem? (i := 15) rfl)) (hw _ (List.mem_of_getElem? (i := 2) rfl)) (by decide) (by decide)) (g := (mkF m 121 #[.val (.int p0), .val (.int p1), .val (.int (4 : Int32)), .val (.ref w_TIMED_OUT), .val (.int (1 : Int32)), .val (.int (2 : Int32)), .val (.ref w_TIMED_OUTx)] [(.ref w_TIMED_OUTx)])) rfl (by rw [hml]; rfl) (argsL := [(.ref w_TIMED_OUTx)]) (rest := []) (lenOf pd_2 rfl) rfl (by show 2 * 0 + _ ≤ _; exact Nat.le_of_eq rfl) (hb hby at_121) (fun _ _ => ⟨rfl, e3, (by decide : 0 + 0 ≤ _), (by decide : 0 + 0 ≤ _)⟩)
  dsimp only [Pt.U, Pt.locs, Pt.cells, Pt.slots] at X4 l4 y4 z4 st4 hQ4
  subst l4 y4 z4
  obtain ⟨rfl, Nq4, e4⟩ := hQ4
  have N4 := Fr.app N3 Nq4
  obtain ⟨cq5, kq5, q5a, q5b, q5c⟩ := isOf hZ e4 E_w_TIMED_OUT
  obtain ⟨_, _, ⟨T5, L5, k5, n5⟩, -, X5, ⟨Lc5, hQ5, l5, y5, z5⟩, st5⟩ := X4.virtualBack hx (y := (⟨"com/example/bowline/bowline/server/RunState", "ended", "()Z"⟩ : MethodName)) (z := (⟨"com/example/bowline/bowline/server/RunState", "ended", "()Z"⟩ : MethodName)) hown (mvT hZ (hw _ (List.mem_of_getElem? (i := 7) rfl))) (mvT hZ (hw _ (List.mem_of_getElem? (i := 8) rfl))) (notFace_of_selects (args := #[]) (mvT hZ (hw _ (List.mem_of_getElem? (i := 10) rfl)))) (mvT hZ (hw _ (List.mem_of_getElem? (i := 10) rfl))) (mvT hZ (hw _ (List.mem_of_getElem? (i := 9) rfl))) (by decide) (backOf (W := 0) (rm1_3 l Z a0 hw [] w_NEW w_FINISHED w_sm w_FINISHEDx w_RUNNING w_TIMED_OUT w_FAILED w_FAILEDx w_TIMED_OUTx h0 n0 Z0 S) hZ (hw _ (List.mem_of_getElem? (i := 11) rfl)) (hw _ (List.mem_of_getElem? (i := 2) rfl)) (by decide) (by decide)) q5a q5c (g := (mkF m 124 #[.val (.int p0), .val (.int p1), .val (.int (4 : Int32)), .val (.ref w_TIMED_OUT), .val (.int (1 : Int32)), .val (.int (2 : Int32)), .val (.ref w_TIMED_OUTx)] [(.ref w_TIMED_OUT)])) rfl (by rw [hml]; rfl) (Steps.refl _) (argsL := []) (rest := []) (lenOf pd_0 rfl) rfl (by show 2 * 0 + _ ≤ _; exact Nat.le_of_eq rfl) (hb hby at_124) (fun _ _ => ⟨rfl, e4, (by decide : 0 + 0 ≤ _), (by decide : 0 + 0 ≤ _)⟩)
  dsimp only [Pt.U, Pt.locs, Pt.cells, Pt.slots] at X5 l5 y5 z5 st5 hQ5
  subst l5 y5 z5
  obtain ⟨rfl, Nq5, e5⟩ := hQ5
  have N5 := Fr.app N4 Nq5
  obtain ⟨fs, hr, hrun, hended, hW, hsame⟩ := X5.leave (v := (some (.int (1 : Int32)))) (fun h => by rw [Bd.returns] at h; cases h)
  refine ⟨_, _, pre0 _ ?_, hrun, hended, _, _, rfl, ⟨rfl, N5, e5⟩, ⟨_, rfl⟩, hW, hsame.mono (by decide) (by decide)⟩
  show Steps p.tables e below (s₁.setTop (mkF m 0 #[.val (.int p0), .val (.int p1), .unset, .unset, .unset, .unset, .unset] [])) _
  refine XS.iloadN X0.here hx rfl (hb hby at_0) rfl ?_
  show Steps p.tables e below (s₁.setTop (mkF m 1 #[.val (.int p0), .val (.int p1), .unset, .unset, .unset, .unset, .unset] [(.int p0)])) _
  refine X0.ldcInt hx hown (mvT hZ (hw _ (List.mem_of_getElem? (i := 0) rfl))) (g := (mkF m 1 #[.val (.int p0), .val (.int p1), .unset, .unset, .unset, .unset, .unset] [(.int p0)])) rfl (hb hby at_1) _ ?_
  show Steps p.tables e below (s₁.setTop (mkF m 3 #[.val (.int p0), .val (.int p1), .unset, .unset, .unset, .unset, .unset] [(.int (2147483647 : Int32)), (.int p0)])) _
  refine XS.iand X0.here hx rfl (hb hby at_3) rfl ?_
  show Steps p.tables e below (s₁.setTop (mkF m 4 #[.val (.int p0), .val (.int p1), .unset, .unset, .unset, .unset, .unset] [(.int (p0 &&& (2147483647 : Int32)))])) _
  show Steps p.tables e below (s₁.setTop (mkF m 4 #[.val (.int p0), .val (.int p1), .unset, .unset, .unset, .unset, .unset] [(.int (p0 &&& (2147483647 : Int32)))])) _
  refine XS.iconst X0.here hx rfl (hb hby at_4) ?_
  show Steps p.tables e below (s₁.setTop (mkF m 5 #[.val (.int p0), .val (.int p1), .unset, .unset, .unset, .unset, .unset] [(.int (5 : Int32)), (.int (p0 &&& (2147483647 : Int32)))])) _
  refine iremM X0 hx rfl (hb hby at_5) rfl (by decide) ?_
  show Steps p.tables e below (s₁.setTop (mkF m 6 #[.val (.int p0), .val (.int p1), .unset, .unset, .unset, .unset, .unset] [(.int ((p0 &&& (2147483647 : Int32)) % (5 : Int32)))])) _
  rw [hk]
  show Steps p.tables e below (s₁.setTop (mkF m 6 #[.val (.int p0), .val (.int p1), .unset, .unset, .unset, .unset, .unset] [(.int (4 : Int32))])) _
  refine XS.istoreN X0.here hx rfl (hb hby at_6) rfl (l' := #[.val (.int p0), .val (.int p1), .val (.int (4 : Int32)), .unset, .unset, .unset, .unset]) rfl ?_
  show Steps p.tables e below (s₁.setTop (mkF m 7 #[.val (.int p0), .val (.int p1), .val (.int (4 : Int32)), .unset, .unset, .unset, .unset] [])) _
  refine XS.iloadN X0.here hx rfl (hb hby at_7) rfl ?_
  show Steps p.tables e below (s₁.setTop (mkF m 8 #[.val (.int p0), .val (.int p1), .val (.int (4 : Int32)), .unset, .unset, .unset, .unset] [(.int (4 : Int32))])) _
  refine XS.ifYes X0.here hx rfl (pc0 := 8) (pc' := 18) rfl (hb hby at_8) rfl ((if0 _ _).trans (feq (by decide : ¬ ((4 : Int32) = (0 : Int32)))).2) (by decide) (by decide) ?_
  show Steps p.tables e below (s₁.setTop (mkF m 18 #[.val (.int p0), .val (.int p1), .val (.int (4 : Int32)), .unset, .unset, .unset, .unset] [])) _
  refine XS.iloadN X0.here hx rfl (hb hby at_18) rfl ?_
  show Steps p.tables e below (s₁.setTop (mkF m 19 #[.val (.int p0), .val (.int p1), .val (.int (4 : Int32)), .unset, .unset, .unset, .unset] [(.int (4 : Int32))])) _
  refine XS.iconst X0.here hx rfl (hb hby at_19) ?_
  show Steps p.tables e below (s₁.setTop (mkF m 20 #[.val (.int p0), .val (.int p1), .val (.int (4 : Int32)), .unset, .unset, .unset, .unset] [(.int (1 : Int32)), (.int (4 : Int32))])) _
  refine XS.icmpYes X0.here hx rfl (pc0 := 20) (pc' := 30) rfl (hb hby at_20) rfl (feq (by decide : ¬ ((4 : Int32) = (1 : Int32)))).2 (by decide) (by decide) ?_
  show Steps p.tables e below (s₁.setTop (mkF m 30 #[.val (.int p0), .val (.int p1), .val (.int (4 : Int32)), .unset, .unset, .unset, .unset] [])) _
  refine XS.iloadN X0.here hx rfl (hb hby at_30) rfl ?_
  show Steps p.tables e below (s₁.setTop (mkF m 31 #[.val (.int p0), .val (.int p1), .val (.int (4 : Int32)), .unset, .unset, .unset, .unset] [(.int (4 : Int32))])) _
  refine XS.iconst X0.here hx rfl (hb hby at_31) ?_
  show Steps p.tables e below (s₁.setTop (mkF m 32 #[.val (.int p0), .val (.int p1), .val (.int (4 : Int32)), .unset, .unset, .unset, .unset] [(.int (2 : Int32)), (.int (4 : Int32))])) _
  refine XS.icmpYes X0.here hx rfl (pc0 := 32) (pc' := 42) rfl (hb hby at_32) rfl (feq (by decide : ¬ ((4 : Int32) = (2 : Int32)))).2 (by decide) (by decide) ?_
  show Steps p.tables e below (s₁.setTop (mkF m 42 #[.val (.int p0), .val (.int p1), .val (.int (4 : Int32)), .unset, .unset, .unset, .unset] [])) _
  refine XS.iloadN X0.here hx rfl (hb hby at_42) rfl ?_
  show Steps p.tables e below (s₁.setTop (mkF m 43 #[.val (.int p0), .val (.int p1), .val (.int (4 : Int32)), .unset, .unset, .unset, .unset] [(.int (4 : Int32))])) _
  refine XS.iconst X0.here hx rfl (hb hby at_43) ?_
  show Steps p.tables e below (s₁.setTop (mkF m 44 #[.val (.int p0), .val (.int p1), .val (.int (4 : Int32)), .unset, .unset, .unset, .unset] [(.int (3 : Int32)), (.int (4 : Int32))])) _
  refine XS.icmpYes X0.here hx rfl (pc0 := 44) (pc' := 54) rfl (hb hby at_44) rfl (feq (by decide : ¬ ((4 : Int32) = (3 : Int32)))).2 (by decide) (by decide) ?_
  show Steps p.tables e below (s₁.setTop (mkF m 54 #[.val (.int p0), .val (.int p1), .val (.int (4 : Int32)), .unset, .unset, .unset, .unset] [])) _
  refine st1 _ ?_
  show Steps p.tables e below (T1.setTop (mkF m 57 #[.val (.int p0), .val (.int p1), .val (.int (4 : Int32)), .unset, .unset, .unset, .unset] [(.ref w_TIMED_OUT)])) _
  refine XS.astoreN X1.here hx rfl (hb hby at_57) rfl rfl (l' := #[.val (.int p0), .val (.int p1), .val (.int (4 : Int32)), .val (.ref w_TIMED_OUT), .unset, .unset, .unset]) rfl ?_
  show Steps p.tables e below (T1.setTop (mkF m 58 #[.val (.int p0), .val (.int p1), .val (.int (4 : Int32)), .val (.ref w_TIMED_OUT), .unset, .unset, .unset] [])) _
  refine XS.iloadN X1.here hx rfl (hb hby at_58) rfl ?_
  show Steps p.tables e below (T1.setTop (mkF m 59 #[.val (.int p0), .val (.int p1), .val (.int (4 : Int32)), .val (.ref w_TIMED_OUT), .unset, .unset, .unset] [(.int (4 : Int32))])) _
  refine XS.iconst X1.here hx rfl (hb hby at_59) ?_
  show Steps p.tables e below (T1.setTop (mkF m 60 #[.val (.int p0), .val (.int p1), .val (.int (4 : Int32)), .val (.ref w_TIMED_OUT), .unset, .unset, .unset] [(.int (2 : Int32)), (.int (4 : Int32))])) _
  refine XS.icmpNo X1.here hx rfl (hb hby at_60) rfl (flt (by decide : ¬ ((4 : Int32) < (2 : Int32)))).1 ?_
  show Steps p.tables e below (T1.setTop (mkF m 63 #[.val (.int p0), .val (.int p1), .val (.int (4 : Int32)), .val (.ref w_TIMED_OUT), .unset, .unset, .unset] [])) _
  refine XS.iconst X1.here hx rfl (hb hby at_63) ?_
  show Steps p.tables e below (T1.setTop (mkF m 64 #[.val (.int p0), .val (.int p1), .val (.int (4 : Int32)), .val (.ref w_TIMED_OUT), .unset, .unset, .unset] [(.int (1 : Int32))])) _
  refine XS.goto X1.here hx rfl (pc0 := 64) (pc' := 68) rfl (hb hby at_64) (by decide) (by decide) ?_
  show Steps p.tables e below (T1.setTop (mkF m 68 #[.val (.int p0), .val (.int p1), .val (.int (4 : Int32)), .val (.ref w_TIMED_OUT), .unset, .unset, .unset] [(.int (1 : Int32))])) _
  refine XS.istore X1.here hx rfl (hb hby at_68) rfl (l' := #[.val (.int p0), .val (.int p1), .val (.int (4 : Int32)), .val (.ref w_TIMED_OUT), .val (.int (1 : Int32)), .unset, .unset]) rfl ?_
  show Steps p.tables e below (T1.setTop (mkF m 70 #[.val (.int p0), .val (.int p1), .val (.int (4 : Int32)), .val (.ref w_TIMED_OUT), .val (.int (1 : Int32)), .unset, .unset] [])) _
  refine XS.iloadN X1.here hx rfl (hb hby at_70) rfl ?_
  show Steps p.tables e below (T1.setTop (mkF m 71 #[.val (.int p0), .val (.int p1), .val (.int (4 : Int32)), .val (.ref w_TIMED_OUT), .val (.int (1 : Int32)), .unset, .unset] [(.int p1)])) _
  refine X1.ldcInt hx hown (mvT hZ (hw _ (List.mem_of_getElem? (i := 0) rfl))) (g := (mkF m 71 #[.val (.int p0), .val (.int p1), .val (.int (4 : Int32)), .val (.ref w_TIMED_OUT), .val (.int (1 : Int32)), .unset, .unset] [(.int p1)])) rfl (hb hby at_71) _ ?_
  show Steps p.tables e below (T1.setTop (mkF m 73 #[.val (.int p0), .val (.int p1), .val (.int (4 : Int32)), .val (.ref w_TIMED_OUT), .val (.int (1 : Int32)), .unset, .unset] [(.int (2147483647 : Int32)), (.int p1)])) _
  refine XS.iand X1.here hx rfl (hb hby at_73) rfl ?_
  show Steps p.tables e below (T1.setTop (mkF m 74 #[.val (.int p0), .val (.int p1), .val (.int (4 : Int32)), .val (.ref w_TIMED_OUT), .val (.int (1 : Int32)), .unset, .unset] [(.int (p1 &&& (2147483647 : Int32)))])) _
  show Steps p.tables e below (T1.setTop (mkF m 74 #[.val (.int p0), .val (.int p1), .val (.int (4 : Int32)), .val (.ref w_TIMED_OUT), .val (.int (1 : Int32)), .unset, .unset] [(.int (p1 &&& (2147483647 : Int32)))])) _
  refine XS.iconst X1.here hx rfl (hb hby at_74) ?_
  show Steps p.tables e below (T1.setTop (mkF m 75 #[.val (.int p0), .val (.int p1), .val (.int (4 : Int32)), .val (.ref w_TIMED_OUT), .val (.int (1 : Int32)), .unset, .unset] [(.int (3 : Int32)), (.int (p1 &&& (2147483647 : Int32)))])) _
  refine iremM X1 hx rfl (hb hby at_75) rfl (by decide) ?_
  show Steps p.tables e below (T1.setTop (mkF m 76 #[.val (.int p0), .val (.int p1), .val (.int (4 : Int32)), .val (.ref w_TIMED_OUT), .val (.int (1 : Int32)), .unset, .unset] [(.int ((p1 &&& (2147483647 : Int32)) % (3 : Int32)))])) _
  rw [hj]
  show Steps p.tables e below (T1.setTop (mkF m 76 #[.val (.int p0), .val (.int p1), .val (.int (4 : Int32)), .val (.ref w_TIMED_OUT), .val (.int (1 : Int32)), .unset, .unset] [(.int (2 : Int32))])) _
  refine XS.istore X1.here hx rfl (hb hby at_76) rfl (l' := #[.val (.int p0), .val (.int p1), .val (.int (4 : Int32)), .val (.ref w_TIMED_OUT), .val (.int (1 : Int32)), .val (.int (2 : Int32)), .unset]) rfl ?_
  show Steps p.tables e below (T1.setTop (mkF m 78 #[.val (.int p0), .val (.int p1), .val (.int (4 : Int32)), .val (.ref w_TIMED_OUT), .val (.int (1 : Int32)), .val (.int (2 : Int32)), .unset] [])) _
  refine XS.iload X1.here hx rfl (hb hby at_78) rfl ?_
  show Steps p.tables e below (T1.setTop (mkF m 80 #[.val (.int p0), .val (.int p1), .val (.int (4 : Int32)), .val (.ref w_TIMED_OUT), .val (.int (1 : Int32)), .val (.int (2 : Int32)), .unset] [(.int (2 : Int32))])) _
  refine XS.ifYes X1.here hx rfl (pc0 := 80) (pc' := 91) rfl (hb hby at_80) rfl ((if0 _ _).trans (feq (by decide : ¬ ((2 : Int32) = (0 : Int32)))).2) (by decide) (by decide) ?_
  show Steps p.tables e below (T1.setTop (mkF m 91 #[.val (.int p0), .val (.int p1), .val (.int (4 : Int32)), .val (.ref w_TIMED_OUT), .val (.int (1 : Int32)), .val (.int (2 : Int32)), .unset] [])) _
  refine XS.iload X1.here hx rfl (hb hby at_91) rfl ?_
  show Steps p.tables e below (T1.setTop (mkF m 93 #[.val (.int p0), .val (.int p1), .val (.int (4 : Int32)), .val (.ref w_TIMED_OUT), .val (.int (1 : Int32)), .val (.int (2 : Int32)), .unset] [(.int (2 : Int32))])) _
  refine XS.iconst X1.here hx rfl (hb hby at_93) ?_
  show Steps p.tables e below (T1.setTop (mkF m 94 #[.val (.int p0), .val (.int p1), .val (.int (4 : Int32)), .val (.ref w_TIMED_OUT), .val (.int (1 : Int32)), .val (.int (2 : Int32)), .unset] [(.int (1 : Int32)), (.int (2 : Int32))])) _
  refine XS.icmpYes X1.here hx rfl (pc0 := 94) (pc' := 105) rfl (hb hby at_94) rfl (feq (by decide : ¬ ((2 : Int32) = (1 : Int32)))).2 (by decide) (by decide) ?_
  show Steps p.tables e below (T1.setTop (mkF m 105 #[.val (.int p0), .val (.int p1), .val (.int (4 : Int32)), .val (.ref w_TIMED_OUT), .val (.int (1 : Int32)), .val (.int (2 : Int32)), .unset] [])) _
  refine st2 _ ?_
  show Steps p.tables e below (T2.setTop (mkF m 108 #[.val (.int p0), .val (.int p1), .val (.int (4 : Int32)), .val (.ref w_TIMED_OUT), .val (.int (1 : Int32)), .val (.int (2 : Int32)), .unset] [(.ref w_TIMED_OUTx)])) _
  refine XS.astore X2.here hx rfl (hb hby at_108) rfl rfl (l' := #[.val (.int p0), .val (.int p1), .val (.int (4 : Int32)), .val (.ref w_TIMED_OUT), .val (.int (1 : Int32)), .val (.int (2 : Int32)), .val (.ref w_TIMED_OUTx)]) rfl ?_
  show Steps p.tables e below (T2.setTop (mkF m 110 #[.val (.int p0), .val (.int p1), .val (.int (4 : Int32)), .val (.ref w_TIMED_OUT), .val (.int (1 : Int32)), .val (.int (2 : Int32)), .val (.ref w_TIMED_OUTx)] [])) _
  refine XS.aloadN X2.here hx rfl (hb hby at_110) rfl rfl ?_
  show Steps p.tables e below (T2.setTop (mkF m 111 #[.val (.int p0), .val (.int p1), .val (.int (4 : Int32)), .val (.ref w_TIMED_OUT), .val (.int (1 : Int32)), .val (.int (2 : Int32)), .val (.ref w_TIMED_OUTx)] [(.ref w_TIMED_OUT)])) _
  refine st3.trans ?_
  show Steps p.tables e below (T3.setTop (mkF m 114 #[.val (.int p0), .val (.int p1), .val (.int (4 : Int32)), .val (.ref w_TIMED_OUT), .val (.int (1 : Int32)), .val (.int (2 : Int32)), .val (.ref w_TIMED_OUTx)] [(.int (1 : Int32))])) _
  refine XS.iload X3.here hx rfl (hb hby at_114) rfl ?_
  show Steps p.tables e below (T3.setTop (mkF m 116 #[.val (.int p0), .val (.int p1), .val (.int (4 : Int32)), .val (.ref w_TIMED_OUT), .val (.int (1 : Int32)), .val (.int (2 : Int32)), .val (.ref w_TIMED_OUTx)] [(.int (1 : Int32)), (.int (1 : Int32))])) _
  refine XS.icmpNo X3.here hx rfl (hb hby at_116) rfl (teq (by decide : (1 : Int32) = (1 : Int32))).2 ?_
  show Steps p.tables e below (T3.setTop (mkF m 119 #[.val (.int p0), .val (.int p1), .val (.int (4 : Int32)), .val (.ref w_TIMED_OUT), .val (.int (1 : Int32)), .val (.int (2 : Int32)), .val (.ref w_TIMED_OUTx)] [])) _
  refine XS.aload X3.here hx rfl (hb hby at_119) rfl rfl ?_
  show Steps p.tables e below (T3.setTop (mkF m 121 #[.val (.int p0), .val (.int p1), .val (.int (4 : Int32)), .val (.ref w_TIMED_OUT), .val (.int (1 : Int32)), .val (.int (2 : Int32)), .val (.ref w_TIMED_OUTx)] [(.ref w_TIMED_OUTx)])) _
  refine st4 _ ?_
  show Steps p.tables e below (T4.setTop (mkF m 124 #[.val (.int p0), .val (.int p1), .val (.int (4 : Int32)), .val (.ref w_TIMED_OUT), .val (.int (1 : Int32)), .val (.int (2 : Int32)), .val (.ref w_TIMED_OUTx)] [(.ref w_TIMED_OUT)])) _
  refine st5.trans ?_
  show Steps p.tables e below (T5.setTop (mkF m 127 #[.val (.int p0), .val (.int p1), .val (.int (4 : Int32)), .val (.ref w_TIMED_OUT), .val (.int (1 : Int32)), .val (.int (2 : Int32)), .val (.ref w_TIMED_OUTx)] [(.int (1 : Int32))])) _
  refine XS.ifNo X5.here hx rfl (hb hby at_127) rfl ((if0 _ _).trans (feq (by decide : ¬ ((1 : Int32) = (0 : Int32)))).1) ?_
  show Steps p.tables e below (T5.setTop (mkF m 130 #[.val (.int p0), .val (.int p1), .val (.int (4 : Int32)), .val (.ref w_TIMED_OUT), .val (.int (1 : Int32)), .val (.int (2 : Int32)), .val (.ref w_TIMED_OUTx)] [])) _
  refine XS.iconst X5.here hx rfl (hb hby at_130) ?_
  show Steps p.tables e below (T5.setTop (mkF m 131 #[.val (.int p0), .val (.int p1), .val (.int (4 : Int32)), .val (.ref w_TIMED_OUT), .val (.int (1 : Int32)), .val (.int (2 : Int32)), .val (.ref w_TIMED_OUTx)] [(.int (1 : Int32))])) _
  refine XS.goto X5.here hx rfl (pc0 := 131) (pc' := 135) rfl (hb hby at_131) (by decide) (by decide) ?_
  show Steps p.tables e below (T5.setTop (mkF m 135 #[.val (.int p0), .val (.int p1), .val (.int (4 : Int32)), .val (.ref w_TIMED_OUT), .val (.int (1 : Int32)), .val (.int (2 : Int32)), .val (.ref w_TIMED_OUTx)] [(.int (1 : Int32))])) _
  exact retN X5 hx (t := .boolean) Bd.returns (by simp) (hb hby at_135) hr
theorem rm0 (l : Launch) (Z : State) (a0 : Array Value) (hw : ∀ d ∈ tables_1, d.before a0 Z = true) (ws : List Jvm.Cond) (w_NEW w_FINISHED w_sm w_FINISHEDx w_RUNNING w_TIMED_OUT w_FAILED w_FAILEDx w_TIMED_OUTx : Addr) (h0 : Heap) (n0 : Nat) (Z0 : n0 ≤ h0.size) (S : SF Z h0 w_NEW w_FINISHED w_sm w_FINISHEDx w_RUNNING w_TIMED_OUT w_FAILED w_FAILEDx w_TIMED_OUTx) (p0 : Int32) (p1 : Int32) :
    Pay l Z x ws code maxLocals ret #[(.int p0), (.int p1)] h0 n0 room_1 (some (.int (1 : Int32))) := by
  rcases own_mod5 p0 with hk | hk | hk | hk | hk
  · rcases own_mod3 p1 with hj | hj | hj
    · exact rm0_0 l Z a0 hw ws w_NEW w_FINISHED w_sm w_FINISHEDx w_RUNNING w_TIMED_OUT w_FAILED w_FAILEDx w_TIMED_OUTx h0 n0 Z0 S p0 p1 hk hj
    · exact rm0_1 l Z a0 hw ws w_NEW w_FINISHED w_sm w_FINISHEDx w_RUNNING w_TIMED_OUT w_FAILED w_FAILEDx w_TIMED_OUTx h0 n0 Z0 S p0 p1 hk hj
    · exact rm0_2 l Z a0 hw ws w_NEW w_FINISHED w_sm w_FINISHEDx w_RUNNING w_TIMED_OUT w_FAILED w_FAILEDx w_TIMED_OUTx h0 n0 Z0 S p0 p1 hk hj
  · rcases own_mod3 p1 with hj | hj | hj
    · exact rm0_3 l Z a0 hw ws w_NEW w_FINISHED w_sm w_FINISHEDx w_RUNNING w_TIMED_OUT w_FAILED w_FAILEDx w_TIMED_OUTx h0 n0 Z0 S p0 p1 hk hj
    · exact rm0_4 l Z a0 hw ws w_NEW w_FINISHED w_sm w_FINISHEDx w_RUNNING w_TIMED_OUT w_FAILED w_FAILEDx w_TIMED_OUTx h0 n0 Z0 S p0 p1 hk hj
    · exact rm0_5 l Z a0 hw ws w_NEW w_FINISHED w_sm w_FINISHEDx w_RUNNING w_TIMED_OUT w_FAILED w_FAILEDx w_TIMED_OUTx h0 n0 Z0 S p0 p1 hk hj
  · rcases own_mod3 p1 with hj | hj | hj
    · exact rm0_6 l Z a0 hw ws w_NEW w_FINISHED w_sm w_FINISHEDx w_RUNNING w_TIMED_OUT w_FAILED w_FAILEDx w_TIMED_OUTx h0 n0 Z0 S p0 p1 hk hj
    · exact rm0_7 l Z a0 hw ws w_NEW w_FINISHED w_sm w_FINISHEDx w_RUNNING w_TIMED_OUT w_FAILED w_FAILEDx w_TIMED_OUTx h0 n0 Z0 S p0 p1 hk hj
    · exact rm0_8 l Z a0 hw ws w_NEW w_FINISHED w_sm w_FINISHEDx w_RUNNING w_TIMED_OUT w_FAILED w_FAILEDx w_TIMED_OUTx h0 n0 Z0 S p0 p1 hk hj
  · rcases own_mod3 p1 with hj | hj | hj
    · exact rm0_9 l Z a0 hw ws w_NEW w_FINISHED w_sm w_FINISHEDx w_RUNNING w_TIMED_OUT w_FAILED w_FAILEDx w_TIMED_OUTx h0 n0 Z0 S p0 p1 hk hj
    · exact rm0_10 l Z a0 hw ws w_NEW w_FINISHED w_sm w_FINISHEDx w_RUNNING w_TIMED_OUT w_FAILED w_FAILEDx w_TIMED_OUTx h0 n0 Z0 S p0 p1 hk hj
    · exact rm0_11 l Z a0 hw ws w_NEW w_FINISHED w_sm w_FINISHEDx w_RUNNING w_TIMED_OUT w_FAILED w_FAILEDx w_TIMED_OUTx h0 n0 Z0 S p0 p1 hk hj
  · rcases own_mod3 p1 with hj | hj | hj
    · exact rm0_12 l Z a0 hw ws w_NEW w_FINISHED w_sm w_FINISHEDx w_RUNNING w_TIMED_OUT w_FAILED w_FAILEDx w_TIMED_OUTx h0 n0 Z0 S p0 p1 hk hj
    · exact rm0_13 l Z a0 hw ws w_NEW w_FINISHED w_sm w_FINISHEDx w_RUNNING w_TIMED_OUT w_FAILED w_FAILEDx w_TIMED_OUTx h0 n0 Z0 S p0 p1 hk hj
    · exact rm0_14 l Z a0 hw ws w_NEW w_FINISHED w_sm w_FINISHEDx w_RUNNING w_TIMED_OUT w_FAILED w_FAILEDx w_TIMED_OUTx h0 n0 Z0 S p0 p1 hk hj
set_option maxRecDepth 65536 in
set_option maxHeartbeats 40000000 in
theorem comes_1 {Post : Tables → Env → Array Value → State → Outcome → State → Prop} (hpost : ∀ tb e args s v u, (limb_1_1.after args s (.returned v) u = true ∧ limb_1_2.after args s (.returned v) u = true ∧ True) → FrameEnd s (.returned v) u (Jvm.fieldLocs frame_1_writes args s ++ Jvm.arrayLocs frame_1_arrays args s ++ Jvm.staticLocs frame_1_statics s) 0 0 → Post tb e args s (.returned v) u) :
    ArmFor flags0 classFile x code maxLocals ret World_1 tables_1 room_1 Calls_1 rest_1 Pre_1 Post := by
  intro l hfl _ _ p e ha hc hk s m args below hf hA hF happ hP
  obtain ⟨hcalls, hrest, hpre⟩ := hP
  obtain ⟨-, -, -, hnamed, -, -, -, hat⟩ := (Spec.applies_iff hf).mp happ
  obtain ⟨hg, hn⟩ := and_e (Cond.before_iff.mp (show (Jvm.Cond.and given_1 narrow_1).before args s = true from hpre))
  obtain ⟨g0, gr0⟩ := and_e hg
  obtain ⟨g1, gr1⟩ := and_e gr0
  obtain ⟨v0, v1, rfl⟩ : ∃ v0 v1 : Value, args = #[v0, v1] := by
    have hs : args.size = 2 := by simpa [Cond.value, given_1] using g0
    obtain ⟨L⟩ := args
    match L, hs with
    | [v0, v1], _ => exact ⟨v0, v1, rfl⟩
  have hw := fun d (hd : d ∈ tables_1) => atoms_spec (ws := Jvm.Cond.code x code maxLocals ret :: tables_1) hat d (List.mem_cons_of_mem _ hd)
  have hfit : Fit s := fun {y c} hc i hi => by
    obtain ⟨ha, rfl⟩ := Array.getElem?_eq_some_iff.mp hc
    have q := List.all_eq_true.mp ((Array.all_eq_true_iff_forall_mem.mp hF) _ (Array.getElem_mem ha)) i (List.mem_range.mpr hi)
    simpa [Array.getElem?_eq_getElem hi] using q
  obtain ⟨i0, ei0⟩ := is_v g1
  obtain rfl : v0 = (.int i0) := Option.some.inj ei0
  obtain ⟨i1, ei1⟩ := is_v gr1
  obtain rfl : v1 = (.int i1) := Option.some.inj ei1
  obtain ⟨n0, nr0⟩ := and_e hn
  obtain ⟨n1, nr1⟩ := and_e nr0
  obtain ⟨n2, nr2⟩ := and_e nr1
  obtain ⟨n3, nr3⟩ := and_e nr2
  obtain ⟨n4, nr4⟩ := and_e nr3
  obtain ⟨n5, nr5⟩ := and_e nr4
  obtain ⟨n6, nr6⟩ := and_e nr5
  obtain ⟨n7, nr7⟩ := and_e nr6
  obtain ⟨n8, nr8⟩ := and_e nr7
  obtain ⟨n9, nr9⟩ := and_e nr8
  obtain ⟨n10, nr10⟩ := and_e nr9
  obtain ⟨n11, nr11⟩ := and_e nr10
  obtain ⟨n12, nr12⟩ := and_e nr11
  obtain ⟨n13, nr13⟩ := and_e nr12
  obtain ⟨n14, nr14⟩ := and_e nr13
  obtain ⟨n15, nr15⟩ := and_e nr14
  obtain ⟨n16, nr16⟩ := and_e nr15
  obtain ⟨n17, nr17⟩ := and_e nr16
  obtain ⟨n18, nr18⟩ := and_e nr17
  obtain ⟨n19, nr19⟩ := and_e nr18
  obtain ⟨w_NEW, ev_w_NEW⟩ := exa_v n0
  have S_w_NEW := Sta.start ev_w_NEW (Or.inr ⟨(hw _ (List.mem_of_getElem? (i := 2) rfl)), (hw _ (List.mem_of_getElem? (i := 3) rfl))⟩)
  have E_w_NEW := Exa.start ev_w_NEW n0
  obtain ⟨w_FINISHED, ev_w_FINISHED⟩ := exa_v n1
  have S_w_FINISHED := Sta.start ev_w_FINISHED (Or.inr ⟨(hw _ (List.mem_of_getElem? (i := 5) rfl)), (hw _ (List.mem_of_getElem? (i := 6) rfl))⟩)
  have E_w_FINISHED := Exa.start ev_w_FINISHED n1
  obtain ⟨w_sm, ev_w_sm⟩ := arr_v n2
  have S_w_sm := Sta.start ev_w_sm (Or.inr ⟨(hw _ (List.mem_of_getElem? (i := 17) rfl)), (hw _ (List.mem_of_getElem? (i := 18) rfl))⟩)
  obtain ⟨cl_w_sm, Ar_w_sm⟩ := Arr.start ev_w_sm n2
  obtain ⟨w_FINISHEDx, ev_w_FINISHEDx⟩ := exa_v n6
  have S_w_FINISHEDx := Sta.start ev_w_FINISHEDx (Or.inr ⟨(hw _ (List.mem_of_getElem? (i := 2) rfl)), (hw _ (List.mem_of_getElem? (i := 29) rfl))⟩)
  have E_w_FINISHEDx := Exa.start ev_w_FINISHEDx n6
  obtain ⟨w_RUNNING, ev_w_RUNNING⟩ := exa_v n9
  have S_w_RUNNING := Sta.start ev_w_RUNNING (Or.inr ⟨(hw _ (List.mem_of_getElem? (i := 2) rfl)), (hw _ (List.mem_of_getElem? (i := 31) rfl))⟩)
  have E_w_RUNNING := Exa.start ev_w_RUNNING n9
  obtain ⟨w_TIMED_OUT, ev_w_TIMED_OUT⟩ := exa_v n11
  have S_w_TIMED_OUT := Sta.start ev_w_TIMED_OUT (Or.inr ⟨(hw _ (List.mem_of_getElem? (i := 2) rfl)), (hw _ (List.mem_of_getElem? (i := 33) rfl))⟩)
  have E_w_TIMED_OUT := Exa.start ev_w_TIMED_OUT n11
  obtain ⟨w_FAILED, ev_w_FAILED⟩ := exa_v n12
  have S_w_FAILED := Sta.start ev_w_FAILED (Or.inr ⟨(hw _ (List.mem_of_getElem? (i := 5) rfl)), (hw _ (List.mem_of_getElem? (i := 35) rfl))⟩)
  have E_w_FAILED := Exa.start ev_w_FAILED n12
  obtain ⟨w_FAILEDx, ev_w_FAILEDx⟩ := exa_v n16
  have S_w_FAILEDx := Sta.start ev_w_FAILEDx (Or.inr ⟨(hw _ (List.mem_of_getElem? (i := 2) rfl)), (hw _ (List.mem_of_getElem? (i := 37) rfl))⟩)
  have E_w_FAILEDx := Exa.start ev_w_FAILEDx n16
  obtain ⟨w_TIMED_OUTx, ev_w_TIMED_OUTx⟩ := exa_v n18
  have S_w_TIMED_OUTx := Sta.start ev_w_TIMED_OUTx (Or.inr ⟨(hw _ (List.mem_of_getElem? (i := 5) rfl)), (hw _ (List.mem_of_getElem? (i := 40) rfl))⟩)
  have E_w_TIMED_OUTx := Exa.start ev_w_TIMED_OUTx n18
  have F_ordinal_w_FINISHED := Fld.start ((fld_at ev_w_FINISHED).symm.trans (own_eqI n4))
  have F_ordinal_w_FINISHEDx := Fld.start ((fld_at ev_w_FINISHEDx).symm.trans (own_eqI n7))
  have F_ordinal_w_NEW := Fld.start ((fld_at ev_w_NEW).symm.trans (own_eqI n8))
  have F_ordinal_w_RUNNING := Fld.start ((fld_at ev_w_RUNNING).symm.trans (own_eqI n10))
  have F_ordinal_w_TIMED_OUT := Fld.start ((fld_at ev_w_TIMED_OUT).symm.trans (own_eqI n13))
  have F_ordinal_w_FAILED := Fld.start ((fld_at ev_w_FAILED).symm.trans (own_eqI n14))
  have F_ordinal_w_FAILEDx := Fld.start ((fld_at ev_w_FAILEDx).symm.trans (own_eqI n17))
  have F_ordinal_w_TIMED_OUTx := Fld.start ((fld_at ev_w_TIMED_OUTx).symm.trans (own_eqI n19))
  have V_w_sm : ∃ kk : ClassId, Arv s s.heap w_sm kk .int (3 : Int32) [(.int (1 : Int32)), (.int (2 : Int32)), (.int (3 : Int32))] (.int (0 : Int32)) := ⟨_, own_arvStart hfit ev_w_sm Ar_w_sm (own_eqI n3) (by decide) rfl ⟨(elem_in (own_eqI n5) ev_w_sm rfl Ar_w_sm.1).2, (elem_in (own_eqI n15) ev_w_sm rfl Ar_w_sm.1).2, (elem_in (own_eqI nr19) ev_w_sm rfl Ar_w_sm.1).2, trivial⟩⟩
  have hne_w_NEW_w_FINISHEDx := F_ordinal_w_NEW.ne F_ordinal_w_FINISHEDx (by decide)
  have hne_w_NEW_w_RUNNING := F_ordinal_w_NEW.ne F_ordinal_w_RUNNING (by decide)
  have hne_w_NEW_w_TIMED_OUT := F_ordinal_w_NEW.ne F_ordinal_w_TIMED_OUT (by decide)
  have hne_w_NEW_w_FAILEDx := F_ordinal_w_NEW.ne F_ordinal_w_FAILEDx (by decide)
  have hne_w_FINISHED_w_FAILED := F_ordinal_w_FINISHED.ne F_ordinal_w_FAILED (by decide)
  have hne_w_FINISHED_w_TIMED_OUTx := F_ordinal_w_FINISHED.ne F_ordinal_w_TIMED_OUTx (by decide)
  have hne_w_FINISHEDx_w_RUNNING := F_ordinal_w_FINISHEDx.ne F_ordinal_w_RUNNING (by decide)
  have hne_w_FINISHEDx_w_TIMED_OUT := F_ordinal_w_FINISHEDx.ne F_ordinal_w_TIMED_OUT (by decide)
  have hne_w_FINISHEDx_w_FAILEDx := F_ordinal_w_FINISHEDx.ne F_ordinal_w_FAILEDx (by decide)
  have hne_w_RUNNING_w_TIMED_OUT := F_ordinal_w_RUNNING.ne F_ordinal_w_TIMED_OUT (by decide)
  have hne_w_RUNNING_w_FAILEDx := F_ordinal_w_RUNNING.ne F_ordinal_w_FAILEDx (by decide)
  have hne_w_TIMED_OUT_w_FAILEDx := F_ordinal_w_TIMED_OUT.ne F_ordinal_w_FAILEDx (by decide)
  have hne_w_FAILED_w_TIMED_OUTx := F_ordinal_w_FAILED.ne F_ordinal_w_TIMED_OUTx (by decide)
  obtain ⟨n, o, h1, h2, h3, _, L, rfl, ⟨rfl, N, -⟩, hq⟩ := rm0 l s _ hw tables_1 w_NEW w_FINISHED w_sm w_FINISHEDx w_RUNNING w_TIMED_OUT w_FAILED w_FAILEDx w_TIMED_OUTx s.heap s.heap.size (Nat.le_refl _) ⟨S_w_NEW, E_w_NEW, S_w_FINISHED, E_w_FINISHED, S_w_sm, V_w_sm, S_w_FINISHEDx, E_w_FINISHEDx, S_w_RUNNING, E_w_RUNNING, S_w_TIMED_OUT, E_w_TIMED_OUT, S_w_FAILED, E_w_FAILED, S_w_FAILEDx, E_w_FAILEDx, S_w_TIMED_OUTx, E_w_TIMED_OUTx, F_ordinal_w_FINISHED, F_ordinal_w_FINISHEDx, F_ordinal_w_NEW, F_ordinal_w_RUNNING, F_ordinal_w_TIMED_OUT, F_ordinal_w_FAILED, F_ordinal_w_FAILEDx, F_ordinal_w_TIMED_OUTx, hne_w_NEW_w_FINISHEDx, hne_w_NEW_w_RUNNING, hne_w_NEW_w_TIMED_OUT, hne_w_NEW_w_FAILEDx, hne_w_FINISHED_w_FAILED, hne_w_FINISHED_w_TIMED_OUTx, hne_w_FINISHEDx_w_RUNNING, hne_w_FINISHEDx_w_TIMED_OUT, hne_w_FINISHEDx_w_FAILEDx, hne_w_RUNNING_w_TIMED_OUT, hne_w_RUNNING_w_FAILEDx, hne_w_TIMED_OUT_w_FAILEDx, hne_w_FAILED_w_TIMED_OUTx⟩ i0 i1 p e ha hc hk s m _ below hf ((Spec.applies_iff_loose hf).mp happ).1 ⟨rfl, State.Warmed39.refl s, rfl⟩ trivial
  refine ⟨n, _, h1, h2, h3, hpost _ _ _ _ _ _ ⟨Cond.after_iff.mpr rfl, Cond.after_iff.mpr (eq_i res_at (Term.int_eval (1)) rfl), trivial⟩ ⟨hq.1, hq.2.1, (hq.2.2.sift fun y hy => Or.inr (N y hy)).mono (by decide) (by decide)⟩⟩
theorem main_1_1 : Claimed_1_1 := comes_1 fun _ _ _ _ _ _ h hF => ⟨h.1, hF⟩
theorem main_1_2 : Claimed_1_2 := comes_1 fun _ _ _ _ _ _ h hF => ⟨h.2.1, hF⟩
end Jvm.Pilot.@@N@@
namespace Jvm.Pilot.@@N@@
open Jvm Jvm.ClassFile Sem Op Lib Jvm.Free Jvm.Stand Jvm.Pilot.@@N@@.Jvm.D
/-! MADE BY PROGRAM (witnessworld.py) out of the Statement's table words and the real class files: 14 classes; the members and pool entries that the words name. The judged class is class 1, her method 1. -/
namespace start1
open Jvm.ClassFile
def u (s : String) : CpInfo := .utf8 (stringToUtf16 s)
/-- a pool by its gaps: so many unusable entries, then the entry; so many at the end -/
def gap : Nat → List CpInfo → List CpInfo
  | 0, r => r
  | n + 1, r => .unusable :: gap n r
def poolList (es : List (Nat × CpInfo)) (last : Nat) : List CpInfo := es.foldr (fun e r => gap e.1 (e.2 :: r)) (gap last [])
def pool (es : List (Nat × CpInfo)) (last : Nat) : Array CpInfo := ⟨poolList es last⟩
def fileOf (pool : Array CpInfo) (this : Nat) (attrs : Array Attribute := #[]) (ms : Array MethodInfo := #[]) (fl : Nat := 33) (sup : Nat := 0) (ifs : Array Nat := #[]) (fds : Array FieldInfo := #[]) : ClassFile where
  minorVersion := 0
  majorVersion := 65
  constantPool := pool
  accessFlags := fl
  thisClass := this
  superClass := sup
  interfaces := ifs
  fields := fds
  methods := ms
  attributes := attrs
def plain (name : String) (sup : Option ClassId) : Class where
  name := name
  kind := .ordinary
  loader := none
  accessFlags := 33
  super := sup
  interfaces := #[]
  cf := none
  fields := #[]
  methods := #[]
  instanceTypes := #[]
  staticTypes := #[]
  resolved := #[]
  callSites := []
  init := .initialized
  statics := none
  mirror := none

def pool0 : Array CpInfo := pool [(5, u "<init>"), (0, u "()V"), (1, .class_ 10), (1, u "java/lang/Object")] 113

def k0m0 : Method := { name := "<init>", desc := "()V", sig := { parameters := [], returnType := none }, accessFlags := 1, code := none }
/-- java/lang/Object -/
def k0 : Class := { plain "java/lang/Object" none with
  accessFlags := 33
  interfaces := #[]
  cf := some (fileOf pool0 8 #[] #[{ accessFlags := 1, nameIndex := 5, descriptorIndex := 6, attributes := #[] }] 33 0 #[] #[])
  fields := #[]
  methods := #[k0m0]
  instanceTypes := #[]
  staticTypes := #[]
  resolved := Array.replicate 124 none
  statics := none }

def pool1 : Array CpInfo := pool [(2, .class_ 4), (1, u "java/lang/Object"), (0, u "<init>"), (0, u "()V"), (0, .integer 2147483647), (0, .fieldref 9 10), (0, .class_ 11), (0, .nameAndType 12 13), (0, u "com/example/bowline/bowline/server/RunState"), (0, u "NEW"), (0, u "Lcom/example/bowline/bowline/server/RunState;"), (0, .fieldref 9 15), (0, .nameAndType 16 13), (0, u "RUNNING"), (0, .fieldref 9 18), (0, .nameAndType 19 13), (0, u "FINISHED"), (0, .fieldref 9 21), (0, .nameAndType 22 13), (0, u "FAILED"), (0, .fieldref 9 24), (0, .nameAndType 25 13), (0, u "TIMED_OUT"), (0, .fieldref 27 28), (0, .class_ 29), (0, .nameAndType 19 30), (0, u "com/example/bowline/bowline/runtime/Status"), (0, u "Lcom/example/bowline/bowline/runtime/Status;"), (0, .fieldref 27 32), (0, .nameAndType 22 30), (0, .fieldref 27 34), (0, .nameAndType 25 30), (0, .methodref 9 36), (0, .nameAndType 37 38), (0, u "ended"), (0, u "()Z"), (0, .methodref 9 40), (0, .nameAndType 41 42), (0, u "of"), (0, u "(Lcom/example/bowline/bowline/runtime/Status;)Lcom/example/bowline/bowline/server/RunState;"), (0, .class_ 44), (0, u "com/example/bowline/bowline/server/RunStateEndedPinLaw"), (2, u "law"), (0, u "(II)Z")] 3

def k1m0 : Method := { name := "<init>", desc := "()V", sig := { parameters := [], returnType := none }, accessFlags := 1, code := none }
def k1c1 : Code := { maxStack := 2, maxLocals := 7, code := code, exceptionTable := #[], attributes := #[] }
def k1m1 : Method := { name := "law", desc := "(II)Z", sig := { parameters := [.int, .int], returnType := some .boolean }, accessFlags := 9, code := some k1c1 }
/-- com/example/bowline/bowline/server/RunStateEndedPinLaw -/
def k1 : Class := { plain "com/example/bowline/bowline/server/RunStateEndedPinLaw" (some 0) with
  accessFlags := 49
  interfaces := #[]
  cf := some (fileOf pool1 43 #[] #[{ accessFlags := 1, nameIndex := 5, descriptorIndex := 6, attributes := #[] }, { accessFlags := 9, nameIndex := 47, descriptorIndex := 48, attributes := #[] }] 49 2 #[] #[])
  fields := #[]
  methods := #[k1m0, k1m1]
  instanceTypes := #[]
  staticTypes := #[]
  resolved := Array.replicate 52 none
  statics := none }

def pool2 : Array CpInfo := pool [(1, .class_ 2), (0, u "java/lang/constant/Constable"), (0, .class_ 4), (0, u "java/lang/Object")] 6

/-- java/lang/constant/Constable -/
def k2 : Class := { plain "java/lang/constant/Constable" (some 0) with
  accessFlags := 1537
  interfaces := #[]
  cf := some (fileOf pool2 1 #[] #[] 1537 3 #[] #[])
  fields := #[]
  methods := #[]
  instanceTypes := #[]
  staticTypes := #[]
  resolved := Array.replicate 11 none
  statics := none }

def pool3 : Array CpInfo := pool [(1, .class_ 2), (0, u "java/lang/Comparable"), (0, .class_ 4), (0, u "java/lang/Object")] 7

/-- java/lang/Comparable -/
def k3 : Class := { plain "java/lang/Comparable" (some 0) with
  accessFlags := 1537
  interfaces := #[]
  cf := some (fileOf pool3 1 #[] #[] 1537 3 #[] #[])
  fields := #[]
  methods := #[]
  instanceTypes := #[]
  staticTypes := #[]
  resolved := Array.replicate 12 none
  statics := none }

def pool4 : Array CpInfo := pool [(1, .class_ 2), (0, u "java/io/Serializable"), (0, .class_ 4), (0, u "java/lang/Object")] 2

/-- java/io/Serializable -/
def k4 : Class := { plain "java/io/Serializable" (some 0) with
  accessFlags := 1537
  interfaces := #[]
  cf := some (fileOf pool4 1 #[] #[] 1537 3 #[] #[])
  fields := #[]
  methods := #[]
  instanceTypes := #[]
  staticTypes := #[]
  resolved := Array.replicate 7 none
  statics := none }

def pool5 : Array CpInfo := pool [(2, .class_ 4), (1, u "java/lang/Enum"), (0, u "name"), (0, u "Ljava/lang/String;"), (0, .fieldref 2 8), (0, .nameAndType 9 10), (0, u "ordinal"), (0, u "I"), (1, .class_ 14), (1, u "java/lang/Object"), (4, u "hash"), (86, .class_ 108), (1, u "java/lang/Enum$EnumDesc"), (2, .class_ 112), (0, u "java/lang/constant/Constable"), (0, .class_ 114), (0, u "java/lang/Comparable"), (0, .class_ 116), (0, u "java/io/Serializable"), (9, u "()I")] 77

def k5c0 : Code := { maxStack := 1, maxLocals := 1, code := jdk_37_method_2_code, exceptionTable := #[], attributes := #[] }
def k5m0 : Method := { name := "ordinal", desc := "()I", sig := { parameters := [], returnType := some .int }, accessFlags := 17, code := some k5c0 }
/-- java/lang/Enum -/
def k5 : Class := { plain "java/lang/Enum" (some 0) with
  accessFlags := 1057
  interfaces := #[2, 3, 4]
  cf := some (fileOf pool5 2 #[.nestMembers #[106]] #[{ accessFlags := 17, nameIndex := 9, descriptorIndex := 126, attributes := #[] }] 1057 12 #[111, 113, 115] #[{ accessFlags := 18, nameIndex := 5, descriptorIndex := 6, attributes := #[] }, { accessFlags := 18, nameIndex := 9, descriptorIndex := 10, attributes := #[] }, { accessFlags := 2, nameIndex := 19, descriptorIndex := 10, attributes := #[] }])
  fields := #[{ name := "name", type := (.object "java/lang/String"), accessFlags := 18, slot := 0, constantValue := 0 }, { name := "ordinal", type := .int, accessFlags := 18, slot := 1, constantValue := 0 }, { name := "hash", type := .int, accessFlags := 2, slot := 2, constantValue := 0 }]
  methods := #[k5m0]
  instanceTypes := #[(.object "java/lang/String"), .int, .int]
  staticTypes := #[]
  resolved := Array.replicate 204 none
  statics := none }

def pool6 : Array CpInfo := pool [(1, .class_ 2), (0, u "com/example/bowline/bowline/server/RunState"), (0, .fieldref 1 4), (0, .nameAndType 5 6), (0, u "NEW"), (0, u "Lcom/example/bowline/bowline/server/RunState;"), (0, .fieldref 1 8), (0, .nameAndType 9 6), (0, u "RUNNING"), (0, .fieldref 1 11), (0, .nameAndType 12 6), (0, u "FINISHED"), (0, .fieldref 1 14), (0, .nameAndType 15 6), (0, u "FAILED"), (0, .fieldref 1 17), (0, .nameAndType 18 6), (0, u "TIMED_OUT"), (2, u "$VALUES"), (0, u "[Lcom/example/bowline/bowline/server/RunState;"), (6, .class_ 31), (1, u "java/lang/Enum"), (6, .fieldref 39 40), (0, .class_ 41), (0, .nameAndType 42 43), (0, u "com/example/bowline/bowline/server/RunState$1"), (0, u "$SwitchMap$com$example$bowline$bowline$runtime$Status"), (0, u "[I"), (0, .methodref 45 46), (0, .class_ 47), (0, .nameAndType 48 49), (0, u "com/example/bowline/bowline/runtime/Status"), (0, u "ordinal"), (0, u "()I"), (22, u "of"), (0, u "(Lcom/example/bowline/bowline/runtime/Status;)Lcom/example/bowline/bowline/server/RunState;"), (1, u "ended"), (0, u "()Z")] 6

def k6c0 : Code := { maxStack := 4, maxLocals := 1, code := prog_30_method_4_code, exceptionTable := #[], attributes := #[] }
def k6m0 : Method := { name := "of", desc := "(Lcom/example/bowline/bowline/runtime/Status;)Lcom/example/bowline/bowline/server/RunState;", sig := { parameters := [(.object "com/example/bowline/bowline/runtime/Status")], returnType := some (.object "com/example/bowline/bowline/server/RunState") }, accessFlags := 8, code := some k6c0 }
def k6c1 : Code := { maxStack := 2, maxLocals := 1, code := prog_30_method_5_code, exceptionTable := #[], attributes := #[] }
def k6m1 : Method := { name := "ended", desc := "()Z", sig := { parameters := [], returnType := some .boolean }, accessFlags := 0, code := some k6c1 }
/-- com/example/bowline/bowline/server/RunState -/
def k6 : Class := { plain "com/example/bowline/bowline/server/RunState" (some 5) with
  accessFlags := 16432
  interfaces := #[]
  cf := some (fileOf pool6 1 #[.nestMembers #[39]] #[{ accessFlags := 8, nameIndex := 72, descriptorIndex := 73, attributes := #[] }, { accessFlags := 0, nameIndex := 75, descriptorIndex := 76, attributes := #[] }] 16432 29 #[] #[{ accessFlags := 16409, nameIndex := 5, descriptorIndex := 6, attributes := #[] }, { accessFlags := 16409, nameIndex := 9, descriptorIndex := 6, attributes := #[] }, { accessFlags := 16409, nameIndex := 12, descriptorIndex := 6, attributes := #[] }, { accessFlags := 16409, nameIndex := 15, descriptorIndex := 6, attributes := #[] }, { accessFlags := 16409, nameIndex := 18, descriptorIndex := 6, attributes := #[] }, { accessFlags := 4122, nameIndex := 21, descriptorIndex := 22, attributes := #[] }])
  fields := #[{ name := "NEW", type := (.object "com/example/bowline/bowline/server/RunState"), accessFlags := 16409, slot := 0, constantValue := 0 }, { name := "RUNNING", type := (.object "com/example/bowline/bowline/server/RunState"), accessFlags := 16409, slot := 1, constantValue := 0 }, { name := "FINISHED", type := (.object "com/example/bowline/bowline/server/RunState"), accessFlags := 16409, slot := 2, constantValue := 0 }, { name := "FAILED", type := (.object "com/example/bowline/bowline/server/RunState"), accessFlags := 16409, slot := 3, constantValue := 0 }, { name := "TIMED_OUT", type := (.object "com/example/bowline/bowline/server/RunState"), accessFlags := 16409, slot := 4, constantValue := 0 }, { name := "$VALUES", type := (.array (.object "com/example/bowline/bowline/server/RunState")), accessFlags := 4122, slot := 5, constantValue := 0 }]
  methods := #[k6m0, k6m1]
  instanceTypes := #[(.object "java/lang/String"), .int, .int]
  staticTypes := #[(.object "com/example/bowline/bowline/server/RunState"), (.object "com/example/bowline/bowline/server/RunState"), (.object "com/example/bowline/bowline/server/RunState"), (.object "com/example/bowline/bowline/server/RunState"), (.object "com/example/bowline/bowline/server/RunState"), (.array (.object "com/example/bowline/bowline/server/RunState"))]
  resolved := Array.replicate 83 none
  statics := some 0 }

def pool7 : Array CpInfo := pool [(1, .class_ 2), (0, u "com/example/bowline/bowline/runtime/Status"), (2, u "FINISHED"), (0, u "Lcom/example/bowline/bowline/runtime/Status;"), (2, u "FAILED"), (2, u "TIMED_OUT"), (2, u "$VALUES"), (0, u "[Lcom/example/bowline/bowline/runtime/Status;"), (6, .class_ 25), (1, u "java/lang/Enum")] 25

/-- com/example/bowline/bowline/runtime/Status -/
def k7 : Class := { plain "com/example/bowline/bowline/runtime/Status" (some 5) with
  accessFlags := 16433
  interfaces := #[]
  cf := some (fileOf pool7 1 #[] #[] 16433 23 #[] #[{ accessFlags := 16409, nameIndex := 5, descriptorIndex := 6, attributes := #[] }, { accessFlags := 16409, nameIndex := 9, descriptorIndex := 6, attributes := #[] }, { accessFlags := 16409, nameIndex := 12, descriptorIndex := 6, attributes := #[] }, { accessFlags := 4122, nameIndex := 15, descriptorIndex := 16, attributes := #[] }])
  fields := #[{ name := "FINISHED", type := (.object "com/example/bowline/bowline/runtime/Status"), accessFlags := 16409, slot := 0, constantValue := 0 }, { name := "FAILED", type := (.object "com/example/bowline/bowline/runtime/Status"), accessFlags := 16409, slot := 1, constantValue := 0 }, { name := "TIMED_OUT", type := (.object "com/example/bowline/bowline/runtime/Status"), accessFlags := 16409, slot := 2, constantValue := 0 }, { name := "$VALUES", type := (.array (.object "com/example/bowline/bowline/runtime/Status")), accessFlags := 4122, slot := 3, constantValue := 0 }]
  methods := #[]
  instanceTypes := #[(.object "java/lang/String"), .int, .int]
  staticTypes := #[(.object "com/example/bowline/bowline/runtime/Status"), (.object "com/example/bowline/bowline/runtime/Status"), (.object "com/example/bowline/bowline/runtime/Status"), (.array (.object "com/example/bowline/bowline/runtime/Status"))]
  resolved := Array.replicate 51 none
  statics := some 1 }

def pool8 : Array CpInfo := pool [(8, .class_ 10), (1, u "com/example/bowline/bowline/server/RunState$1"), (0, u "$SwitchMap$com$example$bowline$bowline$runtime$Status"), (0, u "[I"), (16, .class_ 30), (0, u "java/lang/Object"), (8, .class_ 40), (0, u "com/example/bowline/bowline/server/RunState")] 2

/-- com/example/bowline/bowline/server/RunState$1 -/
def k8 : Class := { plain "com/example/bowline/bowline/server/RunState$1" (some 0) with
  accessFlags := 4128
  interfaces := #[]
  cf := some (fileOf pool8 8 #[.nestHost 39] #[] 4128 29 #[] #[{ accessFlags := 4120, nameIndex := 11, descriptorIndex := 12, attributes := #[] }])
  fields := #[{ name := "$SwitchMap$com$example$bowline$bowline$runtime$Status", type := (.array .int), accessFlags := 4120, slot := 0, constantValue := 0 }]
  methods := #[]
  instanceTypes := #[]
  staticTypes := #[(.array .int)]
  resolved := Array.replicate 43 none
  statics := some 2 }

def pool9 : Array CpInfo := pool [(1, u "java/lang/Cloneable"), (0, .class_ 1), (0, u "java/lang/Object"), (0, .class_ 3)] 3

/-- java/lang/Cloneable -/
def k9 : Class := { plain "java/lang/Cloneable" (some 0) with
  accessFlags := 1537
  interfaces := #[]
  cf := some (fileOf pool9 2 #[] #[] 1537 4 #[] #[])
  fields := #[]
  methods := #[]
  instanceTypes := #[]
  staticTypes := #[]
  resolved := Array.replicate 8 none
  statics := none }

/-- the primitive byte -/
def k10 : Class := { plain "byte" none with kind := .primitive 'B', accessFlags := 0x411 }
/-- [B -/
def k11 : Class := { plain "[B" (some 0) with kind := .array 10 .byte, interfaces := #[9, 4], accessFlags := 1041 }

/-- the primitive int -/
def k12 : Class := { plain "int" none with kind := .primitive 'I', accessFlags := 0x411 }
/-- [I -/
def k13 : Class := { plain "[I" (some 0) with kind := .array 12 .int, interfaces := #[9, 4], accessFlags := 1041 }

def heap : Heap := #[{ cls := 6, slots := #[.ref 3, .ref 7, .ref 6, .ref 10, .ref 8, .null], vm := .statics 6 },
  { cls := 7, slots := #[.ref 4, .ref 9, .ref 11, .null], vm := .statics 7 },
  { cls := 8, slots := #[.ref 5], vm := .statics 8 },
  { cls := 6, slots := #[.null, .int 0, .int 0], vm := .none },
  { cls := 7, slots := #[.null, .int 0, .int 0], vm := .none },
  { cls := 13, slots := #[.int 1, .int 2, .int 3], vm := .none },
  { cls := 6, slots := #[.null, .int 2, .int 0], vm := .none },
  { cls := 6, slots := #[.null, .int 1, .int 0], vm := .none },
  { cls := 6, slots := #[.null, .int 4, .int 0], vm := .none },
  { cls := 7, slots := #[.null, .int 1, .int 0], vm := .none },
  { cls := 6, slots := #[.null, .int 3, .int 0], vm := .none },
  { cls := 7, slots := #[.null, .int 2, .int 0], vm := .none }]
def classes : Array Class := #[k0, k1, k2, k3, k4, k5, k6, k7, k8, k9, k10, k11, k12, k13]
def interned : List (Array UInt16 × Addr) := []
def slotsUsed : Nat := 38
def theMethod : MethodId := ⟨1, 1⟩
def args0 : Array Value := #[.int 5, .int 5]
def aboutOver (below : List Frame) : State where
  vm := { classes := classes, interned := interned.toArray }
  heap := heap
  slotsUsed := slotsUsed
  threads := #[{ frames := .invoking theMethod args0 :: below }]
def below0 : List Frame := [.native { method := ⟨0, 0⟩, args := #[] }]
def about1 : State := aboutOver below0
def p0 : Program := .bare "" "" ""
def e0 : Env := launch0.env 0 0 0
theorem w_frames : about1.frames = Frame.invoking theMethod args0 :: below0 := rfl
set_option maxRecDepth 65536 in
theorem w_args : argsFit about1.vm theMethod args0 = true := by decide +kernel
set_option maxRecDepth 65536 in
theorem w_heap : heapFits about1 = true := by decide +kernel
set_option maxRecDepth 65536 in
theorem w_runnable : about1.curStatus? = some .runnable := by decide +kernel
set_option maxRecDepth 65536 in
theorem w_alone : about1.alone = true := by decide +kernel
set_option maxRecDepth 65536 in
theorem w_named : about1.methodNamed? x = some theMethod := by decide +kernel
set_option maxRecDepth 65536 in
theorem w_hears : about1.hears theMethod below0 = true := by decide +kernel
set_option maxRecDepth 65536 in
theorem w_ripe : about1.ripe theMethod args0 below0 = true := by decide +kernel
theorem w_running : about1.status = .running := rfl
set_option maxRecDepth 65536 in
theorem w_room : about1.hasRoom e0.platform room_1 = true :=
  launch0.hasRoom_least _ room_1 (by decide +kernel) (by decide +kernel) (by decide +kernel) (by decide +kernel) (by decide +kernel) (by decide +kernel)
theorem allAtoms_all (ts : List Jvm.Cond) (a : Array Jvm.Value) (st : Jvm.State) : (allAtoms ts).before a st = ts.all (fun c => c.before a st) := by
  induction ts with
  | nil => rfl
  | cons c t ih =>
    show (Jvm.Cond.and c (allAtoms t)).before a st = _
    rw [Jvm.Cond.before_and, ih, List.all_cons]
def words1 : List Jvm.Cond := Jvm.Cond.code x code maxLocals ret :: tables_1
/-- a 'code' word, met by the world's own term for the bytes: nothing is compared byte by byte -/
theorem code_word {y : MethodName} {bytes : ByteArray} {mx : Nat} {rt : Option FieldType} {a : Array Value} {s : State} {m : MethodId} {meth : Method} {c : Code} (h1 : s.methodNamed? y = some m) (h2 : s.vm.method? m = some meth) (h3 : meth.code = some c) (h4 : c.code = bytes)
    (h5 : (c.maxLocals == mx && c.exceptionTable.isEmpty && decide (c.maxStack ≤ mostOperands) && decide (meth.sig.returnType = rt) && !meth.locks && decide (parseMethodDescriptor y.desc = some meth.sig)) = true) : (Jvm.Cond.code y bytes mx rt).before a s = true := by
  simp only [Bool.and_eq_true, beq_iff_eq, Bool.not_eq_true', decide_eq_true_eq] at h5
  obtain ⟨⟨⟨⟨⟨g1, g2⟩, g3⟩, g4⟩, g5⟩, g6⟩ := h5
  simp [Cond.before, Cond.holds, Cond.value, h1, h2, h3, h4, g1, g2, g3, g4, g5, g6]
def isCode : Jvm.Cond → Bool
  | .code _ _ _ _ => true
  | _ => false
theorem all_split {L : List Jvm.Cond} {P : Jvm.Cond → Bool} (h1 : L.all (fun c => isCode c || P c) = true) (h2 : ∀ c ∈ L.filter isCode, P c = true) : L.all P = true := by
  refine List.all_eq_true.mpr fun c hc => ?_
  have h := List.all_eq_true.mp h1 c hc
  rcases Bool.eq_false_or_eq_true (isCode c) with hi | hi
  · exact h2 c (List.mem_filter.mpr ⟨hc, hi⟩)
  · simpa [hi] using h
set_option maxRecDepth 65536 in
theorem w_c0 : (Jvm.Cond.code x code maxLocals ret).before args0 about1 = true := code_word (m := ⟨1, 1⟩) (meth := k1m1) (c := k1c1) (by decide +kernel) rfl rfl rfl (by decide +kernel)
set_option maxRecDepth 65536 in
theorem w_c1 : (Jvm.Cond.code ({ cls := "com/example/bowline/bowline/server/RunState", name := "ended", desc := "()Z" } : Jvm.MethodName) prog_30_method_5_code (1 : Nat) (Option.some Jvm.ClassFile.FieldType.boolean)).before args0 about1 = true := code_word (m := ⟨6, 1⟩) (meth := k6m1) (c := k6c1) (by decide +kernel) rfl rfl rfl (by decide +kernel)
set_option maxRecDepth 65536 in
theorem w_c2 : (Jvm.Cond.code ({ cls := "com/example/bowline/bowline/server/RunState", name := "of", desc := "(Lcom/example/bowline/bowline/runtime/Status;)Lcom/example/bowline/bowline/server/RunState;" } : Jvm.MethodName) prog_30_method_4_code (1 : Nat) (Option.some (Jvm.ClassFile.FieldType.object "com/example/bowline/bowline/server/RunState"))).before args0 about1 = true := code_word (m := ⟨6, 0⟩) (meth := k6m0) (c := k6c0) (by decide +kernel) rfl rfl rfl (by decide +kernel)
set_option maxRecDepth 65536 in
theorem w_c3 : (Jvm.Cond.code ({ cls := "java/lang/Enum", name := "ordinal", desc := "()I" } : Jvm.MethodName) jdk_37_method_2_code (1 : Nat) (Option.some Jvm.ClassFile.FieldType.int)).before args0 about1 = true := code_word (m := ⟨5, 0⟩) (meth := k5m0) (c := k5c0) (by decide +kernel) rfl rfl rfl (by decide +kernel)
def codes1 : List Jvm.Cond := [Jvm.Cond.code x code maxLocals ret, Jvm.Cond.code ({ cls := "com/example/bowline/bowline/server/RunState", name := "ended", desc := "()Z" } : Jvm.MethodName) prog_30_method_5_code (1 : Nat) (Option.some Jvm.ClassFile.FieldType.boolean), Jvm.Cond.code ({ cls := "com/example/bowline/bowline/server/RunState", name := "of", desc := "(Lcom/example/bowline/bowline/runtime/Status;)Lcom/example/bowline/bowline/server/RunState;" } : Jvm.MethodName) prog_30_method_4_code (1 : Nat) (Option.some (Jvm.ClassFile.FieldType.object "com/example/bowline/bowline/server/RunState")), Jvm.Cond.code ({ cls := "java/lang/Enum", name := "ordinal", desc := "()I" } : Jvm.MethodName) jdk_37_method_2_code (1 : Nat) (Option.some Jvm.ClassFile.FieldType.int)]
set_option maxRecDepth 65536 in
theorem codes_eq : words1.filter isCode = codes1 := rfl
theorem w_codes : ∀ c ∈ words1.filter isCode, c.before args0 about1 = true := by
  rw [codes_eq]
  intro c hc
  simp only [codes1, List.mem_cons, List.not_mem_nil, or_false] at hc
  rcases hc with rfl | rfl | rfl | rfl
  · exact w_c0
  · exact w_c1
  · exact w_c2
  · exact w_c3
set_option maxRecDepth 65536 in
theorem w_t1 : (words1.take 24).all (fun c => isCode c || c.before args0 about1) = true := by decide +kernel
set_option maxRecDepth 65536 in
theorem w_t2 : (words1.drop 24).all (fun c => isCode c || c.before args0 about1) = true := by decide +kernel
theorem w_tables : (allAtoms (Jvm.Cond.code x code maxLocals ret :: tables_1)).before args0 about1 = true := by
  rw [allAtoms_all]
  show words1.all (fun c => c.before args0 about1) = true
  refine all_split ?_ w_codes
  rw [← List.take_append_drop 24 words1, List.all_append, w_t1, w_t2]
  rfl
set_option maxRecDepth 65536 in
theorem w_case : (Jvm.Cond.and given_1 narrow_1).before args0 about1 = true := by decide +kernel
theorem w_applies : (headSpec (Jvm.Cond.code x code maxLocals ret :: tables_1) room_1).applies x e0.platform about1 = true :=
  (Spec.applies_iff w_frames).mpr ⟨w_running, w_runnable, w_alone, w_named, w_hears, w_ripe, w_room, w_tables⟩
theorem atStart : AtStart classFile x code maxLocals ret World_1 tables_1 room_1 Calls_1 rest_1 Pre_1 launch0 p0 e0 about1 theMethod args0 below0 :=
  ⟨lists_1, trivial, launch0.admits_env _ _ _, launch0.least_env, fairChoices_fair.cas, fairChoices_fair.clock, w_frames, w_args, w_heap, w_applies, trivial, trivial, w_case⟩
end start1
theorem witness_1 : WitnessClaimed_1 := ⟨start1.p0, start1.e0, start1.about1, start1.theMethod, start1.args0, start1.below0, start1.atStart⟩
end Jvm.Pilot.@@N@@
