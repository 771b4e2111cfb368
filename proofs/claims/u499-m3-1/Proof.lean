import JvmDerived
import JvmDerived.Pilot.@@N@@Statement
import JvmDerived.Pilot.@@N@@Code
set_option linter.unusedVariables false
set_option linter.unusedSimpArgs false
@@BLOCK:NumsL.lean.txt@@
namespace Jvm.Pilot.@@N@@
open Jvm Jvm.ClassFile Sem Op Lib Jvm.Free Jvm.Stand Jvm.LawKit Jvm.RoadKit Bundle Jvm.Pilot.@@N@@.Jvm.D
theorem own_eqI {t : Term} {k : Int32} {args : Array Value} {Z : State} (h : (Jvm.Cond.eq t (Jvm.Term.int k)).value args Z none Z [] = some true) : t.eval args Z none [] Z = some (.int k) := by
  simp only [Cond.value, Term.eval] at h
  cases ht : t.eval args Z none [] Z with
  | none => simp [ht] at h
  | some v => cases v <;> simp [ht] at h ⊢; exact h
theorem own_mod3 (x : Int32) : ((x &&& (2147483647 : Int32)) % (3 : Int32)) = (0 : Int32) ∨ ((x &&& (2147483647 : Int32)) % (3 : Int32)) = (1 : Int32) ∨ ((x &&& (2147483647 : Int32)) % (3 : Int32)) = (2 : Int32) := by
  have e : (x &&& (2147483647 : Int32)).toInt = x.toInt % 2 ^ 31 := Jvm.Kit.i32_mask x 2147483647 (k := 31) (by decide) (by decide)
  have h0 : 0 ≤ (x &&& (2147483647 : Int32)).toInt := by rw [e]; exact Int.emod_nonneg _ (by decide)
  have r := Jvm.Kit.i32_rem_nonneg (y := (3 : Int32)) h0
  have e0 : (0 : Int32).toInt = 0 := rfl
  have e1 : (1 : Int32).toInt = 1 := rfl
  have e2 : (2 : Int32).toInt = 2 := rfl
  have e3 : (3 : Int32).toInt = 3 := rfl
  have h1 : 0 ≤ (x &&& (2147483647 : Int32)).toInt % 3 := Int.emod_nonneg _ (by decide)
  have h2 : (x &&& (2147483647 : Int32)).toInt % 3 < 3 := Int.emod_lt_of_pos _ (by decide)
  simp only [← Int32.toInt_inj, r, e0, e1, e2, e3]
  omega
theorem own_spare (f r : Int32) : (lcmpW ((r.toInt64) - (f.toInt64)) (0 : Int64)) < (0 : Int32) ↔ r < f := by
  rw [lcW, lc_lt, Int64.lt_iff_toInt_lt, Int32.lt_iff_toInt_lt]
  have h1 := Int32.toInt_lt r
  have h2 := Int32.le_toInt r
  have h3 := Int32.toInt_lt f
  have h4 := Int32.le_toInt f
  have e : ((r.toInt64) - (f.toInt64)).toInt = r.toInt - f.toInt := by
    rw [Jvm.Kit.i64_sub] <;> simp only [Int32.toInt_toInt64] <;> omega
  have z : (0 : Int64).toInt = 0 := rfl
  rw [e, z]; omega
/-- what the law's case says of the enum constants -/
def SF (Z : State) (h : Heap) (w_SUCCESS w_FAILURE w_TIMED_OUT w_WAITING : Addr) : Prop := (Sta Z h "com/example/graph_to_grid/graphtogrid/core/TaskState" "SUCCESS" "Lcom/example/graph_to_grid/graphtogrid/core/TaskState;" (.ref w_SUCCESS)) ∧ (Exa Z h w_SUCCESS "com/example/graph_to_grid/graphtogrid/core/TaskState") ∧ (Sta Z h "com/example/graph_to_grid/graphtogrid/core/TaskState" "FAILURE" "Lcom/example/graph_to_grid/graphtogrid/core/TaskState;" (.ref w_FAILURE)) ∧ (Exa Z h w_FAILURE "com/example/graph_to_grid/graphtogrid/core/TaskState") ∧ (Sta Z h "com/example/graph_to_grid/graphtogrid/core/TaskState" "TIMED_OUT" "Lcom/example/graph_to_grid/graphtogrid/core/TaskState;" (.ref w_TIMED_OUT)) ∧ (Exa Z h w_TIMED_OUT "com/example/graph_to_grid/graphtogrid/core/TaskState") ∧ (Sta Z h "com/example/graph_to_grid/graphtogrid/core/TaskState" "WAITING" "Lcom/example/graph_to_grid/graphtogrid/core/TaskState;" (.ref w_WAITING)) ∧ (Exa Z h w_WAITING "com/example/graph_to_grid/graphtogrid/core/TaskState") ∧ (Fld Z h w_FAILURE "java/lang/Enum" "ordinal" "I" (.int (4 : Int32))) ∧ (Fld Z h w_SUCCESS "java/lang/Enum" "ordinal" "I" (.int (3 : Int32))) ∧ (Fld Z h w_TIMED_OUT "java/lang/Enum" "ordinal" "I" (.int (5 : Int32))) ∧ (w_SUCCESS ≠ w_FAILURE) ∧ (w_SUCCESS ≠ w_TIMED_OUT) ∧ (w_FAILURE ≠ w_TIMED_OUT)
/-- a body that writes nothing and returns w -/
def QP (h0 : Heap) (n0 : Nat) (w : Option Value) (v : Option Value) (h : Heap) (L : List Loc) : Prop := v = w ∧ Fr n0 L ∧ h = h0
abbrev Pay (l : Launch) (Z : State) (y : MethodName) (ws : List Jvm.Cond) (bytes : ByteArray) (ml : Nat) (rt : Option FieldType) (as' : Array Value) (h0 : Heap) (n0 : Nat) (rm : Room) (w : Option Value) : Prop :=
  MetFree l y (head1 (Jvm.Cond.code y bytes ml rt :: ws) rm) (fun a U => a = as' ∧ Z.Warmed39 U.vm ∧ U.heap = h0) (fun _ _ _ _ _ => True) (fun _ U o U' => ∃ v L, o = .returned v ∧ QP h0 n0 w v U'.heap L ∧ FrameEnd U o U' L rm.cells rm.slots)
theorem d1_0 : decode method_2_code 0 = .ok (.iload_n 0, 1) := by decide +kernel
theorem d1_1 : decode method_2_code 1 = .ok (.ifCond .ne 7, 3) := by decide +kernel
theorem d1_4 : decode method_2_code 4 = .ok (.getstatic 7, 3) := by decide +kernel
theorem d1_7 : decode method_2_code 7 = .ok (.areturn, 1) := by decide +kernel
theorem pn_0 : plainName "com/example/graph_to_grid/graphtogrid/core/RunProgressAfterAttemptPinLaw" = true := by first | (simp [plainName, overriddenIn]; done) | decide +kernel
set_option maxRecDepth 65536 in
set_option maxHeartbeats 40000000 in
theorem rm1_0 (l : Launch) (Z : State) (a0 : Array Value) (hw : ∀ d ∈ tables_1, d.before a0 Z = true) (ws : List Jvm.Cond) (w_SUCCESS w_FAILURE w_TIMED_OUT w_WAITING : Addr) (h0 : Heap) (n0 : Nat) (Z0 : n0 ≤ h0.size) (S : SF Z h0 w_SUCCESS w_FAILURE w_TIMED_OUT w_WAITING) :
    Pay l Z (⟨"com/example/graph_to_grid/graphtogrid/core/RunProgressAfterAttemptPinLaw", "endedOf", "(I)Lcom/example/graph_to_grid/graphtogrid/core/TaskState;"⟩ : MethodName) ws method_2_code 1 (some (.object "com/example/graph_to_grid/graphtogrid/core/TaskState")) #[(.int (0 : Int32))] h0 n0 ({ frames := 0, cells := 0, slots := 0, locals := 0 } : Room) (some (.ref w_SUCCESS)) := by
  obtain ⟨S_w_SUCCESS, E_w_SUCCESS, S_w_FAILURE, E_w_FAILURE, S_w_TIMED_OUT, E_w_TIMED_OUT, S_w_WAITING, E_w_WAITING, F_ordinal_w_FAILURE, F_ordinal_w_SUCCESS, F_ordinal_w_TIMED_OUT, hne_w_SUCCESS_w_FAILURE, hne_w_SUCCESS_w_TIMED_OUT, hne_w_FAILURE_w_TIMED_OUT⟩ := id S
  refine MetFree.of_bodySF (plainFor_of_name pn_0) hisR ?_
  intro p e s m args below meth c s₁ Bd hml0 hP hK
  obtain ⟨rfl, hZ, hh⟩ := hP
  have hx := Bd.exec
  have hby := Bd.bytes
  have hml : c.maxLocals = 1 := hml0
  have hown : s.vm.findClass "com/example/graph_to_grid/graphtogrid/core/RunProgressAfterAttemptPinLaw" = some m.cls := findClass_of_methodNamed Bd.named
  have X0 : Stand p l e ({ frames := 0, cells := 0, slots := 0, locals := 0 } : Room) s m #[(.int (0 : Int32))] below meth c s₁ [] 0 0 := Stand.of_body Bd
  have e0 : s₁.heap = h0 := by rw [← hh, Bd.state]; rfl
  have N0 := Fr.nil n0
  have pre0 : ∀ t, Steps p.tables e below (s₁.setTop (mkF m 0 #[.val (.int (0 : Int32))] [])) t → Steps p.tables e below (s₁.setTop (entryFrame m #[(.int (0 : Int32))] 1)) t := fun t k => castTop (by first | rfl | (simp [entryFrame, mkF, argsToLocals, Value.category]; done)) k
  obtain ⟨T1, X1, e1, st1⟩ := getS2 X0 hx hZ hown (host := "") (Or.inl (hw _ (List.mem_of_getElem? (i := 5) rfl))) Via.refl e0 S_w_SUCCESS (g := (mkF m 4 #[.val (.int (0 : Int32))] [])) rfl (hb hby d1_4)
  obtain ⟨fs, hr, hrun, hended, hW, hsame⟩ := X1.leave (v := (some (.ref w_SUCCESS))) (fun h => by rw [Bd.returns] at h; cases h)
  refine ⟨_, _, pre0 _ ?_, hrun, hended, _, _, rfl, ⟨rfl, N0, e1⟩, ⟨_, rfl⟩, hW, hsame.mono (by decide) (by decide)⟩
  show Steps p.tables e below (s₁.setTop (mkF m 0 #[.val (.int (0 : Int32))] [])) _
  refine XS.iloadN X0.here hx rfl (hb hby d1_0) rfl ?_
  show Steps p.tables e below (s₁.setTop (mkF m 1 #[.val (.int (0 : Int32))] [(.int (0 : Int32))])) _
  refine XS.ifNo X0.here hx rfl (hb hby d1_1) rfl ((if0 _ _).trans (teq (by decide : (0 : Int32) = (0 : Int32))).2) ?_
  show Steps p.tables e below (s₁.setTop (mkF m 4 #[.val (.int (0 : Int32))] [])) _
  refine st1 _ ?_
  show Steps p.tables e below (T1.setTop (mkF m 7 #[.val (.int (0 : Int32))] [(.ref w_SUCCESS)])) _
  exact retOut X1 hx (t := (.object "com/example/graph_to_grid/graphtogrid/core/TaskState")) (i := .areturn) Bd.returns rfl (Or.inr (Or.inr (Or.inr (Or.inr ⟨rfl, rfl, rfl⟩)))) (hb hby d1_7) hr
theorem pd_0 : parseMethodDescriptor "(I)Lcom/example/graph_to_grid/graphtogrid/core/TaskState;" = some ⟨[.int], some (.object "com/example/graph_to_grid/graphtogrid/core/TaskState")⟩ := by decide +kernel
theorem d2_0 : decode prog_8_method_2_code 0 = .ok (.aload_n 0, 1) := by decide +kernel
theorem d2_1 : decode prog_8_method_2_code 1 = .ok (.getstatic 7, 3) := by decide +kernel
theorem d2_4 : decode prog_8_method_2_code 4 = .ok (.if_acmp .eq 12, 3) := by decide +kernel
theorem d2_16 : decode prog_8_method_2_code 16 = .ok (.aload_n 0, 1) := by decide +kernel
theorem d2_17 : decode prog_8_method_2_code 17 = .ok (.areturn, 1) := by decide +kernel
theorem pn_1 : plainName "com/example/graph_to_grid/graphtogrid/core/RunProgress" = true := by first | (simp [plainName, overriddenIn]; done) | decide +kernel
set_option maxRecDepth 65536 in
set_option maxHeartbeats 40000000 in
theorem rm2_0 (l : Launch) (Z : State) (a0 : Array Value) (hw : ∀ d ∈ tables_1, d.before a0 Z = true) (ws : List Jvm.Cond) (w_SUCCESS w_FAILURE w_TIMED_OUT w_WAITING : Addr) (h0 : Heap) (n0 : Nat) (Z0 : n0 ≤ h0.size) (S : SF Z h0 w_SUCCESS w_FAILURE w_TIMED_OUT w_WAITING) (p1 : Int32) (p2 : Int32) (hs : p2 < p1) (hl : (lcmpW ((p2.toInt64) - (p1.toInt64)) (0 : Int64)) < (0 : Int32)) :
    Pay l Z (⟨"com/example/graph_to_grid/graphtogrid/core/RunProgress", "afterAttempt", "(Lcom/example/graph_to_grid/graphtogrid/core/TaskState;II)Lcom/example/graph_to_grid/graphtogrid/core/TaskState;"⟩ : MethodName) ws prog_8_method_2_code 3 (some (.object "com/example/graph_to_grid/graphtogrid/core/TaskState")) #[(.ref w_SUCCESS), (.int p1), (.int p2)] h0 n0 ({ frames := 0, cells := 0, slots := 0, locals := 0 } : Room) (some (.ref w_SUCCESS)) := by
  obtain ⟨S_w_SUCCESS, E_w_SUCCESS, S_w_FAILURE, E_w_FAILURE, S_w_TIMED_OUT, E_w_TIMED_OUT, S_w_WAITING, E_w_WAITING, F_ordinal_w_FAILURE, F_ordinal_w_SUCCESS, F_ordinal_w_TIMED_OUT, hne_w_SUCCESS_w_FAILURE, hne_w_SUCCESS_w_TIMED_OUT, hne_w_FAILURE_w_TIMED_OUT⟩ := id S
  refine MetFree.of_bodySF (plainFor_of_name pn_1) hisR ?_
  intro p e s m args below meth c s₁ Bd hml0 hP hK
  obtain ⟨rfl, hZ, hh⟩ := hP
  have hx := Bd.exec
  have hby := Bd.bytes
  have hml : c.maxLocals = 3 := hml0
  have hown : s.vm.findClass "com/example/graph_to_grid/graphtogrid/core/RunProgress" = some m.cls := findClass_of_methodNamed Bd.named
  have X0 : Stand p l e ({ frames := 0, cells := 0, slots := 0, locals := 0 } : Room) s m #[(.ref w_SUCCESS), (.int p1), (.int p2)] below meth c s₁ [] 0 0 := Stand.of_body Bd
  have e0 : s₁.heap = h0 := by rw [← hh, Bd.state]; rfl
  have N0 := Fr.nil n0
  have pre0 : ∀ t, Steps p.tables e below (s₁.setTop (mkF m 0 #[.val (.ref w_SUCCESS), .val (.int p1), .val (.int p2)] [])) t → Steps p.tables e below (s₁.setTop (entryFrame m #[(.ref w_SUCCESS), (.int p1), (.int p2)] 3)) t := fun t k => castTop (by first | rfl | (simp [entryFrame, mkF, argsToLocals, Value.category]; done)) k
  obtain ⟨T1, X1, e1, st1⟩ := getS2 X0 hx hZ hown (host := "") (Or.inl (hw _ (List.mem_of_getElem? (i := 12) rfl))) Via.refl e0 S_w_SUCCESS (g := (mkF m 1 #[.val (.ref w_SUCCESS), .val (.int p1), .val (.int p2)] [(.ref w_SUCCESS)])) rfl (hb hby d2_1)
  obtain ⟨fs, hr, hrun, hended, hW, hsame⟩ := X1.leave (v := (some (.ref w_SUCCESS))) (fun h => by rw [Bd.returns] at h; cases h)
  refine ⟨_, _, pre0 _ ?_, hrun, hended, _, _, rfl, ⟨rfl, N0, e1⟩, ⟨_, rfl⟩, hW, hsame.mono (by decide) (by decide)⟩
  show Steps p.tables e below (s₁.setTop (mkF m 0 #[.val (.ref w_SUCCESS), .val (.int p1), .val (.int p2)] [])) _
  refine XS.aloadN X0.here hx rfl (hb hby d2_0) rfl rfl ?_
  show Steps p.tables e below (s₁.setTop (mkF m 1 #[.val (.ref w_SUCCESS), .val (.int p1), .val (.int p2)] [(.ref w_SUCCESS)])) _
  refine st1 _ ?_
  show Steps p.tables e below (T1.setTop (mkF m 4 #[.val (.ref w_SUCCESS), .val (.int p1), .val (.int p2)] [(.ref w_SUCCESS), (.ref w_SUCCESS)])) _
  refine Jvm.RoadKit.acmp (g := (mkF m 4 #[.val (.ref w_SUCCESS), .val (.int p1), .val (.int p2)] [(.ref w_SUCCESS), (.ref w_SUCCESS)])) X1 hx rfl rfl rfl (pc0 := 4) (pc' := 16) (same := true) rfl (hb hby d2_4) rfl (decide_eq_true rfl) (by decide) (by decide) ?_
  show Steps p.tables e below (T1.setTop (mkF m 16 #[.val (.ref w_SUCCESS), .val (.int p1), .val (.int p2)] [])) _
  refine XS.aloadN X1.here hx rfl (hb hby d2_16) rfl rfl ?_
  show Steps p.tables e below (T1.setTop (mkF m 17 #[.val (.ref w_SUCCESS), .val (.int p1), .val (.int p2)] [(.ref w_SUCCESS)])) _
  exact retOut X1 hx (t := (.object "com/example/graph_to_grid/graphtogrid/core/TaskState")) (i := .areturn) Bd.returns rfl (Or.inr (Or.inr (Or.inr (Or.inr ⟨rfl, rfl, rfl⟩)))) (hb hby d2_17) hr
theorem pd_1 : parseMethodDescriptor "(Lcom/example/graph_to_grid/graphtogrid/core/TaskState;II)Lcom/example/graph_to_grid/graphtogrid/core/TaskState;" = some ⟨[(.object "com/example/graph_to_grid/graphtogrid/core/TaskState"), .int, .int], some (.object "com/example/graph_to_grid/graphtogrid/core/TaskState")⟩ := by decide +kernel
set_option maxRecDepth 65536 in
set_option maxHeartbeats 40000000 in
theorem rm0_0 (l : Launch) (Z : State) (a0 : Array Value) (hw : ∀ d ∈ tables_1, d.before a0 Z = true) (ws : List Jvm.Cond) (w_SUCCESS w_FAILURE w_TIMED_OUT w_WAITING : Addr) (h0 : Heap) (n0 : Nat) (Z0 : n0 ≤ h0.size) (S : SF Z h0 w_SUCCESS w_FAILURE w_TIMED_OUT w_WAITING) (p0 : Int32) (p1 : Int32) (p2 : Int32) (hk : ((p0 &&& (2147483647 : Int32)) % (3 : Int32)) = (0 : Int32)) (hs : p2 < p1) (hl : (lcmpW ((p2.toInt64) - (p1.toInt64)) (0 : Int64)) < (0 : Int32)) :
    Pay l Z x ws code maxLocals ret #[(.int p0), (.int p1), (.int p2)] h0 n0 room_1 (some (.int (1 : Int32))) := by
  obtain ⟨S_w_SUCCESS, E_w_SUCCESS, S_w_FAILURE, E_w_FAILURE, S_w_TIMED_OUT, E_w_TIMED_OUT, S_w_WAITING, E_w_WAITING, F_ordinal_w_FAILURE, F_ordinal_w_SUCCESS, F_ordinal_w_TIMED_OUT, hne_w_SUCCESS_w_FAILURE, hne_w_SUCCESS_w_TIMED_OUT, hne_w_FAILURE_w_TIMED_OUT⟩ := id S
  refine MetFree.of_bodySF (plainFor_of_name pn_0) hisR ?_
  intro p e s m args below meth c s₁ Bd hml0 hP hK
  obtain ⟨rfl, hZ, hh⟩ := hP
  have hx := Bd.exec
  have hby := Bd.bytes
  have hml : c.maxLocals = 8 := hml0
  have hown : s.vm.findClass "com/example/graph_to_grid/graphtogrid/core/RunProgressAfterAttemptPinLaw" = some m.cls := findClass_of_methodNamed Bd.named
  have X0 : Stand p l e room_1 s m #[(.int p0), (.int p1), (.int p2)] below meth c s₁ [] 0 0 := Stand.of_body Bd
  have e0 : s₁.heap = h0 := by rw [← hh, Bd.state]; rfl
  have N0 := Fr.nil n0
  have pre0 : ∀ t, Steps p.tables e below (s₁.setTop (mkF m 0 #[.val (.int p0), .val (.int p1), .val (.int p2), .unset, .unset, .unset, .unset, .unset] [])) t → Steps p.tables e below (s₁.setTop (entryFrame m #[(.int p0), (.int p1), (.int p2)] maxLocals)) t := fun t k => castTop (by first | rfl | (simp [entryFrame, mkF, argsToLocals, Value.category, maxLocals]; done)) k
  obtain ⟨_, _, ⟨T1, L1, k1, n1⟩, -, X1, ⟨Lc1, hQ1, l1, y1, z1⟩, st1⟩ := Jvm.LawKit.callS X0 hx (y := (⟨"com/example/graph_to_grid/graphtogrid/core/RunProgressAfterAttemptPinLaw", "endedOf", "(I)Lcom/example/graph_to_grid/graphtogrid/core/TaskState;"⟩ : MethodName)) hown (mvT hZ (hw _ (List.mem_of_getElem? (i := 1) rfl))) (mvT hZ (hw _ (List.mem_of_getElem? (i := 2) rfl))) (mvT hZ (hw _ (List.mem_of_getElem? (i := 3) rfl))) (mvT hZ (hw _ (List.mem_of_getElem? (i := 4) rfl))) (by decide) (backOf (W := 0) (rm1_0 l Z a0 hw [] w_SUCCESS w_FAILURE w_TIMED_OUT w_WAITING h0 n0 Z0 S) hZ (hw _ (List.mem_of_getElem? (i := 4) rfl)) (hw _ (List.mem_of_getElem? (i := 3) rfl)) (by decide) (by decide)) (g := (mkF m 6 #[.val (.int p0), .val (.int p1), .val (.int p2), .unset, .unset, .unset, .unset, .unset] [(.int (0 : Int32))])) rfl (by rw [hml]; rfl) (argsL := [(.int (0 : Int32))]) (rest := []) (lenOf pd_0 rfl) rfl (by show 2 * 0 + _ ≤ _; exact Nat.le_of_eq rfl) (hb hby at_6) (fun _ _ => ⟨rfl, e0, (by decide : 0 + 0 ≤ _), (by decide : 0 + 0 ≤ _)⟩)
  dsimp only [Pt.U, Pt.locs, Pt.cells, Pt.slots] at X1 l1 y1 z1 st1 hQ1
  subst l1 y1 z1
  obtain ⟨rfl, Nq1, e1⟩ := hQ1
  have N1 := Fr.app N0 Nq1
  obtain ⟨_, _, ⟨T2, L2, k2, n2⟩, -, X2, ⟨Lc2, hQ2, l2, y2, z2⟩, st2⟩ := Jvm.LawKit.callS X1 hx (y := (⟨"com/example/graph_to_grid/graphtogrid/core/RunProgress", "afterAttempt", "(Lcom/example/graph_to_grid/graphtogrid/core/TaskState;II)Lcom/example/graph_to_grid/graphtogrid/core/TaskState;"⟩ : MethodName)) hown (mvT hZ (hw _ (List.mem_of_getElem? (i := 8) rfl))) (mvT hZ (hw _ (List.mem_of_getElem? (i := 9) rfl))) (mvT hZ (hw _ (List.mem_of_getElem? (i := 10) rfl))) (mvT hZ (hw _ (List.mem_of_getElem? (i := 11) rfl))) (by decide) (backOf (W := 0) (rm2_0 l Z a0 hw [] w_SUCCESS w_FAILURE w_TIMED_OUT w_WAITING h0 n0 Z0 S p1 p2 hs hl) hZ (hw _ (List.mem_of_getElem? (i := 11) rfl)) (hw _ (List.mem_of_getElem? (i := 10) rfl)) (by decide) (by decide)) (g := (mkF m 13 #[.val (.int p0), .val (.int p1), .val (.int p2), .val (.ref w_SUCCESS), .unset, .unset, .unset, .unset] [(.int p2), (.int p1), (.ref w_SUCCESS)])) rfl (by rw [hml]; rfl) (argsL := [(.ref w_SUCCESS), (.int p1), (.int p2)]) (rest := []) (lenOf pd_1 rfl) rfl (by show 2 * 0 + _ ≤ _; exact Nat.le_of_eq rfl) (hb hby at_13) (fun _ _ => ⟨rfl, e1, (by decide : 0 + 0 ≤ _), (by decide : 0 + 0 ≤ _)⟩)
  dsimp only [Pt.U, Pt.locs, Pt.cells, Pt.slots] at X2 l2 y2 z2 st2 hQ2
  subst l2 y2 z2
  obtain ⟨rfl, Nq2, e2⟩ := hQ2
  have N2 := Fr.app N1 Nq2
  obtain ⟨T3, X3, e3, st3⟩ := getS2 X2 hx hZ hown (host := "") (Or.inl (hw _ (List.mem_of_getElem? (i := 5) rfl))) Via.refl e2 S_w_SUCCESS (g := (mkF m 19 #[.val (.int p0), .val (.int p1), .val (.int p2), .val (.ref w_SUCCESS), .val (.ref w_SUCCESS), .unset, .unset, .unset] [(.ref w_SUCCESS)])) rfl (hb hby at_19)
  obtain ⟨T4, X4, e4, st4⟩ := getS2 X3 hx hZ hown (host := "") (Or.inl (hw _ (List.mem_of_getElem? (i := 5) rfl))) Via.refl e3 S_w_SUCCESS (g := (mkF m 25 #[.val (.int p0), .val (.int p1), .val (.int p2), .val (.ref w_SUCCESS), .val (.ref w_SUCCESS), .unset, .unset, .unset] [])) rfl (hb hby at_25)
  obtain ⟨fs, hr, hrun, hended, hW, hsame⟩ := X4.leave (v := (some (.int (1 : Int32)))) (fun h => by rw [Bd.returns] at h; cases h)
  refine ⟨_, _, pre0 _ ?_, hrun, hended, _, _, rfl, ⟨rfl, N2, e4⟩, ⟨_, rfl⟩, hW, hsame.mono (by decide) (by decide)⟩
  show Steps p.tables e below (s₁.setTop (mkF m 0 #[.val (.int p0), .val (.int p1), .val (.int p2), .unset, .unset, .unset, .unset, .unset] [])) _
  refine XS.iloadN X0.here hx rfl (hb hby at_0) rfl ?_
  show Steps p.tables e below (s₁.setTop (mkF m 1 #[.val (.int p0), .val (.int p1), .val (.int p2), .unset, .unset, .unset, .unset, .unset] [(.int p0)])) _
  refine X0.ldcInt hx hown (mvT hZ (hw _ (List.mem_of_getElem? (i := 0) rfl))) (g := (mkF m 1 #[.val (.int p0), .val (.int p1), .val (.int p2), .unset, .unset, .unset, .unset, .unset] [(.int p0)])) rfl (hb hby at_1) _ ?_
  show Steps p.tables e below (s₁.setTop (mkF m 3 #[.val (.int p0), .val (.int p1), .val (.int p2), .unset, .unset, .unset, .unset, .unset] [(.int (2147483647 : Int32)), (.int p0)])) _
  refine XS.iand X0.here hx rfl (hb hby at_3) rfl ?_
  show Steps p.tables e below (s₁.setTop (mkF m 4 #[.val (.int p0), .val (.int p1), .val (.int p2), .unset, .unset, .unset, .unset, .unset] [(.int (p0 &&& (2147483647 : Int32)))])) _
  show Steps p.tables e below (s₁.setTop (mkF m 4 #[.val (.int p0), .val (.int p1), .val (.int p2), .unset, .unset, .unset, .unset, .unset] [(.int (p0 &&& (2147483647 : Int32)))])) _
  refine XS.iconst X0.here hx rfl (hb hby at_4) ?_
  show Steps p.tables e below (s₁.setTop (mkF m 5 #[.val (.int p0), .val (.int p1), .val (.int p2), .unset, .unset, .unset, .unset, .unset] [(.int (3 : Int32)), (.int (p0 &&& (2147483647 : Int32)))])) _
  refine iremM X0 hx rfl (hb hby at_5) rfl (by decide) ?_
  show Steps p.tables e below (s₁.setTop (mkF m 6 #[.val (.int p0), .val (.int p1), .val (.int p2), .unset, .unset, .unset, .unset, .unset] [(.int ((p0 &&& (2147483647 : Int32)) % (3 : Int32)))])) _
  rw [hk]
  show Steps p.tables e below (s₁.setTop (mkF m 6 #[.val (.int p0), .val (.int p1), .val (.int p2), .unset, .unset, .unset, .unset, .unset] [(.int (0 : Int32))])) _
  refine st1 _ ?_
  show Steps p.tables e below (T1.setTop (mkF m 9 #[.val (.int p0), .val (.int p1), .val (.int p2), .unset, .unset, .unset, .unset, .unset] [(.ref w_SUCCESS)])) _
  refine XS.astoreN X1.here hx rfl (hb hby at_9) rfl rfl (l' := #[.val (.int p0), .val (.int p1), .val (.int p2), .val (.ref w_SUCCESS), .unset, .unset, .unset, .unset]) rfl ?_
  show Steps p.tables e below (T1.setTop (mkF m 10 #[.val (.int p0), .val (.int p1), .val (.int p2), .val (.ref w_SUCCESS), .unset, .unset, .unset, .unset] [])) _
  refine XS.aloadN X1.here hx rfl (hb hby at_10) rfl rfl ?_
  show Steps p.tables e below (T1.setTop (mkF m 11 #[.val (.int p0), .val (.int p1), .val (.int p2), .val (.ref w_SUCCESS), .unset, .unset, .unset, .unset] [(.ref w_SUCCESS)])) _
  refine XS.iloadN X1.here hx rfl (hb hby at_11) rfl ?_
  show Steps p.tables e below (T1.setTop (mkF m 12 #[.val (.int p0), .val (.int p1), .val (.int p2), .val (.ref w_SUCCESS), .unset, .unset, .unset, .unset] [(.int p1), (.ref w_SUCCESS)])) _
  refine XS.iloadN X1.here hx rfl (hb hby at_12) rfl ?_
  show Steps p.tables e below (T1.setTop (mkF m 13 #[.val (.int p0), .val (.int p1), .val (.int p2), .val (.ref w_SUCCESS), .unset, .unset, .unset, .unset] [(.int p2), (.int p1), (.ref w_SUCCESS)])) _
  refine st2 _ ?_
  show Steps p.tables e below (T2.setTop (mkF m 16 #[.val (.int p0), .val (.int p1), .val (.int p2), .val (.ref w_SUCCESS), .unset, .unset, .unset, .unset] [(.ref w_SUCCESS)])) _
  refine XS.astore X2.here hx rfl (hb hby at_16) rfl rfl (l' := #[.val (.int p0), .val (.int p1), .val (.int p2), .val (.ref w_SUCCESS), .val (.ref w_SUCCESS), .unset, .unset, .unset]) rfl ?_
  show Steps p.tables e below (T2.setTop (mkF m 18 #[.val (.int p0), .val (.int p1), .val (.int p2), .val (.ref w_SUCCESS), .val (.ref w_SUCCESS), .unset, .unset, .unset] [])) _
  refine XS.aloadN X2.here hx rfl (hb hby at_18) rfl rfl ?_
  show Steps p.tables e below (T2.setTop (mkF m 19 #[.val (.int p0), .val (.int p1), .val (.int p2), .val (.ref w_SUCCESS), .val (.ref w_SUCCESS), .unset, .unset, .unset] [(.ref w_SUCCESS)])) _
  refine st3 _ ?_
  show Steps p.tables e below (T3.setTop (mkF m 22 #[.val (.int p0), .val (.int p1), .val (.int p2), .val (.ref w_SUCCESS), .val (.ref w_SUCCESS), .unset, .unset, .unset] [(.ref w_SUCCESS), (.ref w_SUCCESS)])) _
  refine Jvm.RoadKit.acmp (g := (mkF m 22 #[.val (.int p0), .val (.int p1), .val (.int p2), .val (.ref w_SUCCESS), .val (.ref w_SUCCESS), .unset, .unset, .unset] [(.ref w_SUCCESS), (.ref w_SUCCESS)])) X3 hx rfl rfl rfl (pc0 := 22) (pc' := 25) (same := true) rfl (hb hby at_22) rfl (decide_eq_true rfl) (by decide) (by decide) ?_
  show Steps p.tables e below (T3.setTop (mkF m 25 #[.val (.int p0), .val (.int p1), .val (.int p2), .val (.ref w_SUCCESS), .val (.ref w_SUCCESS), .unset, .unset, .unset] [])) _
  refine st4 _ ?_
  show Steps p.tables e below (T4.setTop (mkF m 28 #[.val (.int p0), .val (.int p1), .val (.int p2), .val (.ref w_SUCCESS), .val (.ref w_SUCCESS), .unset, .unset, .unset] [(.ref w_SUCCESS)])) _
  refine XS.astore X4.here hx rfl (hb hby at_28) rfl rfl (l' := #[.val (.int p0), .val (.int p1), .val (.int p2), .val (.ref w_SUCCESS), .val (.ref w_SUCCESS), .val (.ref w_SUCCESS), .unset, .unset]) rfl ?_
  show Steps p.tables e below (T4.setTop (mkF m 30 #[.val (.int p0), .val (.int p1), .val (.int p2), .val (.ref w_SUCCESS), .val (.ref w_SUCCESS), .val (.ref w_SUCCESS), .unset, .unset] [])) _
  refine XS.goto X4.here hx rfl (pc0 := 30) (pc' := 58) rfl (hb hby at_30) (by decide) (by decide) ?_
  show Steps p.tables e below (T4.setTop (mkF m 58 #[.val (.int p0), .val (.int p1), .val (.int p2), .val (.ref w_SUCCESS), .val (.ref w_SUCCESS), .val (.ref w_SUCCESS), .unset, .unset] [])) _
  refine XS.aload X4.here hx rfl (hb hby at_58) rfl rfl ?_
  show Steps p.tables e below (T4.setTop (mkF m 60 #[.val (.int p0), .val (.int p1), .val (.int p2), .val (.ref w_SUCCESS), .val (.ref w_SUCCESS), .val (.ref w_SUCCESS), .unset, .unset] [(.ref w_SUCCESS)])) _
  refine XS.aload X4.here hx rfl (hb hby at_60) rfl rfl ?_
  show Steps p.tables e below (T4.setTop (mkF m 62 #[.val (.int p0), .val (.int p1), .val (.int p2), .val (.ref w_SUCCESS), .val (.ref w_SUCCESS), .val (.ref w_SUCCESS), .unset, .unset] [(.ref w_SUCCESS), (.ref w_SUCCESS)])) _
  refine Jvm.RoadKit.acmp (g := (mkF m 62 #[.val (.int p0), .val (.int p1), .val (.int p2), .val (.ref w_SUCCESS), .val (.ref w_SUCCESS), .val (.ref w_SUCCESS), .unset, .unset] [(.ref w_SUCCESS), (.ref w_SUCCESS)])) X4 hx rfl rfl rfl (pc0 := 62) (pc' := 65) (same := true) rfl (hb hby at_62) rfl (decide_eq_true rfl) (by decide) (by decide) ?_
  show Steps p.tables e below (T4.setTop (mkF m 65 #[.val (.int p0), .val (.int p1), .val (.int p2), .val (.ref w_SUCCESS), .val (.ref w_SUCCESS), .val (.ref w_SUCCESS), .unset, .unset] [])) _
  refine XS.iconst X4.here hx rfl (hb hby at_65) ?_
  show Steps p.tables e below (T4.setTop (mkF m 66 #[.val (.int p0), .val (.int p1), .val (.int p2), .val (.ref w_SUCCESS), .val (.ref w_SUCCESS), .val (.ref w_SUCCESS), .unset, .unset] [(.int (1 : Int32))])) _
  refine XS.goto X4.here hx rfl (pc0 := 66) (pc' := 70) rfl (hb hby at_66) (by decide) (by decide) ?_
  show Steps p.tables e below (T4.setTop (mkF m 70 #[.val (.int p0), .val (.int p1), .val (.int p2), .val (.ref w_SUCCESS), .val (.ref w_SUCCESS), .val (.ref w_SUCCESS), .unset, .unset] [(.int (1 : Int32))])) _
  exact retN X4 hx (t := .boolean) Bd.returns (by simp) (hb hby at_70) hr
set_option maxRecDepth 65536 in
set_option maxHeartbeats 40000000 in
theorem rm2_1 (l : Launch) (Z : State) (a0 : Array Value) (hw : ∀ d ∈ tables_1, d.before a0 Z = true) (ws : List Jvm.Cond) (w_SUCCESS w_FAILURE w_TIMED_OUT w_WAITING : Addr) (h0 : Heap) (n0 : Nat) (Z0 : n0 ≤ h0.size) (S : SF Z h0 w_SUCCESS w_FAILURE w_TIMED_OUT w_WAITING) (p1 : Int32) (p2 : Int32) (hs : ¬ (p2 < p1)) (hl : ¬ ((lcmpW ((p2.toInt64) - (p1.toInt64)) (0 : Int64)) < (0 : Int32))) :
    Pay l Z (⟨"com/example/graph_to_grid/graphtogrid/core/RunProgress", "afterAttempt", "(Lcom/example/graph_to_grid/graphtogrid/core/TaskState;II)Lcom/example/graph_to_grid/graphtogrid/core/TaskState;"⟩ : MethodName) ws prog_8_method_2_code 3 (some (.object "com/example/graph_to_grid/graphtogrid/core/TaskState")) #[(.ref w_SUCCESS), (.int p1), (.int p2)] h0 n0 ({ frames := 0, cells := 0, slots := 0, locals := 0 } : Room) (some (.ref w_SUCCESS)) := by
  obtain ⟨S_w_SUCCESS, E_w_SUCCESS, S_w_FAILURE, E_w_FAILURE, S_w_TIMED_OUT, E_w_TIMED_OUT, S_w_WAITING, E_w_WAITING, F_ordinal_w_FAILURE, F_ordinal_w_SUCCESS, F_ordinal_w_TIMED_OUT, hne_w_SUCCESS_w_FAILURE, hne_w_SUCCESS_w_TIMED_OUT, hne_w_FAILURE_w_TIMED_OUT⟩ := id S
  refine MetFree.of_bodySF (plainFor_of_name pn_1) hisR ?_
  intro p e s m args below meth c s₁ Bd hml0 hP hK
  obtain ⟨rfl, hZ, hh⟩ := hP
  have hx := Bd.exec
  have hby := Bd.bytes
  have hml : c.maxLocals = 3 := hml0
  have hown : s.vm.findClass "com/example/graph_to_grid/graphtogrid/core/RunProgress" = some m.cls := findClass_of_methodNamed Bd.named
  have X0 : Stand p l e ({ frames := 0, cells := 0, slots := 0, locals := 0 } : Room) s m #[(.ref w_SUCCESS), (.int p1), (.int p2)] below meth c s₁ [] 0 0 := Stand.of_body Bd
  have e0 : s₁.heap = h0 := by rw [← hh, Bd.state]; rfl
  have N0 := Fr.nil n0
  have pre0 : ∀ t, Steps p.tables e below (s₁.setTop (mkF m 0 #[.val (.ref w_SUCCESS), .val (.int p1), .val (.int p2)] [])) t → Steps p.tables e below (s₁.setTop (entryFrame m #[(.ref w_SUCCESS), (.int p1), (.int p2)] 3)) t := fun t k => castTop (by first | rfl | (simp [entryFrame, mkF, argsToLocals, Value.category]; done)) k
  obtain ⟨T1, X1, e1, st1⟩ := getS2 X0 hx hZ hown (host := "") (Or.inl (hw _ (List.mem_of_getElem? (i := 12) rfl))) Via.refl e0 S_w_SUCCESS (g := (mkF m 1 #[.val (.ref w_SUCCESS), .val (.int p1), .val (.int p2)] [(.ref w_SUCCESS)])) rfl (hb hby d2_1)
  obtain ⟨fs, hr, hrun, hended, hW, hsame⟩ := X1.leave (v := (some (.ref w_SUCCESS))) (fun h => by rw [Bd.returns] at h; cases h)
  refine ⟨_, _, pre0 _ ?_, hrun, hended, _, _, rfl, ⟨rfl, N0, e1⟩, ⟨_, rfl⟩, hW, hsame.mono (by decide) (by decide)⟩
  show Steps p.tables e below (s₁.setTop (mkF m 0 #[.val (.ref w_SUCCESS), .val (.int p1), .val (.int p2)] [])) _
  refine XS.aloadN X0.here hx rfl (hb hby d2_0) rfl rfl ?_
  show Steps p.tables e below (s₁.setTop (mkF m 1 #[.val (.ref w_SUCCESS), .val (.int p1), .val (.int p2)] [(.ref w_SUCCESS)])) _
  refine st1 _ ?_
  show Steps p.tables e below (T1.setTop (mkF m 4 #[.val (.ref w_SUCCESS), .val (.int p1), .val (.int p2)] [(.ref w_SUCCESS), (.ref w_SUCCESS)])) _
  refine Jvm.RoadKit.acmp (g := (mkF m 4 #[.val (.ref w_SUCCESS), .val (.int p1), .val (.int p2)] [(.ref w_SUCCESS), (.ref w_SUCCESS)])) X1 hx rfl rfl rfl (pc0 := 4) (pc' := 16) (same := true) rfl (hb hby d2_4) rfl (decide_eq_true rfl) (by decide) (by decide) ?_
  show Steps p.tables e below (T1.setTop (mkF m 16 #[.val (.ref w_SUCCESS), .val (.int p1), .val (.int p2)] [])) _
  refine XS.aloadN X1.here hx rfl (hb hby d2_16) rfl rfl ?_
  show Steps p.tables e below (T1.setTop (mkF m 17 #[.val (.ref w_SUCCESS), .val (.int p1), .val (.int p2)] [(.ref w_SUCCESS)])) _
  exact retOut X1 hx (t := (.object "com/example/graph_to_grid/graphtogrid/core/TaskState")) (i := .areturn) Bd.returns rfl (Or.inr (Or.inr (Or.inr (Or.inr ⟨rfl, rfl, rfl⟩)))) (hb hby d2_17) hr
set_option maxRecDepth 65536 in
set_option maxHeartbeats 40000000 in
theorem rm0_1 (l : Launch) (Z : State) (a0 : Array Value) (hw : ∀ d ∈ tables_1, d.before a0 Z = true) (ws : List Jvm.Cond) (w_SUCCESS w_FAILURE w_TIMED_OUT w_WAITING : Addr) (h0 : Heap) (n0 : Nat) (Z0 : n0 ≤ h0.size) (S : SF Z h0 w_SUCCESS w_FAILURE w_TIMED_OUT w_WAITING) (p0 : Int32) (p1 : Int32) (p2 : Int32) (hk : ((p0 &&& (2147483647 : Int32)) % (3 : Int32)) = (0 : Int32)) (hs : ¬ (p2 < p1)) (hl : ¬ ((lcmpW ((p2.toInt64) - (p1.toInt64)) (0 : Int64)) < (0 : Int32))) :
    Pay l Z x ws code maxLocals ret #[(.int p0), (.int p1), (.int p2)] h0 n0 room_1 (some (.int (1 : Int32))) := by
  obtain ⟨S_w_SUCCESS, E_w_SUCCESS, S_w_FAILURE, E_w_FAILURE, S_w_TIMED_OUT, E_w_TIMED_OUT, S_w_WAITING, E_w_WAITING, F_ordinal_w_FAILURE, F_ordinal_w_SUCCESS, F_ordinal_w_TIMED_OUT, hne_w_SUCCESS_w_FAILURE, hne_w_SUCCESS_w_TIMED_OUT, hne_w_FAILURE_w_TIMED_OUT⟩ := id S
  refine MetFree.of_bodySF (plainFor_of_name pn_0) hisR ?_
  intro p e s m args below meth c s₁ Bd hml0 hP hK
  obtain ⟨rfl, hZ, hh⟩ := hP
  have hx := Bd.exec
  have hby := Bd.bytes
  have hml : c.maxLocals = 8 := hml0
  have hown : s.vm.findClass "com/example/graph_to_grid/graphtogrid/core/RunProgressAfterAttemptPinLaw" = some m.cls := findClass_of_methodNamed Bd.named
  have X0 : Stand p l e room_1 s m #[(.int p0), (.int p1), (.int p2)] below meth c s₁ [] 0 0 := Stand.of_body Bd
  have e0 : s₁.heap = h0 := by rw [← hh, Bd.state]; rfl
  have N0 := Fr.nil n0
  have pre0 : ∀ t, Steps p.tables e below (s₁.setTop (mkF m 0 #[.val (.int p0), .val (.int p1), .val (.int p2), .unset, .unset, .unset, .unset, .unset] [])) t → Steps p.tables e below (s₁.setTop (entryFrame m #[(.int p0), (.int p1), (.int p2)] maxLocals)) t := fun t k => castTop (by first | rfl | (simp [entryFrame, mkF, argsToLocals, Value.category, maxLocals]; done)) k
  obtain ⟨_, _, ⟨T1, L1, k1, n1⟩, -, X1, ⟨Lc1, hQ1, l1, y1, z1⟩, st1⟩ := Jvm.LawKit.callS X0 hx (y := (⟨"com/example/graph_to_grid/graphtogrid/core/RunProgressAfterAttemptPinLaw", "endedOf", "(I)Lcom/example/graph_to_grid/graphtogrid/core/TaskState;"⟩ : MethodName)) hown (mvT hZ (hw _ (List.mem_of_getElem? (i := 1) rfl))) (mvT hZ (hw _ (List.mem_of_getElem? (i := 2) rfl))) (mvT hZ (hw _ (List.mem_of_getElem? (i := 3) rfl))) (mvT hZ (hw _ (List.mem_of_getElem? (i := 4) rfl))) (by decide) (backOf (W := 0) (rm1_0 l Z a0 hw [] w_SUCCESS w_FAILURE w_TIMED_OUT w_WAITING h0 n0 Z0 S) hZ (hw _ (List.mem_of_getElem? (i := 4) rfl)) (hw _ (List.mem_of_getElem? (i := 3) rfl)) (by decide) (by decide)) (g := (mkF m 6 #[.val (.int p0), .val (.int p1), .val (.int p2), .unset, .unset, .unset, .unset, .unset] [(.int (0 : Int32))])) rfl (by rw [hml]; rfl) (argsL := [(.int (0 : Int32))]) (rest := []) (lenOf pd_0 rfl) rfl (by show 2 * 0 + _ ≤ _; exact Nat.le_of_eq rfl) (hb hby at_6) (fun _ _ => ⟨rfl, e0, (by decide : 0 + 0 ≤ _), (by decide : 0 + 0 ≤ _)⟩)
  dsimp only [Pt.U, Pt.locs, Pt.cells, Pt.slots] at X1 l1 y1 z1 st1 hQ1
  subst l1 y1 z1
  obtain ⟨rfl, Nq1, e1⟩ := hQ1
  have N1 := Fr.app N0 Nq1
  obtain ⟨_, _, ⟨T2, L2, k2, n2⟩, -, X2, ⟨Lc2, hQ2, l2, y2, z2⟩, st2⟩ := Jvm.LawKit.callS X1 hx (y := (⟨"com/example/graph_to_grid/graphtogrid/core/RunProgress", "afterAttempt", "(Lcom/example/graph_to_grid/graphtogrid/core/TaskState;II)Lcom/example/graph_to_grid/graphtogrid/core/TaskState;"⟩ : MethodName)) hown (mvT hZ (hw _ (List.mem_of_getElem? (i := 8) rfl))) (mvT hZ (hw _ (List.mem_of_getElem? (i := 9) rfl))) (mvT hZ (hw _ (List.mem_of_getElem? (i := 10) rfl))) (mvT hZ (hw _ (List.mem_of_getElem? (i := 11) rfl))) (by decide) (backOf (W := 0) (rm2_1 l Z a0 hw [] w_SUCCESS w_FAILURE w_TIMED_OUT w_WAITING h0 n0 Z0 S p1 p2 hs hl) hZ (hw _ (List.mem_of_getElem? (i := 11) rfl)) (hw _ (List.mem_of_getElem? (i := 10) rfl)) (by decide) (by decide)) (g := (mkF m 13 #[.val (.int p0), .val (.int p1), .val (.int p2), .val (.ref w_SUCCESS), .unset, .unset, .unset, .unset] [(.int p2), (.int p1), (.ref w_SUCCESS)])) rfl (by rw [hml]; rfl) (argsL := [(.ref w_SUCCESS), (.int p1), (.int p2)]) (rest := []) (lenOf pd_1 rfl) rfl (by show 2 * 0 + _ ≤ _; exact Nat.le_of_eq rfl) (hb hby at_13) (fun _ _ => ⟨rfl, e1, (by decide : 0 + 0 ≤ _), (by decide : 0 + 0 ≤ _)⟩)
  dsimp only [Pt.U, Pt.locs, Pt.cells, Pt.slots] at X2 l2 y2 z2 st2 hQ2
  subst l2 y2 z2
  obtain ⟨rfl, Nq2, e2⟩ := hQ2
  have N2 := Fr.app N1 Nq2
  obtain ⟨T3, X3, e3, st3⟩ := getS2 X2 hx hZ hown (host := "") (Or.inl (hw _ (List.mem_of_getElem? (i := 5) rfl))) Via.refl e2 S_w_SUCCESS (g := (mkF m 19 #[.val (.int p0), .val (.int p1), .val (.int p2), .val (.ref w_SUCCESS), .val (.ref w_SUCCESS), .unset, .unset, .unset] [(.ref w_SUCCESS)])) rfl (hb hby at_19)
  obtain ⟨T4, X4, e4, st4⟩ := getS2 X3 hx hZ hown (host := "") (Or.inl (hw _ (List.mem_of_getElem? (i := 5) rfl))) Via.refl e3 S_w_SUCCESS (g := (mkF m 25 #[.val (.int p0), .val (.int p1), .val (.int p2), .val (.ref w_SUCCESS), .val (.ref w_SUCCESS), .unset, .unset, .unset] [])) rfl (hb hby at_25)
  obtain ⟨fs, hr, hrun, hended, hW, hsame⟩ := X4.leave (v := (some (.int (1 : Int32)))) (fun h => by rw [Bd.returns] at h; cases h)
  refine ⟨_, _, pre0 _ ?_, hrun, hended, _, _, rfl, ⟨rfl, N2, e4⟩, ⟨_, rfl⟩, hW, hsame.mono (by decide) (by decide)⟩
  show Steps p.tables e below (s₁.setTop (mkF m 0 #[.val (.int p0), .val (.int p1), .val (.int p2), .unset, .unset, .unset, .unset, .unset] [])) _
  refine XS.iloadN X0.here hx rfl (hb hby at_0) rfl ?_
  show Steps p.tables e below (s₁.setTop (mkF m 1 #[.val (.int p0), .val (.int p1), .val (.int p2), .unset, .unset, .unset, .unset, .unset] [(.int p0)])) _
  refine X0.ldcInt hx hown (mvT hZ (hw _ (List.mem_of_getElem? (i := 0) rfl))) (g := (mkF m 1 #[.val (.int p0), .val (.int p1), .val (.int p2), .unset, .unset, .unset, .unset, .unset] [(.int p0)])) rfl (hb hby at_1) _ ?_
  show Steps p.tables e below (s₁.setTop (mkF m 3 #[.val (.int p0), .val (.int p1), .val (.int p2), .unset, .unset, .unset, .unset, .unset] [(.int (2147483647 : Int32)), (.int p0)])) _
  refine XS.iand X0.here hx rfl (hb hby at_3) rfl ?_
  show Steps p.tables e below (s₁.setTop (mkF m 4 #[.val (.int p0), .val (.int p1), .val (.int p2), .unset, .unset, .unset, .unset, .unset] [(.int (p0 &&& (2147483647 : Int32)))])) _
  show Steps p.tables e below (s₁.setTop (mkF m 4 #[.val (.int p0), .val (.int p1), .val (.int p2), .unset, .unset, .unset, .unset, .unset] [(.int (p0 &&& (2147483647 : Int32)))])) _
  refine XS.iconst X0.here hx rfl (hb hby at_4) ?_
  show Steps p.tables e below (s₁.setTop (mkF m 5 #[.val (.int p0), .val (.int p1), .val (.int p2), .unset, .unset, .unset, .unset, .unset] [(.int (3 : Int32)), (.int (p0 &&& (2147483647 : Int32)))])) _
  refine iremM X0 hx rfl (hb hby at_5) rfl (by decide) ?_
  show Steps p.tables e below (s₁.setTop (mkF m 6 #[.val (.int p0), .val (.int p1), .val (.int p2), .unset, .unset, .unset, .unset, .unset] [(.int ((p0 &&& (2147483647 : Int32)) % (3 : Int32)))])) _
  rw [hk]
  show Steps p.tables e below (s₁.setTop (mkF m 6 #[.val (.int p0), .val (.int p1), .val (.int p2), .unset, .unset, .unset, .unset, .unset] [(.int (0 : Int32))])) _
  refine st1 _ ?_
  show Steps p.tables e below (T1.setTop (mkF m 9 #[.val (.int p0), .val (.int p1), .val (.int p2), .unset, .unset, .unset, .unset, .unset] [(.ref w_SUCCESS)])) _
  refine XS.astoreN X1.here hx rfl (hb hby at_9) rfl rfl (l' := #[.val (.int p0), .val (.int p1), .val (.int p2), .val (.ref w_SUCCESS), .unset, .unset, .unset, .unset]) rfl ?_
  show Steps p.tables e below (T1.setTop (mkF m 10 #[.val (.int p0), .val (.int p1), .val (.int p2), .val (.ref w_SUCCESS), .unset, .unset, .unset, .unset] [])) _
  refine XS.aloadN X1.here hx rfl (hb hby at_10) rfl rfl ?_
  show Steps p.tables e below (T1.setTop (mkF m 11 #[.val (.int p0), .val (.int p1), .val (.int p2), .val (.ref w_SUCCESS), .unset, .unset, .unset, .unset] [(.ref w_SUCCESS)])) _
  refine XS.iloadN X1.here hx rfl (hb hby at_11) rfl ?_
  show Steps p.tables e below (T1.setTop (mkF m 12 #[.val (.int p0), .val (.int p1), .val (.int p2), .val (.ref w_SUCCESS), .unset, .unset, .unset, .unset] [(.int p1), (.ref w_SUCCESS)])) _
  refine XS.iloadN X1.here hx rfl (hb hby at_12) rfl ?_
  show Steps p.tables e below (T1.setTop (mkF m 13 #[.val (.int p0), .val (.int p1), .val (.int p2), .val (.ref w_SUCCESS), .unset, .unset, .unset, .unset] [(.int p2), (.int p1), (.ref w_SUCCESS)])) _
  refine st2 _ ?_
  show Steps p.tables e below (T2.setTop (mkF m 16 #[.val (.int p0), .val (.int p1), .val (.int p2), .val (.ref w_SUCCESS), .unset, .unset, .unset, .unset] [(.ref w_SUCCESS)])) _
  refine XS.astore X2.here hx rfl (hb hby at_16) rfl rfl (l' := #[.val (.int p0), .val (.int p1), .val (.int p2), .val (.ref w_SUCCESS), .val (.ref w_SUCCESS), .unset, .unset, .unset]) rfl ?_
  show Steps p.tables e below (T2.setTop (mkF m 18 #[.val (.int p0), .val (.int p1), .val (.int p2), .val (.ref w_SUCCESS), .val (.ref w_SUCCESS), .unset, .unset, .unset] [])) _
  refine XS.aloadN X2.here hx rfl (hb hby at_18) rfl rfl ?_
  show Steps p.tables e below (T2.setTop (mkF m 19 #[.val (.int p0), .val (.int p1), .val (.int p2), .val (.ref w_SUCCESS), .val (.ref w_SUCCESS), .unset, .unset, .unset] [(.ref w_SUCCESS)])) _
  refine st3 _ ?_
  show Steps p.tables e below (T3.setTop (mkF m 22 #[.val (.int p0), .val (.int p1), .val (.int p2), .val (.ref w_SUCCESS), .val (.ref w_SUCCESS), .unset, .unset, .unset] [(.ref w_SUCCESS), (.ref w_SUCCESS)])) _
  refine Jvm.RoadKit.acmp (g := (mkF m 22 #[.val (.int p0), .val (.int p1), .val (.int p2), .val (.ref w_SUCCESS), .val (.ref w_SUCCESS), .unset, .unset, .unset] [(.ref w_SUCCESS), (.ref w_SUCCESS)])) X3 hx rfl rfl rfl (pc0 := 22) (pc' := 25) (same := true) rfl (hb hby at_22) rfl (decide_eq_true rfl) (by decide) (by decide) ?_
  show Steps p.tables e below (T3.setTop (mkF m 25 #[.val (.int p0), .val (.int p1), .val (.int p2), .val (.ref w_SUCCESS), .val (.ref w_SUCCESS), .unset, .unset, .unset] [])) _
  refine st4 _ ?_
  show Steps p.tables e below (T4.setTop (mkF m 28 #[.val (.int p0), .val (.int p1), .val (.int p2), .val (.ref w_SUCCESS), .val (.ref w_SUCCESS), .unset, .unset, .unset] [(.ref w_SUCCESS)])) _
  refine XS.astore X4.here hx rfl (hb hby at_28) rfl rfl (l' := #[.val (.int p0), .val (.int p1), .val (.int p2), .val (.ref w_SUCCESS), .val (.ref w_SUCCESS), .val (.ref w_SUCCESS), .unset, .unset]) rfl ?_
  show Steps p.tables e below (T4.setTop (mkF m 30 #[.val (.int p0), .val (.int p1), .val (.int p2), .val (.ref w_SUCCESS), .val (.ref w_SUCCESS), .val (.ref w_SUCCESS), .unset, .unset] [])) _
  refine XS.goto X4.here hx rfl (pc0 := 30) (pc' := 58) rfl (hb hby at_30) (by decide) (by decide) ?_
  show Steps p.tables e below (T4.setTop (mkF m 58 #[.val (.int p0), .val (.int p1), .val (.int p2), .val (.ref w_SUCCESS), .val (.ref w_SUCCESS), .val (.ref w_SUCCESS), .unset, .unset] [])) _
  refine XS.aload X4.here hx rfl (hb hby at_58) rfl rfl ?_
  show Steps p.tables e below (T4.setTop (mkF m 60 #[.val (.int p0), .val (.int p1), .val (.int p2), .val (.ref w_SUCCESS), .val (.ref w_SUCCESS), .val (.ref w_SUCCESS), .unset, .unset] [(.ref w_SUCCESS)])) _
  refine XS.aload X4.here hx rfl (hb hby at_60) rfl rfl ?_
  show Steps p.tables e below (T4.setTop (mkF m 62 #[.val (.int p0), .val (.int p1), .val (.int p2), .val (.ref w_SUCCESS), .val (.ref w_SUCCESS), .val (.ref w_SUCCESS), .unset, .unset] [(.ref w_SUCCESS), (.ref w_SUCCESS)])) _
  refine Jvm.RoadKit.acmp (g := (mkF m 62 #[.val (.int p0), .val (.int p1), .val (.int p2), .val (.ref w_SUCCESS), .val (.ref w_SUCCESS), .val (.ref w_SUCCESS), .unset, .unset] [(.ref w_SUCCESS), (.ref w_SUCCESS)])) X4 hx rfl rfl rfl (pc0 := 62) (pc' := 65) (same := true) rfl (hb hby at_62) rfl (decide_eq_true rfl) (by decide) (by decide) ?_
  show Steps p.tables e below (T4.setTop (mkF m 65 #[.val (.int p0), .val (.int p1), .val (.int p2), .val (.ref w_SUCCESS), .val (.ref w_SUCCESS), .val (.ref w_SUCCESS), .unset, .unset] [])) _
  refine XS.iconst X4.here hx rfl (hb hby at_65) ?_
  show Steps p.tables e below (T4.setTop (mkF m 66 #[.val (.int p0), .val (.int p1), .val (.int p2), .val (.ref w_SUCCESS), .val (.ref w_SUCCESS), .val (.ref w_SUCCESS), .unset, .unset] [(.int (1 : Int32))])) _
  refine XS.goto X4.here hx rfl (pc0 := 66) (pc' := 70) rfl (hb hby at_66) (by decide) (by decide) ?_
  show Steps p.tables e below (T4.setTop (mkF m 70 #[.val (.int p0), .val (.int p1), .val (.int p2), .val (.ref w_SUCCESS), .val (.ref w_SUCCESS), .val (.ref w_SUCCESS), .unset, .unset] [(.int (1 : Int32))])) _
  exact retN X4 hx (t := .boolean) Bd.returns (by simp) (hb hby at_70) hr
theorem d1_8 : decode method_2_code 8 = .ok (.iload_n 0, 1) := by decide +kernel
theorem d1_9 : decode method_2_code 9 = .ok (.iconst 1, 1) := by decide +kernel
theorem d1_10 : decode method_2_code 10 = .ok (.if_icmp .ne 7, 3) := by decide +kernel
theorem d1_13 : decode method_2_code 13 = .ok (.getstatic 13, 3) := by decide +kernel
theorem d1_16 : decode method_2_code 16 = .ok (.areturn, 1) := by decide +kernel
set_option maxRecDepth 65536 in
set_option maxHeartbeats 40000000 in
theorem rm1_1 (l : Launch) (Z : State) (a0 : Array Value) (hw : ∀ d ∈ tables_1, d.before a0 Z = true) (ws : List Jvm.Cond) (w_SUCCESS w_FAILURE w_TIMED_OUT w_WAITING : Addr) (h0 : Heap) (n0 : Nat) (Z0 : n0 ≤ h0.size) (S : SF Z h0 w_SUCCESS w_FAILURE w_TIMED_OUT w_WAITING) :
    Pay l Z (⟨"com/example/graph_to_grid/graphtogrid/core/RunProgressAfterAttemptPinLaw", "endedOf", "(I)Lcom/example/graph_to_grid/graphtogrid/core/TaskState;"⟩ : MethodName) ws method_2_code 1 (some (.object "com/example/graph_to_grid/graphtogrid/core/TaskState")) #[(.int (1 : Int32))] h0 n0 ({ frames := 0, cells := 0, slots := 0, locals := 0 } : Room) (some (.ref w_FAILURE)) := by
  obtain ⟨S_w_SUCCESS, E_w_SUCCESS, S_w_FAILURE, E_w_FAILURE, S_w_TIMED_OUT, E_w_TIMED_OUT, S_w_WAITING, E_w_WAITING, F_ordinal_w_FAILURE, F_ordinal_w_SUCCESS, F_ordinal_w_TIMED_OUT, hne_w_SUCCESS_w_FAILURE, hne_w_SUCCESS_w_TIMED_OUT, hne_w_FAILURE_w_TIMED_OUT⟩ := id S
  refine MetFree.of_bodySF (plainFor_of_name pn_0) hisR ?_
  intro p e s m args below meth c s₁ Bd hml0 hP hK
  obtain ⟨rfl, hZ, hh⟩ := hP
  have hx := Bd.exec
  have hby := Bd.bytes
  have hml : c.maxLocals = 1 := hml0
  have hown : s.vm.findClass "com/example/graph_to_grid/graphtogrid/core/RunProgressAfterAttemptPinLaw" = some m.cls := findClass_of_methodNamed Bd.named
  have X0 : Stand p l e ({ frames := 0, cells := 0, slots := 0, locals := 0 } : Room) s m #[(.int (1 : Int32))] below meth c s₁ [] 0 0 := Stand.of_body Bd
  have e0 : s₁.heap = h0 := by rw [← hh, Bd.state]; rfl
  have N0 := Fr.nil n0
  have pre0 : ∀ t, Steps p.tables e below (s₁.setTop (mkF m 0 #[.val (.int (1 : Int32))] [])) t → Steps p.tables e below (s₁.setTop (entryFrame m #[(.int (1 : Int32))] 1)) t := fun t k => castTop (by first | rfl | (simp [entryFrame, mkF, argsToLocals, Value.category]; done)) k
  obtain ⟨T1, X1, e1, st1⟩ := getS2 X0 hx hZ hown (host := "") (Or.inl (hw _ (List.mem_of_getElem? (i := 13) rfl))) Via.refl e0 S_w_FAILURE (g := (mkF m 13 #[.val (.int (1 : Int32))] [])) rfl (hb hby d1_13)
  obtain ⟨fs, hr, hrun, hended, hW, hsame⟩ := X1.leave (v := (some (.ref w_FAILURE))) (fun h => by rw [Bd.returns] at h; cases h)
  refine ⟨_, _, pre0 _ ?_, hrun, hended, _, _, rfl, ⟨rfl, N0, e1⟩, ⟨_, rfl⟩, hW, hsame.mono (by decide) (by decide)⟩
  show Steps p.tables e below (s₁.setTop (mkF m 0 #[.val (.int (1 : Int32))] [])) _
  refine XS.iloadN X0.here hx rfl (hb hby d1_0) rfl ?_
  show Steps p.tables e below (s₁.setTop (mkF m 1 #[.val (.int (1 : Int32))] [(.int (1 : Int32))])) _
  refine XS.ifYes X0.here hx rfl (pc0 := 1) (pc' := 8) rfl (hb hby d1_1) rfl ((if0 _ _).trans (feq (by decide : ¬ ((1 : Int32) = (0 : Int32)))).2) (by decide) (by decide) ?_
  show Steps p.tables e below (s₁.setTop (mkF m 8 #[.val (.int (1 : Int32))] [])) _
  refine XS.iloadN X0.here hx rfl (hb hby d1_8) rfl ?_
  show Steps p.tables e below (s₁.setTop (mkF m 9 #[.val (.int (1 : Int32))] [(.int (1 : Int32))])) _
  refine XS.iconst X0.here hx rfl (hb hby d1_9) ?_
  show Steps p.tables e below (s₁.setTop (mkF m 10 #[.val (.int (1 : Int32))] [(.int (1 : Int32)), (.int (1 : Int32))])) _
  refine XS.icmpNo X0.here hx rfl (hb hby d1_10) rfl (teq (by decide : (1 : Int32) = (1 : Int32))).2 ?_
  show Steps p.tables e below (s₁.setTop (mkF m 13 #[.val (.int (1 : Int32))] [])) _
  refine st1 _ ?_
  show Steps p.tables e below (T1.setTop (mkF m 16 #[.val (.int (1 : Int32))] [(.ref w_FAILURE)])) _
  exact retOut X1 hx (t := (.object "com/example/graph_to_grid/graphtogrid/core/TaskState")) (i := .areturn) Bd.returns rfl (Or.inr (Or.inr (Or.inr (Or.inr ⟨rfl, rfl, rfl⟩)))) (hb hby d1_16) hr
theorem d2_7 : decode prog_8_method_2_code 7 = .ok (.iload_n 1, 1) := by decide +kernel
theorem d2_8 : decode prog_8_method_2_code 8 = .ok (.iload_n 2, 1) := by decide +kernel
theorem d2_9 : decode prog_8_method_2_code 9 = .ok (.if_icmp .gt 7, 3) := by decide +kernel
set_option maxRecDepth 65536 in
set_option maxHeartbeats 40000000 in
theorem rm2_2 (l : Launch) (Z : State) (a0 : Array Value) (hw : ∀ d ∈ tables_1, d.before a0 Z = true) (ws : List Jvm.Cond) (w_SUCCESS w_FAILURE w_TIMED_OUT w_WAITING : Addr) (h0 : Heap) (n0 : Nat) (Z0 : n0 ≤ h0.size) (S : SF Z h0 w_SUCCESS w_FAILURE w_TIMED_OUT w_WAITING) (p1 : Int32) (p2 : Int32) (hs : p2 < p1) (hl : (lcmpW ((p2.toInt64) - (p1.toInt64)) (0 : Int64)) < (0 : Int32)) :
    Pay l Z (⟨"com/example/graph_to_grid/graphtogrid/core/RunProgress", "afterAttempt", "(Lcom/example/graph_to_grid/graphtogrid/core/TaskState;II)Lcom/example/graph_to_grid/graphtogrid/core/TaskState;"⟩ : MethodName) ws prog_8_method_2_code 3 (some (.object "com/example/graph_to_grid/graphtogrid/core/TaskState")) #[(.ref w_FAILURE), (.int p1), (.int p2)] h0 n0 ({ frames := 0, cells := 0, slots := 0, locals := 0 } : Room) (some (.ref w_FAILURE)) := by
  obtain ⟨S_w_SUCCESS, E_w_SUCCESS, S_w_FAILURE, E_w_FAILURE, S_w_TIMED_OUT, E_w_TIMED_OUT, S_w_WAITING, E_w_WAITING, F_ordinal_w_FAILURE, F_ordinal_w_SUCCESS, F_ordinal_w_TIMED_OUT, hne_w_SUCCESS_w_FAILURE, hne_w_SUCCESS_w_TIMED_OUT, hne_w_FAILURE_w_TIMED_OUT⟩ := id S
  refine MetFree.of_bodySF (plainFor_of_name pn_1) hisR ?_
  intro p e s m args below meth c s₁ Bd hml0 hP hK
  obtain ⟨rfl, hZ, hh⟩ := hP
  have hx := Bd.exec
  have hby := Bd.bytes
  have hml : c.maxLocals = 3 := hml0
  have hown : s.vm.findClass "com/example/graph_to_grid/graphtogrid/core/RunProgress" = some m.cls := findClass_of_methodNamed Bd.named
  have X0 : Stand p l e ({ frames := 0, cells := 0, slots := 0, locals := 0 } : Room) s m #[(.ref w_FAILURE), (.int p1), (.int p2)] below meth c s₁ [] 0 0 := Stand.of_body Bd
  have e0 : s₁.heap = h0 := by rw [← hh, Bd.state]; rfl
  have N0 := Fr.nil n0
  have pre0 : ∀ t, Steps p.tables e below (s₁.setTop (mkF m 0 #[.val (.ref w_FAILURE), .val (.int p1), .val (.int p2)] [])) t → Steps p.tables e below (s₁.setTop (entryFrame m #[(.ref w_FAILURE), (.int p1), (.int p2)] 3)) t := fun t k => castTop (by first | rfl | (simp [entryFrame, mkF, argsToLocals, Value.category]; done)) k
  obtain ⟨T1, X1, e1, st1⟩ := getS2 X0 hx hZ hown (host := "") (Or.inl (hw _ (List.mem_of_getElem? (i := 12) rfl))) Via.refl e0 S_w_SUCCESS (g := (mkF m 1 #[.val (.ref w_FAILURE), .val (.int p1), .val (.int p2)] [(.ref w_FAILURE)])) rfl (hb hby d2_1)
  obtain ⟨fs, hr, hrun, hended, hW, hsame⟩ := X1.leave (v := (some (.ref w_FAILURE))) (fun h => by rw [Bd.returns] at h; cases h)
  refine ⟨_, _, pre0 _ ?_, hrun, hended, _, _, rfl, ⟨rfl, N0, e1⟩, ⟨_, rfl⟩, hW, hsame.mono (by decide) (by decide)⟩
  show Steps p.tables e below (s₁.setTop (mkF m 0 #[.val (.ref w_FAILURE), .val (.int p1), .val (.int p2)] [])) _
  refine XS.aloadN X0.here hx rfl (hb hby d2_0) rfl rfl ?_
  show Steps p.tables e below (s₁.setTop (mkF m 1 #[.val (.ref w_FAILURE), .val (.int p1), .val (.int p2)] [(.ref w_FAILURE)])) _
  refine st1 _ ?_
  show Steps p.tables e below (T1.setTop (mkF m 4 #[.val (.ref w_FAILURE), .val (.int p1), .val (.int p2)] [(.ref w_SUCCESS), (.ref w_FAILURE)])) _
  refine Jvm.RoadKit.acmp (g := (mkF m 4 #[.val (.ref w_FAILURE), .val (.int p1), .val (.int p2)] [(.ref w_SUCCESS), (.ref w_FAILURE)])) X1 hx rfl rfl rfl (pc0 := 4) (pc' := 7) (same := false) rfl (hb hby d2_4) rfl (decide_eq_false fun q => hne_w_SUCCESS_w_FAILURE (Value.ref.inj q).symm) (by decide) (by decide) ?_
  show Steps p.tables e below (T1.setTop (mkF m 7 #[.val (.ref w_FAILURE), .val (.int p1), .val (.int p2)] [])) _
  refine XS.iloadN X1.here hx rfl (hb hby d2_7) rfl ?_
  show Steps p.tables e below (T1.setTop (mkF m 8 #[.val (.ref w_FAILURE), .val (.int p1), .val (.int p2)] [(.int p1)])) _
  refine XS.iloadN X1.here hx rfl (hb hby d2_8) rfl ?_
  show Steps p.tables e below (T1.setTop (mkF m 9 #[.val (.ref w_FAILURE), .val (.int p1), .val (.int p2)] [(.int p2), (.int p1)])) _
  refine XS.icmpYes X1.here hx rfl (pc0 := 9) (pc' := 16) rfl (hb hby d2_9) rfl (tlt hs).2.2.1 (by decide) (by decide) ?_
  show Steps p.tables e below (T1.setTop (mkF m 16 #[.val (.ref w_FAILURE), .val (.int p1), .val (.int p2)] [])) _
  refine XS.aloadN X1.here hx rfl (hb hby d2_16) rfl rfl ?_
  show Steps p.tables e below (T1.setTop (mkF m 17 #[.val (.ref w_FAILURE), .val (.int p1), .val (.int p2)] [(.ref w_FAILURE)])) _
  exact retOut X1 hx (t := (.object "com/example/graph_to_grid/graphtogrid/core/TaskState")) (i := .areturn) Bd.returns rfl (Or.inr (Or.inr (Or.inr (Or.inr ⟨rfl, rfl, rfl⟩)))) (hb hby d2_17) hr
set_option maxRecDepth 65536 in
set_option maxHeartbeats 40000000 in
theorem rm0_2 (l : Launch) (Z : State) (a0 : Array Value) (hw : ∀ d ∈ tables_1, d.before a0 Z = true) (ws : List Jvm.Cond) (w_SUCCESS w_FAILURE w_TIMED_OUT w_WAITING : Addr) (h0 : Heap) (n0 : Nat) (Z0 : n0 ≤ h0.size) (S : SF Z h0 w_SUCCESS w_FAILURE w_TIMED_OUT w_WAITING) (p0 : Int32) (p1 : Int32) (p2 : Int32) (hk : ((p0 &&& (2147483647 : Int32)) % (3 : Int32)) = (1 : Int32)) (hs : p2 < p1) (hl : (lcmpW ((p2.toInt64) - (p1.toInt64)) (0 : Int64)) < (0 : Int32)) :
    Pay l Z x ws code maxLocals ret #[(.int p0), (.int p1), (.int p2)] h0 n0 room_1 (some (.int (1 : Int32))) := by
  obtain ⟨S_w_SUCCESS, E_w_SUCCESS, S_w_FAILURE, E_w_FAILURE, S_w_TIMED_OUT, E_w_TIMED_OUT, S_w_WAITING, E_w_WAITING, F_ordinal_w_FAILURE, F_ordinal_w_SUCCESS, F_ordinal_w_TIMED_OUT, hne_w_SUCCESS_w_FAILURE, hne_w_SUCCESS_w_TIMED_OUT, hne_w_FAILURE_w_TIMED_OUT⟩ := id S
  refine MetFree.of_bodySF (plainFor_of_name pn_0) hisR ?_
  intro p e s m args below meth c s₁ Bd hml0 hP hK
  obtain ⟨rfl, hZ, hh⟩ := hP
  have hx := Bd.exec
  have hby := Bd.bytes
  have hml : c.maxLocals = 8 := hml0
  have hown : s.vm.findClass "com/example/graph_to_grid/graphtogrid/core/RunProgressAfterAttemptPinLaw" = some m.cls := findClass_of_methodNamed Bd.named
  have X0 : Stand p l e room_1 s m #[(.int p0), (.int p1), (.int p2)] below meth c s₁ [] 0 0 := Stand.of_body Bd
  have e0 : s₁.heap = h0 := by rw [← hh, Bd.state]; rfl
  have N0 := Fr.nil n0
  have pre0 : ∀ t, Steps p.tables e below (s₁.setTop (mkF m 0 #[.val (.int p0), .val (.int p1), .val (.int p2), .unset, .unset, .unset, .unset, .unset] [])) t → Steps p.tables e below (s₁.setTop (entryFrame m #[(.int p0), (.int p1), (.int p2)] maxLocals)) t := fun t k => castTop (by first | rfl | (simp [entryFrame, mkF, argsToLocals, Value.category, maxLocals]; done)) k
  obtain ⟨_, _, ⟨T1, L1, k1, n1⟩, -, X1, ⟨Lc1, hQ1, l1, y1, z1⟩, st1⟩ := Jvm.LawKit.callS X0 hx (y := (⟨"com/example/graph_to_grid/graphtogrid/core/RunProgressAfterAttemptPinLaw", "endedOf", "(I)Lcom/example/graph_to_grid/graphtogrid/core/TaskState;"⟩ : MethodName)) hown (mvT hZ (hw _ (List.mem_of_getElem? (i := 1) rfl))) (mvT hZ (hw _ (List.mem_of_getElem? (i := 2) rfl))) (mvT hZ (hw _ (List.mem_of_getElem? (i := 3) rfl))) (mvT hZ (hw _ (List.mem_of_getElem? (i := 4) rfl))) (by decide) (backOf (W := 0) (rm1_1 l Z a0 hw [] w_SUCCESS w_FAILURE w_TIMED_OUT w_WAITING h0 n0 Z0 S) hZ (hw _ (List.mem_of_getElem? (i := 4) rfl)) (hw _ (List.mem_of_getElem? (i := 3) rfl)) (by decide) (by decide)) (g := (mkF m 6 #[.val (.int p0), .val (.int p1), .val (.int p2), .unset, .unset, .unset, .unset, .unset] [(.int (1 : Int32))])) rfl (by rw [hml]; rfl) (argsL := [(.int (1 : Int32))]) (rest := []) (lenOf pd_0 rfl) rfl (by show 2 * 0 + _ ≤ _; exact Nat.le_of_eq rfl) (hb hby at_6) (fun _ _ => ⟨rfl, e0, (by decide : 0 + 0 ≤ _), (by decide : 0 + 0 ≤ _)⟩)
  dsimp only [Pt.U, Pt.locs, Pt.cells, Pt.slots] at X1 l1 y1 z1 st1 hQ1
  subst l1 y1 z1
  obtain ⟨rfl, Nq1, e1⟩ := hQ1
  have N1 := Fr.app N0 Nq1
  obtain ⟨_, _, ⟨T2, L2, k2, n2⟩, -, X2, ⟨Lc2, hQ2, l2, y2, z2⟩, st2⟩ := Jvm.LawKit.callS X1 hx (y := (⟨"com/example/graph_to_grid/graphtogrid/core/RunProgress", "afterAttempt", "(Lcom/example/graph_to_grid/graphtogrid/core/TaskState;II)Lcom/example/graph_to_grid/graphtogrid/core/TaskState;"⟩ : MethodName)) hown (mvT hZ (hw _ (List.mem_of_getElem? (i := 8) rfl))) (mvT hZ (hw _ (List.mem_of_getElem? (i := 9) rfl))) (mvT hZ (hw _ (List.mem_of_getElem? (i := 10) rfl))) (mvT hZ (hw _ (List.mem_of_getElem? (i := 11) rfl))) (by decide) (backOf (W := 0) (rm2_2 l Z a0 hw [] w_SUCCESS w_FAILURE w_TIMED_OUT w_WAITING h0 n0 Z0 S p1 p2 hs hl) hZ (hw _ (List.mem_of_getElem? (i := 11) rfl)) (hw _ (List.mem_of_getElem? (i := 10) rfl)) (by decide) (by decide)) (g := (mkF m 13 #[.val (.int p0), .val (.int p1), .val (.int p2), .val (.ref w_FAILURE), .unset, .unset, .unset, .unset] [(.int p2), (.int p1), (.ref w_FAILURE)])) rfl (by rw [hml]; rfl) (argsL := [(.ref w_FAILURE), (.int p1), (.int p2)]) (rest := []) (lenOf pd_1 rfl) rfl (by show 2 * 0 + _ ≤ _; exact Nat.le_of_eq rfl) (hb hby at_13) (fun _ _ => ⟨rfl, e1, (by decide : 0 + 0 ≤ _), (by decide : 0 + 0 ≤ _)⟩)
  dsimp only [Pt.U, Pt.locs, Pt.cells, Pt.slots] at X2 l2 y2 z2 st2 hQ2
  subst l2 y2 z2
  obtain ⟨rfl, Nq2, e2⟩ := hQ2
  have N2 := Fr.app N1 Nq2
  obtain ⟨T3, X3, e3, st3⟩ := getS2 X2 hx hZ hown (host := "") (Or.inl (hw _ (List.mem_of_getElem? (i := 5) rfl))) Via.refl e2 S_w_SUCCESS (g := (mkF m 19 #[.val (.int p0), .val (.int p1), .val (.int p2), .val (.ref w_FAILURE), .val (.ref w_FAILURE), .unset, .unset, .unset] [(.ref w_FAILURE)])) rfl (hb hby at_19)
  obtain ⟨fs, hr, hrun, hended, hW, hsame⟩ := X3.leave (v := (some (.int (1 : Int32)))) (fun h => by rw [Bd.returns] at h; cases h)
  refine ⟨_, _, pre0 _ ?_, hrun, hended, _, _, rfl, ⟨rfl, N2, e3⟩, ⟨_, rfl⟩, hW, hsame.mono (by decide) (by decide)⟩
  show Steps p.tables e below (s₁.setTop (mkF m 0 #[.val (.int p0), .val (.int p1), .val (.int p2), .unset, .unset, .unset, .unset, .unset] [])) _
  refine XS.iloadN X0.here hx rfl (hb hby at_0) rfl ?_
  show Steps p.tables e below (s₁.setTop (mkF m 1 #[.val (.int p0), .val (.int p1), .val (.int p2), .unset, .unset, .unset, .unset, .unset] [(.int p0)])) _
  refine X0.ldcInt hx hown (mvT hZ (hw _ (List.mem_of_getElem? (i := 0) rfl))) (g := (mkF m 1 #[.val (.int p0), .val (.int p1), .val (.int p2), .unset, .unset, .unset, .unset, .unset] [(.int p0)])) rfl (hb hby at_1) _ ?_
  show Steps p.tables e below (s₁.setTop (mkF m 3 #[.val (.int p0), .val (.int p1), .val (.int p2), .unset, .unset, .unset, .unset, .unset] [(.int (2147483647 : Int32)), (.int p0)])) _
  refine XS.iand X0.here hx rfl (hb hby at_3) rfl ?_
  show Steps p.tables e below (s₁.setTop (mkF m 4 #[.val (.int p0), .val (.int p1), .val (.int p2), .unset, .unset, .unset, .unset, .unset] [(.int (p0 &&& (2147483647 : Int32)))])) _
  show Steps p.tables e below (s₁.setTop (mkF m 4 #[.val (.int p0), .val (.int p1), .val (.int p2), .unset, .unset, .unset, .unset, .unset] [(.int (p0 &&& (2147483647 : Int32)))])) _
  refine XS.iconst X0.here hx rfl (hb hby at_4) ?_
  show Steps p.tables e below (s₁.setTop (mkF m 5 #[.val (.int p0), .val (.int p1), .val (.int p2), .unset, .unset, .unset, .unset, .unset] [(.int (3 : Int32)), (.int (p0 &&& (2147483647 : Int32)))])) _
  refine iremM X0 hx rfl (hb hby at_5) rfl (by decide) ?_
  show Steps p.tables e below (s₁.setTop (mkF m 6 #[.val (.int p0), .val (.int p1), .val (.int p2), .unset, .unset, .unset, .unset, .unset] [(.int ((p0 &&& (2147483647 : Int32)) % (3 : Int32)))])) _
  rw [hk]
  show Steps p.tables e below (s₁.setTop (mkF m 6 #[.val (.int p0), .val (.int p1), .val (.int p2), .unset, .unset, .unset, .unset, .unset] [(.int (1 : Int32))])) _
  refine st1 _ ?_
  show Steps p.tables e below (T1.setTop (mkF m 9 #[.val (.int p0), .val (.int p1), .val (.int p2), .unset, .unset, .unset, .unset, .unset] [(.ref w_FAILURE)])) _
  refine XS.astoreN X1.here hx rfl (hb hby at_9) rfl rfl (l' := #[.val (.int p0), .val (.int p1), .val (.int p2), .val (.ref w_FAILURE), .unset, .unset, .unset, .unset]) rfl ?_
  show Steps p.tables e below (T1.setTop (mkF m 10 #[.val (.int p0), .val (.int p1), .val (.int p2), .val (.ref w_FAILURE), .unset, .unset, .unset, .unset] [])) _
  refine XS.aloadN X1.here hx rfl (hb hby at_10) rfl rfl ?_
  show Steps p.tables e below (T1.setTop (mkF m 11 #[.val (.int p0), .val (.int p1), .val (.int p2), .val (.ref w_FAILURE), .unset, .unset, .unset, .unset] [(.ref w_FAILURE)])) _
  refine XS.iloadN X1.here hx rfl (hb hby at_11) rfl ?_
  show Steps p.tables e below (T1.setTop (mkF m 12 #[.val (.int p0), .val (.int p1), .val (.int p2), .val (.ref w_FAILURE), .unset, .unset, .unset, .unset] [(.int p1), (.ref w_FAILURE)])) _
  refine XS.iloadN X1.here hx rfl (hb hby at_12) rfl ?_
  show Steps p.tables e below (T1.setTop (mkF m 13 #[.val (.int p0), .val (.int p1), .val (.int p2), .val (.ref w_FAILURE), .unset, .unset, .unset, .unset] [(.int p2), (.int p1), (.ref w_FAILURE)])) _
  refine st2 _ ?_
  show Steps p.tables e below (T2.setTop (mkF m 16 #[.val (.int p0), .val (.int p1), .val (.int p2), .val (.ref w_FAILURE), .unset, .unset, .unset, .unset] [(.ref w_FAILURE)])) _
  refine XS.astore X2.here hx rfl (hb hby at_16) rfl rfl (l' := #[.val (.int p0), .val (.int p1), .val (.int p2), .val (.ref w_FAILURE), .val (.ref w_FAILURE), .unset, .unset, .unset]) rfl ?_
  show Steps p.tables e below (T2.setTop (mkF m 18 #[.val (.int p0), .val (.int p1), .val (.int p2), .val (.ref w_FAILURE), .val (.ref w_FAILURE), .unset, .unset, .unset] [])) _
  refine XS.aloadN X2.here hx rfl (hb hby at_18) rfl rfl ?_
  show Steps p.tables e below (T2.setTop (mkF m 19 #[.val (.int p0), .val (.int p1), .val (.int p2), .val (.ref w_FAILURE), .val (.ref w_FAILURE), .unset, .unset, .unset] [(.ref w_FAILURE)])) _
  refine st3 _ ?_
  show Steps p.tables e below (T3.setTop (mkF m 22 #[.val (.int p0), .val (.int p1), .val (.int p2), .val (.ref w_FAILURE), .val (.ref w_FAILURE), .unset, .unset, .unset] [(.ref w_SUCCESS), (.ref w_FAILURE)])) _
  refine Jvm.RoadKit.acmp (g := (mkF m 22 #[.val (.int p0), .val (.int p1), .val (.int p2), .val (.ref w_FAILURE), .val (.ref w_FAILURE), .unset, .unset, .unset] [(.ref w_SUCCESS), (.ref w_FAILURE)])) X3 hx rfl rfl rfl (pc0 := 22) (pc' := 33) (same := false) rfl (hb hby at_22) rfl (decide_eq_false fun q => hne_w_SUCCESS_w_FAILURE (Value.ref.inj q).symm) (by decide) (by decide) ?_
  show Steps p.tables e below (T3.setTop (mkF m 33 #[.val (.int p0), .val (.int p1), .val (.int p2), .val (.ref w_FAILURE), .val (.ref w_FAILURE), .unset, .unset, .unset] [])) _
  refine XS.iloadN X3.here hx rfl (hb hby at_33) rfl ?_
  show Steps p.tables e below (T3.setTop (mkF m 34 #[.val (.int p0), .val (.int p1), .val (.int p2), .val (.ref w_FAILURE), .val (.ref w_FAILURE), .unset, .unset, .unset] [(.int p2)])) _
  refine XS.i2l X3.here hx rfl (hb hby at_34) rfl ?_
  show Steps p.tables e below (T3.setTop (mkF m 35 #[.val (.int p0), .val (.int p1), .val (.int p2), .val (.ref w_FAILURE), .val (.ref w_FAILURE), .unset, .unset, .unset] [(.long (p2.toInt64))])) _
  refine XS.iloadN X3.here hx rfl (hb hby at_35) rfl ?_
  show Steps p.tables e below (T3.setTop (mkF m 36 #[.val (.int p0), .val (.int p1), .val (.int p2), .val (.ref w_FAILURE), .val (.ref w_FAILURE), .unset, .unset, .unset] [(.int p1), (.long (p2.toInt64))])) _
  refine XS.i2l X3.here hx rfl (hb hby at_36) rfl ?_
  show Steps p.tables e below (T3.setTop (mkF m 37 #[.val (.int p0), .val (.int p1), .val (.int p2), .val (.ref w_FAILURE), .val (.ref w_FAILURE), .unset, .unset, .unset] [(.long (p1.toInt64)), (.long (p2.toInt64))])) _
  refine XS.lsub X3.here hx rfl (hb hby at_37) rfl ?_
  show Steps p.tables e below (T3.setTop (mkF m 38 #[.val (.int p0), .val (.int p1), .val (.int p2), .val (.ref w_FAILURE), .val (.ref w_FAILURE), .unset, .unset, .unset] [(.long ((p2.toInt64) - (p1.toInt64)))])) _
  refine XS.lstore X3.here hx rfl (hb hby at_38) rfl (l' := #[.val (.int p0), .val (.int p1), .val (.int p2), .val (.ref w_FAILURE), .val (.ref w_FAILURE), .unset, .val (.long ((p2.toInt64) - (p1.toInt64))), .second]) rfl ?_
  show Steps p.tables e below (T3.setTop (mkF m 40 #[.val (.int p0), .val (.int p1), .val (.int p2), .val (.ref w_FAILURE), .val (.ref w_FAILURE), .unset, .val (.long ((p2.toInt64) - (p1.toInt64))), .second] [])) _
  refine XS.lload X3.here hx rfl (hb hby at_40) rfl ?_
  show Steps p.tables e below (T3.setTop (mkF m 42 #[.val (.int p0), .val (.int p1), .val (.int p2), .val (.ref w_FAILURE), .val (.ref w_FAILURE), .unset, .val (.long ((p2.toInt64) - (p1.toInt64))), .second] [(.long ((p2.toInt64) - (p1.toInt64)))])) _
  refine XS.lconst X3.here hx rfl (hb hby at_42) ?_
  show Steps p.tables e below (T3.setTop (mkF m 43 #[.val (.int p0), .val (.int p1), .val (.int p2), .val (.ref w_FAILURE), .val (.ref w_FAILURE), .unset, .val (.long ((p2.toInt64) - (p1.toInt64))), .second] [(.long (0 : Int64)), (.long ((p2.toInt64) - (p1.toInt64)))])) _
  refine XS.lcmp X3.here hx rfl (hb hby at_43) rfl ?_
  show Steps p.tables e below (T3.setTop (mkF m 44 #[.val (.int p0), .val (.int p1), .val (.int p2), .val (.ref w_FAILURE), .val (.ref w_FAILURE), .unset, .val (.long ((p2.toInt64) - (p1.toInt64))), .second] [(.int (lcmpW ((p2.toInt64) - (p1.toInt64)) (0 : Int64)))])) _
  refine XS.ifYes X3.here hx rfl (pc0 := 44) (pc' := 55) rfl (hb hby at_44) rfl ((if0 _ _).trans (tlt hl).1) (by decide) (by decide) ?_
  show Steps p.tables e below (T3.setTop (mkF m 55 #[.val (.int p0), .val (.int p1), .val (.int p2), .val (.ref w_FAILURE), .val (.ref w_FAILURE), .unset, .val (.long ((p2.toInt64) - (p1.toInt64))), .second] [])) _
  refine XS.aloadN X3.here hx rfl (hb hby at_55) rfl rfl ?_
  show Steps p.tables e below (T3.setTop (mkF m 56 #[.val (.int p0), .val (.int p1), .val (.int p2), .val (.ref w_FAILURE), .val (.ref w_FAILURE), .unset, .val (.long ((p2.toInt64) - (p1.toInt64))), .second] [(.ref w_FAILURE)])) _
  refine XS.astore X3.here hx rfl (hb hby at_56) rfl rfl (l' := #[.val (.int p0), .val (.int p1), .val (.int p2), .val (.ref w_FAILURE), .val (.ref w_FAILURE), .val (.ref w_FAILURE), .val (.long ((p2.toInt64) - (p1.toInt64))), .second]) rfl ?_
  show Steps p.tables e below (T3.setTop (mkF m 58 #[.val (.int p0), .val (.int p1), .val (.int p2), .val (.ref w_FAILURE), .val (.ref w_FAILURE), .val (.ref w_FAILURE), .val (.long ((p2.toInt64) - (p1.toInt64))), .second] [])) _
  refine XS.aload X3.here hx rfl (hb hby at_58) rfl rfl ?_
  show Steps p.tables e below (T3.setTop (mkF m 60 #[.val (.int p0), .val (.int p1), .val (.int p2), .val (.ref w_FAILURE), .val (.ref w_FAILURE), .val (.ref w_FAILURE), .val (.long ((p2.toInt64) - (p1.toInt64))), .second] [(.ref w_FAILURE)])) _
  refine XS.aload X3.here hx rfl (hb hby at_60) rfl rfl ?_
  show Steps p.tables e below (T3.setTop (mkF m 62 #[.val (.int p0), .val (.int p1), .val (.int p2), .val (.ref w_FAILURE), .val (.ref w_FAILURE), .val (.ref w_FAILURE), .val (.long ((p2.toInt64) - (p1.toInt64))), .second] [(.ref w_FAILURE), (.ref w_FAILURE)])) _
  refine Jvm.RoadKit.acmp (g := (mkF m 62 #[.val (.int p0), .val (.int p1), .val (.int p2), .val (.ref w_FAILURE), .val (.ref w_FAILURE), .val (.ref w_FAILURE), .val (.long ((p2.toInt64) - (p1.toInt64))), .second] [(.ref w_FAILURE), (.ref w_FAILURE)])) X3 hx rfl rfl rfl (pc0 := 62) (pc' := 65) (same := true) rfl (hb hby at_62) rfl (decide_eq_true rfl) (by decide) (by decide) ?_
  show Steps p.tables e below (T3.setTop (mkF m 65 #[.val (.int p0), .val (.int p1), .val (.int p2), .val (.ref w_FAILURE), .val (.ref w_FAILURE), .val (.ref w_FAILURE), .val (.long ((p2.toInt64) - (p1.toInt64))), .second] [])) _
  refine XS.iconst X3.here hx rfl (hb hby at_65) ?_
  show Steps p.tables e below (T3.setTop (mkF m 66 #[.val (.int p0), .val (.int p1), .val (.int p2), .val (.ref w_FAILURE), .val (.ref w_FAILURE), .val (.ref w_FAILURE), .val (.long ((p2.toInt64) - (p1.toInt64))), .second] [(.int (1 : Int32))])) _
  refine XS.goto X3.here hx rfl (pc0 := 66) (pc' := 70) rfl (hb hby at_66) (by decide) (by decide) ?_
  show Steps p.tables e below (T3.setTop (mkF m 70 #[.val (.int p0), .val (.int p1), .val (.int p2), .val (.ref w_FAILURE), .val (.ref w_FAILURE), .val (.ref w_FAILURE), .val (.long ((p2.toInt64) - (p1.toInt64))), .second] [(.int (1 : Int32))])) _
  exact retN X3 hx (t := .boolean) Bd.returns (by simp) (hb hby at_70) hr
theorem d2_12 : decode prog_8_method_2_code 12 = .ok (.getstatic 13, 3) := by decide +kernel
theorem d2_15 : decode prog_8_method_2_code 15 = .ok (.areturn, 1) := by decide +kernel
set_option maxRecDepth 65536 in
set_option maxHeartbeats 40000000 in
theorem rm2_3 (l : Launch) (Z : State) (a0 : Array Value) (hw : ∀ d ∈ tables_1, d.before a0 Z = true) (ws : List Jvm.Cond) (w_SUCCESS w_FAILURE w_TIMED_OUT w_WAITING : Addr) (h0 : Heap) (n0 : Nat) (Z0 : n0 ≤ h0.size) (S : SF Z h0 w_SUCCESS w_FAILURE w_TIMED_OUT w_WAITING) (p1 : Int32) (p2 : Int32) (hs : ¬ (p2 < p1)) (hl : ¬ ((lcmpW ((p2.toInt64) - (p1.toInt64)) (0 : Int64)) < (0 : Int32))) :
    Pay l Z (⟨"com/example/graph_to_grid/graphtogrid/core/RunProgress", "afterAttempt", "(Lcom/example/graph_to_grid/graphtogrid/core/TaskState;II)Lcom/example/graph_to_grid/graphtogrid/core/TaskState;"⟩ : MethodName) ws prog_8_method_2_code 3 (some (.object "com/example/graph_to_grid/graphtogrid/core/TaskState")) #[(.ref w_FAILURE), (.int p1), (.int p2)] h0 n0 ({ frames := 0, cells := 0, slots := 0, locals := 0 } : Room) (some (.ref w_WAITING)) := by
  obtain ⟨S_w_SUCCESS, E_w_SUCCESS, S_w_FAILURE, E_w_FAILURE, S_w_TIMED_OUT, E_w_TIMED_OUT, S_w_WAITING, E_w_WAITING, F_ordinal_w_FAILURE, F_ordinal_w_SUCCESS, F_ordinal_w_TIMED_OUT, hne_w_SUCCESS_w_FAILURE, hne_w_SUCCESS_w_TIMED_OUT, hne_w_FAILURE_w_TIMED_OUT⟩ := id S
  refine MetFree.of_bodySF (plainFor_of_name pn_1) hisR ?_
  intro p e s m args below meth c s₁ Bd hml0 hP hK
  obtain ⟨rfl, hZ, hh⟩ := hP
  have hx := Bd.exec
  have hby := Bd.bytes
  have hml : c.maxLocals = 3 := hml0
  have hown : s.vm.findClass "com/example/graph_to_grid/graphtogrid/core/RunProgress" = some m.cls := findClass_of_methodNamed Bd.named
  have X0 : Stand p l e ({ frames := 0, cells := 0, slots := 0, locals := 0 } : Room) s m #[(.ref w_FAILURE), (.int p1), (.int p2)] below meth c s₁ [] 0 0 := Stand.of_body Bd
  have e0 : s₁.heap = h0 := by rw [← hh, Bd.state]; rfl
  have N0 := Fr.nil n0
  have pre0 : ∀ t, Steps p.tables e below (s₁.setTop (mkF m 0 #[.val (.ref w_FAILURE), .val (.int p1), .val (.int p2)] [])) t → Steps p.tables e below (s₁.setTop (entryFrame m #[(.ref w_FAILURE), (.int p1), (.int p2)] 3)) t := fun t k => castTop (by first | rfl | (simp [entryFrame, mkF, argsToLocals, Value.category]; done)) k
  obtain ⟨T1, X1, e1, st1⟩ := getS2 X0 hx hZ hown (host := "") (Or.inl (hw _ (List.mem_of_getElem? (i := 12) rfl))) Via.refl e0 S_w_SUCCESS (g := (mkF m 1 #[.val (.ref w_FAILURE), .val (.int p1), .val (.int p2)] [(.ref w_FAILURE)])) rfl (hb hby d2_1)
  obtain ⟨T2, X2, e2, st2⟩ := getS2 X1 hx hZ hown (host := "") (Or.inl (hw _ (List.mem_of_getElem? (i := 17) rfl))) Via.refl e1 S_w_WAITING (g := (mkF m 12 #[.val (.ref w_FAILURE), .val (.int p1), .val (.int p2)] [])) rfl (hb hby d2_12)
  obtain ⟨fs, hr, hrun, hended, hW, hsame⟩ := X2.leave (v := (some (.ref w_WAITING))) (fun h => by rw [Bd.returns] at h; cases h)
  refine ⟨_, _, pre0 _ ?_, hrun, hended, _, _, rfl, ⟨rfl, N0, e2⟩, ⟨_, rfl⟩, hW, hsame.mono (by decide) (by decide)⟩
  show Steps p.tables e below (s₁.setTop (mkF m 0 #[.val (.ref w_FAILURE), .val (.int p1), .val (.int p2)] [])) _
  refine XS.aloadN X0.here hx rfl (hb hby d2_0) rfl rfl ?_
  show Steps p.tables e below (s₁.setTop (mkF m 1 #[.val (.ref w_FAILURE), .val (.int p1), .val (.int p2)] [(.ref w_FAILURE)])) _
  refine st1 _ ?_
  show Steps p.tables e below (T1.setTop (mkF m 4 #[.val (.ref w_FAILURE), .val (.int p1), .val (.int p2)] [(.ref w_SUCCESS), (.ref w_FAILURE)])) _
  refine Jvm.RoadKit.acmp (g := (mkF m 4 #[.val (.ref w_FAILURE), .val (.int p1), .val (.int p2)] [(.ref w_SUCCESS), (.ref w_FAILURE)])) X1 hx rfl rfl rfl (pc0 := 4) (pc' := 7) (same := false) rfl (hb hby d2_4) rfl (decide_eq_false fun q => hne_w_SUCCESS_w_FAILURE (Value.ref.inj q).symm) (by decide) (by decide) ?_
  show Steps p.tables e below (T1.setTop (mkF m 7 #[.val (.ref w_FAILURE), .val (.int p1), .val (.int p2)] [])) _
  refine XS.iloadN X1.here hx rfl (hb hby d2_7) rfl ?_
  show Steps p.tables e below (T1.setTop (mkF m 8 #[.val (.ref w_FAILURE), .val (.int p1), .val (.int p2)] [(.int p1)])) _
  refine XS.iloadN X1.here hx rfl (hb hby d2_8) rfl ?_
  show Steps p.tables e below (T1.setTop (mkF m 9 #[.val (.ref w_FAILURE), .val (.int p1), .val (.int p2)] [(.int p2), (.int p1)])) _
  refine XS.icmpNo X1.here hx rfl (hb hby d2_9) rfl (flt hs).2.2.1 ?_
  show Steps p.tables e below (T1.setTop (mkF m 12 #[.val (.ref w_FAILURE), .val (.int p1), .val (.int p2)] [])) _
  refine st2 _ ?_
  show Steps p.tables e below (T2.setTop (mkF m 15 #[.val (.ref w_FAILURE), .val (.int p1), .val (.int p2)] [(.ref w_WAITING)])) _
  exact retOut X2 hx (t := (.object "com/example/graph_to_grid/graphtogrid/core/TaskState")) (i := .areturn) Bd.returns rfl (Or.inr (Or.inr (Or.inr (Or.inr ⟨rfl, rfl, rfl⟩)))) (hb hby d2_15) hr
set_option maxRecDepth 65536 in
set_option maxHeartbeats 40000000 in
theorem rm0_3 (l : Launch) (Z : State) (a0 : Array Value) (hw : ∀ d ∈ tables_1, d.before a0 Z = true) (ws : List Jvm.Cond) (w_SUCCESS w_FAILURE w_TIMED_OUT w_WAITING : Addr) (h0 : Heap) (n0 : Nat) (Z0 : n0 ≤ h0.size) (S : SF Z h0 w_SUCCESS w_FAILURE w_TIMED_OUT w_WAITING) (p0 : Int32) (p1 : Int32) (p2 : Int32) (hk : ((p0 &&& (2147483647 : Int32)) % (3 : Int32)) = (1 : Int32)) (hs : ¬ (p2 < p1)) (hl : ¬ ((lcmpW ((p2.toInt64) - (p1.toInt64)) (0 : Int64)) < (0 : Int32))) :
    Pay l Z x ws code maxLocals ret #[(.int p0), (.int p1), (.int p2)] h0 n0 room_1 (some (.int (1 : Int32))) := by
  obtain ⟨S_w_SUCCESS, E_w_SUCCESS, S_w_FAILURE, E_w_FAILURE, S_w_TIMED_OUT, E_w_TIMED_OUT, S_w_WAITING, E_w_WAITING, F_ordinal_w_FAILURE, F_ordinal_w_SUCCESS, F_ordinal_w_TIMED_OUT, hne_w_SUCCESS_w_FAILURE, hne_w_SUCCESS_w_TIMED_OUT, hne_w_FAILURE_w_TIMED_OUT⟩ := id S
  refine MetFree.of_bodySF (plainFor_of_name pn_0) hisR ?_
  intro p e s m args below meth c s₁ Bd hml0 hP hK
  obtain ⟨rfl, hZ, hh⟩ := hP
  have hx := Bd.exec
  have hby := Bd.bytes
  have hml : c.maxLocals = 8 := hml0
  have hown : s.vm.findClass "com/example/graph_to_grid/graphtogrid/core/RunProgressAfterAttemptPinLaw" = some m.cls := findClass_of_methodNamed Bd.named
  have X0 : Stand p l e room_1 s m #[(.int p0), (.int p1), (.int p2)] below meth c s₁ [] 0 0 := Stand.of_body Bd
  have e0 : s₁.heap = h0 := by rw [← hh, Bd.state]; rfl
  have N0 := Fr.nil n0
  have pre0 : ∀ t, Steps p.tables e below (s₁.setTop (mkF m 0 #[.val (.int p0), .val (.int p1), .val (.int p2), .unset, .unset, .unset, .unset, .unset] [])) t → Steps p.tables e below (s₁.setTop (entryFrame m #[(.int p0), (.int p1), (.int p2)] maxLocals)) t := fun t k => castTop (by first | rfl | (simp [entryFrame, mkF, argsToLocals, Value.category, maxLocals]; done)) k
  obtain ⟨_, _, ⟨T1, L1, k1, n1⟩, -, X1, ⟨Lc1, hQ1, l1, y1, z1⟩, st1⟩ := Jvm.LawKit.callS X0 hx (y := (⟨"com/example/graph_to_grid/graphtogrid/core/RunProgressAfterAttemptPinLaw", "endedOf", "(I)Lcom/example/graph_to_grid/graphtogrid/core/TaskState;"⟩ : MethodName)) hown (mvT hZ (hw _ (List.mem_of_getElem? (i := 1) rfl))) (mvT hZ (hw _ (List.mem_of_getElem? (i := 2) rfl))) (mvT hZ (hw _ (List.mem_of_getElem? (i := 3) rfl))) (mvT hZ (hw _ (List.mem_of_getElem? (i := 4) rfl))) (by decide) (backOf (W := 0) (rm1_1 l Z a0 hw [] w_SUCCESS w_FAILURE w_TIMED_OUT w_WAITING h0 n0 Z0 S) hZ (hw _ (List.mem_of_getElem? (i := 4) rfl)) (hw _ (List.mem_of_getElem? (i := 3) rfl)) (by decide) (by decide)) (g := (mkF m 6 #[.val (.int p0), .val (.int p1), .val (.int p2), .unset, .unset, .unset, .unset, .unset] [(.int (1 : Int32))])) rfl (by rw [hml]; rfl) (argsL := [(.int (1 : Int32))]) (rest := []) (lenOf pd_0 rfl) rfl (by show 2 * 0 + _ ≤ _; exact Nat.le_of_eq rfl) (hb hby at_6) (fun _ _ => ⟨rfl, e0, (by decide : 0 + 0 ≤ _), (by decide : 0 + 0 ≤ _)⟩)
  dsimp only [Pt.U, Pt.locs, Pt.cells, Pt.slots] at X1 l1 y1 z1 st1 hQ1
  subst l1 y1 z1
  obtain ⟨rfl, Nq1, e1⟩ := hQ1
  have N1 := Fr.app N0 Nq1
  obtain ⟨_, _, ⟨T2, L2, k2, n2⟩, -, X2, ⟨Lc2, hQ2, l2, y2, z2⟩, st2⟩ := Jvm.LawKit.callS X1 hx (y := (⟨"com/example/graph_to_grid/graphtogrid/core/RunProgress", "afterAttempt", "(Lcom/example/graph_to_grid/graphtogrid/core/TaskState;II)Lcom/example/graph_to_grid/graphtogrid/core/TaskState;"⟩ : MethodName)) hown (mvT hZ (hw _ (List.mem_of_getElem? (i := 8) rfl))) (mvT hZ (hw _ (List.mem_of_getElem? (i := 9) rfl))) (mvT hZ (hw _ (List.mem_of_getElem? (i := 10) rfl))) (mvT hZ (hw _ (List.mem_of_getElem? (i := 11) rfl))) (by decide) (backOf (W := 0) (rm2_3 l Z a0 hw [] w_SUCCESS w_FAILURE w_TIMED_OUT w_WAITING h0 n0 Z0 S p1 p2 hs hl) hZ (hw _ (List.mem_of_getElem? (i := 11) rfl)) (hw _ (List.mem_of_getElem? (i := 10) rfl)) (by decide) (by decide)) (g := (mkF m 13 #[.val (.int p0), .val (.int p1), .val (.int p2), .val (.ref w_FAILURE), .unset, .unset, .unset, .unset] [(.int p2), (.int p1), (.ref w_FAILURE)])) rfl (by rw [hml]; rfl) (argsL := [(.ref w_FAILURE), (.int p1), (.int p2)]) (rest := []) (lenOf pd_1 rfl) rfl (by show 2 * 0 + _ ≤ _; exact Nat.le_of_eq rfl) (hb hby at_13) (fun _ _ => ⟨rfl, e1, (by decide : 0 + 0 ≤ _), (by decide : 0 + 0 ≤ _)⟩)
  dsimp only [Pt.U, Pt.locs, Pt.cells, Pt.slots] at X2 l2 y2 z2 st2 hQ2
  subst l2 y2 z2
  obtain ⟨rfl, Nq2, e2⟩ := hQ2
  have N2 := Fr.app N1 Nq2
  obtain ⟨T3, X3, e3, st3⟩ := getS2 X2 hx hZ hown (host := "") (Or.inl (hw _ (List.mem_of_getElem? (i := 5) rfl))) Via.refl e2 S_w_SUCCESS (g := (mkF m 19 #[.val (.int p0), .val (.int p1), .val (.int p2), .val (.ref w_FAILURE), .val (.ref w_WAITING), .unset, .unset, .unset] [(.ref w_FAILURE)])) rfl (hb hby at_19)
  obtain ⟨T4, X4, e4, st4⟩ := getS2 X3 hx hZ hown (host := "") (Or.inl (hw _ (List.mem_of_getElem? (i := 19) rfl))) Via.refl e3 S_w_WAITING (g := (mkF m 47 #[.val (.int p0), .val (.int p1), .val (.int p2), .val (.ref w_FAILURE), .val (.ref w_WAITING), .unset, .val (.long ((p2.toInt64) - (p1.toInt64))), .second] [])) rfl (hb hby at_47)
  obtain ⟨fs, hr, hrun, hended, hW, hsame⟩ := X4.leave (v := (some (.int (1 : Int32)))) (fun h => by rw [Bd.returns] at h; cases h)
  refine ⟨_, _, pre0 _ ?_, hrun, hended, _, _, rfl, ⟨rfl, N2, e4⟩, ⟨_, rfl⟩, hW, hsame.mono (by decide) (by decide)⟩
  show Steps p.tables e below (s₁.setTop (mkF m 0 #[.val (.int p0), .val (.int p1), .val (.int p2), .unset, .unset, .unset, .unset, .unset] [])) _
  refine XS.iloadN X0.here hx rfl (hb hby at_0) rfl ?_
  show Steps p.tables e below (s₁.setTop (mkF m 1 #[.val (.int p0), .val (.int p1), .val (.int p2), .unset, .unset, .unset, .unset, .unset] [(.int p0)])) _
  refine X0.ldcInt hx hown (mvT hZ (hw _ (List.mem_of_getElem? (i := 0) rfl))) (g := (mkF m 1 #[.val (.int p0), .val (.int p1), .val (.int p2), .unset, .unset, .unset, .unset, .unset] [(.int p0)])) rfl (hb hby at_1) _ ?_
  show Steps p.tables e below (s₁.setTop (mkF m 3 #[.val (.int p0), .val (.int p1), .val (.int p2), .unset, .unset, .unset, .unset, .unset] [(.int (2147483647 : Int32)), (.int p0)])) _
  refine XS.iand X0.here hx rfl (hb hby at_3) rfl ?_
  show Steps p.tables e below (s₁.setTop (mkF m 4 #[.val (.int p0), .val (.int p1), .val (.int p2), .unset, .unset, .unset, .unset, .unset] [(.int (p0 &&& (2147483647 : Int32)))])) _
  show Steps p.tables e below (s₁.setTop (mkF m 4 #[.val (.int p0), .val (.int p1), .val (.int p2), .unset, .unset, .unset, .unset, .unset] [(.int (p0 &&& (2147483647 : Int32)))])) _
  refine XS.iconst X0.here hx rfl (hb hby at_4) ?_
  show Steps p.tables e below (s₁.setTop (mkF m 5 #[.val (.int p0), .val (.int p1), .val (.int p2), .unset, .unset, .unset, .unset, .unset] [(.int (3 : Int32)), (.int (p0 &&& (2147483647 : Int32)))])) _
  refine iremM X0 hx rfl (hb hby at_5) rfl (by decide) ?_
  show Steps p.tables e below (s₁.setTop (mkF m 6 #[.val (.int p0), .val (.int p1), .val (.int p2), .unset, .unset, .unset, .unset, .unset] [(.int ((p0 &&& (2147483647 : Int32)) % (3 : Int32)))])) _
  rw [hk]
  show Steps p.tables e below (s₁.setTop (mkF m 6 #[.val (.int p0), .val (.int p1), .val (.int p2), .unset, .unset, .unset, .unset, .unset] [(.int (1 : Int32))])) _
  refine st1 _ ?_
  show Steps p.tables e below (T1.setTop (mkF m 9 #[.val (.int p0), .val (.int p1), .val (.int p2), .unset, .unset, .unset, .unset, .unset] [(.ref w_FAILURE)])) _
  refine XS.astoreN X1.here hx rfl (hb hby at_9) rfl rfl (l' := #[.val (.int p0), .val (.int p1), .val (.int p2), .val (.ref w_FAILURE), .unset, .unset, .unset, .unset]) rfl ?_
  show Steps p.tables e below (T1.setTop (mkF m 10 #[.val (.int p0), .val (.int p1), .val (.int p2), .val (.ref w_FAILURE), .unset, .unset, .unset, .unset] [])) _
  refine XS.aloadN X1.here hx rfl (hb hby at_10) rfl rfl ?_
  show Steps p.tables e below (T1.setTop (mkF m 11 #[.val (.int p0), .val (.int p1), .val (.int p2), .val (.ref w_FAILURE), .unset, .unset, .unset, .unset] [(.ref w_FAILURE)])) _
  refine XS.iloadN X1.here hx rfl (hb hby at_11) rfl ?_
  show Steps p.tables e below (T1.setTop (mkF m 12 #[.val (.int p0), .val (.int p1), .val (.int p2), .val (.ref w_FAILURE), .unset, .unset, .unset, .unset] [(.int p1), (.ref w_FAILURE)])) _
  refine XS.iloadN X1.here hx rfl (hb hby at_12) rfl ?_
  show Steps p.tables e below (T1.setTop (mkF m 13 #[.val (.int p0), .val (.int p1), .val (.int p2), .val (.ref w_FAILURE), .unset, .unset, .unset, .unset] [(.int p2), (.int p1), (.ref w_FAILURE)])) _
  refine st2 _ ?_
  show Steps p.tables e below (T2.setTop (mkF m 16 #[.val (.int p0), .val (.int p1), .val (.int p2), .val (.ref w_FAILURE), .unset, .unset, .unset, .unset] [(.ref w_WAITING)])) _
  refine XS.astore X2.here hx rfl (hb hby at_16) rfl rfl (l' := #[.val (.int p0), .val (.int p1), .val (.int p2), .val (.ref w_FAILURE), .val (.ref w_WAITING), .unset, .unset, .unset]) rfl ?_
  show Steps p.tables e below (T2.setTop (mkF m 18 #[.val (.int p0), .val (.int p1), .val (.int p2), .val (.ref w_FAILURE), .val (.ref w_WAITING), .unset, .unset, .unset] [])) _
  refine XS.aloadN X2.here hx rfl (hb hby at_18) rfl rfl ?_
  show Steps p.tables e below (T2.setTop (mkF m 19 #[.val (.int p0), .val (.int p1), .val (.int p2), .val (.ref w_FAILURE), .val (.ref w_WAITING), .unset, .unset, .unset] [(.ref w_FAILURE)])) _
  refine st3 _ ?_
  show Steps p.tables e below (T3.setTop (mkF m 22 #[.val (.int p0), .val (.int p1), .val (.int p2), .val (.ref w_FAILURE), .val (.ref w_WAITING), .unset, .unset, .unset] [(.ref w_SUCCESS), (.ref w_FAILURE)])) _
  refine Jvm.RoadKit.acmp (g := (mkF m 22 #[.val (.int p0), .val (.int p1), .val (.int p2), .val (.ref w_FAILURE), .val (.ref w_WAITING), .unset, .unset, .unset] [(.ref w_SUCCESS), (.ref w_FAILURE)])) X3 hx rfl rfl rfl (pc0 := 22) (pc' := 33) (same := false) rfl (hb hby at_22) rfl (decide_eq_false fun q => hne_w_SUCCESS_w_FAILURE (Value.ref.inj q).symm) (by decide) (by decide) ?_
  show Steps p.tables e below (T3.setTop (mkF m 33 #[.val (.int p0), .val (.int p1), .val (.int p2), .val (.ref w_FAILURE), .val (.ref w_WAITING), .unset, .unset, .unset] [])) _
  refine XS.iloadN X3.here hx rfl (hb hby at_33) rfl ?_
  show Steps p.tables e below (T3.setTop (mkF m 34 #[.val (.int p0), .val (.int p1), .val (.int p2), .val (.ref w_FAILURE), .val (.ref w_WAITING), .unset, .unset, .unset] [(.int p2)])) _
  refine XS.i2l X3.here hx rfl (hb hby at_34) rfl ?_
  show Steps p.tables e below (T3.setTop (mkF m 35 #[.val (.int p0), .val (.int p1), .val (.int p2), .val (.ref w_FAILURE), .val (.ref w_WAITING), .unset, .unset, .unset] [(.long (p2.toInt64))])) _
  refine XS.iloadN X3.here hx rfl (hb hby at_35) rfl ?_
  show Steps p.tables e below (T3.setTop (mkF m 36 #[.val (.int p0), .val (.int p1), .val (.int p2), .val (.ref w_FAILURE), .val (.ref w_WAITING), .unset, .unset, .unset] [(.int p1), (.long (p2.toInt64))])) _
  refine XS.i2l X3.here hx rfl (hb hby at_36) rfl ?_
  show Steps p.tables e below (T3.setTop (mkF m 37 #[.val (.int p0), .val (.int p1), .val (.int p2), .val (.ref w_FAILURE), .val (.ref w_WAITING), .unset, .unset, .unset] [(.long (p1.toInt64)), (.long (p2.toInt64))])) _
  refine XS.lsub X3.here hx rfl (hb hby at_37) rfl ?_
  show Steps p.tables e below (T3.setTop (mkF m 38 #[.val (.int p0), .val (.int p1), .val (.int p2), .val (.ref w_FAILURE), .val (.ref w_WAITING), .unset, .unset, .unset] [(.long ((p2.toInt64) - (p1.toInt64)))])) _
  refine XS.lstore X3.here hx rfl (hb hby at_38) rfl (l' := #[.val (.int p0), .val (.int p1), .val (.int p2), .val (.ref w_FAILURE), .val (.ref w_WAITING), .unset, .val (.long ((p2.toInt64) - (p1.toInt64))), .second]) rfl ?_
  show Steps p.tables e below (T3.setTop (mkF m 40 #[.val (.int p0), .val (.int p1), .val (.int p2), .val (.ref w_FAILURE), .val (.ref w_WAITING), .unset, .val (.long ((p2.toInt64) - (p1.toInt64))), .second] [])) _
  refine XS.lload X3.here hx rfl (hb hby at_40) rfl ?_
  show Steps p.tables e below (T3.setTop (mkF m 42 #[.val (.int p0), .val (.int p1), .val (.int p2), .val (.ref w_FAILURE), .val (.ref w_WAITING), .unset, .val (.long ((p2.toInt64) - (p1.toInt64))), .second] [(.long ((p2.toInt64) - (p1.toInt64)))])) _
  refine XS.lconst X3.here hx rfl (hb hby at_42) ?_
  show Steps p.tables e below (T3.setTop (mkF m 43 #[.val (.int p0), .val (.int p1), .val (.int p2), .val (.ref w_FAILURE), .val (.ref w_WAITING), .unset, .val (.long ((p2.toInt64) - (p1.toInt64))), .second] [(.long (0 : Int64)), (.long ((p2.toInt64) - (p1.toInt64)))])) _
  refine XS.lcmp X3.here hx rfl (hb hby at_43) rfl ?_
  show Steps p.tables e below (T3.setTop (mkF m 44 #[.val (.int p0), .val (.int p1), .val (.int p2), .val (.ref w_FAILURE), .val (.ref w_WAITING), .unset, .val (.long ((p2.toInt64) - (p1.toInt64))), .second] [(.int (lcmpW ((p2.toInt64) - (p1.toInt64)) (0 : Int64)))])) _
  refine XS.ifNo X3.here hx rfl (hb hby at_44) rfl ((if0 _ _).trans (flt hl).1) ?_
  show Steps p.tables e below (T3.setTop (mkF m 47 #[.val (.int p0), .val (.int p1), .val (.int p2), .val (.ref w_FAILURE), .val (.ref w_WAITING), .unset, .val (.long ((p2.toInt64) - (p1.toInt64))), .second] [])) _
  refine st4 _ ?_
  show Steps p.tables e below (T4.setTop (mkF m 50 #[.val (.int p0), .val (.int p1), .val (.int p2), .val (.ref w_FAILURE), .val (.ref w_WAITING), .unset, .val (.long ((p2.toInt64) - (p1.toInt64))), .second] [(.ref w_WAITING)])) _
  refine XS.astore X4.here hx rfl (hb hby at_50) rfl rfl (l' := #[.val (.int p0), .val (.int p1), .val (.int p2), .val (.ref w_FAILURE), .val (.ref w_WAITING), .val (.ref w_WAITING), .val (.long ((p2.toInt64) - (p1.toInt64))), .second]) rfl ?_
  show Steps p.tables e below (T4.setTop (mkF m 52 #[.val (.int p0), .val (.int p1), .val (.int p2), .val (.ref w_FAILURE), .val (.ref w_WAITING), .val (.ref w_WAITING), .val (.long ((p2.toInt64) - (p1.toInt64))), .second] [])) _
  refine XS.goto X4.here hx rfl (pc0 := 52) (pc' := 58) rfl (hb hby at_52) (by decide) (by decide) ?_
  show Steps p.tables e below (T4.setTop (mkF m 58 #[.val (.int p0), .val (.int p1), .val (.int p2), .val (.ref w_FAILURE), .val (.ref w_WAITING), .val (.ref w_WAITING), .val (.long ((p2.toInt64) - (p1.toInt64))), .second] [])) _
  refine XS.aload X4.here hx rfl (hb hby at_58) rfl rfl ?_
  show Steps p.tables e below (T4.setTop (mkF m 60 #[.val (.int p0), .val (.int p1), .val (.int p2), .val (.ref w_FAILURE), .val (.ref w_WAITING), .val (.ref w_WAITING), .val (.long ((p2.toInt64) - (p1.toInt64))), .second] [(.ref w_WAITING)])) _
  refine XS.aload X4.here hx rfl (hb hby at_60) rfl rfl ?_
  show Steps p.tables e below (T4.setTop (mkF m 62 #[.val (.int p0), .val (.int p1), .val (.int p2), .val (.ref w_FAILURE), .val (.ref w_WAITING), .val (.ref w_WAITING), .val (.long ((p2.toInt64) - (p1.toInt64))), .second] [(.ref w_WAITING), (.ref w_WAITING)])) _
  refine Jvm.RoadKit.acmp (g := (mkF m 62 #[.val (.int p0), .val (.int p1), .val (.int p2), .val (.ref w_FAILURE), .val (.ref w_WAITING), .val (.ref w_WAITING), .val (.long ((p2.toInt64) - (p1.toInt64))), .second] [(.ref w_WAITING), (.ref w_WAITING)])) X4 hx rfl rfl rfl (pc0 := 62) (pc' := 65) (same := true) rfl (hb hby at_62) rfl (decide_eq_true rfl) (by decide) (by decide) ?_
  show Steps p.tables e below (T4.setTop (mkF m 65 #[.val (.int p0), .val (.int p1), .val (.int p2), .val (.ref w_FAILURE), .val (.ref w_WAITING), .val (.ref w_WAITING), .val (.long ((p2.toInt64) - (p1.toInt64))), .second] [])) _
  refine XS.iconst X4.here hx rfl (hb hby at_65) ?_
  show Steps p.tables e below (T4.setTop (mkF m 66 #[.val (.int p0), .val (.int p1), .val (.int p2), .val (.ref w_FAILURE), .val (.ref w_WAITING), .val (.ref w_WAITING), .val (.long ((p2.toInt64) - (p1.toInt64))), .second] [(.int (1 : Int32))])) _
  refine XS.goto X4.here hx rfl (pc0 := 66) (pc' := 70) rfl (hb hby at_66) (by decide) (by decide) ?_
  show Steps p.tables e below (T4.setTop (mkF m 70 #[.val (.int p0), .val (.int p1), .val (.int p2), .val (.ref w_FAILURE), .val (.ref w_WAITING), .val (.ref w_WAITING), .val (.long ((p2.toInt64) - (p1.toInt64))), .second] [(.int (1 : Int32))])) _
  exact retN X4 hx (t := .boolean) Bd.returns (by simp) (hb hby at_70) hr
theorem d1_17 : decode method_2_code 17 = .ok (.getstatic 16, 3) := by decide +kernel
theorem d1_20 : decode method_2_code 20 = .ok (.areturn, 1) := by decide +kernel
set_option maxRecDepth 65536 in
set_option maxHeartbeats 40000000 in
theorem rm1_2 (l : Launch) (Z : State) (a0 : Array Value) (hw : ∀ d ∈ tables_1, d.before a0 Z = true) (ws : List Jvm.Cond) (w_SUCCESS w_FAILURE w_TIMED_OUT w_WAITING : Addr) (h0 : Heap) (n0 : Nat) (Z0 : n0 ≤ h0.size) (S : SF Z h0 w_SUCCESS w_FAILURE w_TIMED_OUT w_WAITING) :
    Pay l Z (⟨"com/example/graph_to_grid/graphtogrid/core/RunProgressAfterAttemptPinLaw", "endedOf", "(I)Lcom/example/graph_to_grid/graphtogrid/core/TaskState;"⟩ : MethodName) ws method_2_code 1 (some (.object "com/example/graph_to_grid/graphtogrid/core/TaskState")) #[(.int (2 : Int32))] h0 n0 ({ frames := 0, cells := 0, slots := 0, locals := 0 } : Room) (some (.ref w_TIMED_OUT)) := by
  obtain ⟨S_w_SUCCESS, E_w_SUCCESS, S_w_FAILURE, E_w_FAILURE, S_w_TIMED_OUT, E_w_TIMED_OUT, S_w_WAITING, E_w_WAITING, F_ordinal_w_FAILURE, F_ordinal_w_SUCCESS, F_ordinal_w_TIMED_OUT, hne_w_SUCCESS_w_FAILURE, hne_w_SUCCESS_w_TIMED_OUT, hne_w_FAILURE_w_TIMED_OUT⟩ := id S
  refine MetFree.of_bodySF (plainFor_of_name pn_0) hisR ?_
  intro p e s m args below meth c s₁ Bd hml0 hP hK
  obtain ⟨rfl, hZ, hh⟩ := hP
  have hx := Bd.exec
  have hby := Bd.bytes
  have hml : c.maxLocals = 1 := hml0
  have hown : s.vm.findClass "com/example/graph_to_grid/graphtogrid/core/RunProgressAfterAttemptPinLaw" = some m.cls := findClass_of_methodNamed Bd.named
  have X0 : Stand p l e ({ frames := 0, cells := 0, slots := 0, locals := 0 } : Room) s m #[(.int (2 : Int32))] below meth c s₁ [] 0 0 := Stand.of_body Bd
  have e0 : s₁.heap = h0 := by rw [← hh, Bd.state]; rfl
  have N0 := Fr.nil n0
  have pre0 : ∀ t, Steps p.tables e below (s₁.setTop (mkF m 0 #[.val (.int (2 : Int32))] [])) t → Steps p.tables e below (s₁.setTop (entryFrame m #[(.int (2 : Int32))] 1)) t := fun t k => castTop (by first | rfl | (simp [entryFrame, mkF, argsToLocals, Value.category]; done)) k
  obtain ⟨T1, X1, e1, st1⟩ := getS2 X0 hx hZ hown (host := "") (Or.inl (hw _ (List.mem_of_getElem? (i := 15) rfl))) Via.refl e0 S_w_TIMED_OUT (g := (mkF m 17 #[.val (.int (2 : Int32))] [])) rfl (hb hby d1_17)
  obtain ⟨fs, hr, hrun, hended, hW, hsame⟩ := X1.leave (v := (some (.ref w_TIMED_OUT))) (fun h => by rw [Bd.returns] at h; cases h)
  refine ⟨_, _, pre0 _ ?_, hrun, hended, _, _, rfl, ⟨rfl, N0, e1⟩, ⟨_, rfl⟩, hW, hsame.mono (by decide) (by decide)⟩
  show Steps p.tables e below (s₁.setTop (mkF m 0 #[.val (.int (2 : Int32))] [])) _
  refine XS.iloadN X0.here hx rfl (hb hby d1_0) rfl ?_
  show Steps p.tables e below (s₁.setTop (mkF m 1 #[.val (.int (2 : Int32))] [(.int (2 : Int32))])) _
  refine XS.ifYes X0.here hx rfl (pc0 := 1) (pc' := 8) rfl (hb hby d1_1) rfl ((if0 _ _).trans (feq (by decide : ¬ ((2 : Int32) = (0 : Int32)))).2) (by decide) (by decide) ?_
  show Steps p.tables e below (s₁.setTop (mkF m 8 #[.val (.int (2 : Int32))] [])) _
  refine XS.iloadN X0.here hx rfl (hb hby d1_8) rfl ?_
  show Steps p.tables e below (s₁.setTop (mkF m 9 #[.val (.int (2 : Int32))] [(.int (2 : Int32))])) _
  refine XS.iconst X0.here hx rfl (hb hby d1_9) ?_
  show Steps p.tables e below (s₁.setTop (mkF m 10 #[.val (.int (2 : Int32))] [(.int (1 : Int32)), (.int (2 : Int32))])) _
  refine XS.icmpYes X0.here hx rfl (pc0 := 10) (pc' := 17) rfl (hb hby d1_10) rfl (feq (by decide : ¬ ((2 : Int32) = (1 : Int32)))).2 (by decide) (by decide) ?_
  show Steps p.tables e below (s₁.setTop (mkF m 17 #[.val (.int (2 : Int32))] [])) _
  refine st1 _ ?_
  show Steps p.tables e below (T1.setTop (mkF m 20 #[.val (.int (2 : Int32))] [(.ref w_TIMED_OUT)])) _
  exact retOut X1 hx (t := (.object "com/example/graph_to_grid/graphtogrid/core/TaskState")) (i := .areturn) Bd.returns rfl (Or.inr (Or.inr (Or.inr (Or.inr ⟨rfl, rfl, rfl⟩)))) (hb hby d1_20) hr
set_option maxRecDepth 65536 in
set_option maxHeartbeats 40000000 in
theorem rm2_4 (l : Launch) (Z : State) (a0 : Array Value) (hw : ∀ d ∈ tables_1, d.before a0 Z = true) (ws : List Jvm.Cond) (w_SUCCESS w_FAILURE w_TIMED_OUT w_WAITING : Addr) (h0 : Heap) (n0 : Nat) (Z0 : n0 ≤ h0.size) (S : SF Z h0 w_SUCCESS w_FAILURE w_TIMED_OUT w_WAITING) (p1 : Int32) (p2 : Int32) (hs : p2 < p1) (hl : (lcmpW ((p2.toInt64) - (p1.toInt64)) (0 : Int64)) < (0 : Int32)) :
    Pay l Z (⟨"com/example/graph_to_grid/graphtogrid/core/RunProgress", "afterAttempt", "(Lcom/example/graph_to_grid/graphtogrid/core/TaskState;II)Lcom/example/graph_to_grid/graphtogrid/core/TaskState;"⟩ : MethodName) ws prog_8_method_2_code 3 (some (.object "com/example/graph_to_grid/graphtogrid/core/TaskState")) #[(.ref w_TIMED_OUT), (.int p1), (.int p2)] h0 n0 ({ frames := 0, cells := 0, slots := 0, locals := 0 } : Room) (some (.ref w_TIMED_OUT)) := by
  obtain ⟨S_w_SUCCESS, E_w_SUCCESS, S_w_FAILURE, E_w_FAILURE, S_w_TIMED_OUT, E_w_TIMED_OUT, S_w_WAITING, E_w_WAITING, F_ordinal_w_FAILURE, F_ordinal_w_SUCCESS, F_ordinal_w_TIMED_OUT, hne_w_SUCCESS_w_FAILURE, hne_w_SUCCESS_w_TIMED_OUT, hne_w_FAILURE_w_TIMED_OUT⟩ := id S
  refine MetFree.of_bodySF (plainFor_of_name pn_1) hisR ?_
  intro p e s m args below meth c s₁ Bd hml0 hP hK
  obtain ⟨rfl, hZ, hh⟩ := hP
  have hx := Bd.exec
  have hby := Bd.bytes
  have hml : c.maxLocals = 3 := hml0
  have hown : s.vm.findClass "com/example/graph_to_grid/graphtogrid/core/RunProgress" = some m.cls := findClass_of_methodNamed Bd.named
  have X0 : Stand p l e ({ frames := 0, cells := 0, slots := 0, locals := 0 } : Room) s m #[(.ref w_TIMED_OUT), (.int p1), (.int p2)] below meth c s₁ [] 0 0 := Stand.of_body Bd
  have e0 : s₁.heap = h0 := by rw [← hh, Bd.state]; rfl
  have N0 := Fr.nil n0
  have pre0 : ∀ t, Steps p.tables e below (s₁.setTop (mkF m 0 #[.val (.ref w_TIMED_OUT), .val (.int p1), .val (.int p2)] [])) t → Steps p.tables e below (s₁.setTop (entryFrame m #[(.ref w_TIMED_OUT), (.int p1), (.int p2)] 3)) t := fun t k => castTop (by first | rfl | (simp [entryFrame, mkF, argsToLocals, Value.category]; done)) k
  obtain ⟨T1, X1, e1, st1⟩ := getS2 X0 hx hZ hown (host := "") (Or.inl (hw _ (List.mem_of_getElem? (i := 12) rfl))) Via.refl e0 S_w_SUCCESS (g := (mkF m 1 #[.val (.ref w_TIMED_OUT), .val (.int p1), .val (.int p2)] [(.ref w_TIMED_OUT)])) rfl (hb hby d2_1)
  obtain ⟨fs, hr, hrun, hended, hW, hsame⟩ := X1.leave (v := (some (.ref w_TIMED_OUT))) (fun h => by rw [Bd.returns] at h; cases h)
  refine ⟨_, _, pre0 _ ?_, hrun, hended, _, _, rfl, ⟨rfl, N0, e1⟩, ⟨_, rfl⟩, hW, hsame.mono (by decide) (by decide)⟩
  show Steps p.tables e below (s₁.setTop (mkF m 0 #[.val (.ref w_TIMED_OUT), .val (.int p1), .val (.int p2)] [])) _
  refine XS.aloadN X0.here hx rfl (hb hby d2_0) rfl rfl ?_
  show Steps p.tables e below (s₁.setTop (mkF m 1 #[.val (.ref w_TIMED_OUT), .val (.int p1), .val (.int p2)] [(.ref w_TIMED_OUT)])) _
  refine st1 _ ?_
  show Steps p.tables e below (T1.setTop (mkF m 4 #[.val (.ref w_TIMED_OUT), .val (.int p1), .val (.int p2)] [(.ref w_SUCCESS), (.ref w_TIMED_OUT)])) _
  refine Jvm.RoadKit.acmp (g := (mkF m 4 #[.val (.ref w_TIMED_OUT), .val (.int p1), .val (.int p2)] [(.ref w_SUCCESS), (.ref w_TIMED_OUT)])) X1 hx rfl rfl rfl (pc0 := 4) (pc' := 7) (same := false) rfl (hb hby d2_4) rfl (decide_eq_false fun q => hne_w_SUCCESS_w_TIMED_OUT (Value.ref.inj q).symm) (by decide) (by decide) ?_
  show Steps p.tables e below (T1.setTop (mkF m 7 #[.val (.ref w_TIMED_OUT), .val (.int p1), .val (.int p2)] [])) _
  refine XS.iloadN X1.here hx rfl (hb hby d2_7) rfl ?_
  show Steps p.tables e below (T1.setTop (mkF m 8 #[.val (.ref w_TIMED_OUT), .val (.int p1), .val (.int p2)] [(.int p1)])) _
  refine XS.iloadN X1.here hx rfl (hb hby d2_8) rfl ?_
  show Steps p.tables e below (T1.setTop (mkF m 9 #[.val (.ref w_TIMED_OUT), .val (.int p1), .val (.int p2)] [(.int p2), (.int p1)])) _
  refine XS.icmpYes X1.here hx rfl (pc0 := 9) (pc' := 16) rfl (hb hby d2_9) rfl (tlt hs).2.2.1 (by decide) (by decide) ?_
  show Steps p.tables e below (T1.setTop (mkF m 16 #[.val (.ref w_TIMED_OUT), .val (.int p1), .val (.int p2)] [])) _
  refine XS.aloadN X1.here hx rfl (hb hby d2_16) rfl rfl ?_
  show Steps p.tables e below (T1.setTop (mkF m 17 #[.val (.ref w_TIMED_OUT), .val (.int p1), .val (.int p2)] [(.ref w_TIMED_OUT)])) _
  exact retOut X1 hx (t := (.object "com/example/graph_to_grid/graphtogrid/core/TaskState")) (i := .areturn) Bd.returns rfl (Or.inr (Or.inr (Or.inr (Or.inr ⟨rfl, rfl, rfl⟩)))) (hb hby d2_17) hr
set_option maxRecDepth 65536 in
set_option maxHeartbeats 40000000 in
theorem rm0_4 (l : Launch) (Z : State) (a0 : Array Value) (hw : ∀ d ∈ tables_1, d.before a0 Z = true) (ws : List Jvm.Cond) (w_SUCCESS w_FAILURE w_TIMED_OUT w_WAITING : Addr) (h0 : Heap) (n0 : Nat) (Z0 : n0 ≤ h0.size) (S : SF Z h0 w_SUCCESS w_FAILURE w_TIMED_OUT w_WAITING) (p0 : Int32) (p1 : Int32) (p2 : Int32) (hk : ((p0 &&& (2147483647 : Int32)) % (3 : Int32)) = (2 : Int32)) (hs : p2 < p1) (hl : (lcmpW ((p2.toInt64) - (p1.toInt64)) (0 : Int64)) < (0 : Int32)) :
    Pay l Z x ws code maxLocals ret #[(.int p0), (.int p1), (.int p2)] h0 n0 room_1 (some (.int (1 : Int32))) := by
  obtain ⟨S_w_SUCCESS, E_w_SUCCESS, S_w_FAILURE, E_w_FAILURE, S_w_TIMED_OUT, E_w_TIMED_OUT, S_w_WAITING, E_w_WAITING, F_ordinal_w_FAILURE, F_ordinal_w_SUCCESS, F_ordinal_w_TIMED_OUT, hne_w_SUCCESS_w_FAILURE, hne_w_SUCCESS_w_TIMED_OUT, hne_w_FAILURE_w_TIMED_OUT⟩ := id S
  refine MetFree.of_bodySF (plainFor_of_name pn_0) hisR ?_
  intro p e s m args below meth c s₁ Bd hml0 hP hK
  obtain ⟨rfl, hZ, hh⟩ := hP
  have hx := Bd.exec
  have hby := Bd.bytes
  have hml : c.maxLocals = 8 := hml0
  have hown : s.vm.findClass "com/example/graph_to_grid/graphtogrid/core/RunProgressAfterAttemptPinLaw" = some m.cls := findClass_of_methodNamed Bd.named
  have X0 : Stand p l e room_1 s m #[(.int p0), (.int p1), (.int p2)] below meth c s₁ [] 0 0 := Stand.of_body Bd
  have e0 : s₁.heap = h0 := by rw [← hh, Bd.state]; rfl
  have N0 := Fr.nil n0
  have pre0 : ∀ t, Steps p.tables e below (s₁.setTop (mkF m 0 #[.val (.int p0), .val (.int p1), .val (.int p2), .unset, .unset, .unset, .unset, .unset] [])) t → Steps p.tables e below (s₁.setTop (entryFrame m #[(.int p0), (.int p1), (.int p2)] maxLocals)) t := fun t k => castTop (by first | rfl | (simp [entryFrame, mkF, argsToLocals, Value.category, maxLocals]; done)) k
  obtain ⟨_, _, ⟨T1, L1, k1, n1⟩, -, X1, ⟨Lc1, hQ1, l1, y1, z1⟩, st1⟩ := Jvm.LawKit.callS X0 hx (y := (⟨"com/example/graph_to_grid/graphtogrid/core/RunProgressAfterAttemptPinLaw", "endedOf", "(I)Lcom/example/graph_to_grid/graphtogrid/core/TaskState;"⟩ : MethodName)) hown (mvT hZ (hw _ (List.mem_of_getElem? (i := 1) rfl))) (mvT hZ (hw _ (List.mem_of_getElem? (i := 2) rfl))) (mvT hZ (hw _ (List.mem_of_getElem? (i := 3) rfl))) (mvT hZ (hw _ (List.mem_of_getElem? (i := 4) rfl))) (by decide) (backOf (W := 0) (rm1_2 l Z a0 hw [] w_SUCCESS w_FAILURE w_TIMED_OUT w_WAITING h0 n0 Z0 S) hZ (hw _ (List.mem_of_getElem? (i := 4) rfl)) (hw _ (List.mem_of_getElem? (i := 3) rfl)) (by decide) (by decide)) (g := (mkF m 6 #[.val (.int p0), .val (.int p1), .val (.int p2), .unset, .unset, .unset, .unset, .unset] [(.int (2 : Int32))])) rfl (by rw [hml]; rfl) (argsL := [(.int (2 : Int32))]) (rest := []) (lenOf pd_0 rfl) rfl (by show 2 * 0 + _ ≤ _; exact Nat.le_of_eq rfl) (hb hby at_6) (fun _ _ => ⟨rfl, e0, (by decide : 0 + 0 ≤ _), (by decide : 0 + 0 ≤ _)⟩)
  dsimp only [Pt.U, Pt.locs, Pt.cells, Pt.slots] at X1 l1 y1 z1 st1 hQ1
  subst l1 y1 z1
  obtain ⟨rfl, Nq1, e1⟩ := hQ1
  have N1 := Fr.app N0 Nq1
  obtain ⟨_, _, ⟨T2, L2, k2, n2⟩, -, X2, ⟨Lc2, hQ2, l2, y2, z2⟩, st2⟩ := Jvm.LawKit.callS X1 hx (y := (⟨"com/example/graph_to_grid/graphtogrid/core/RunProgress", "afterAttempt", "(Lcom/example/graph_to_grid/graphtogrid/core/TaskState;II)Lcom/example/graph_to_grid/graphtogrid/core/TaskState;"⟩ : MethodName)) hown (mvT hZ (hw _ (List.mem_of_getElem? (i := 8) rfl))) (mvT hZ (hw _ (List.mem_of_getElem? (i := 9) rfl))) (mvT hZ (hw _ (List.mem_of_getElem? (i := 10) rfl))) (mvT hZ (hw _ (List.mem_of_getElem? (i := 11) rfl))) (by decide) (backOf (W := 0) (rm2_4 l Z a0 hw [] w_SUCCESS w_FAILURE w_TIMED_OUT w_WAITING h0 n0 Z0 S p1 p2 hs hl) hZ (hw _ (List.mem_of_getElem? (i := 11) rfl)) (hw _ (List.mem_of_getElem? (i := 10) rfl)) (by decide) (by decide)) (g := (mkF m 13 #[.val (.int p0), .val (.int p1), .val (.int p2), .val (.ref w_TIMED_OUT), .unset, .unset, .unset, .unset] [(.int p2), (.int p1), (.ref w_TIMED_OUT)])) rfl (by rw [hml]; rfl) (argsL := [(.ref w_TIMED_OUT), (.int p1), (.int p2)]) (rest := []) (lenOf pd_1 rfl) rfl (by show 2 * 0 + _ ≤ _; exact Nat.le_of_eq rfl) (hb hby at_13) (fun _ _ => ⟨rfl, e1, (by decide : 0 + 0 ≤ _), (by decide : 0 + 0 ≤ _)⟩)
  dsimp only [Pt.U, Pt.locs, Pt.cells, Pt.slots] at X2 l2 y2 z2 st2 hQ2
  subst l2 y2 z2
  obtain ⟨rfl, Nq2, e2⟩ := hQ2
  have N2 := Fr.app N1 Nq2
  obtain ⟨T3, X3, e3, st3⟩ := getS2 X2 hx hZ hown (host := "") (Or.inl (hw _ (List.mem_of_getElem? (i := 5) rfl))) Via.refl e2 S_w_SUCCESS (g := (mkF m 19 #[.val (.int p0), .val (.int p1), .val (.int p2), .val (.ref w_TIMED_OUT), .val (.ref w_TIMED_OUT), .unset, .unset, .unset] [(.ref w_TIMED_OUT)])) rfl (hb hby at_19)
  obtain ⟨fs, hr, hrun, hended, hW, hsame⟩ := X3.leave (v := (some (.int (1 : Int32)))) (fun h => by rw [Bd.returns] at h; cases h)
  refine ⟨_, _, pre0 _ ?_, hrun, hended, _, _, rfl, ⟨rfl, N2, e3⟩, ⟨_, rfl⟩, hW, hsame.mono (by decide) (by decide)⟩
  show Steps p.tables e below (s₁.setTop (mkF m 0 #[.val (.int p0), .val (.int p1), .val (.int p2), .unset, .unset, .unset, .unset, .unset] [])) _
  refine XS.iloadN X0.here hx rfl (hb hby at_0) rfl ?_
  show Steps p.tables e below (s₁.setTop (mkF m 1 #[.val (.int p0), .val (.int p1), .val (.int p2), .unset, .unset, .unset, .unset, .unset] [(.int p0)])) _
  refine X0.ldcInt hx hown (mvT hZ (hw _ (List.mem_of_getElem? (i := 0) rfl))) (g := (mkF m 1 #[.val (.int p0), .val (.int p1), .val (.int p2), .unset, .unset, .unset, .unset, .unset] [(.int p0)])) rfl (hb hby at_1) _ ?_
  show Steps p.tables e below (s₁.setTop (mkF m 3 #[.val (.int p0), .val (.int p1), .val (.int p2), .unset, .unset, .unset, .unset, .unset] [(.int (2147483647 : Int32)), (.int p0)])) _
  refine XS.iand X0.here hx rfl (hb hby at_3) rfl ?_
  show Steps p.tables e below (s₁.setTop (mkF m 4 #[.val (.int p0), .val (.int p1), .val (.int p2), .unset, .unset, .unset, .unset, .unset] [(.int (p0 &&& (2147483647 : Int32)))])) _
  show Steps p.tables e below (s₁.setTop (mkF m 4 #[.val (.int p0), .val (.int p1), .val (.int p2), .unset, .unset, .unset, .unset, .unset] [(.int (p0 &&& (2147483647 : Int32)))])) _
  refine XS.iconst X0.here hx rfl (hb hby at_4) ?_
  show Steps p.tables e below (s₁.setTop (mkF m 5 #[.val (.int p0), .val (.int p1), .val (.int p2), .unset, .unset, .unset, .unset, .unset] [(.int (3 : Int32)), (.int (p0 &&& (2147483647 : Int32)))])) _
  refine iremM X0 hx rfl (hb hby at_5) rfl (by decide) ?_
  show Steps p.tables e below (s₁.setTop (mkF m 6 #[.val (.int p0), .val (.int p1), .val (.int p2), .unset, .unset, .unset, .unset, .unset] [(.int ((p0 &&& (2147483647 : Int32)) % (3 : Int32)))])) _
  rw [hk]
  show Steps p.tables e below (s₁.setTop (mkF m 6 #[.val (.int p0), .val (.int p1), .val (.int p2), .unset, .unset, .unset, .unset, .unset] [(.int (2 : Int32))])) _
  refine st1 _ ?_
  show Steps p.tables e below (T1.setTop (mkF m 9 #[.val (.int p0), .val (.int p1), .val (.int p2), .unset, .unset, .unset, .unset, .unset] [(.ref w_TIMED_OUT)])) _
  refine XS.astoreN X1.here hx rfl (hb hby at_9) rfl rfl (l' := #[.val (.int p0), .val (.int p1), .val (.int p2), .val (.ref w_TIMED_OUT), .unset, .unset, .unset, .unset]) rfl ?_
  show Steps p.tables e below (T1.setTop (mkF m 10 #[.val (.int p0), .val (.int p1), .val (.int p2), .val (.ref w_TIMED_OUT), .unset, .unset, .unset, .unset] [])) _
  refine XS.aloadN X1.here hx rfl (hb hby at_10) rfl rfl ?_
  show Steps p.tables e below (T1.setTop (mkF m 11 #[.val (.int p0), .val (.int p1), .val (.int p2), .val (.ref w_TIMED_OUT), .unset, .unset, .unset, .unset] [(.ref w_TIMED_OUT)])) _
  refine XS.iloadN X1.here hx rfl (hb hby at_11) rfl ?_
  show Steps p.tables e below (T1.setTop (mkF m 12 #[.val (.int p0), .val (.int p1), .val (.int p2), .val (.ref w_TIMED_OUT), .unset, .unset, .unset, .unset] [(.int p1), (.ref w_TIMED_OUT)])) _
  refine XS.iloadN X1.here hx rfl (hb hby at_12) rfl ?_
  show Steps p.tables e below (T1.setTop (mkF m 13 #[.val (.int p0), .val (.int p1), .val (.int p2), .val (.ref w_TIMED_OUT), .unset, .unset, .unset, .unset] [(.int p2), (.int p1), (.ref w_TIMED_OUT)])) _
  refine st2 _ ?_
  show Steps p.tables e below (T2.setTop (mkF m 16 #[.val (.int p0), .val (.int p1), .val (.int p2), .val (.ref w_TIMED_OUT), .unset, .unset, .unset, .unset] [(.ref w_TIMED_OUT)])) _
  refine XS.astore X2.here hx rfl (hb hby at_16) rfl rfl (l' := #[.val (.int p0), .val (.int p1), .val (.int p2), .val (.ref w_TIMED_OUT), .val (.ref w_TIMED_OUT), .unset, .unset, .unset]) rfl ?_
  show Steps p.tables e below (T2.setTop (mkF m 18 #[.val (.int p0), .val (.int p1), .val (.int p2), .val (.ref w_TIMED_OUT), .val (.ref w_TIMED_OUT), .unset, .unset, .unset] [])) _
  refine XS.aloadN X2.here hx rfl (hb hby at_18) rfl rfl ?_
  show Steps p.tables e below (T2.setTop (mkF m 19 #[.val (.int p0), .val (.int p1), .val (.int p2), .val (.ref w_TIMED_OUT), .val (.ref w_TIMED_OUT), .unset, .unset, .unset] [(.ref w_TIMED_OUT)])) _
  refine st3 _ ?_
  show Steps p.tables e below (T3.setTop (mkF m 22 #[.val (.int p0), .val (.int p1), .val (.int p2), .val (.ref w_TIMED_OUT), .val (.ref w_TIMED_OUT), .unset, .unset, .unset] [(.ref w_SUCCESS), (.ref w_TIMED_OUT)])) _
  refine Jvm.RoadKit.acmp (g := (mkF m 22 #[.val (.int p0), .val (.int p1), .val (.int p2), .val (.ref w_TIMED_OUT), .val (.ref w_TIMED_OUT), .unset, .unset, .unset] [(.ref w_SUCCESS), (.ref w_TIMED_OUT)])) X3 hx rfl rfl rfl (pc0 := 22) (pc' := 33) (same := false) rfl (hb hby at_22) rfl (decide_eq_false fun q => hne_w_SUCCESS_w_TIMED_OUT (Value.ref.inj q).symm) (by decide) (by decide) ?_
  show Steps p.tables e below (T3.setTop (mkF m 33 #[.val (.int p0), .val (.int p1), .val (.int p2), .val (.ref w_TIMED_OUT), .val (.ref w_TIMED_OUT), .unset, .unset, .unset] [])) _
  refine XS.iloadN X3.here hx rfl (hb hby at_33) rfl ?_
  show Steps p.tables e below (T3.setTop (mkF m 34 #[.val (.int p0), .val (.int p1), .val (.int p2), .val (.ref w_TIMED_OUT), .val (.ref w_TIMED_OUT), .unset, .unset, .unset] [(.int p2)])) _
  refine XS.i2l X3.here hx rfl (hb hby at_34) rfl ?_
  show Steps p.tables e below (T3.setTop (mkF m 35 #[.val (.int p0), .val (.int p1), .val (.int p2), .val (.ref w_TIMED_OUT), .val (.ref w_TIMED_OUT), .unset, .unset, .unset] [(.long (p2.toInt64))])) _
  refine XS.iloadN X3.here hx rfl (hb hby at_35) rfl ?_
  show Steps p.tables e below (T3.setTop (mkF m 36 #[.val (.int p0), .val (.int p1), .val (.int p2), .val (.ref w_TIMED_OUT), .val (.ref w_TIMED_OUT), .unset, .unset, .unset] [(.int p1), (.long (p2.toInt64))])) _
  refine XS.i2l X3.here hx rfl (hb hby at_36) rfl ?_
  show Steps p.tables e below (T3.setTop (mkF m 37 #[.val (.int p0), .val (.int p1), .val (.int p2), .val (.ref w_TIMED_OUT), .val (.ref w_TIMED_OUT), .unset, .unset, .unset] [(.long (p1.toInt64)), (.long (p2.toInt64))])) _
  refine XS.lsub X3.here hx rfl (hb hby at_37) rfl ?_
  show Steps p.tables e below (T3.setTop (mkF m 38 #[.val (.int p0), .val (.int p1), .val (.int p2), .val (.ref w_TIMED_OUT), .val (.ref w_TIMED_OUT), .unset, .unset, .unset] [(.long ((p2.toInt64) - (p1.toInt64)))])) _
  refine XS.lstore X3.here hx rfl (hb hby at_38) rfl (l' := #[.val (.int p0), .val (.int p1), .val (.int p2), .val (.ref w_TIMED_OUT), .val (.ref w_TIMED_OUT), .unset, .val (.long ((p2.toInt64) - (p1.toInt64))), .second]) rfl ?_
  show Steps p.tables e below (T3.setTop (mkF m 40 #[.val (.int p0), .val (.int p1), .val (.int p2), .val (.ref w_TIMED_OUT), .val (.ref w_TIMED_OUT), .unset, .val (.long ((p2.toInt64) - (p1.toInt64))), .second] [])) _
  refine XS.lload X3.here hx rfl (hb hby at_40) rfl ?_
  show Steps p.tables e below (T3.setTop (mkF m 42 #[.val (.int p0), .val (.int p1), .val (.int p2), .val (.ref w_TIMED_OUT), .val (.ref w_TIMED_OUT), .unset, .val (.long ((p2.toInt64) - (p1.toInt64))), .second] [(.long ((p2.toInt64) - (p1.toInt64)))])) _
  refine XS.lconst X3.here hx rfl (hb hby at_42) ?_
  show Steps p.tables e below (T3.setTop (mkF m 43 #[.val (.int p0), .val (.int p1), .val (.int p2), .val (.ref w_TIMED_OUT), .val (.ref w_TIMED_OUT), .unset, .val (.long ((p2.toInt64) - (p1.toInt64))), .second] [(.long (0 : Int64)), (.long ((p2.toInt64) - (p1.toInt64)))])) _
  refine XS.lcmp X3.here hx rfl (hb hby at_43) rfl ?_
  show Steps p.tables e below (T3.setTop (mkF m 44 #[.val (.int p0), .val (.int p1), .val (.int p2), .val (.ref w_TIMED_OUT), .val (.ref w_TIMED_OUT), .unset, .val (.long ((p2.toInt64) - (p1.toInt64))), .second] [(.int (lcmpW ((p2.toInt64) - (p1.toInt64)) (0 : Int64)))])) _
  refine XS.ifYes X3.here hx rfl (pc0 := 44) (pc' := 55) rfl (hb hby at_44) rfl ((if0 _ _).trans (tlt hl).1) (by decide) (by decide) ?_
  show Steps p.tables e below (T3.setTop (mkF m 55 #[.val (.int p0), .val (.int p1), .val (.int p2), .val (.ref w_TIMED_OUT), .val (.ref w_TIMED_OUT), .unset, .val (.long ((p2.toInt64) - (p1.toInt64))), .second] [])) _
  refine XS.aloadN X3.here hx rfl (hb hby at_55) rfl rfl ?_
  show Steps p.tables e below (T3.setTop (mkF m 56 #[.val (.int p0), .val (.int p1), .val (.int p2), .val (.ref w_TIMED_OUT), .val (.ref w_TIMED_OUT), .unset, .val (.long ((p2.toInt64) - (p1.toInt64))), .second] [(.ref w_TIMED_OUT)])) _
  refine XS.astore X3.here hx rfl (hb hby at_56) rfl rfl (l' := #[.val (.int p0), .val (.int p1), .val (.int p2), .val (.ref w_TIMED_OUT), .val (.ref w_TIMED_OUT), .val (.ref w_TIMED_OUT), .val (.long ((p2.toInt64) - (p1.toInt64))), .second]) rfl ?_
  show Steps p.tables e below (T3.setTop (mkF m 58 #[.val (.int p0), .val (.int p1), .val (.int p2), .val (.ref w_TIMED_OUT), .val (.ref w_TIMED_OUT), .val (.ref w_TIMED_OUT), .val (.long ((p2.toInt64) - (p1.toInt64))), .second] [])) _
  refine XS.aload X3.here hx rfl (hb hby at_58) rfl rfl ?_
  show Steps p.tables e below (T3.setTop (mkF m 60 #[.val (.int p0), .val (.int p1), .val (.int p2), .val (.ref w_TIMED_OUT), .val (.ref w_TIMED_OUT), .val (.ref w_TIMED_OUT), .val (.long ((p2.toInt64) - (p1.toInt64))), .second] [(.ref w_TIMED_OUT)])) _
  refine XS.aload X3.here hx rfl (hb hby at_60) rfl rfl ?_
  show Steps p.tables e below (T3.setTop (mkF m 62 #[.val (.int p0), .val (.int p1), .val (.int p2), .val (.ref w_TIMED_OUT), .val (.ref w_TIMED_OUT), .val (.ref w_TIMED_OUT), .val (.long ((p2.toInt64) - (p1.toInt64))), .second] [(.ref w_TIMED_OUT), (.ref w_TIMED_OUT)])) _
  refine Jvm.RoadKit.acmp (g := (mkF m 62 #[.val (.int p0), .val (.int p1), .val (.int p2), .val (.ref w_TIMED_OUT), .val (.ref w_TIMED_OUT), .val (.ref w_TIMED_OUT), .val (.long ((p2.toInt64) - (p1.toInt64))), .second] [(.ref w_TIMED_OUT), (.ref w_TIMED_OUT)])) X3 hx rfl rfl rfl (pc0 := 62) (pc' := 65) (same := true) rfl (hb hby at_62) rfl (decide_eq_true rfl) (by decide) (by decide) ?_
  show Steps p.tables e below (T3.setTop (mkF m 65 #[.val (.int p0), .val (.int p1), .val (.int p2), .val (.ref w_TIMED_OUT), .val (.ref w_TIMED_OUT), .val (.ref w_TIMED_OUT), .val (.long ((p2.toInt64) - (p1.toInt64))), .second] [])) _
  refine XS.iconst X3.here hx rfl (hb hby at_65) ?_
  show Steps p.tables e below (T3.setTop (mkF m 66 #[.val (.int p0), .val (.int p1), .val (.int p2), .val (.ref w_TIMED_OUT), .val (.ref w_TIMED_OUT), .val (.ref w_TIMED_OUT), .val (.long ((p2.toInt64) - (p1.toInt64))), .second] [(.int (1 : Int32))])) _
  refine XS.goto X3.here hx rfl (pc0 := 66) (pc' := 70) rfl (hb hby at_66) (by decide) (by decide) ?_
  show Steps p.tables e below (T3.setTop (mkF m 70 #[.val (.int p0), .val (.int p1), .val (.int p2), .val (.ref w_TIMED_OUT), .val (.ref w_TIMED_OUT), .val (.ref w_TIMED_OUT), .val (.long ((p2.toInt64) - (p1.toInt64))), .second] [(.int (1 : Int32))])) _
  exact retN X3 hx (t := .boolean) Bd.returns (by simp) (hb hby at_70) hr
set_option maxRecDepth 65536 in
set_option maxHeartbeats 40000000 in
theorem rm2_5 (l : Launch) (Z : State) (a0 : Array Value) (hw : ∀ d ∈ tables_1, d.before a0 Z = true) (ws : List Jvm.Cond) (w_SUCCESS w_FAILURE w_TIMED_OUT w_WAITING : Addr) (h0 : Heap) (n0 : Nat) (Z0 : n0 ≤ h0.size) (S : SF Z h0 w_SUCCESS w_FAILURE w_TIMED_OUT w_WAITING) (p1 : Int32) (p2 : Int32) (hs : ¬ (p2 < p1)) (hl : ¬ ((lcmpW ((p2.toInt64) - (p1.toInt64)) (0 : Int64)) < (0 : Int32))) :
    Pay l Z (⟨"com/example/graph_to_grid/graphtogrid/core/RunProgress", "afterAttempt", "(Lcom/example/graph_to_grid/graphtogrid/core/TaskState;II)Lcom/example/graph_to_grid/graphtogrid/core/TaskState;"⟩ : MethodName) ws prog_8_method_2_code 3 (some (.object "com/example/graph_to_grid/graphtogrid/core/TaskState")) #[(.ref w_TIMED_OUT), (.int p1), (.int p2)] h0 n0 ({ frames := 0, cells := 0, slots := 0, locals := 0 } : Room) (some (.ref w_WAITING)) := by
  obtain ⟨S_w_SUCCESS, E_w_SUCCESS, S_w_FAILURE, E_w_FAILURE, S_w_TIMED_OUT, E_w_TIMED_OUT, S_w_WAITING, E_w_WAITING, F_ordinal_w_FAILURE, F_ordinal_w_SUCCESS, F_ordinal_w_TIMED_OUT, hne_w_SUCCESS_w_FAILURE, hne_w_SUCCESS_w_TIMED_OUT, hne_w_FAILURE_w_TIMED_OUT⟩ := id S
  refine MetFree.of_bodySF (plainFor_of_name pn_1) hisR ?_
  intro p e s m args below meth c s₁ Bd hml0 hP hK
  obtain ⟨rfl, hZ, hh⟩ := hP
  have hx := Bd.exec
  have hby := Bd.bytes
  have hml : c.maxLocals = 3 := hml0
  have hown : s.vm.findClass "com/example/graph_to_grid/graphtogrid/core/RunProgress" = some m.cls := findClass_of_methodNamed Bd.named
  have X0 : Stand p l e ({ frames := 0, cells := 0, slots := 0, locals := 0 } : Room) s m #[(.ref w_TIMED_OUT), (.int p1), (.int p2)] below meth c s₁ [] 0 0 := Stand.of_body Bd
  have e0 : s₁.heap = h0 := by rw [← hh, Bd.state]; rfl
  have N0 := Fr.nil n0
  have pre0 : ∀ t, Steps p.tables e below (s₁.setTop (mkF m 0 #[.val (.ref w_TIMED_OUT), .val (.int p1), .val (.int p2)] [])) t → Steps p.tables e below (s₁.setTop (entryFrame m #[(.ref w_TIMED_OUT), (.int p1), (.int p2)] 3)) t := fun t k => castTop (by first | rfl | (simp [entryFrame, mkF, argsToLocals, Value.category]; done)) k
  obtain ⟨T1, X1, e1, st1⟩ := getS2 X0 hx hZ hown (host := "") (Or.inl (hw _ (List.mem_of_getElem? (i := 12) rfl))) Via.refl e0 S_w_SUCCESS (g := (mkF m 1 #[.val (.ref w_TIMED_OUT), .val (.int p1), .val (.int p2)] [(.ref w_TIMED_OUT)])) rfl (hb hby d2_1)
  obtain ⟨T2, X2, e2, st2⟩ := getS2 X1 hx hZ hown (host := "") (Or.inl (hw _ (List.mem_of_getElem? (i := 17) rfl))) Via.refl e1 S_w_WAITING (g := (mkF m 12 #[.val (.ref w_TIMED_OUT), .val (.int p1), .val (.int p2)] [])) rfl (hb hby d2_12)
  obtain ⟨fs, hr, hrun, hended, hW, hsame⟩ := X2.leave (v := (some (.ref w_WAITING))) (fun h => by rw [Bd.returns] at h; cases h)
  refine ⟨_, _, pre0 _ ?_, hrun, hended, _, _, rfl, ⟨rfl, N0, e2⟩, ⟨_, rfl⟩, hW, hsame.mono (by decide) (by decide)⟩
  show Steps p.tables e below (s₁.setTop (mkF m 0 #[.val (.ref w_TIMED_OUT), .val (.int p1), .val (.int p2)] [])) _
  refine XS.aloadN X0.here hx rfl (hb hby d2_0) rfl rfl ?_
  show Steps p.tables e below (s₁.setTop (mkF m 1 #[.val (.ref w_TIMED_OUT), .val (.int p1), .val (.int p2)] [(.ref w_TIMED_OUT)])) _
  refine st1 _ ?_
  show Steps p.tables e below (T1.setTop (mkF m 4 #[.val (.ref w_TIMED_OUT), .val (.int p1), .val (.int p2)] [(.ref w_SUCCESS), (.ref w_TIMED_OUT)])) _
  refine Jvm.RoadKit.acmp (g := (mkF m 4 #[.val (.ref w_TIMED_OUT), .val (.int p1), .val (.int p2)] [(.ref w_SUCCESS), (.ref w_TIMED_OUT)])) X1 hx rfl rfl rfl (pc0 := 4) (pc' := 7) (same := false) rfl (hb hby d2_4) rfl (decide_eq_false fun q => hne_w_SUCCESS_w_TIMED_OUT (Value.ref.inj q).symm) (by decide) (by decide) ?_
  show Steps p.tables e below (T1.setTop (mkF m 7 #[.val (.ref w_TIMED_OUT), .val (.int p1), .val (.int p2)] [])) _
  refine XS.iloadN X1.here hx rfl (hb hby d2_7) rfl ?_
  show Steps p.tables e below (T1.setTop (mkF m 8 #[.val (.ref w_TIMED_OUT), .val (.int p1), .val (.int p2)] [(.int p1)])) _
  refine XS.iloadN X1.here hx rfl (hb hby d2_8) rfl ?_
  show Steps p.tables e below (T1.setTop (mkF m 9 #[.val (.ref w_TIMED_OUT), .val (.int p1), .val (.int p2)] [(.int p2), (.int p1)])) _
  refine XS.icmpNo X1.here hx rfl (hb hby d2_9) rfl (flt hs).2.2.1 ?_
  show Steps p.tables e below (T1.setTop (mkF m 12 #[.val (.ref w_TIMED_OUT), .val (.int p1), .val (.int p2)] [])) _
  refine st2 _ ?_
  show Steps p.tables e below (T2.setTop (mkF m 15 #[.val (.ref w_TIMED_OUT), .val (.int p1), .val (.int p2)] [(.ref w_WAITING)])) _
  exact retOut X2 hx (t := (.object "com/example/graph_to_grid/graphtogrid/core/TaskState")) (i := .areturn) Bd.returns rfl (Or.inr (Or.inr (Or.inr (Or.inr ⟨rfl, rfl, rfl⟩)))) (hb hby d2_15) hr
set_option maxRecDepth 65536 in
set_option maxHeartbeats 40000000 in
theorem rm0_5 (l : Launch) (Z : State) (a0 : Array Value) (hw : ∀ d ∈ tables_1, d.before a0 Z = true) (ws : List Jvm.Cond) (w_SUCCESS w_FAILURE w_TIMED_OUT w_WAITING : Addr) (h0 : Heap) (n0 : Nat) (Z0 : n0 ≤ h0.size) (S : SF Z h0 w_SUCCESS w_FAILURE w_TIMED_OUT w_WAITING) (p0 : Int32) (p1 : Int32) (p2 : Int32) (hk : ((p0 &&& (2147483647 : Int32)) % (3 : Int32)) = (2 : Int32)) (hs : ¬ (p2 < p1)) (hl : ¬ ((lcmpW ((p2.toInt64) - (p1.toInt64)) (0 : Int64)) < (0 : Int32))) :
    Pay l Z x ws code maxLocals ret #[(.int p0), (.int p1), (.int p2)] h0 n0 room_1 (some (.int (1 : Int32))) := by
  obtain ⟨S_w_SUCCESS, E_w_SUCCESS, S_w_FAILURE, E_w_FAILURE, S_w_TIMED_OUT, E_w_TIMED_OUT, S_w_WAITING, E_w_WAITING, F_ordinal_w_FAILURE, F_ordinal_w_SUCCESS, F_ordinal_w_TIMED_OUT, hne_w_SUCCESS_w_FAILURE, hne_w_SUCCESS_w_TIMED_OUT, hne_w_FAILURE_w_TIMED_OUT⟩ := id S
  refine MetFree.of_bodySF (plainFor_of_name pn_0) hisR ?_
  intro p e s m args below meth c s₁ Bd hml0 hP hK
  obtain ⟨rfl, hZ, hh⟩ := hP
  have hx := Bd.exec
  have hby := Bd.bytes
  have hml : c.maxLocals = 8 := hml0
  have hown : s.vm.findClass "com/example/graph_to_grid/graphtogrid/core/RunProgressAfterAttemptPinLaw" = some m.cls := findClass_of_methodNamed Bd.named
  have X0 : Stand p l e room_1 s m #[(.int p0), (.int p1), (.int p2)] below meth c s₁ [] 0 0 := Stand.of_body Bd
  have e0 : s₁.heap = h0 := by rw [← hh, Bd.state]; rfl
  have N0 := Fr.nil n0
  have pre0 : ∀ t, Steps p.tables e below (s₁.setTop (mkF m 0 #[.val (.int p0), .val (.int p1), .val (.int p2), .unset, .unset, .unset, .unset, .unset] [])) t → Steps p.tables e below (s₁.setTop (entryFrame m #[(.int p0), (.int p1), (.int p2)] maxLocals)) t := fun t k => castTop (by first | rfl | (simp [entryFrame, mkF, argsToLocals, Value.category, maxLocals]; done)) k
  obtain ⟨_, _, ⟨T1, L1, k1, n1⟩, -, X1, ⟨Lc1, hQ1, l1, y1, z1⟩, st1⟩ := Jvm.LawKit.callS X0 hx (y := (⟨"com/example/graph_to_grid/graphtogrid/core/RunProgressAfterAttemptPinLaw", "endedOf", "(I)Lcom/example/graph_to_grid/graphtogrid/core/TaskState;"⟩ : MethodName)) hown (mvT hZ (hw _ (List.mem_of_getElem? (i := 1) rfl))) (mvT hZ (hw _ (List.mem_of_getElem? (i := 2) rfl))) (mvT hZ (hw _ (List.mem_of_getElem? (i := 3) rfl))) (mvT hZ (hw _ (List.mem_of_getElem? (i := 4) rfl))) (by decide) (backOf (W := 0) (rm1_2 l Z a0 hw [] w_SUCCESS w_FAILURE w_TIMED_OUT w_WAITING h0 n0 Z0 S) hZ (hw _ (List.mem_of_getElem? (i := 4) rfl)) (hw _ (List.mem_of_getElem? (i := 3) rfl)) (by decide) (by decide)) (g := (mkF m 6 #[.val (.int p0), .val (.int p1), .val (.int p2), .unset, .unset, .unset, .unset, .unset] [(.int (2 : Int32))])) rfl (by rw [hml]; rfl) (argsL := [(.int (2 : Int32))]) (rest := []) (lenOf pd_0 rfl) rfl (by show 2 * 0 + _ ≤ _; exact Nat.le_of_eq rfl) (hb hby at_6) (fun _ _ => ⟨rfl, e0, (by decide : 0 + 0 ≤ _), (by decide : 0 + 0 ≤ _)⟩)
  dsimp only [Pt.U, Pt.locs, Pt.cells, Pt.slots] at X1 l1 y1 z1 st1 hQ1
  subst l1 y1 z1
  obtain ⟨rfl, Nq1, e1⟩ := hQ1
  have N1 := Fr.app N0 Nq1
  obtain ⟨_, _, ⟨T2, L2, k2, n2⟩, -, X2, ⟨Lc2, hQ2, l2, y2, z2⟩, st2⟩ := Jvm.LawKit.callS X1 hx (y := (⟨"com/example/graph_to_grid/graphtogrid/core/RunProgress", "afterAttempt", "(Lcom/example/graph_to_grid/graphtogrid/core/TaskState;II)Lcom/example/graph_to_grid/graphtogrid/core/TaskState;"⟩ : MethodName)) hown (mvT hZ (hw _ (List.mem_of_getElem? (i := 8) rfl))) (mvT hZ (hw _ (List.mem_of_getElem? (i := 9) rfl))) (mvT hZ (hw _ (List.mem_of_getElem? (i := 10) rfl))) (mvT hZ (hw _ (List.mem_of_getElem? (i := 11) rfl))) (by decide) (backOf (W := 0) (rm2_5 l Z a0 hw [] w_SUCCESS w_FAILURE w_TIMED_OUT w_WAITING h0 n0 Z0 S p1 p2 hs hl) hZ (hw _ (List.mem_of_getElem? (i := 11) rfl)) (hw _ (List.mem_of_getElem? (i := 10) rfl)) (by decide) (by decide)) (g := (mkF m 13 #[.val (.int p0), .val (.int p1), .val (.int p2), .val (.ref w_TIMED_OUT), .unset, .unset, .unset, .unset] [(.int p2), (.int p1), (.ref w_TIMED_OUT)])) rfl (by rw [hml]; rfl) (argsL := [(.ref w_TIMED_OUT), (.int p1), (.int p2)]) (rest := []) (lenOf pd_1 rfl) rfl (by show 2 * 0 + _ ≤ _; exact Nat.le_of_eq rfl) (hb hby at_13) (fun _ _ => ⟨rfl, e1, (by decide : 0 + 0 ≤ _), (by decide : 0 + 0 ≤ _)⟩)
  dsimp only [Pt.U, Pt.locs, Pt.cells, Pt.slots] at X2 l2 y2 z2 st2 hQ2
  subst l2 y2 z2
  obtain ⟨rfl, Nq2, e2⟩ := hQ2
  have N2 := Fr.app N1 Nq2
  obtain ⟨T3, X3, e3, st3⟩ := getS2 X2 hx hZ hown (host := "") (Or.inl (hw _ (List.mem_of_getElem? (i := 5) rfl))) Via.refl e2 S_w_SUCCESS (g := (mkF m 19 #[.val (.int p0), .val (.int p1), .val (.int p2), .val (.ref w_TIMED_OUT), .val (.ref w_WAITING), .unset, .unset, .unset] [(.ref w_TIMED_OUT)])) rfl (hb hby at_19)
  obtain ⟨T4, X4, e4, st4⟩ := getS2 X3 hx hZ hown (host := "") (Or.inl (hw _ (List.mem_of_getElem? (i := 19) rfl))) Via.refl e3 S_w_WAITING (g := (mkF m 47 #[.val (.int p0), .val (.int p1), .val (.int p2), .val (.ref w_TIMED_OUT), .val (.ref w_WAITING), .unset, .val (.long ((p2.toInt64) - (p1.toInt64))), .second] [])) rfl (hb hby at_47)
  obtain ⟨fs, hr, hrun, hended, hW, hsame⟩ := X4.leave (v := (some (.int (1 : Int32)))) (fun h => by rw [Bd.returns] at h; cases h)
  refine ⟨_, _, pre0 _ ?_, hrun, hended, _, _, rfl, ⟨rfl, N2, e4⟩, ⟨_, rfl⟩, hW, hsame.mono (by decide) (by decide)⟩
  show Steps p.tables e below (s₁.setTop (mkF m 0 #[.val (.int p0), .val (.int p1), .val (.int p2), .unset, .unset, .unset, .unset, .unset] [])) _
  refine XS.iloadN X0.here hx rfl (hb hby at_0) rfl ?_
  show Steps p.tables e below (s₁.setTop (mkF m 1 #[.val (.int p0), .val (.int p1), .val (.int p2), .unset, .unset, .unset, .unset, .unset] [(.int p0)])) _
  refine X0.ldcInt hx hown (mvT hZ (hw _ (List.mem_of_getElem? (i := 0) rfl))) (g := (mkF m 1 #[.val (.int p0), .val (.int p1), .val (.int p2), .unset, .unset, .unset, .unset, .unset] [(.int p0)])) rfl (hb hby at_1) _ ?_
  show Steps p.tables e below (s₁.setTop (mkF m 3 #[.val (.int p0), .val (.int p1), .val (.int p2), .unset, .unset, .unset, .unset, .unset] [(.int (2147483647 : Int32)), (.int p0)])) _
  refine XS.iand X0.here hx rfl (hb hby at_3) rfl ?_
  show Steps p.tables e below (s₁.setTop (mkF m 4 #[.val (.int p0), .val (.int p1), .val (.int p2), .unset, .unset, .unset, .unset, .unset] [(.int (p0 &&& (2147483647 : Int32)))])) _
  show Steps p.tables e below (s₁.setTop (mkF m 4 #[.val (.int p0), .val (.int p1), .val (.int p2), .unset, .unset, .unset, .unset, .unset] [(.int (p0 &&& (2147483647 : Int32)))])) _
  refine XS.iconst X0.here hx rfl (hb hby at_4) ?_
  show Steps p.tables e below (s₁.setTop (mkF m 5 #[.val (.int p0), .val (.int p1), .val (.int p2), .unset, .unset, .unset, .unset, .unset] [(.int (3 : Int32)), (.int (p0 &&& (2147483647 : Int32)))])) _
  refine iremM X0 hx rfl (hb hby at_5) rfl (by decide) ?_
  show Steps p.tables e below (s₁.setTop (mkF m 6 #[.val (.int p0), .val (.int p1), .val (.int p2), .unset, .unset, .unset, .unset, .unset] [(.int ((p0 &&& (2147483647 : Int32)) % (3 : Int32)))])) _
  rw [hk]
  show Steps p.tables e below (s₁.setTop (mkF m 6 #[.val (.int p0), .val (.int p1), .val (.int p2), .unset, .unset, .unset, .unset, .unset] [(.int (2 : Int32))])) _
  refine st1 _ ?_
  show Steps p.tables e below (T1.setTop (mkF m 9 #[.val (.int p0), .val (.int p1), .val (.int p2), .unset, .unset, .unset, .unset, .unset] [(.ref w_TIMED_OUT)])) _
  refine XS.astoreN X1.here hx rfl (hb hby at_9) rfl rfl (l' := #[.val (.int p0), .val (.int p1), .val (.int p2), .val (.ref w_TIMED_OUT), .unset, .unset, .unset, .unset]) rfl ?_
  show Steps p.tables e below (T1.setTop (mkF m 10 #[.val (.int p0), .val (.int p1), .val (.int p2), .val (.ref w_TIMED_OUT), .unset, .unset, .unset, .unset] [])) _
  refine XS.aloadN X1.here hx rfl (hb hby at_10) rfl rfl ?_
  show Steps p.tables e below (T1.setTop (mkF m 11 #[.val (.int p0), .val (.int p1), .val (.int p2), .val (.ref w_TIMED_OUT), .unset, .unset, .unset, .unset] [(.ref w_TIMED_OUT)])) _
  refine XS.iloadN X1.here hx rfl (hb hby at_11) rfl ?_
  show Steps p.tables e below (T1.setTop (mkF m 12 #[.val (.int p0), .val (.int p1), .val (.int p2), .val (.ref w_TIMED_OUT), .unset, .unset, .unset, .unset] [(.int p1), (.ref w_TIMED_OUT)])) _
  refine XS.iloadN X1.here hx rfl (hb hby at_12) rfl ?_
  show Steps p.tables e below (T1.setTop (mkF m 13 #[.val (.int p0), .val (.int p1), .val (.int p2), .val (.ref w_TIMED_OUT), .unset, .unset, .unset, .unset] [(.int p2), (.int p1), (.ref w_TIMED_OUT)])) _
  refine st2 _ ?_
  show Steps p.tables e below (T2.setTop (mkF m 16 #[.val (.int p0), .val (.int p1), .val (.int p2), .val (.ref w_TIMED_OUT), .unset, .unset, .unset, .unset] [(.ref w_WAITING)])) _
  refine XS.astore X2.here hx rfl (hb hby at_16) rfl rfl (l' := #[.val (.int p0), .val (.int p1), .val (.int p2), .val (.ref w_TIMED_OUT), .val (.ref w_WAITING), .unset, .unset, .unset]) rfl ?_
  show Steps p.tables e below (T2.setTop (mkF m 18 #[.val (.int p0), .val (.int p1), .val (.int p2), .val (.ref w_TIMED_OUT), .val (.ref w_WAITING), .unset, .unset, .unset] [])) _
  refine XS.aloadN X2.here hx rfl (hb hby at_18) rfl rfl ?_
  show Steps p.tables e below (T2.setTop (mkF m 19 #[.val (.int p0), .val (.int p1), .val (.int p2), .val (.ref w_TIMED_OUT), .val (.ref w_WAITING), .unset, .unset, .unset] [(.ref w_TIMED_OUT)])) _
  refine st3 _ ?_
  show Steps p.tables e below (T3.setTop (mkF m 22 #[.val (.int p0), .val (.int p1), .val (.int p2), .val (.ref w_TIMED_OUT), .val (.ref w_WAITING), .unset, .unset, .unset] [(.ref w_SUCCESS), (.ref w_TIMED_OUT)])) _
  refine Jvm.RoadKit.acmp (g := (mkF m 22 #[.val (.int p0), .val (.int p1), .val (.int p2), .val (.ref w_TIMED_OUT), .val (.ref w_WAITING), .unset, .unset, .unset] [(.ref w_SUCCESS), (.ref w_TIMED_OUT)])) X3 hx rfl rfl rfl (pc0 := 22) (pc' := 33) (same := false) rfl (hb hby at_22) rfl (decide_eq_false fun q => hne_w_SUCCESS_w_TIMED_OUT (Value.ref.inj q).symm) (by decide) (by decide) ?_
  show Steps p.tables e below (T3.setTop (mkF m 33 #[.val (.int p0), .val (.int p1), .val (.int p2), .val (.ref w_TIMED_OUT), .val (.ref w_WAITING), .unset, .unset, .unset] [])) _
  refine XS.iloadN X3.here hx rfl (hb hby at_33) rfl ?_
  show Steps p.tables e below (T3.setTop (mkF m 34 #[.val (.int p0), .val (.int p1), .val (.int p2), .val (.ref w_TIMED_OUT), .val (.ref w_WAITING), .unset, .unset, .unset] [(.int p2)])) _
  refine XS.i2l X3.here hx rfl (hb hby at_34) rfl ?_
  show Steps p.tables e below (T3.setTop (mkF m 35 #[.val (.int p0), .val (.int p1), .val (.int p2), .val (.ref w_TIMED_OUT), .val (.ref w_WAITING), .unset, .unset, .unset] [(.long (p2.toInt64))])) _
  refine XS.iloadN X3.here hx rfl (hb hby at_35) rfl ?_
  show Steps p.tables e below (T3.setTop (mkF m 36 #[.val (.int p0), .val (.int p1), .val (.int p2), .val (.ref w_TIMED_OUT), .val (.ref w_WAITING), .unset, .unset, .unset] [(.int p1), (.long (p2.toInt64))])) _
  refine XS.i2l X3.here hx rfl (hb hby at_36) rfl ?_
  show Steps p.tables e below (T3.setTop (mkF m 37 #[.val (.int p0), .val (.int p1), .val (.int p2), .val (.ref w_TIMED_OUT), .val (.ref w_WAITING), .unset, .unset, .unset] [(.long (p1.toInt64)), (.long (p2.toInt64))])) _
  refine XS.lsub X3.here hx rfl (hb hby at_37) rfl ?_
  show Steps p.tables e below (T3.setTop (mkF m 38 #[.val (.int p0), .val (.int p1), .val (.int p2), .val (.ref w_TIMED_OUT), .val (.ref w_WAITING), .unset, .unset, .unset] [(.long ((p2.toInt64) - (p1.toInt64)))])) _
  refine XS.lstore X3.here hx rfl (hb hby at_38) rfl (l' := #[.val (.int p0), .val (.int p1), .val (.int p2), .val (.ref w_TIMED_OUT), .val (.ref w_WAITING), .unset, .val (.long ((p2.toInt64) - (p1.toInt64))), .second]) rfl ?_
  show Steps p.tables e below (T3.setTop (mkF m 40 #[.val (.int p0), .val (.int p1), .val (.int p2), .val (.ref w_TIMED_OUT), .val (.ref w_WAITING), .unset, .val (.long ((p2.toInt64) - (p1.toInt64))), .second] [])) _
  refine XS.lload X3.here hx rfl (hb hby at_40) rfl ?_
  show Steps p.tables e below (T3.setTop (mkF m 42 #[.val (.int p0), .val (.int p1), .val (.int p2), .val (.ref w_TIMED_OUT), .val (.ref w_WAITING), .unset, .val (.long ((p2.toInt64) - (p1.toInt64))), .second] [(.long ((p2.toInt64) - (p1.toInt64)))])) _
  refine XS.lconst X3.here hx rfl (hb hby at_42) ?_
  show Steps p.tables e below (T3.setTop (mkF m 43 #[.val (.int p0), .val (.int p1), .val (.int p2), .val (.ref w_TIMED_OUT), .val (.ref w_WAITING), .unset, .val (.long ((p2.toInt64) - (p1.toInt64))), .second] [(.long (0 : Int64)), (.long ((p2.toInt64) - (p1.toInt64)))])) _
  refine XS.lcmp X3.here hx rfl (hb hby at_43) rfl ?_
  show Steps p.tables e below (T3.setTop (mkF m 44 #[.val (.int p0), .val (.int p1), .val (.int p2), .val (.ref w_TIMED_OUT), .val (.ref w_WAITING), .unset, .val (.long ((p2.toInt64) - (p1.toInt64))), .second] [(.int (lcmpW ((p2.toInt64) - (p1.toInt64)) (0 : Int64)))])) _
  refine XS.ifNo X3.here hx rfl (hb hby at_44) rfl ((if0 _ _).trans (flt hl).1) ?_
  show Steps p.tables e below (T3.setTop (mkF m 47 #[.val (.int p0), .val (.int p1), .val (.int p2), .val (.ref w_TIMED_OUT), .val (.ref w_WAITING), .unset, .val (.long ((p2.toInt64) - (p1.toInt64))), .second] [])) _
  refine st4 _ ?_
  show Steps p.tables e below (T4.setTop (mkF m 50 #[.val (.int p0), .val (.int p1), .val (.int p2), .val (.ref w_TIMED_OUT), .val (.ref w_WAITING), .unset, .val (.long ((p2.toInt64) - (p1.toInt64))), .second] [(.ref w_WAITING)])) _
  refine XS.astore X4.here hx rfl (hb hby at_50) rfl rfl (l' := #[.val (.int p0), .val (.int p1), .val (.int p2), .val (.ref w_TIMED_OUT), .val (.ref w_WAITING), .val (.ref w_WAITING), .val (.long ((p2.toInt64) - (p1.toInt64))), .second]) rfl ?_
  show Steps p.tables e below (T4.setTop (mkF m 52 #[.val (.int p0), .val (.int p1), .val (.int p2), .val (.ref w_TIMED_OUT), .val (.ref w_WAITING), .val (.ref w_WAITING), .val (.long ((p2.toInt64) - (p1.toInt64))), .second] [])) _
  refine XS.goto X4.here hx rfl (pc0 := 52) (pc' := 58) rfl (hb hby at_52) (by decide) (by decide) ?_
  show Steps p.tables e below (T4.setTop (mkF m 58 #[.val (.int p0), .val (.int p1), .val (.int p2), .val (.ref w_TIMED_OUT), .val (.ref w_WAITING), .val (.ref w_WAITING), .val (.long ((p2.toInt64) - (p1.toInt64))), .second] [])) _
  refine XS.aload X4.here hx rfl (hb hby at_58) rfl rfl ?_
  show Steps p.tables e below (T4.setTop (mkF m 60 #[.val (.int p0), .val (.int p1), .val (.int p2), .val (.ref w_TIMED_OUT), .val (.ref w_WAITING), .val (.ref w_WAITING), .val (.long ((p2.toInt64) - (p1.toInt64))), .second] [(.ref w_WAITING)])) _
  refine XS.aload X4.here hx rfl (hb hby at_60) rfl rfl ?_
  show Steps p.tables e below (T4.setTop (mkF m 62 #[.val (.int p0), .val (.int p1), .val (.int p2), .val (.ref w_TIMED_OUT), .val (.ref w_WAITING), .val (.ref w_WAITING), .val (.long ((p2.toInt64) - (p1.toInt64))), .second] [(.ref w_WAITING), (.ref w_WAITING)])) _
  refine Jvm.RoadKit.acmp (g := (mkF m 62 #[.val (.int p0), .val (.int p1), .val (.int p2), .val (.ref w_TIMED_OUT), .val (.ref w_WAITING), .val (.ref w_WAITING), .val (.long ((p2.toInt64) - (p1.toInt64))), .second] [(.ref w_WAITING), (.ref w_WAITING)])) X4 hx rfl rfl rfl (pc0 := 62) (pc' := 65) (same := true) rfl (hb hby at_62) rfl (decide_eq_true rfl) (by decide) (by decide) ?_
  show Steps p.tables e below (T4.setTop (mkF m 65 #[.val (.int p0), .val (.int p1), .val (.int p2), .val (.ref w_TIMED_OUT), .val (.ref w_WAITING), .val (.ref w_WAITING), .val (.long ((p2.toInt64) - (p1.toInt64))), .second] [])) _
  refine XS.iconst X4.here hx rfl (hb hby at_65) ?_
  show Steps p.tables e below (T4.setTop (mkF m 66 #[.val (.int p0), .val (.int p1), .val (.int p2), .val (.ref w_TIMED_OUT), .val (.ref w_WAITING), .val (.ref w_WAITING), .val (.long ((p2.toInt64) - (p1.toInt64))), .second] [(.int (1 : Int32))])) _
  refine XS.goto X4.here hx rfl (pc0 := 66) (pc' := 70) rfl (hb hby at_66) (by decide) (by decide) ?_
  show Steps p.tables e below (T4.setTop (mkF m 70 #[.val (.int p0), .val (.int p1), .val (.int p2), .val (.ref w_TIMED_OUT), .val (.ref w_WAITING), .val (.ref w_WAITING), .val (.long ((p2.toInt64) - (p1.toInt64))), .second] [(.int (1 : Int32))])) _
  exact retN X4 hx (t := .boolean) Bd.returns (by simp) (hb hby at_70) hr
theorem rm0 (l : Launch) (Z : State) (a0 : Array Value) (hw : ∀ d ∈ tables_1, d.before a0 Z = true) (ws : List Jvm.Cond) (w_SUCCESS w_FAILURE w_TIMED_OUT w_WAITING : Addr) (h0 : Heap) (n0 : Nat) (Z0 : n0 ≤ h0.size) (S : SF Z h0 w_SUCCESS w_FAILURE w_TIMED_OUT w_WAITING) (p0 : Int32) (p1 : Int32) (p2 : Int32) :
    Pay l Z x ws code maxLocals ret #[(.int p0), (.int p1), (.int p2)] h0 n0 room_1 (some (.int (1 : Int32))) := by
  rcases own_mod3 p0 with hk | hk | hk
  · by_cases hs : p2 < p1
    · exact rm0_0 l Z a0 hw ws w_SUCCESS w_FAILURE w_TIMED_OUT w_WAITING h0 n0 Z0 S p0 p1 p2 hk hs ((own_spare p1 p2).mpr hs)
    · exact rm0_1 l Z a0 hw ws w_SUCCESS w_FAILURE w_TIMED_OUT w_WAITING h0 n0 Z0 S p0 p1 p2 hk hs (fun q => hs ((own_spare p1 p2).mp q))
  · by_cases hs : p2 < p1
    · exact rm0_2 l Z a0 hw ws w_SUCCESS w_FAILURE w_TIMED_OUT w_WAITING h0 n0 Z0 S p0 p1 p2 hk hs ((own_spare p1 p2).mpr hs)
    · exact rm0_3 l Z a0 hw ws w_SUCCESS w_FAILURE w_TIMED_OUT w_WAITING h0 n0 Z0 S p0 p1 p2 hk hs (fun q => hs ((own_spare p1 p2).mp q))
  · by_cases hs : p2 < p1
    · exact rm0_4 l Z a0 hw ws w_SUCCESS w_FAILURE w_TIMED_OUT w_WAITING h0 n0 Z0 S p0 p1 p2 hk hs ((own_spare p1 p2).mpr hs)
    · exact rm0_5 l Z a0 hw ws w_SUCCESS w_FAILURE w_TIMED_OUT w_WAITING h0 n0 Z0 S p0 p1 p2 hk hs (fun q => hs ((own_spare p1 p2).mp q))
set_option maxRecDepth 65536 in
set_option maxHeartbeats 40000000 in
theorem comes_1 {Post : Tables → Env → Array Value → State → Outcome → State → Prop} (hpost : ∀ tb e args s v u, (limb_1_1.after args s (.returned v) u = true ∧ limb_1_2.after args s (.returned v) u = true ∧ True) → FrameEnd s (.returned v) u (Jvm.fieldLocs frame_1_writes args s ++ Jvm.arrayLocs frame_1_arrays args s ++ Jvm.staticLocs frame_1_statics s) 0 0 → Post tb e args s (.returned v) u) :
    ArmFor flags0 classFile x code maxLocals ret World_1 tables_1 room_1 Calls_1 rest_1 Pre_1 Post := by
  intro l hfl _ _ p e ha hc hk s m args below hf hA hF happ hP
  obtain ⟨hcalls, hrest, hpre⟩ := hP
  obtain ⟨-, -, -, hnamed, -, -, -, hat⟩ := (Spec.applies_iff hf).mp happ
  obtain ⟨hg, hn⟩ := and_e (Cond.before_iff.mp (show (Jvm.Cond.and given_1 narrow_1).before args s = true from hpre))
  obtain ⟨g0, gr0⟩ := and_e hg
  obtain ⟨g1, gr1⟩ := and_e gr0
  obtain ⟨g2, gr2⟩ := and_e gr1
  obtain ⟨v0, v1, v2, rfl⟩ : ∃ v0 v1 v2 : Value, args = #[v0, v1, v2] := by
    have hs : args.size = 3 := by simpa [Cond.value, given_1] using g0
    obtain ⟨L⟩ := args
    match L, hs with
    | [v0, v1, v2], _ => exact ⟨v0, v1, v2, rfl⟩
  have hw := fun d (hd : d ∈ tables_1) => atoms_spec (ws := Jvm.Cond.code x code maxLocals ret :: tables_1) hat d (List.mem_cons_of_mem _ hd)
  have hfit : Fit s := fun {y c} hc i hi => by
    obtain ⟨ha, rfl⟩ := Array.getElem?_eq_some_iff.mp hc
    have q := List.all_eq_true.mp ((Array.all_eq_true_iff_forall_mem.mp hF) _ (Array.getElem_mem ha)) i (List.mem_range.mpr hi)
    simpa [Array.getElem?_eq_getElem hi] using q
  obtain ⟨i0, ei0⟩ := is_v g1
  obtain rfl : v0 = (.int i0) := Option.some.inj ei0
  obtain ⟨i1, ei1⟩ := is_v g2
  obtain rfl : v1 = (.int i1) := Option.some.inj ei1
  obtain ⟨i2, ei2⟩ := is_v gr2
  obtain rfl : v2 = (.int i2) := Option.some.inj ei2
  obtain ⟨n0, nr0⟩ := and_e hn
  obtain ⟨n1, nr1⟩ := and_e nr0
  obtain ⟨n2, nr2⟩ := and_e nr1
  obtain ⟨n3, nr3⟩ := and_e nr2
  obtain ⟨n4, nr4⟩ := and_e nr3
  obtain ⟨n5, nr5⟩ := and_e nr4
  obtain ⟨w_SUCCESS, ev_w_SUCCESS⟩ := exa_v n0
  have S_w_SUCCESS := Sta.start ev_w_SUCCESS (Or.inr ⟨(hw _ (List.mem_of_getElem? (i := 6) rfl)), (hw _ (List.mem_of_getElem? (i := 7) rfl))⟩)
  have E_w_SUCCESS := Exa.start ev_w_SUCCESS n0
  obtain ⟨w_FAILURE, ev_w_FAILURE⟩ := exa_v n1
  have S_w_FAILURE := Sta.start ev_w_FAILURE (Or.inr ⟨(hw _ (List.mem_of_getElem? (i := 6) rfl)), (hw _ (List.mem_of_getElem? (i := 14) rfl))⟩)
  have E_w_FAILURE := Exa.start ev_w_FAILURE n1
  obtain ⟨w_TIMED_OUT, ev_w_TIMED_OUT⟩ := exa_v n4
  have S_w_TIMED_OUT := Sta.start ev_w_TIMED_OUT (Or.inr ⟨(hw _ (List.mem_of_getElem? (i := 6) rfl)), (hw _ (List.mem_of_getElem? (i := 16) rfl))⟩)
  have E_w_TIMED_OUT := Exa.start ev_w_TIMED_OUT n4
  obtain ⟨w_WAITING, ev_w_WAITING⟩ := exa_v nr5
  have S_w_WAITING := Sta.start ev_w_WAITING (Or.inr ⟨(hw _ (List.mem_of_getElem? (i := 6) rfl)), (hw _ (List.mem_of_getElem? (i := 18) rfl))⟩)
  have E_w_WAITING := Exa.start ev_w_WAITING nr5
  have F_ordinal_w_FAILURE := Fld.start ((fld_at ev_w_FAILURE).symm.trans (own_eqI n2))
  have F_ordinal_w_SUCCESS := Fld.start ((fld_at ev_w_SUCCESS).symm.trans (own_eqI n3))
  have F_ordinal_w_TIMED_OUT := Fld.start ((fld_at ev_w_TIMED_OUT).symm.trans (own_eqI n5))
  have hne_w_SUCCESS_w_FAILURE := F_ordinal_w_SUCCESS.ne F_ordinal_w_FAILURE (by decide)
  have hne_w_SUCCESS_w_TIMED_OUT := F_ordinal_w_SUCCESS.ne F_ordinal_w_TIMED_OUT (by decide)
  have hne_w_FAILURE_w_TIMED_OUT := F_ordinal_w_FAILURE.ne F_ordinal_w_TIMED_OUT (by decide)
  obtain ⟨n, o, h1, h2, h3, _, L, rfl, ⟨rfl, N, -⟩, hq⟩ := rm0 l s _ hw tables_1 w_SUCCESS w_FAILURE w_TIMED_OUT w_WAITING s.heap s.heap.size (Nat.le_refl _) ⟨S_w_SUCCESS, E_w_SUCCESS, S_w_FAILURE, E_w_FAILURE, S_w_TIMED_OUT, E_w_TIMED_OUT, S_w_WAITING, E_w_WAITING, F_ordinal_w_FAILURE, F_ordinal_w_SUCCESS, F_ordinal_w_TIMED_OUT, hne_w_SUCCESS_w_FAILURE, hne_w_SUCCESS_w_TIMED_OUT, hne_w_FAILURE_w_TIMED_OUT⟩ i0 i1 i2 p e ha hc hk s m _ below hf ((Spec.applies_iff_loose hf).mp happ).1 ⟨rfl, State.Warmed39.refl s, rfl⟩ trivial
  refine ⟨n, _, h1, h2, h3, hpost _ _ _ _ _ _ ⟨Cond.after_iff.mpr rfl, Cond.after_iff.mpr (eq_i res_at (Term.int_eval (1)) rfl), trivial⟩ ⟨hq.1, hq.2.1, (hq.2.2.sift fun y hy => Or.inr (N y hy)).mono (by decide) (by decide)⟩⟩
theorem main_1_1 : Claimed_1_1 := comes_1 fun _ _ _ _ _ _ h hF => ⟨h.1, hF⟩
theorem main_1_2 : Claimed_1_2 := comes_1 fun _ _ _ _ _ _ h hF => ⟨h.2.1, hF⟩
end Jvm.Pilot.@@N@@
namespace Jvm.Pilot.@@N@@
open Jvm Jvm.ClassFile Sem Op Lib Jvm.Free Jvm.Stand Jvm.Pilot.@@N@@.Jvm.D
/-! MADE BY PROGRAM (witnessworld.py) out of the Statement's table words and the real class files: 13 classes; the members and pool entries that the words name. The judged class is class 1, her method 2. -/
namespace start1
open Jvm.ClassFile
def u (s : String) : CpInfo := .utf8 (stringToUtf16 s)
/-- a pool by its gaps: so many unusable entries, then the entry; so many at the end -/
def gap : Nat → List CpInfo → List CpInfo
  | 0, r => r
  | n + 1, r => .unusable :: gap n r
def poolList (es : List (Nat × CpInfo)) (last : Nat) : List CpInfo := es.foldr (fun e r => gap e.1 (e.2 :: r)) (gap last [])
def pool (es : List (Nat × CpInfo)) (last : Nat) : Array CpInfo := ⟨poolList es last⟩
def fileOf (pool : Array CpInfo) (this : Nat) (attrs : Array Attribute := #[]) (ms : Array MethodInfo := #[]) (fl : Nat := 33) (sup : Nat := 0) (ifs : Array Nat := #[]) (fds : Array FieldInfo := #[]) : ClassFile where
  minorVersion := 0
  majorVersion := 65
  constantPool := pool
  accessFlags := fl
  thisClass := this
  superClass := sup
  interfaces := ifs
  fields := fds
  methods := ms
  attributes := attrs
def plain (name : String) (sup : Option ClassId) : Class where
  name := name
  kind := .ordinary
  loader := none
  accessFlags := 33
  super := sup
  interfaces := #[]
  cf := none
  fields := #[]
  methods := #[]
  instanceTypes := #[]
  staticTypes := #[]
  resolved := #[]
  callSites := []
  init := .initialized
  statics := none
  mirror := none

def pool0 : Array CpInfo := pool [(5, u "<init>"), (0, u "()V"), (1, .class_ 10), (1, u "java/lang/Object")] 113

def k0m0 : Method := { name := "<init>", desc := "()V", sig := { parameters := [], returnType := none }, accessFlags := 1, code := none }
/-- java/lang/Object -/
def k0 : Class := { plain "java/lang/Object" none with
  accessFlags := 33
  interfaces := #[]
  cf := some (fileOf pool0 8 #[] #[{ accessFlags := 1, nameIndex := 5, descriptorIndex := 6, attributes := #[] }] 33 0 #[] #[])
  fields := #[]
  methods := #[k0m0]
  instanceTypes := #[]
  staticTypes := #[]
  resolved := Array.replicate 124 none
  statics := none }

def pool1 : Array CpInfo := pool [(2, .class_ 4), (1, u "java/lang/Object"), (0, u "<init>"), (0, u "()V"), (0, .fieldref 8 9), (0, .class_ 10), (0, .nameAndType 11 12), (0, u "com/example/graph_to_grid/graphtogrid/core/TaskState"), (0, u "SUCCESS"), (0, u "Lcom/example/graph_to_grid/graphtogrid/core/TaskState;"), (0, .fieldref 8 14), (0, .nameAndType 15 12), (0, u "FAILURE"), (0, .fieldref 8 17), (0, .nameAndType 18 12), (0, u "TIMED_OUT"), (0, .integer 2147483647), (0, .methodref 21 22), (0, .class_ 23), (0, .nameAndType 24 25), (0, u "com/example/graph_to_grid/graphtogrid/core/RunProgressAfterAttemptPinLaw"), (0, u "endedOf"), (0, u "(I)Lcom/example/graph_to_grid/graphtogrid/core/TaskState;"), (0, .methodref 27 28), (0, .class_ 29), (0, .nameAndType 30 31), (0, u "com/example/graph_to_grid/graphtogrid/core/RunProgress"), (0, u "afterAttempt"), (0, u "(Lcom/example/graph_to_grid/graphtogrid/core/TaskState;II)Lcom/example/graph_to_grid/graphtogrid/core/TaskState;"), (0, .fieldref 8 33), (0, .nameAndType 34 12), (0, u "WAITING"), (3, u "law"), (0, u "(III)Z")] 2

def k1m0 : Method := { name := "<init>", desc := "()V", sig := { parameters := [], returnType := none }, accessFlags := 2, code := none }
def k1c1 : Code := { maxStack := 2, maxLocals := 1, code := method_2_code, exceptionTable := #[], attributes := #[] }
def k1m1 : Method := { name := "endedOf", desc := "(I)Lcom/example/graph_to_grid/graphtogrid/core/TaskState;", sig := { parameters := [.int], returnType := some (.object "com/example/graph_to_grid/graphtogrid/core/TaskState") }, accessFlags := 10, code := some k1c1 }
def k1c2 : Code := { maxStack := 4, maxLocals := 8, code := code, exceptionTable := #[], attributes := #[] }
def k1m2 : Method := { name := "law", desc := "(III)Z", sig := { parameters := [.int, .int, .int], returnType := some .boolean }, accessFlags := 9, code := some k1c2 }
/-- com/example/graph_to_grid/graphtogrid/core/RunProgressAfterAttemptPinLaw -/
def k1 : Class := { plain "com/example/graph_to_grid/graphtogrid/core/RunProgressAfterAttemptPinLaw" (some 0) with
  accessFlags := 49
  interfaces := #[]
  cf := some (fileOf pool1 21 #[] #[{ accessFlags := 2, nameIndex := 5, descriptorIndex := 6, attributes := #[] }, { accessFlags := 10, nameIndex := 24, descriptorIndex := 25, attributes := #[] }, { accessFlags := 9, nameIndex := 38, descriptorIndex := 39, attributes := #[] }] 49 2 #[] #[])
  fields := #[]
  methods := #[k1m0, k1m1, k1m2]
  instanceTypes := #[]
  staticTypes := #[]
  resolved := Array.replicate 42 none
  statics := none }

def pool2 : Array CpInfo := pool [(1, .class_ 2), (0, u "java/lang/constant/Constable"), (0, .class_ 4), (0, u "java/lang/Object")] 6

/-- java/lang/constant/Constable -/
def k2 : Class := { plain "java/lang/constant/Constable" (some 0) with
  accessFlags := 1537
  interfaces := #[]
  cf := some (fileOf pool2 1 #[] #[] 1537 3 #[] #[])
  fields := #[]
  methods := #[]
  instanceTypes := #[]
  staticTypes := #[]
  resolved := Array.replicate 11 none
  statics := none }

def pool3 : Array CpInfo := pool [(1, .class_ 2), (0, u "java/lang/Comparable"), (0, .class_ 4), (0, u "java/lang/Object")] 7

/-- java/lang/Comparable -/
def k3 : Class := { plain "java/lang/Comparable" (some 0) with
  accessFlags := 1537
  interfaces := #[]
  cf := some (fileOf pool3 1 #[] #[] 1537 3 #[] #[])
  fields := #[]
  methods := #[]
  instanceTypes := #[]
  staticTypes := #[]
  resolved := Array.replicate 12 none
  statics := none }

def pool4 : Array CpInfo := pool [(1, .class_ 2), (0, u "java/io/Serializable"), (0, .class_ 4), (0, u "java/lang/Object")] 2

/-- java/io/Serializable -/
def k4 : Class := { plain "java/io/Serializable" (some 0) with
  accessFlags := 1537
  interfaces := #[]
  cf := some (fileOf pool4 1 #[] #[] 1537 3 #[] #[])
  fields := #[]
  methods := #[]
  instanceTypes := #[]
  staticTypes := #[]
  resolved := Array.replicate 7 none
  statics := none }

def pool5 : Array CpInfo := pool [(2, .class_ 4), (1, u "java/lang/Enum"), (0, u "name"), (0, u "Ljava/lang/String;"), (2, u "ordinal"), (0, u "I"), (1, .class_ 14), (1, u "java/lang/Object"), (4, u "hash"), (86, .class_ 108), (1, u "java/lang/Enum$EnumDesc"), (2, .class_ 112), (0, u "java/lang/constant/Constable"), (0, .class_ 114), (0, u "java/lang/Comparable"), (0, .class_ 116), (0, u "java/io/Serializable")] 87

/-- java/lang/Enum -/
def k5 : Class := { plain "java/lang/Enum" (some 0) with
  accessFlags := 1057
  interfaces := #[2, 3, 4]
  cf := some (fileOf pool5 2 #[.nestMembers #[106]] #[] 1057 12 #[111, 113, 115] #[{ accessFlags := 18, nameIndex := 5, descriptorIndex := 6, attributes := #[] }, { accessFlags := 18, nameIndex := 9, descriptorIndex := 10, attributes := #[] }, { accessFlags := 2, nameIndex := 19, descriptorIndex := 10, attributes := #[] }])
  fields := #[{ name := "name", type := (.object "java/lang/String"), accessFlags := 18, slot := 0, constantValue := 0 }, { name := "ordinal", type := .int, accessFlags := 18, slot := 1, constantValue := 0 }, { name := "hash", type := .int, accessFlags := 2, slot := 2, constantValue := 0 }]
  methods := #[]
  instanceTypes := #[(.object "java/lang/String"), .int, .int]
  staticTypes := #[]
  resolved := Array.replicate 204 none
  statics := none }

def pool6 : Array CpInfo := pool [(1, .class_ 2), (0, u "com/example/graph_to_grid/graphtogrid/core/TaskState"), (2, u "WAITING"), (0, u "Lcom/example/graph_to_grid/graphtogrid/core/TaskState;"), (2, u "QUEUED"), (2, u "RUNNING"), (2, u "SUCCESS"), (2, u "FAILURE"), (2, u "TIMED_OUT"), (2, u "STOPPED"), (2, u "NOT_RUN"), (2, u "$VALUES"), (0, u "[Lcom/example/graph_to_grid/graphtogrid/core/TaskState;"), (6, .class_ 40), (1, u "java/lang/Enum")] 33

/-- com/example/graph_to_grid/graphtogrid/core/TaskState -/
def k6 : Class := { plain "com/example/graph_to_grid/graphtogrid/core/TaskState" (some 5) with
  accessFlags := 16433
  interfaces := #[]
  cf := some (fileOf pool6 1 #[] #[] 16433 38 #[] #[{ accessFlags := 16409, nameIndex := 5, descriptorIndex := 6, attributes := #[] }, { accessFlags := 16409, nameIndex := 9, descriptorIndex := 6, attributes := #[] }, { accessFlags := 16409, nameIndex := 12, descriptorIndex := 6, attributes := #[] }, { accessFlags := 16409, nameIndex := 15, descriptorIndex := 6, attributes := #[] }, { accessFlags := 16409, nameIndex := 18, descriptorIndex := 6, attributes := #[] }, { accessFlags := 16409, nameIndex := 21, descriptorIndex := 6, attributes := #[] }, { accessFlags := 16409, nameIndex := 24, descriptorIndex := 6, attributes := #[] }, { accessFlags := 16409, nameIndex := 27, descriptorIndex := 6, attributes := #[] }, { accessFlags := 4122, nameIndex := 30, descriptorIndex := 31, attributes := #[] }])
  fields := #[{ name := "WAITING", type := (.object "com/example/graph_to_grid/graphtogrid/core/TaskState"), accessFlags := 16409, slot := 0, constantValue := 0 }, { name := "QUEUED", type := (.object "com/example/graph_to_grid/graphtogrid/core/TaskState"), accessFlags := 16409, slot := 1, constantValue := 0 }, { name := "RUNNING", type := (.object "com/example/graph_to_grid/graphtogrid/core/TaskState"), accessFlags := 16409, slot := 2, constantValue := 0 }, { name := "SUCCESS", type := (.object "com/example/graph_to_grid/graphtogrid/core/TaskState"), accessFlags := 16409, slot := 3, constantValue := 0 }, { name := "FAILURE", type := (.object "com/example/graph_to_grid/graphtogrid/core/TaskState"), accessFlags := 16409, slot := 4, constantValue := 0 }, { name := "TIMED_OUT", type := (.object "com/example/graph_to_grid/graphtogrid/core/TaskState"), accessFlags := 16409, slot := 5, constantValue := 0 }, { name := "STOPPED", type := (.object "com/example/graph_to_grid/graphtogrid/core/TaskState"), accessFlags := 16409, slot := 6, constantValue := 0 }, { name := "NOT_RUN", type := (.object "com/example/graph_to_grid/graphtogrid/core/TaskState"), accessFlags := 16409, slot := 7, constantValue := 0 }, { name := "$VALUES", type := (.array (.object "com/example/graph_to_grid/graphtogrid/core/TaskState")), accessFlags := 4122, slot := 8, constantValue := 0 }]
  methods := #[]
  instanceTypes := #[(.object "java/lang/String"), .int, .int]
  staticTypes := #[(.object "com/example/graph_to_grid/graphtogrid/core/TaskState"), (.object "com/example/graph_to_grid/graphtogrid/core/TaskState"), (.object "com/example/graph_to_grid/graphtogrid/core/TaskState"), (.object "com/example/graph_to_grid/graphtogrid/core/TaskState"), (.object "com/example/graph_to_grid/graphtogrid/core/TaskState"), (.object "com/example/graph_to_grid/graphtogrid/core/TaskState"), (.object "com/example/graph_to_grid/graphtogrid/core/TaskState"), (.object "com/example/graph_to_grid/graphtogrid/core/TaskState"), (.array (.object "com/example/graph_to_grid/graphtogrid/core/TaskState"))]
  resolved := Array.replicate 74 none
  statics := some 0 }

def pool7 : Array CpInfo := pool [(2, .class_ 4), (1, u "java/lang/Object"), (0, u "<init>"), (0, u "()V"), (0, .fieldref 8 9), (0, .class_ 10), (0, .nameAndType 11 12), (0, u "com/example/graph_to_grid/graphtogrid/core/TaskState"), (0, u "SUCCESS"), (0, u "Lcom/example/graph_to_grid/graphtogrid/core/TaskState;"), (0, .fieldref 8 14), (0, .nameAndType 15 12), (0, u "WAITING"), (19, .class_ 36), (0, u "com/example/graph_to_grid/graphtogrid/core/RunProgress$Task"), (14, .class_ 53), (1, u "com/example/graph_to_grid/graphtogrid/core/RunProgress"), (46, u "afterAttempt"), (0, u "(Lcom/example/graph_to_grid/graphtogrid/core/TaskState;II)Lcom/example/graph_to_grid/graphtogrid/core/TaskState;")] 13

def k7m0 : Method := { name := "<init>", desc := "()V", sig := { parameters := [], returnType := none }, accessFlags := 2, code := none }
def k7c1 : Code := { maxStack := 2, maxLocals := 3, code := prog_8_method_2_code, exceptionTable := #[], attributes := #[] }
def k7m1 : Method := { name := "afterAttempt", desc := "(Lcom/example/graph_to_grid/graphtogrid/core/TaskState;II)Lcom/example/graph_to_grid/graphtogrid/core/TaskState;", sig := { parameters := [(.object "com/example/graph_to_grid/graphtogrid/core/TaskState"), .int, .int], returnType := some (.object "com/example/graph_to_grid/graphtogrid/core/TaskState") }, accessFlags := 9, code := some k7c1 }
/-- com/example/graph_to_grid/graphtogrid/core/RunProgress -/
def k7 : Class := { plain "com/example/graph_to_grid/graphtogrid/core/RunProgress" (some 0) with
  accessFlags := 49
  interfaces := #[]
  cf := some (fileOf pool7 51 #[.nestMembers #[35]] #[{ accessFlags := 2, nameIndex := 5, descriptorIndex := 6, attributes := #[] }, { accessFlags := 9, nameIndex := 100, descriptorIndex := 101, attributes := #[] }] 49 2 #[] #[])
  fields := #[]
  methods := #[k7m0, k7m1]
  instanceTypes := #[]
  staticTypes := #[]
  resolved := Array.replicate 115 none
  statics := none }

def pool8 : Array CpInfo := pool [(1, u "java/lang/Cloneable"), (0, .class_ 1), (0, u "java/lang/Object"), (0, .class_ 3)] 3

/-- java/lang/Cloneable -/
def k8 : Class := { plain "java/lang/Cloneable" (some 0) with
  accessFlags := 1537
  interfaces := #[]
  cf := some (fileOf pool8 2 #[] #[] 1537 4 #[] #[])
  fields := #[]
  methods := #[]
  instanceTypes := #[]
  staticTypes := #[]
  resolved := Array.replicate 8 none
  statics := none }

/-- the primitive byte -/
def k9 : Class := { plain "byte" none with kind := .primitive 'B', accessFlags := 0x411 }
/-- [B -/
def k10 : Class := { plain "[B" (some 0) with kind := .array 9 .byte, interfaces := #[8, 4], accessFlags := 1041 }

/-- the primitive int -/
def k11 : Class := { plain "int" none with kind := .primitive 'I', accessFlags := 0x411 }
/-- [I -/
def k12 : Class := { plain "[I" (some 0) with kind := .array 11 .int, interfaces := #[8, 4], accessFlags := 1041 }

def heap : Heap := #[{ cls := 6, slots := #[.ref 4, .null, .null, .ref 1, .ref 2, .ref 3, .null, .null, .null], vm := .statics 6 },
  { cls := 6, slots := #[.null, .int 3, .int 0], vm := .none },
  { cls := 6, slots := #[.null, .int 4, .int 0], vm := .none },
  { cls := 6, slots := #[.null, .int 5, .int 0], vm := .none },
  { cls := 6, slots := #[.null, .int 0, .int 0], vm := .none }]
def classes : Array Class := #[k0, k1, k2, k3, k4, k5, k6, k7, k8, k9, k10, k11, k12]
def interned : List (Array UInt16 × Addr) := []
def slotsUsed : Nat := 21
def theMethod : MethodId := ⟨1, 2⟩
def args0 : Array Value := #[.int 5, .int 5, .int 5]
def aboutOver (below : List Frame) : State where
  vm := { classes := classes, interned := interned.toArray }
  heap := heap
  slotsUsed := slotsUsed
  threads := #[{ frames := .invoking theMethod args0 :: below }]
def below0 : List Frame := [.native { method := ⟨0, 0⟩, args := #[] }]
def about1 : State := aboutOver below0
def p0 : Program := .bare "" "" ""
def e0 : Env := launch0.env 0 0 0
theorem w_frames : about1.frames = Frame.invoking theMethod args0 :: below0 := rfl
set_option maxRecDepth 65536 in
theorem w_args : argsFit about1.vm theMethod args0 = true := by decide +kernel
set_option maxRecDepth 65536 in
theorem w_heap : heapFits about1 = true := by decide +kernel
set_option maxRecDepth 65536 in
theorem w_runnable : about1.curStatus? = some .runnable := by decide +kernel
set_option maxRecDepth 65536 in
theorem w_alone : about1.alone = true := by decide +kernel
set_option maxRecDepth 65536 in
theorem w_named : about1.methodNamed? x = some theMethod := by decide +kernel
set_option maxRecDepth 65536 in
theorem w_hears : about1.hears theMethod below0 = true := by decide +kernel
set_option maxRecDepth 65536 in
theorem w_ripe : about1.ripe theMethod args0 below0 = true := by decide +kernel
theorem w_running : about1.status = .running := rfl
set_option maxRecDepth 65536 in
theorem w_room : about1.hasRoom e0.platform room_1 = true :=
  launch0.hasRoom_least _ room_1 (by decide +kernel) (by decide +kernel) (by decide +kernel) (by decide +kernel) (by decide +kernel) (by decide +kernel)
theorem allAtoms_all (ts : List Jvm.Cond) (a : Array Jvm.Value) (st : Jvm.State) : (allAtoms ts).before a st = ts.all (fun c => c.before a st) := by
  induction ts with
  | nil => rfl
  | cons c t ih =>
    show (Jvm.Cond.and c (allAtoms t)).before a st = _
    rw [Jvm.Cond.before_and, ih, List.all_cons]
def words1 : List Jvm.Cond := Jvm.Cond.code x code maxLocals ret :: tables_1
/-- a 'code' word, met by the world's own term for the bytes: nothing is compared byte by byte -/
theorem code_word {y : MethodName} {bytes : ByteArray} {mx : Nat} {rt : Option FieldType} {a : Array Value} {s : State} {m : MethodId} {meth : Method} {c : Code} (h1 : s.methodNamed? y = some m) (h2 : s.vm.method? m = some meth) (h3 : meth.code = some c) (h4 : c.code = bytes)
    (h5 : (c.maxLocals == mx && c.exceptionTable.isEmpty && decide (c.maxStack ≤ mostOperands) && decide (meth.sig.returnType = rt) && !meth.locks && decide (parseMethodDescriptor y.desc = some meth.sig)) = true) : (Jvm.Cond.code y bytes mx rt).before a s = true := by
  simp only [Bool.and_eq_true, beq_iff_eq, Bool.not_eq_true', decide_eq_true_eq] at h5
  obtain ⟨⟨⟨⟨⟨g1, g2⟩, g3⟩, g4⟩, g5⟩, g6⟩ := h5
  simp [Cond.before, Cond.holds, Cond.value, h1, h2, h3, h4, g1, g2, g3, g4, g5, g6]
def isCode : Jvm.Cond → Bool
  | .code _ _ _ _ => true
  | _ => false
theorem all_split {L : List Jvm.Cond} {P : Jvm.Cond → Bool} (h1 : L.all (fun c => isCode c || P c) = true) (h2 : ∀ c ∈ L.filter isCode, P c = true) : L.all P = true := by
  refine List.all_eq_true.mpr fun c hc => ?_
  have h := List.all_eq_true.mp h1 c hc
  rcases Bool.eq_false_or_eq_true (isCode c) with hi | hi
  · exact h2 c (List.mem_filter.mpr ⟨hc, hi⟩)
  · simpa [hi] using h
set_option maxRecDepth 65536 in
theorem w_c0 : (Jvm.Cond.code x code maxLocals ret).before args0 about1 = true := code_word (m := ⟨1, 2⟩) (meth := k1m2) (c := k1c2) (by decide +kernel) rfl rfl rfl (by decide +kernel)
set_option maxRecDepth 65536 in
theorem w_c1 : (Jvm.Cond.code ({ cls := "com/example/graph_to_grid/graphtogrid/core/RunProgressAfterAttemptPinLaw", name := "endedOf", desc := "(I)Lcom/example/graph_to_grid/graphtogrid/core/TaskState;" } : Jvm.MethodName) method_2_code (1 : Nat) (Option.some (Jvm.ClassFile.FieldType.object "com/example/graph_to_grid/graphtogrid/core/TaskState"))).before args0 about1 = true := code_word (m := ⟨1, 1⟩) (meth := k1m1) (c := k1c1) (by decide +kernel) rfl rfl rfl (by decide +kernel)
set_option maxRecDepth 65536 in
theorem w_c2 : (Jvm.Cond.code ({ cls := "com/example/graph_to_grid/graphtogrid/core/RunProgress", name := "afterAttempt", desc := "(Lcom/example/graph_to_grid/graphtogrid/core/TaskState;II)Lcom/example/graph_to_grid/graphtogrid/core/TaskState;" } : Jvm.MethodName) prog_8_method_2_code (3 : Nat) (Option.some (Jvm.ClassFile.FieldType.object "com/example/graph_to_grid/graphtogrid/core/TaskState"))).before args0 about1 = true := code_word (m := ⟨7, 1⟩) (meth := k7m1) (c := k7c1) (by decide +kernel) rfl rfl rfl (by decide +kernel)
def codes1 : List Jvm.Cond := [Jvm.Cond.code x code maxLocals ret, Jvm.Cond.code ({ cls := "com/example/graph_to_grid/graphtogrid/core/RunProgressAfterAttemptPinLaw", name := "endedOf", desc := "(I)Lcom/example/graph_to_grid/graphtogrid/core/TaskState;" } : Jvm.MethodName) method_2_code (1 : Nat) (Option.some (Jvm.ClassFile.FieldType.object "com/example/graph_to_grid/graphtogrid/core/TaskState")), Jvm.Cond.code ({ cls := "com/example/graph_to_grid/graphtogrid/core/RunProgress", name := "afterAttempt", desc := "(Lcom/example/graph_to_grid/graphtogrid/core/TaskState;II)Lcom/example/graph_to_grid/graphtogrid/core/TaskState;" } : Jvm.MethodName) prog_8_method_2_code (3 : Nat) (Option.some (Jvm.ClassFile.FieldType.object "com/example/graph_to_grid/graphtogrid/core/TaskState"))]
set_option maxRecDepth 65536 in
theorem codes_eq : words1.filter isCode = codes1 := rfl
theorem w_codes : ∀ c ∈ words1.filter isCode, c.before args0 about1 = true := by
  rw [codes_eq]
  intro c hc
  simp only [codes1, List.mem_cons, List.not_mem_nil, or_false] at hc
  rcases hc with rfl | rfl | rfl
  · exact w_c0
  · exact w_c1
  · exact w_c2
set_option maxRecDepth 65536 in
theorem w_t1 : words1.all (fun c => isCode c || c.before args0 about1) = true := by decide +kernel
theorem w_tables : (allAtoms (Jvm.Cond.code x code maxLocals ret :: tables_1)).before args0 about1 = true := by
  rw [allAtoms_all]
  show words1.all (fun c => c.before args0 about1) = true
  refine all_split ?_ w_codes
  rw [w_t1]
set_option maxRecDepth 65536 in
theorem w_case : (Jvm.Cond.and given_1 narrow_1).before args0 about1 = true := by decide +kernel
theorem w_applies : (headSpec (Jvm.Cond.code x code maxLocals ret :: tables_1) room_1).applies x e0.platform about1 = true :=
  (Spec.applies_iff w_frames).mpr ⟨w_running, w_runnable, w_alone, w_named, w_hears, w_ripe, w_room, w_tables⟩
theorem atStart : AtStart classFile x code maxLocals ret World_1 tables_1 room_1 Calls_1 rest_1 Pre_1 launch0 p0 e0 about1 theMethod args0 below0 :=
  ⟨lists_1, trivial, launch0.admits_env _ _ _, launch0.least_env, fairChoices_fair.cas, fairChoices_fair.clock, w_frames, w_args, w_heap, w_applies, trivial, trivial, w_case⟩
end start1
theorem witness_1 : WitnessClaimed_1 := ⟨start1.p0, start1.e0, start1.about1, start1.theMethod, start1.args0, start1.below0, start1.atStart⟩
end Jvm.Pilot.@@N@@
