import JvmDerived
import JvmDerived.Pilot.@@N@@Statement
import JvmDerived.Pilot.@@N@@Code
set_option linter.unusedVariables false
set_option linter.unusedSimpArgs false
@@BLOCK:NumsL.lean.txt@@
namespace Jvm.Pilot.@@N@@
open Jvm Jvm.ClassFile Sem Op Lib Jvm.Free Jvm.Stand Jvm.LawKit Jvm.RoadKit Bundle Jvm.Pilot.@@N@@.Jvm.D
theorem own_eqI {t : Term} {k : Int32} {args : Array Value} {Z : State} (h : (Jvm.Cond.eq t (Jvm.Term.int k)).value args Z none Z [] = some true) : t.eval args Z none [] Z = some (.int k) := by
  simp only [Cond.value, Term.eval] at h
  cases ht : t.eval args Z none [] Z with
  | none => simp [ht] at h
  | some v => cases v <;> simp [ht] at h ⊢; exact h
theorem own_and3 (x : Int32) : (x &&& (3 : Int32)) = (0 : Int32) ∨ (x &&& (3 : Int32)) = (1 : Int32) ∨ (x &&& (3 : Int32)) = (2 : Int32) ∨ (x &&& (3 : Int32)) = (3 : Int32) := by
  have e : (x &&& (3 : Int32)).toInt = x.toInt % 2 ^ 2 := Jvm.Kit.i32_mask x 3 (k := 2) (by decide) (by decide)
  have h1 : 0 ≤ x.toInt % 2 ^ 2 := Int.emod_nonneg _ (by decide)
  have h2 : x.toInt % 2 ^ 2 < 2 ^ 2 := Int.emod_lt_of_pos _ (by decide)
  have e0 : (0 : Int32).toInt = 0 := rfl
  have e1 : (1 : Int32).toInt = 1 := rfl
  have e2 : (2 : Int32).toInt = 2 := rfl
  have e3 : (3 : Int32).toInt = 3 := rfl
  simp only [← Int32.toInt_inj, e, e0, e1, e2, e3]
  omega
/-- what the law's case says of the enum constants -/
def SF (Z : State) (h : Heap) (w_OFF w_ADVISE w_AUTO w_EXPLICIT : Addr) : Prop := (Sta Z h "com/example/darogan/darogan/Mode" "OFF" "Lcom/example/darogan/darogan/Mode;" (.ref w_OFF)) ∧ (Exa Z h w_OFF "com/example/darogan/darogan/Mode") ∧ (Sta Z h "com/example/darogan/darogan/Mode" "ADVISE" "Lcom/example/darogan/darogan/Mode;" (.ref w_ADVISE)) ∧ (Exa Z h w_ADVISE "com/example/darogan/darogan/Mode") ∧ (Sta Z h "com/example/darogan/darogan/Mode" "AUTO" "Lcom/example/darogan/darogan/Mode;" (.ref w_AUTO)) ∧ (Exa Z h w_AUTO "com/example/darogan/darogan/Mode") ∧ (Sta Z h "com/example/darogan/darogan/Mode" "EXPLICIT" "Lcom/example/darogan/darogan/Mode;" (.ref w_EXPLICIT)) ∧ (Exa Z h w_EXPLICIT "com/example/darogan/darogan/Mode") ∧ (Fld Z h w_OFF "java/lang/Enum" "ordinal" "I" (.int (0 : Int32))) ∧ (Fld Z h w_ADVISE "java/lang/Enum" "ordinal" "I" (.int (2 : Int32))) ∧ (Fld Z h w_AUTO "java/lang/Enum" "ordinal" "I" (.int (3 : Int32))) ∧ (Fld Z h w_EXPLICIT "java/lang/Enum" "ordinal" "I" (.int (1 : Int32))) ∧ (w_OFF ≠ w_ADVISE) ∧ (w_OFF ≠ w_AUTO) ∧ (w_OFF ≠ w_EXPLICIT) ∧ (w_ADVISE ≠ w_AUTO) ∧ (w_ADVISE ≠ w_EXPLICIT) ∧ (w_AUTO ≠ w_EXPLICIT)
/-- a body that writes nothing and returns w -/
def QP (h0 : Heap) (n0 : Nat) (w : Option Value) (v : Option Value) (h : Heap) (L : List Loc) : Prop := v = w ∧ Fr n0 L ∧ h = h0
abbrev Pay (l : Launch) (Z : State) (y : MethodName) (ws : List Jvm.Cond) (bytes : ByteArray) (ml : Nat) (rt : Option FieldType) (as' : Array Value) (h0 : Heap) (n0 : Nat) (rm : Room) (w : Option Value) : Prop :=
  MetFree l y (head1 (Jvm.Cond.code y bytes ml rt :: ws) rm) (fun a U => a = as' ∧ Z.Warmed39 U.vm ∧ U.heap = h0) (fun _ _ _ _ _ => True) (fun _ U o U' => ∃ v L, o = .returned v ∧ QP h0 n0 w v U'.heap L ∧ FrameEnd U o U' L rm.cells rm.slots)
theorem d1_0 : decode prog_13_method_5_code 0 = .ok (.aload_n 0, 1) := by decide +kernel
theorem d1_1 : decode prog_13_method_5_code 1 = .ok (.getstatic 10, 3) := by decide +kernel
theorem d1_4 : decode prog_13_method_5_code 4 = .ok (.if_acmp .eq 10, 3) := by decide +kernel
theorem d1_7 : decode prog_13_method_5_code 7 = .ok (.aload_n 0, 1) := by decide +kernel
theorem d1_8 : decode prog_13_method_5_code 8 = .ok (.getstatic 13, 3) := by decide +kernel
theorem d1_11 : decode prog_13_method_5_code 11 = .ok (.if_acmp .ne 7, 3) := by decide +kernel
theorem d1_18 : decode prog_13_method_5_code 18 = .ok (.iconst 0, 1) := by decide +kernel
theorem d1_19 : decode prog_13_method_5_code 19 = .ok (.ireturn, 1) := by decide +kernel
theorem pn_0 : plainName "com/example/darogan/darogan/Mode" = true := by first | (simp [plainName, overriddenIn]; done) | decide +kernel
set_option maxRecDepth 65536 in
set_option maxHeartbeats 40000000 in
theorem rm1_0 (l : Launch) (Z : State) (a0 : Array Value) (hw : ∀ d ∈ tables_1, d.before a0 Z = true) (ws : List Jvm.Cond) (w_OFF w_ADVISE w_AUTO w_EXPLICIT : Addr) (h0 : Heap) (n0 : Nat) (Z0 : n0 ≤ h0.size) (S : SF Z h0 w_OFF w_ADVISE w_AUTO w_EXPLICIT) :
    Pay l Z (⟨"com/example/darogan/darogan/Mode", "learns", "()Z"⟩ : MethodName) ws prog_13_method_5_code 1 (some .boolean) #[(.ref w_OFF)] h0 n0 ({ frames := 0, cells := 0, slots := 0, locals := 0 } : Room) (some (.int (0 : Int32))) := by
  obtain ⟨S_w_OFF, E_w_OFF, S_w_ADVISE, E_w_ADVISE, S_w_AUTO, E_w_AUTO, S_w_EXPLICIT, E_w_EXPLICIT, F_ordinal_w_OFF, F_ordinal_w_ADVISE, F_ordinal_w_AUTO, F_ordinal_w_EXPLICIT, hne_w_OFF_w_ADVISE, hne_w_OFF_w_AUTO, hne_w_OFF_w_EXPLICIT, hne_w_ADVISE_w_AUTO, hne_w_ADVISE_w_EXPLICIT, hne_w_AUTO_w_EXPLICIT⟩ := id S
  refine MetFree.of_bodySF (plainFor_of_name pn_0) hisR ?_
  intro p e s m args below meth c s₁ Bd hml0 hP hK
  obtain ⟨rfl, hZ, hh⟩ := hP
  have hx := Bd.exec
  have hby := Bd.bytes
  have hml : c.maxLocals = 1 := hml0
  have hown : s.vm.findClass "com/example/darogan/darogan/Mode" = some m.cls := findClass_of_methodNamed Bd.named
  have X0 : Stand p l e ({ frames := 0, cells := 0, slots := 0, locals := 0 } : Room) s m #[(.ref w_OFF)] below meth c s₁ [] 0 0 := Stand.of_body Bd
  have e0 : s₁.heap = h0 := by rw [← hh, Bd.state]; rfl
  have N0 := Fr.nil n0
  have pre0 : ∀ t, Steps p.tables e below (s₁.setTop (mkF m 0 #[.val (.ref w_OFF)] [])) t → Steps p.tables e below (s₁.setTop (entryFrame m #[(.ref w_OFF)] 1)) t := fun t k => castTop (by first | rfl | (simp [entryFrame, mkF, argsToLocals, Value.category]; done)) k
  obtain ⟨T1, X1, e1, st1⟩ := getS2 X0 hx hZ hown (host := "") (Or.inl (hw _ (List.mem_of_getElem? (i := 8) rfl))) Via.refl e0 S_w_ADVISE (g := (mkF m 1 #[.val (.ref w_OFF)] [(.ref w_OFF)])) rfl (hb hby d1_1)
  obtain ⟨T2, X2, e2, st2⟩ := getS2 X1 hx hZ hown (host := "") (Or.inl (hw _ (List.mem_of_getElem? (i := 10) rfl))) Via.refl e1 S_w_AUTO (g := (mkF m 8 #[.val (.ref w_OFF)] [(.ref w_OFF)])) rfl (hb hby d1_8)
  obtain ⟨fs, hr, hrun, hended, hW, hsame⟩ := X2.leave (v := (some (.int (0 : Int32)))) (fun h => by rw [Bd.returns] at h; cases h)
  refine ⟨_, _, pre0 _ ?_, hrun, hended, _, _, rfl, ⟨rfl, N0, e2⟩, ⟨_, rfl⟩, hW, hsame.mono (by decide) (by decide)⟩
  show Steps p.tables e below (s₁.setTop (mkF m 0 #[.val (.ref w_OFF)] [])) _
  refine XS.aloadN X0.here hx rfl (hb hby d1_0) rfl rfl ?_
  show Steps p.tables e below (s₁.setTop (mkF m 1 #[.val (.ref w_OFF)] [(.ref w_OFF)])) _
  refine st1 _ ?_
  show Steps p.tables e below (T1.setTop (mkF m 4 #[.val (.ref w_OFF)] [(.ref w_ADVISE), (.ref w_OFF)])) _
  refine Jvm.RoadKit.acmp (g := (mkF m 4 #[.val (.ref w_OFF)] [(.ref w_ADVISE), (.ref w_OFF)])) X1 hx rfl rfl rfl (pc0 := 4) (pc' := 7) (same := false) rfl (hb hby d1_4) rfl (decide_eq_false fun q => hne_w_OFF_w_ADVISE (Value.ref.inj q)) (by decide) (by decide) ?_
  show Steps p.tables e below (T1.setTop (mkF m 7 #[.val (.ref w_OFF)] [])) _
  refine XS.aloadN X1.here hx rfl (hb hby d1_7) rfl rfl ?_
  show Steps p.tables e below (T1.setTop (mkF m 8 #[.val (.ref w_OFF)] [(.ref w_OFF)])) _
  refine st2 _ ?_
  show Steps p.tables e below (T2.setTop (mkF m 11 #[.val (.ref w_OFF)] [(.ref w_AUTO), (.ref w_OFF)])) _
  refine Jvm.RoadKit.acmp (g := (mkF m 11 #[.val (.ref w_OFF)] [(.ref w_AUTO), (.ref w_OFF)])) X2 hx rfl rfl rfl (pc0 := 11) (pc' := 18) (same := false) rfl (hb hby d1_11) rfl (decide_eq_false fun q => hne_w_OFF_w_AUTO (Value.ref.inj q)) (by decide) (by decide) ?_
  show Steps p.tables e below (T2.setTop (mkF m 18 #[.val (.ref w_OFF)] [])) _
  refine XS.iconst X2.here hx rfl (hb hby d1_18) ?_
  show Steps p.tables e below (T2.setTop (mkF m 19 #[.val (.ref w_OFF)] [(.int (0 : Int32))])) _
  exact retN X2 hx (t := .boolean) Bd.returns (by simp) (hb hby d1_19) hr
theorem pd_0 : parseMethodDescriptor "()Z" = some ⟨[], some .boolean⟩ := by decide +kernel
theorem pn_1 : plainName "com/example/darogan/darogan/ModeLearnsPinLaw" = true := by first | (simp [plainName, overriddenIn]; done) | decide +kernel
set_option maxRecDepth 65536 in
set_option maxHeartbeats 40000000 in
theorem rm0_0 (l : Launch) (Z : State) (a0 : Array Value) (hw : ∀ d ∈ tables_1, d.before a0 Z = true) (ws : List Jvm.Cond) (w_OFF w_ADVISE w_AUTO w_EXPLICIT : Addr) (h0 : Heap) (n0 : Nat) (Z0 : n0 ≤ h0.size) (S : SF Z h0 w_OFF w_ADVISE w_AUTO w_EXPLICIT) (p0 : Int32) (hk : (p0 &&& (3 : Int32)) = (0 : Int32)) :
    Pay l Z x ws code maxLocals ret #[(.int p0)] h0 n0 room_1 (some (.int (1 : Int32))) := by
  obtain ⟨S_w_OFF, E_w_OFF, S_w_ADVISE, E_w_ADVISE, S_w_AUTO, E_w_AUTO, S_w_EXPLICIT, E_w_EXPLICIT, F_ordinal_w_OFF, F_ordinal_w_ADVISE, F_ordinal_w_AUTO, F_ordinal_w_EXPLICIT, hne_w_OFF_w_ADVISE, hne_w_OFF_w_AUTO, hne_w_OFF_w_EXPLICIT, hne_w_ADVISE_w_AUTO, hne_w_ADVISE_w_EXPLICIT, hne_w_AUTO_w_EXPLICIT⟩ := id S
  refine MetFree.of_bodySF (plainFor_of_name pn_1) hisR ?_
  intro p e s m args below meth c s₁ Bd hml0 hP hK
  obtain ⟨rfl, hZ, hh⟩ := hP
  have hx := Bd.exec
  have hby := Bd.bytes
  have hml : c.maxLocals = 4 := hml0
  have hown : s.vm.findClass "com/example/darogan/darogan/ModeLearnsPinLaw" = some m.cls := findClass_of_methodNamed Bd.named
  have X0 : Stand p l e room_1 s m #[(.int p0)] below meth c s₁ [] 0 0 := Stand.of_body Bd
  have e0 : s₁.heap = h0 := by rw [← hh, Bd.state]; rfl
  have N0 := Fr.nil n0
  have pre0 : ∀ t, Steps p.tables e below (s₁.setTop (mkF m 0 #[.val (.int p0), .unset, .unset, .unset] [])) t → Steps p.tables e below (s₁.setTop (entryFrame m #[(.int p0)] maxLocals)) t := fun t k => castTop (by first | rfl | (simp [entryFrame, mkF, argsToLocals, Value.category, maxLocals]; done)) k
  obtain ⟨T1, X1, e1, st1⟩ := getS2 X0 hx hZ hown (host := "") (Or.inl (hw _ (List.mem_of_getElem? (i := 0) rfl))) Via.refl e0 S_w_OFF (g := (mkF m 8 #[.val (.int p0), .val (.int (0 : Int32)), .unset, .unset] [])) rfl (hb hby at_8)
  obtain ⟨cq2, kq2, q2a, q2b, q2c⟩ := isOf hZ e1 E_w_OFF
  obtain ⟨_, _, ⟨T2, L2, k2, n2⟩, -, X2, ⟨Lc2, hQ2, l2, y2, z2⟩, st2⟩ := X1.virtualBack hx (y := (⟨"com/example/darogan/darogan/Mode", "learns", "()Z"⟩ : MethodName)) (z := (⟨"com/example/darogan/darogan/Mode", "learns", "()Z"⟩ : MethodName)) hown (mvT hZ (hw _ (List.mem_of_getElem? (i := 3) rfl))) (mvT hZ (hw _ (List.mem_of_getElem? (i := 4) rfl))) (notFace_of_selects (args := #[]) (mvT hZ (hw _ (List.mem_of_getElem? (i := 6) rfl)))) (mvT hZ (hw _ (List.mem_of_getElem? (i := 6) rfl))) (mvT hZ (hw _ (List.mem_of_getElem? (i := 5) rfl))) (by decide) (backOf (W := 0) (rm1_0 l Z a0 hw [] w_OFF w_ADVISE w_AUTO w_EXPLICIT h0 n0 Z0 S) hZ (hw _ (List.mem_of_getElem? (i := 7) rfl)) (hw _ (List.mem_of_getElem? (i := 1) rfl)) (by decide) (by decide)) q2a q2c (g := (mkF m 52 #[.val (.int p0), .val (.int (0 : Int32)), .val (.ref w_OFF), .val (.int (0 : Int32))] [(.ref w_OFF)])) rfl (by rw [hml]; rfl) (Steps.refl _) (argsL := []) (rest := []) (lenOf pd_0 rfl) rfl (by show 2 * 0 + _ ≤ _; exact Nat.le_of_eq rfl) (hb hby at_52) (fun _ _ => ⟨rfl, e1, (by decide : 0 + 0 ≤ _), (by decide : 0 + 0 ≤ _)⟩)
  dsimp only [Pt.U, Pt.locs, Pt.cells, Pt.slots] at X2 l2 y2 z2 st2 hQ2
  subst l2 y2 z2
  obtain ⟨rfl, Nq2, e2⟩ := hQ2
  have N2 := Fr.app N0 Nq2
  obtain ⟨fs, hr, hrun, hended, hW, hsame⟩ := X2.leave (v := (some (.int (1 : Int32)))) (fun h => by rw [Bd.returns] at h; cases h)
  refine ⟨_, _, pre0 _ ?_, hrun, hended, _, _, rfl, ⟨rfl, N2, e2⟩, ⟨_, rfl⟩, hW, hsame.mono (by decide) (by decide)⟩
  show Steps p.tables e below (s₁.setTop (mkF m 0 #[.val (.int p0), .unset, .unset, .unset] [])) _
  refine XS.iloadN X0.here hx rfl (hb hby at_0) rfl ?_
  show Steps p.tables e below (s₁.setTop (mkF m 1 #[.val (.int p0), .unset, .unset, .unset] [(.int p0)])) _
  refine XS.iconst X0.here hx rfl (hb hby at_1) ?_
  show Steps p.tables e below (s₁.setTop (mkF m 2 #[.val (.int p0), .unset, .unset, .unset] [(.int (3 : Int32)), (.int p0)])) _
  refine XS.iand X0.here hx rfl (hb hby at_2) rfl ?_
  show Steps p.tables e below (s₁.setTop (mkF m 3 #[.val (.int p0), .unset, .unset, .unset] [(.int (p0 &&& (3 : Int32)))])) _
  rw [hk]
  show Steps p.tables e below (s₁.setTop (mkF m 3 #[.val (.int p0), .unset, .unset, .unset] [(.int (0 : Int32))])) _
  refine XS.istoreN X0.here hx rfl (hb hby at_3) rfl (l' := #[.val (.int p0), .val (.int (0 : Int32)), .unset, .unset]) rfl ?_
  show Steps p.tables e below (s₁.setTop (mkF m 4 #[.val (.int p0), .val (.int (0 : Int32)), .unset, .unset] [])) _
  refine XS.iloadN X0.here hx rfl (hb hby at_4) rfl ?_
  show Steps p.tables e below (s₁.setTop (mkF m 5 #[.val (.int p0), .val (.int (0 : Int32)), .unset, .unset] [(.int (0 : Int32))])) _
  refine XS.ifNo X0.here hx rfl (hb hby at_5) rfl ((if0 _ _).trans (teq (by decide : (0 : Int32) = (0 : Int32))).2) ?_
  show Steps p.tables e below (s₁.setTop (mkF m 8 #[.val (.int p0), .val (.int (0 : Int32)), .unset, .unset] [])) _
  refine st1 _ ?_
  show Steps p.tables e below (T1.setTop (mkF m 11 #[.val (.int p0), .val (.int (0 : Int32)), .unset, .unset] [(.ref w_OFF)])) _
  refine XS.astoreN X1.here hx rfl (hb hby at_11) rfl rfl (l' := #[.val (.int p0), .val (.int (0 : Int32)), .val (.ref w_OFF), .unset]) rfl ?_
  show Steps p.tables e below (T1.setTop (mkF m 12 #[.val (.int p0), .val (.int (0 : Int32)), .val (.ref w_OFF), .unset] [])) _
  refine XS.iconst X1.here hx rfl (hb hby at_12) ?_
  show Steps p.tables e below (T1.setTop (mkF m 13 #[.val (.int p0), .val (.int (0 : Int32)), .val (.ref w_OFF), .unset] [(.int (0 : Int32))])) _
  refine XS.istoreN X1.here hx rfl (hb hby at_13) rfl (l' := #[.val (.int p0), .val (.int (0 : Int32)), .val (.ref w_OFF), .val (.int (0 : Int32))]) rfl ?_
  show Steps p.tables e below (T1.setTop (mkF m 14 #[.val (.int p0), .val (.int (0 : Int32)), .val (.ref w_OFF), .val (.int (0 : Int32))] [])) _
  refine XS.goto X1.here hx rfl (pc0 := 14) (pc' := 51) rfl (hb hby at_14) (by decide) (by decide) ?_
  show Steps p.tables e below (T1.setTop (mkF m 51 #[.val (.int p0), .val (.int (0 : Int32)), .val (.ref w_OFF), .val (.int (0 : Int32))] [])) _
  refine XS.aloadN X1.here hx rfl (hb hby at_51) rfl rfl ?_
  show Steps p.tables e below (T1.setTop (mkF m 52 #[.val (.int p0), .val (.int (0 : Int32)), .val (.ref w_OFF), .val (.int (0 : Int32))] [(.ref w_OFF)])) _
  refine st2.trans ?_
  show Steps p.tables e below (T2.setTop (mkF m 55 #[.val (.int p0), .val (.int (0 : Int32)), .val (.ref w_OFF), .val (.int (0 : Int32))] [(.int (0 : Int32))])) _
  refine XS.iloadN X2.here hx rfl (hb hby at_55) rfl ?_
  show Steps p.tables e below (T2.setTop (mkF m 56 #[.val (.int p0), .val (.int (0 : Int32)), .val (.ref w_OFF), .val (.int (0 : Int32))] [(.int (0 : Int32)), (.int (0 : Int32))])) _
  refine XS.icmpNo X2.here hx rfl (hb hby at_56) rfl (teq (by decide : (0 : Int32) = (0 : Int32))).2 ?_
  show Steps p.tables e below (T2.setTop (mkF m 59 #[.val (.int p0), .val (.int (0 : Int32)), .val (.ref w_OFF), .val (.int (0 : Int32))] [])) _
  refine XS.iconst X2.here hx rfl (hb hby at_59) ?_
  show Steps p.tables e below (T2.setTop (mkF m 60 #[.val (.int p0), .val (.int (0 : Int32)), .val (.ref w_OFF), .val (.int (0 : Int32))] [(.int (1 : Int32))])) _
  refine XS.goto X2.here hx rfl (pc0 := 60) (pc' := 64) rfl (hb hby at_60) (by decide) (by decide) ?_
  show Steps p.tables e below (T2.setTop (mkF m 64 #[.val (.int p0), .val (.int (0 : Int32)), .val (.ref w_OFF), .val (.int (0 : Int32))] [(.int (1 : Int32))])) _
  exact retN X2 hx (t := .boolean) Bd.returns (by simp) (hb hby at_64) hr
set_option maxRecDepth 65536 in
set_option maxHeartbeats 40000000 in
theorem rm1_1 (l : Launch) (Z : State) (a0 : Array Value) (hw : ∀ d ∈ tables_1, d.before a0 Z = true) (ws : List Jvm.Cond) (w_OFF w_ADVISE w_AUTO w_EXPLICIT : Addr) (h0 : Heap) (n0 : Nat) (Z0 : n0 ≤ h0.size) (S : SF Z h0 w_OFF w_ADVISE w_AUTO w_EXPLICIT) :
    Pay l Z (⟨"com/example/darogan/darogan/Mode", "learns", "()Z"⟩ : MethodName) ws prog_13_method_5_code 1 (some .boolean) #[(.ref w_EXPLICIT)] h0 n0 ({ frames := 0, cells := 0, slots := 0, locals := 0 } : Room) (some (.int (0 : Int32))) := by
  obtain ⟨S_w_OFF, E_w_OFF, S_w_ADVISE, E_w_ADVISE, S_w_AUTO, E_w_AUTO, S_w_EXPLICIT, E_w_EXPLICIT, F_ordinal_w_OFF, F_ordinal_w_ADVISE, F_ordinal_w_AUTO, F_ordinal_w_EXPLICIT, hne_w_OFF_w_ADVISE, hne_w_OFF_w_AUTO, hne_w_OFF_w_EXPLICIT, hne_w_ADVISE_w_AUTO, hne_w_ADVISE_w_EXPLICIT, hne_w_AUTO_w_EXPLICIT⟩ := id S
  refine MetFree.of_bodySF (plainFor_of_name pn_0) hisR ?_
  intro p e s m args below meth c s₁ Bd hml0 hP hK
  obtain ⟨rfl, hZ, hh⟩ := hP
  have hx := Bd.exec
  have hby := Bd.bytes
  have hml : c.maxLocals = 1 := hml0
  have hown : s.vm.findClass "com/example/darogan/darogan/Mode" = some m.cls := findClass_of_methodNamed Bd.named
  have X0 : Stand p l e ({ frames := 0, cells := 0, slots := 0, locals := 0 } : Room) s m #[(.ref w_EXPLICIT)] below meth c s₁ [] 0 0 := Stand.of_body Bd
  have e0 : s₁.heap = h0 := by rw [← hh, Bd.state]; rfl
  have N0 := Fr.nil n0
  have pre0 : ∀ t, Steps p.tables e below (s₁.setTop (mkF m 0 #[.val (.ref w_EXPLICIT)] [])) t → Steps p.tables e below (s₁.setTop (entryFrame m #[(.ref w_EXPLICIT)] 1)) t := fun t k => castTop (by first | rfl | (simp [entryFrame, mkF, argsToLocals, Value.category]; done)) k
  obtain ⟨T1, X1, e1, st1⟩ := getS2 X0 hx hZ hown (host := "") (Or.inl (hw _ (List.mem_of_getElem? (i := 8) rfl))) Via.refl e0 S_w_ADVISE (g := (mkF m 1 #[.val (.ref w_EXPLICIT)] [(.ref w_EXPLICIT)])) rfl (hb hby d1_1)
  obtain ⟨T2, X2, e2, st2⟩ := getS2 X1 hx hZ hown (host := "") (Or.inl (hw _ (List.mem_of_getElem? (i := 10) rfl))) Via.refl e1 S_w_AUTO (g := (mkF m 8 #[.val (.ref w_EXPLICIT)] [(.ref w_EXPLICIT)])) rfl (hb hby d1_8)
  obtain ⟨fs, hr, hrun, hended, hW, hsame⟩ := X2.leave (v := (some (.int (0 : Int32)))) (fun h => by rw [Bd.returns] at h; cases h)
  refine ⟨_, _, pre0 _ ?_, hrun, hended, _, _, rfl, ⟨rfl, N0, e2⟩, ⟨_, rfl⟩, hW, hsame.mono (by decide) (by decide)⟩
  show Steps p.tables e below (s₁.setTop (mkF m 0 #[.val (.ref w_EXPLICIT)] [])) _
  refine XS.aloadN X0.here hx rfl (hb hby d1_0) rfl rfl ?_
  show Steps p.tables e below (s₁.setTop (mkF m 1 #[.val (.ref w_EXPLICIT)] [(.ref w_EXPLICIT)])) _
  refine st1 _ ?_
  show Steps p.tables e below (T1.setTop (mkF m 4 #[.val (.ref w_EXPLICIT)] [(.ref w_ADVISE), (.ref w_EXPLICIT)])) _
  refine Jvm.RoadKit.acmp (g := (mkF m 4 #[.val (.ref w_EXPLICIT)] [(.ref w_ADVISE), (.ref w_EXPLICIT)])) X1 hx rfl rfl rfl (pc0 := 4) (pc' := 7) (same := false) rfl (hb hby d1_4) rfl (decide_eq_false fun q => hne_w_ADVISE_w_EXPLICIT (Value.ref.inj q).symm) (by decide) (by decide) ?_
  show Steps p.tables e below (T1.setTop (mkF m 7 #[.val (.ref w_EXPLICIT)] [])) _
  refine XS.aloadN X1.here hx rfl (hb hby d1_7) rfl rfl ?_
  show Steps p.tables e below (T1.setTop (mkF m 8 #[.val (.ref w_EXPLICIT)] [(.ref w_EXPLICIT)])) _
  refine st2 _ ?_
  show Steps p.tables e below (T2.setTop (mkF m 11 #[.val (.ref w_EXPLICIT)] [(.ref w_AUTO), (.ref w_EXPLICIT)])) _
  refine Jvm.RoadKit.acmp (g := (mkF m 11 #[.val (.ref w_EXPLICIT)] [(.ref w_AUTO), (.ref w_EXPLICIT)])) X2 hx rfl rfl rfl (pc0 := 11) (pc' := 18) (same := false) rfl (hb hby d1_11) rfl (decide_eq_false fun q => hne_w_AUTO_w_EXPLICIT (Value.ref.inj q).symm) (by decide) (by decide) ?_
  show Steps p.tables e below (T2.setTop (mkF m 18 #[.val (.ref w_EXPLICIT)] [])) _
  refine XS.iconst X2.here hx rfl (hb hby d1_18) ?_
  show Steps p.tables e below (T2.setTop (mkF m 19 #[.val (.ref w_EXPLICIT)] [(.int (0 : Int32))])) _
  exact retN X2 hx (t := .boolean) Bd.returns (by simp) (hb hby d1_19) hr
set_option maxRecDepth 65536 in
set_option maxHeartbeats 40000000 in
theorem rm0_1 (l : Launch) (Z : State) (a0 : Array Value) (hw : ∀ d ∈ tables_1, d.before a0 Z = true) (ws : List Jvm.Cond) (w_OFF w_ADVISE w_AUTO w_EXPLICIT : Addr) (h0 : Heap) (n0 : Nat) (Z0 : n0 ≤ h0.size) (S : SF Z h0 w_OFF w_ADVISE w_AUTO w_EXPLICIT) (p0 : Int32) (hk : (p0 &&& (3 : Int32)) = (1 : Int32)) :
    Pay l Z x ws code maxLocals ret #[(.int p0)] h0 n0 room_1 (some (.int (1 : Int32))) := by
  obtain ⟨S_w_OFF, E_w_OFF, S_w_ADVISE, E_w_ADVISE, S_w_AUTO, E_w_AUTO, S_w_EXPLICIT, E_w_EXPLICIT, F_ordinal_w_OFF, F_ordinal_w_ADVISE, F_ordinal_w_AUTO, F_ordinal_w_EXPLICIT, hne_w_OFF_w_ADVISE, hne_w_OFF_w_AUTO, hne_w_OFF_w_EXPLICIT, hne_w_ADVISE_w_AUTO, hne_w_ADVISE_w_EXPLICIT, hne_w_AUTO_w_EXPLICIT⟩ := id S
  refine MetFree.of_bodySF (plainFor_of_name pn_1) hisR ?_
  intro p e s m args below meth c s₁ Bd hml0 hP hK
  obtain ⟨rfl, hZ, hh⟩ := hP
  have hx := Bd.exec
  have hby := Bd.bytes
  have hml : c.maxLocals = 4 := hml0
  have hown : s.vm.findClass "com/example/darogan/darogan/ModeLearnsPinLaw" = some m.cls := findClass_of_methodNamed Bd.named
  have X0 : Stand p l e room_1 s m #[(.int p0)] below meth c s₁ [] 0 0 := Stand.of_body Bd
  have e0 : s₁.heap = h0 := by rw [← hh, Bd.state]; rfl
  have N0 := Fr.nil n0
  have pre0 : ∀ t, Steps p.tables e below (s₁.setTop (mkF m 0 #[.val (.int p0), .unset, .unset, .unset] [])) t → Steps p.tables e below (s₁.setTop (entryFrame m #[(.int p0)] maxLocals)) t := fun t k => castTop (by first | rfl | (simp [entryFrame, mkF, argsToLocals, Value.category, maxLocals]; done)) k
  obtain ⟨T1, X1, e1, st1⟩ := getS2 X0 hx hZ hown (host := "") (Or.inl (hw _ (List.mem_of_getElem? (i := 14) rfl))) Via.refl e0 S_w_EXPLICIT (g := (mkF m 22 #[.val (.int p0), .val (.int (1 : Int32)), .unset, .unset] [])) rfl (hb hby at_22)
  obtain ⟨cq2, kq2, q2a, q2b, q2c⟩ := isOf hZ e1 E_w_EXPLICIT
  obtain ⟨_, _, ⟨T2, L2, k2, n2⟩, -, X2, ⟨Lc2, hQ2, l2, y2, z2⟩, st2⟩ := X1.virtualBack hx (y := (⟨"com/example/darogan/darogan/Mode", "learns", "()Z"⟩ : MethodName)) (z := (⟨"com/example/darogan/darogan/Mode", "learns", "()Z"⟩ : MethodName)) hown (mvT hZ (hw _ (List.mem_of_getElem? (i := 3) rfl))) (mvT hZ (hw _ (List.mem_of_getElem? (i := 4) rfl))) (notFace_of_selects (args := #[]) (mvT hZ (hw _ (List.mem_of_getElem? (i := 6) rfl)))) (mvT hZ (hw _ (List.mem_of_getElem? (i := 6) rfl))) (mvT hZ (hw _ (List.mem_of_getElem? (i := 5) rfl))) (by decide) (backOf (W := 0) (rm1_1 l Z a0 hw [] w_OFF w_ADVISE w_AUTO w_EXPLICIT h0 n0 Z0 S) hZ (hw _ (List.mem_of_getElem? (i := 7) rfl)) (hw _ (List.mem_of_getElem? (i := 1) rfl)) (by decide) (by decide)) q2a q2c (g := (mkF m 52 #[.val (.int p0), .val (.int (1 : Int32)), .val (.ref w_EXPLICIT), .val (.int (0 : Int32))] [(.ref w_EXPLICIT)])) rfl (by rw [hml]; rfl) (Steps.refl _) (argsL := []) (rest := []) (lenOf pd_0 rfl) rfl (by show 2 * 0 + _ ≤ _; exact Nat.le_of_eq rfl) (hb hby at_52) (fun _ _ => ⟨rfl, e1, (by decide : 0 + 0 ≤ _), (by decide : 0 + 0 ≤ _)⟩)
  dsimp only [Pt.U, Pt.locs, Pt.cells, Pt.slots] at X2 l2 y2 z2 st2 hQ2
  subst l2 y2 z2
  obtain ⟨rfl, Nq2, e2⟩ := hQ2
  have N2 := Fr.app N0 Nq2
  obtain ⟨fs, hr, hrun, hended, hW, hsame⟩ := X2.leave (v := (some (.int (1 : Int32)))) (fun h => by rw [Bd.returns] at h; cases h)
  refine ⟨_, _, pre0 _ ?_, hrun, hended, _, _, rfl, ⟨rfl, N2, e2⟩, ⟨_, rfl⟩, hW, hsame.mono (by decide) (by decide)⟩
  show Steps p.tables e below (s₁.setTop (mkF m 0 #[.val (.int p0), .unset, .unset, .unset] [])) _
  refine XS.iloadN X0.here hx rfl (hb hby at_0) rfl ?_
  show Steps p.tables e below (s₁.setTop (mkF m 1 #[.val (.int p0), .unset, .unset, .unset] [(.int p0)])) _
  refine XS.iconst X0.here hx rfl (hb hby at_1) ?_
  show Steps p.tables e below (s₁.setTop (mkF m 2 #[.val (.int p0), .unset, .unset, .unset] [(.int (3 : Int32)), (.int p0)])) _
  refine XS.iand X0.here hx rfl (hb hby at_2) rfl ?_
  show Steps p.tables e below (s₁.setTop (mkF m 3 #[.val (.int p0), .unset, .unset, .unset] [(.int (p0 &&& (3 : Int32)))])) _
  rw [hk]
  show Steps p.tables e below (s₁.setTop (mkF m 3 #[.val (.int p0), .unset, .unset, .unset] [(.int (1 : Int32))])) _
  refine XS.istoreN X0.here hx rfl (hb hby at_3) rfl (l' := #[.val (.int p0), .val (.int (1 : Int32)), .unset, .unset]) rfl ?_
  show Steps p.tables e below (s₁.setTop (mkF m 4 #[.val (.int p0), .val (.int (1 : Int32)), .unset, .unset] [])) _
  refine XS.iloadN X0.here hx rfl (hb hby at_4) rfl ?_
  show Steps p.tables e below (s₁.setTop (mkF m 5 #[.val (.int p0), .val (.int (1 : Int32)), .unset, .unset] [(.int (1 : Int32))])) _
  refine XS.ifYes X0.here hx rfl (pc0 := 5) (pc' := 17) rfl (hb hby at_5) rfl ((if0 _ _).trans (feq (by decide : ¬ ((1 : Int32) = (0 : Int32)))).2) (by decide) (by decide) ?_
  show Steps p.tables e below (s₁.setTop (mkF m 17 #[.val (.int p0), .val (.int (1 : Int32)), .unset, .unset] [])) _
  refine XS.iloadN X0.here hx rfl (hb hby at_17) rfl ?_
  show Steps p.tables e below (s₁.setTop (mkF m 18 #[.val (.int p0), .val (.int (1 : Int32)), .unset, .unset] [(.int (1 : Int32))])) _
  refine XS.iconst X0.here hx rfl (hb hby at_18) ?_
  show Steps p.tables e below (s₁.setTop (mkF m 19 #[.val (.int p0), .val (.int (1 : Int32)), .unset, .unset] [(.int (1 : Int32)), (.int (1 : Int32))])) _
  refine XS.icmpNo X0.here hx rfl (hb hby at_19) rfl (teq (by decide : (1 : Int32) = (1 : Int32))).2 ?_
  show Steps p.tables e below (s₁.setTop (mkF m 22 #[.val (.int p0), .val (.int (1 : Int32)), .unset, .unset] [])) _
  refine st1 _ ?_
  show Steps p.tables e below (T1.setTop (mkF m 25 #[.val (.int p0), .val (.int (1 : Int32)), .unset, .unset] [(.ref w_EXPLICIT)])) _
  refine XS.astoreN X1.here hx rfl (hb hby at_25) rfl rfl (l' := #[.val (.int p0), .val (.int (1 : Int32)), .val (.ref w_EXPLICIT), .unset]) rfl ?_
  show Steps p.tables e below (T1.setTop (mkF m 26 #[.val (.int p0), .val (.int (1 : Int32)), .val (.ref w_EXPLICIT), .unset] [])) _
  refine XS.iconst X1.here hx rfl (hb hby at_26) ?_
  show Steps p.tables e below (T1.setTop (mkF m 27 #[.val (.int p0), .val (.int (1 : Int32)), .val (.ref w_EXPLICIT), .unset] [(.int (0 : Int32))])) _
  refine XS.istoreN X1.here hx rfl (hb hby at_27) rfl (l' := #[.val (.int p0), .val (.int (1 : Int32)), .val (.ref w_EXPLICIT), .val (.int (0 : Int32))]) rfl ?_
  show Steps p.tables e below (T1.setTop (mkF m 28 #[.val (.int p0), .val (.int (1 : Int32)), .val (.ref w_EXPLICIT), .val (.int (0 : Int32))] [])) _
  refine XS.goto X1.here hx rfl (pc0 := 28) (pc' := 51) rfl (hb hby at_28) (by decide) (by decide) ?_
  show Steps p.tables e below (T1.setTop (mkF m 51 #[.val (.int p0), .val (.int (1 : Int32)), .val (.ref w_EXPLICIT), .val (.int (0 : Int32))] [])) _
  refine XS.aloadN X1.here hx rfl (hb hby at_51) rfl rfl ?_
  show Steps p.tables e below (T1.setTop (mkF m 52 #[.val (.int p0), .val (.int (1 : Int32)), .val (.ref w_EXPLICIT), .val (.int (0 : Int32))] [(.ref w_EXPLICIT)])) _
  refine st2.trans ?_
  show Steps p.tables e below (T2.setTop (mkF m 55 #[.val (.int p0), .val (.int (1 : Int32)), .val (.ref w_EXPLICIT), .val (.int (0 : Int32))] [(.int (0 : Int32))])) _
  refine XS.iloadN X2.here hx rfl (hb hby at_55) rfl ?_
  show Steps p.tables e below (T2.setTop (mkF m 56 #[.val (.int p0), .val (.int (1 : Int32)), .val (.ref w_EXPLICIT), .val (.int (0 : Int32))] [(.int (0 : Int32)), (.int (0 : Int32))])) _
  refine XS.icmpNo X2.here hx rfl (hb hby at_56) rfl (teq (by decide : (0 : Int32) = (0 : Int32))).2 ?_
  show Steps p.tables e below (T2.setTop (mkF m 59 #[.val (.int p0), .val (.int (1 : Int32)), .val (.ref w_EXPLICIT), .val (.int (0 : Int32))] [])) _
  refine XS.iconst X2.here hx rfl (hb hby at_59) ?_
  show Steps p.tables e below (T2.setTop (mkF m 60 #[.val (.int p0), .val (.int (1 : Int32)), .val (.ref w_EXPLICIT), .val (.int (0 : Int32))] [(.int (1 : Int32))])) _
  refine XS.goto X2.here hx rfl (pc0 := 60) (pc' := 64) rfl (hb hby at_60) (by decide) (by decide) ?_
  show Steps p.tables e below (T2.setTop (mkF m 64 #[.val (.int p0), .val (.int (1 : Int32)), .val (.ref w_EXPLICIT), .val (.int (0 : Int32))] [(.int (1 : Int32))])) _
  exact retN X2 hx (t := .boolean) Bd.returns (by simp) (hb hby at_64) hr
theorem d1_14 : decode prog_13_method_5_code 14 = .ok (.iconst 1, 1) := by decide +kernel
theorem d1_15 : decode prog_13_method_5_code 15 = .ok (.goto 4, 3) := by decide +kernel
set_option maxRecDepth 65536 in
set_option maxHeartbeats 40000000 in
theorem rm1_2 (l : Launch) (Z : State) (a0 : Array Value) (hw : ∀ d ∈ tables_1, d.before a0 Z = true) (ws : List Jvm.Cond) (w_OFF w_ADVISE w_AUTO w_EXPLICIT : Addr) (h0 : Heap) (n0 : Nat) (Z0 : n0 ≤ h0.size) (S : SF Z h0 w_OFF w_ADVISE w_AUTO w_EXPLICIT) :
    Pay l Z (⟨"com/example/darogan/darogan/Mode", "learns", "()Z"⟩ : MethodName) ws prog_13_method_5_code 1 (some .boolean) #[(.ref w_ADVISE)] h0 n0 ({ frames := 0, cells := 0, slots := 0, locals := 0 } : Room) (some (.int (1 : Int32))) := by
  obtain ⟨S_w_OFF, E_w_OFF, S_w_ADVISE, E_w_ADVISE, S_w_AUTO, E_w_AUTO, S_w_EXPLICIT, E_w_EXPLICIT, F_ordinal_w_OFF, F_ordinal_w_ADVISE, F_ordinal_w_AUTO, F_ordinal_w_EXPLICIT, hne_w_OFF_w_ADVISE, hne_w_OFF_w_AUTO, hne_w_OFF_w_EXPLICIT, hne_w_ADVISE_w_AUTO, hne_w_ADVISE_w_EXPLICIT, hne_w_AUTO_w_EXPLICIT⟩ := id S
  refine MetFree.of_bodySF (plainFor_of_name pn_0) hisR ?_
  intro p e s m args below meth c s₁ Bd hml0 hP hK
  obtain ⟨rfl, hZ, hh⟩ := hP
  have hx := Bd.exec
  have hby := Bd.bytes
  have hml : c.maxLocals = 1 := hml0
  have hown : s.vm.findClass "com/example/darogan/darogan/Mode" = some m.cls := findClass_of_methodNamed Bd.named
  have X0 : Stand p l e ({ frames := 0, cells := 0, slots := 0, locals := 0 } : Room) s m #[(.ref w_ADVISE)] below meth c s₁ [] 0 0 := Stand.of_body Bd
  have e0 : s₁.heap = h0 := by rw [← hh, Bd.state]; rfl
  have N0 := Fr.nil n0
  have pre0 : ∀ t, Steps p.tables e below (s₁.setTop (mkF m 0 #[.val (.ref w_ADVISE)] [])) t → Steps p.tables e below (s₁.setTop (entryFrame m #[(.ref w_ADVISE)] 1)) t := fun t k => castTop (by first | rfl | (simp [entryFrame, mkF, argsToLocals, Value.category]; done)) k
  obtain ⟨T1, X1, e1, st1⟩ := getS2 X0 hx hZ hown (host := "") (Or.inl (hw _ (List.mem_of_getElem? (i := 8) rfl))) Via.refl e0 S_w_ADVISE (g := (mkF m 1 #[.val (.ref w_ADVISE)] [(.ref w_ADVISE)])) rfl (hb hby d1_1)
  obtain ⟨fs, hr, hrun, hended, hW, hsame⟩ := X1.leave (v := (some (.int (1 : Int32)))) (fun h => by rw [Bd.returns] at h; cases h)
  refine ⟨_, _, pre0 _ ?_, hrun, hended, _, _, rfl, ⟨rfl, N0, e1⟩, ⟨_, rfl⟩, hW, hsame.mono (by decide) (by decide)⟩
  show Steps p.tables e below (s₁.setTop (mkF m 0 #[.val (.ref w_ADVISE)] [])) _
  refine XS.aloadN X0.here hx rfl (hb hby d1_0) rfl rfl ?_
  show Steps p.tables e below (s₁.setTop (mkF m 1 #[.val (.ref w_ADVISE)] [(.ref w_ADVISE)])) _
  refine st1 _ ?_
  show Steps p.tables e below (T1.setTop (mkF m 4 #[.val (.ref w_ADVISE)] [(.ref w_ADVISE), (.ref w_ADVISE)])) _
  refine Jvm.RoadKit.acmp (g := (mkF m 4 #[.val (.ref w_ADVISE)] [(.ref w_ADVISE), (.ref w_ADVISE)])) X1 hx rfl rfl rfl (pc0 := 4) (pc' := 14) (same := true) rfl (hb hby d1_4) rfl (decide_eq_true rfl) (by decide) (by decide) ?_
  show Steps p.tables e below (T1.setTop (mkF m 14 #[.val (.ref w_ADVISE)] [])) _
  refine XS.iconst X1.here hx rfl (hb hby d1_14) ?_
  show Steps p.tables e below (T1.setTop (mkF m 15 #[.val (.ref w_ADVISE)] [(.int (1 : Int32))])) _
  refine XS.goto X1.here hx rfl (pc0 := 15) (pc' := 19) rfl (hb hby d1_15) (by decide) (by decide) ?_
  show Steps p.tables e below (T1.setTop (mkF m 19 #[.val (.ref w_ADVISE)] [(.int (1 : Int32))])) _
  exact retN X1 hx (t := .boolean) Bd.returns (by simp) (hb hby d1_19) hr
set_option maxRecDepth 65536 in
set_option maxHeartbeats 40000000 in
theorem rm0_2 (l : Launch) (Z : State) (a0 : Array Value) (hw : ∀ d ∈ tables_1, d.before a0 Z = true) (ws : List Jvm.Cond) (w_OFF w_ADVISE w_AUTO w_EXPLICIT : Addr) (h0 : Heap) (n0 : Nat) (Z0 : n0 ≤ h0.size) (S : SF Z h0 w_OFF w_ADVISE w_AUTO w_EXPLICIT) (p0 : Int32) (hk : (p0 &&& (3 : Int32)) = (2 : Int32)) :
    Pay l Z x ws code maxLocals ret #[(.int p0)] h0 n0 room_1 (some (.int (1 : Int32))) := by
  obtain ⟨S_w_OFF, E_w_OFF, S_w_ADVISE, E_w_ADVISE, S_w_AUTO, E_w_AUTO, S_w_EXPLICIT, E_w_EXPLICIT, F_ordinal_w_OFF, F_ordinal_w_ADVISE, F_ordinal_w_AUTO, F_ordinal_w_EXPLICIT, hne_w_OFF_w_ADVISE, hne_w_OFF_w_AUTO, hne_w_OFF_w_EXPLICIT, hne_w_ADVISE_w_AUTO, hne_w_ADVISE_w_EXPLICIT, hne_w_AUTO_w_EXPLICIT⟩ := id S
  refine MetFree.of_bodySF (plainFor_of_name pn_1) hisR ?_
  intro p e s m args below meth c s₁ Bd hml0 hP hK
  obtain ⟨rfl, hZ, hh⟩ := hP
  have hx := Bd.exec
  have hby := Bd.bytes
  have hml : c.maxLocals = 4 := hml0
  have hown : s.vm.findClass "com/example/darogan/darogan/ModeLearnsPinLaw" = some m.cls := findClass_of_methodNamed Bd.named
  have X0 : Stand p l e room_1 s m #[(.int p0)] below meth c s₁ [] 0 0 := Stand.of_body Bd
  have e0 : s₁.heap = h0 := by rw [← hh, Bd.state]; rfl
  have N0 := Fr.nil n0
  have pre0 : ∀ t, Steps p.tables e below (s₁.setTop (mkF m 0 #[.val (.int p0), .unset, .unset, .unset] [])) t → Steps p.tables e below (s₁.setTop (entryFrame m #[(.int p0)] maxLocals)) t := fun t k => castTop (by first | rfl | (simp [entryFrame, mkF, argsToLocals, Value.category, maxLocals]; done)) k
  obtain ⟨T1, X1, e1, st1⟩ := getS2 X0 hx hZ hown (host := "") (Or.inl (hw _ (List.mem_of_getElem? (i := 13) rfl))) Via.refl e0 S_w_ADVISE (g := (mkF m 36 #[.val (.int p0), .val (.int (2 : Int32)), .unset, .unset] [])) rfl (hb hby at_36)
  obtain ⟨cq2, kq2, q2a, q2b, q2c⟩ := isOf hZ e1 E_w_ADVISE
  obtain ⟨_, _, ⟨T2, L2, k2, n2⟩, -, X2, ⟨Lc2, hQ2, l2, y2, z2⟩, st2⟩ := X1.virtualBack hx (y := (⟨"com/example/darogan/darogan/Mode", "learns", "()Z"⟩ : MethodName)) (z := (⟨"com/example/darogan/darogan/Mode", "learns", "()Z"⟩ : MethodName)) hown (mvT hZ (hw _ (List.mem_of_getElem? (i := 3) rfl))) (mvT hZ (hw _ (List.mem_of_getElem? (i := 4) rfl))) (notFace_of_selects (args := #[]) (mvT hZ (hw _ (List.mem_of_getElem? (i := 6) rfl)))) (mvT hZ (hw _ (List.mem_of_getElem? (i := 6) rfl))) (mvT hZ (hw _ (List.mem_of_getElem? (i := 5) rfl))) (by decide) (backOf (W := 0) (rm1_2 l Z a0 hw [] w_OFF w_ADVISE w_AUTO w_EXPLICIT h0 n0 Z0 S) hZ (hw _ (List.mem_of_getElem? (i := 7) rfl)) (hw _ (List.mem_of_getElem? (i := 1) rfl)) (by decide) (by decide)) q2a q2c (g := (mkF m 52 #[.val (.int p0), .val (.int (2 : Int32)), .val (.ref w_ADVISE), .val (.int (1 : Int32))] [(.ref w_ADVISE)])) rfl (by rw [hml]; rfl) (Steps.refl _) (argsL := []) (rest := []) (lenOf pd_0 rfl) rfl (by show 2 * 0 + _ ≤ _; exact Nat.le_of_eq rfl) (hb hby at_52) (fun _ _ => ⟨rfl, e1, (by decide : 0 + 0 ≤ _), (by decide : 0 + 0 ≤ _)⟩)
  dsimp only [Pt.U, Pt.locs, Pt.cells, Pt.slots] at X2 l2 y2 z2 st2 hQ2
  subst l2 y2 z2
  obtain ⟨rfl, Nq2, e2⟩ := hQ2
  have N2 := Fr.app N0 Nq2
  obtain ⟨fs, hr, hrun, hended, hW, hsame⟩ := X2.leave (v := (some (.int (1 : Int32)))) (fun h => by rw [Bd.returns] at h; cases h)
  refine ⟨_, _, pre0 _ ?_, hrun, hended, _, _, rfl, ⟨rfl, N2, e2⟩, ⟨_, rfl⟩, hW, hsame.mono (by decide) (by decide)⟩
  show Steps p.tables e below (s₁.setTop (mkF m 0 #[.val (.int p0), .unset, .unset, .unset] [])) _
  refine XS.iloadN X0.here hx rfl (hb hby at_0) rfl ?_
  show Steps p.tables e below (s₁.setTop (mkF m 1 #[.val (.int p0), .unset, .unset, .unset] [(.int p0)])) _
  refine XS.iconst X0.here hx rfl (hb hby at_1) ?_
  show Steps p.tables e below (s₁.setTop (mkF m 2 #[.val (.int p0), .unset, .unset, .unset] [(.int (3 : Int32)), (.int p0)])) _
  refine XS.iand X0.here hx rfl (hb hby at_2) rfl ?_
  show Steps p.tables e below (s₁.setTop (mkF m 3 #[.val (.int p0), .unset, .unset, .unset] [(.int (p0 &&& (3 : Int32)))])) _
  rw [hk]
  show Steps p.tables e below (s₁.setTop (mkF m 3 #[.val (.int p0), .unset, .unset, .unset] [(.int (2 : Int32))])) _
  refine XS.istoreN X0.here hx rfl (hb hby at_3) rfl (l' := #[.val (.int p0), .val (.int (2 : Int32)), .unset, .unset]) rfl ?_
  show Steps p.tables e below (s₁.setTop (mkF m 4 #[.val (.int p0), .val (.int (2 : Int32)), .unset, .unset] [])) _
  refine XS.iloadN X0.here hx rfl (hb hby at_4) rfl ?_
  show Steps p.tables e below (s₁.setTop (mkF m 5 #[.val (.int p0), .val (.int (2 : Int32)), .unset, .unset] [(.int (2 : Int32))])) _
  refine XS.ifYes X0.here hx rfl (pc0 := 5) (pc' := 17) rfl (hb hby at_5) rfl ((if0 _ _).trans (feq (by decide : ¬ ((2 : Int32) = (0 : Int32)))).2) (by decide) (by decide) ?_
  show Steps p.tables e below (s₁.setTop (mkF m 17 #[.val (.int p0), .val (.int (2 : Int32)), .unset, .unset] [])) _
  refine XS.iloadN X0.here hx rfl (hb hby at_17) rfl ?_
  show Steps p.tables e below (s₁.setTop (mkF m 18 #[.val (.int p0), .val (.int (2 : Int32)), .unset, .unset] [(.int (2 : Int32))])) _
  refine XS.iconst X0.here hx rfl (hb hby at_18) ?_
  show Steps p.tables e below (s₁.setTop (mkF m 19 #[.val (.int p0), .val (.int (2 : Int32)), .unset, .unset] [(.int (1 : Int32)), (.int (2 : Int32))])) _
  refine XS.icmpYes X0.here hx rfl (pc0 := 19) (pc' := 31) rfl (hb hby at_19) rfl (feq (by decide : ¬ ((2 : Int32) = (1 : Int32)))).2 (by decide) (by decide) ?_
  show Steps p.tables e below (s₁.setTop (mkF m 31 #[.val (.int p0), .val (.int (2 : Int32)), .unset, .unset] [])) _
  refine XS.iloadN X0.here hx rfl (hb hby at_31) rfl ?_
  show Steps p.tables e below (s₁.setTop (mkF m 32 #[.val (.int p0), .val (.int (2 : Int32)), .unset, .unset] [(.int (2 : Int32))])) _
  refine XS.iconst X0.here hx rfl (hb hby at_32) ?_
  show Steps p.tables e below (s₁.setTop (mkF m 33 #[.val (.int p0), .val (.int (2 : Int32)), .unset, .unset] [(.int (2 : Int32)), (.int (2 : Int32))])) _
  refine XS.icmpNo X0.here hx rfl (hb hby at_33) rfl (teq (by decide : (2 : Int32) = (2 : Int32))).2 ?_
  show Steps p.tables e below (s₁.setTop (mkF m 36 #[.val (.int p0), .val (.int (2 : Int32)), .unset, .unset] [])) _
  refine st1 _ ?_
  show Steps p.tables e below (T1.setTop (mkF m 39 #[.val (.int p0), .val (.int (2 : Int32)), .unset, .unset] [(.ref w_ADVISE)])) _
  refine XS.astoreN X1.here hx rfl (hb hby at_39) rfl rfl (l' := #[.val (.int p0), .val (.int (2 : Int32)), .val (.ref w_ADVISE), .unset]) rfl ?_
  show Steps p.tables e below (T1.setTop (mkF m 40 #[.val (.int p0), .val (.int (2 : Int32)), .val (.ref w_ADVISE), .unset] [])) _
  refine XS.iconst X1.here hx rfl (hb hby at_40) ?_
  show Steps p.tables e below (T1.setTop (mkF m 41 #[.val (.int p0), .val (.int (2 : Int32)), .val (.ref w_ADVISE), .unset] [(.int (1 : Int32))])) _
  refine XS.istoreN X1.here hx rfl (hb hby at_41) rfl (l' := #[.val (.int p0), .val (.int (2 : Int32)), .val (.ref w_ADVISE), .val (.int (1 : Int32))]) rfl ?_
  show Steps p.tables e below (T1.setTop (mkF m 42 #[.val (.int p0), .val (.int (2 : Int32)), .val (.ref w_ADVISE), .val (.int (1 : Int32))] [])) _
  refine XS.goto X1.here hx rfl (pc0 := 42) (pc' := 51) rfl (hb hby at_42) (by decide) (by decide) ?_
  show Steps p.tables e below (T1.setTop (mkF m 51 #[.val (.int p0), .val (.int (2 : Int32)), .val (.ref w_ADVISE), .val (.int (1 : Int32))] [])) _
  refine XS.aloadN X1.here hx rfl (hb hby at_51) rfl rfl ?_
  show Steps p.tables e below (T1.setTop (mkF m 52 #[.val (.int p0), .val (.int (2 : Int32)), .val (.ref w_ADVISE), .val (.int (1 : Int32))] [(.ref w_ADVISE)])) _
  refine st2.trans ?_
  show Steps p.tables e below (T2.setTop (mkF m 55 #[.val (.int p0), .val (.int (2 : Int32)), .val (.ref w_ADVISE), .val (.int (1 : Int32))] [(.int (1 : Int32))])) _
  refine XS.iloadN X2.here hx rfl (hb hby at_55) rfl ?_
  show Steps p.tables e below (T2.setTop (mkF m 56 #[.val (.int p0), .val (.int (2 : Int32)), .val (.ref w_ADVISE), .val (.int (1 : Int32))] [(.int (1 : Int32)), (.int (1 : Int32))])) _
  refine XS.icmpNo X2.here hx rfl (hb hby at_56) rfl (teq (by decide : (1 : Int32) = (1 : Int32))).2 ?_
  show Steps p.tables e below (T2.setTop (mkF m 59 #[.val (.int p0), .val (.int (2 : Int32)), .val (.ref w_ADVISE), .val (.int (1 : Int32))] [])) _
  refine XS.iconst X2.here hx rfl (hb hby at_59) ?_
  show Steps p.tables e below (T2.setTop (mkF m 60 #[.val (.int p0), .val (.int (2 : Int32)), .val (.ref w_ADVISE), .val (.int (1 : Int32))] [(.int (1 : Int32))])) _
  refine XS.goto X2.here hx rfl (pc0 := 60) (pc' := 64) rfl (hb hby at_60) (by decide) (by decide) ?_
  show Steps p.tables e below (T2.setTop (mkF m 64 #[.val (.int p0), .val (.int (2 : Int32)), .val (.ref w_ADVISE), .val (.int (1 : Int32))] [(.int (1 : Int32))])) _
  exact retN X2 hx (t := .boolean) Bd.returns (by simp) (hb hby at_64) hr
set_option maxRecDepth 65536 in
set_option maxHeartbeats 40000000 in
theorem rm1_3 (l : Launch) (Z : State) (a0 : Array Value) (hw : ∀ d ∈ tables_1, d.before a0 Z = true) (ws : List Jvm.Cond) (w_OFF w_ADVISE w_AUTO w_EXPLICIT : Addr) (h0 : Heap) (n0 : Nat) (Z0 : n0 ≤ h0.size) (S : SF Z h0 w_OFF w_ADVISE w_AUTO w_EXPLICIT) :
    Pay l Z (⟨"com/example/darogan/darogan/Mode", "learns", "()Z"⟩ : MethodName) ws prog_13_method_5_code 1 (some .boolean) #[(.ref w_AUTO)] h0 n0 ({ frames := 0, cells := 0, slots := 0, locals := 0 } : Room) (some (.int (1 : Int32))) := by
  obtain ⟨S_w_OFF, E_w_OFF, S_w_ADVISE, E_w_ADVISE, S_w_AUTO, E_w_AUTO, S_w_EXPLICIT, E_w_EXPLICIT, F_ordinal_w_OFF, F_ordinal_w_ADVISE, F_ordinal_w_AUTO, F_ordinal_w_EXPLICIT, hne_w_OFF_w_ADVISE, hne_w_OFF_w_AUTO, hne_w_OFF_w_EXPLICIT, hne_w_ADVISE_w_AUTO, hne_w_ADVISE_w_EXPLICIT, hne_w_AUTO_w_EXPLICIT⟩ := id S
  refine MetFree.of_bodySF (plainFor_of_name pn_0) hisR ?_
  intro p e s m args below meth c s₁ Bd hml0 hP hK
  obtain ⟨rfl, hZ, hh⟩ := hP
  have hx := Bd.exec
  have hby := Bd.bytes
  have hml : c.maxLocals = 1 := hml0
  have hown : s.vm.findClass "com/example/darogan/darogan/Mode" = some m.cls := findClass_of_methodNamed Bd.named
  have X0 : Stand p l e ({ frames := 0, cells := 0, slots := 0, locals := 0 } : Room) s m #[(.ref w_AUTO)] below meth c s₁ [] 0 0 := Stand.of_body Bd
  have e0 : s₁.heap = h0 := by rw [← hh, Bd.state]; rfl
  have N0 := Fr.nil n0
  have pre0 : ∀ t, Steps p.tables e below (s₁.setTop (mkF m 0 #[.val (.ref w_AUTO)] [])) t → Steps p.tables e below (s₁.setTop (entryFrame m #[(.ref w_AUTO)] 1)) t := fun t k => castTop (by first | rfl | (simp [entryFrame, mkF, argsToLocals, Value.category]; done)) k
  obtain ⟨T1, X1, e1, st1⟩ := getS2 X0 hx hZ hown (host := "") (Or.inl (hw _ (List.mem_of_getElem? (i := 8) rfl))) Via.refl e0 S_w_ADVISE (g := (mkF m 1 #[.val (.ref w_AUTO)] [(.ref w_AUTO)])) rfl (hb hby d1_1)
  obtain ⟨T2, X2, e2, st2⟩ := getS2 X1 hx hZ hown (host := "") (Or.inl (hw _ (List.mem_of_getElem? (i := 10) rfl))) Via.refl e1 S_w_AUTO (g := (mkF m 8 #[.val (.ref w_AUTO)] [(.ref w_AUTO)])) rfl (hb hby d1_8)
  obtain ⟨fs, hr, hrun, hended, hW, hsame⟩ := X2.leave (v := (some (.int (1 : Int32)))) (fun h => by rw [Bd.returns] at h; cases h)
  refine ⟨_, _, pre0 _ ?_, hrun, hended, _, _, rfl, ⟨rfl, N0, e2⟩, ⟨_, rfl⟩, hW, hsame.mono (by decide) (by decide)⟩
  show Steps p.tables e below (s₁.setTop (mkF m 0 #[.val (.ref w_AUTO)] [])) _
  refine XS.aloadN X0.here hx rfl (hb hby d1_0) rfl rfl ?_
  show Steps p.tables e below (s₁.setTop (mkF m 1 #[.val (.ref w_AUTO)] [(.ref w_AUTO)])) _
  refine st1 _ ?_
  show Steps p.tables e below (T1.setTop (mkF m 4 #[.val (.ref w_AUTO)] [(.ref w_ADVISE), (.ref w_AUTO)])) _
  refine Jvm.RoadKit.acmp (g := (mkF m 4 #[.val (.ref w_AUTO)] [(.ref w_ADVISE), (.ref w_AUTO)])) X1 hx rfl rfl rfl (pc0 := 4) (pc' := 7) (same := false) rfl (hb hby d1_4) rfl (decide_eq_false fun q => hne_w_ADVISE_w_AUTO (Value.ref.inj q).symm) (by decide) (by decide) ?_
  show Steps p.tables e below (T1.setTop (mkF m 7 #[.val (.ref w_AUTO)] [])) _
  refine XS.aloadN X1.here hx rfl (hb hby d1_7) rfl rfl ?_
  show Steps p.tables e below (T1.setTop (mkF m 8 #[.val (.ref w_AUTO)] [(.ref w_AUTO)])) _
  refine st2 _ ?_
  show Steps p.tables e below (T2.setTop (mkF m 11 #[.val (.ref w_AUTO)] [(.ref w_AUTO), (.ref w_AUTO)])) _
  refine Jvm.RoadKit.acmp (g := (mkF m 11 #[.val (.ref w_AUTO)] [(.ref w_AUTO), (.ref w_AUTO)])) X2 hx rfl rfl rfl (pc0 := 11) (pc' := 14) (same := true) rfl (hb hby d1_11) rfl (decide_eq_true rfl) (by decide) (by decide) ?_
  show Steps p.tables e below (T2.setTop (mkF m 14 #[.val (.ref w_AUTO)] [])) _
  refine XS.iconst X2.here hx rfl (hb hby d1_14) ?_
  show Steps p.tables e below (T2.setTop (mkF m 15 #[.val (.ref w_AUTO)] [(.int (1 : Int32))])) _
  refine XS.goto X2.here hx rfl (pc0 := 15) (pc' := 19) rfl (hb hby d1_15) (by decide) (by decide) ?_
  show Steps p.tables e below (T2.setTop (mkF m 19 #[.val (.ref w_AUTO)] [(.int (1 : Int32))])) _
  exact retN X2 hx (t := .boolean) Bd.returns (by simp) (hb hby d1_19) hr
set_option maxRecDepth 65536 in
set_option maxHeartbeats 40000000 in
theorem rm0_3 (l : Launch) (Z : State) (a0 : Array Value) (hw : ∀ d ∈ tables_1, d.before a0 Z = true) (ws : List Jvm.Cond) (w_OFF w_ADVISE w_AUTO w_EXPLICIT : Addr) (h0 : Heap) (n0 : Nat) (Z0 : n0 ≤ h0.size) (S : SF Z h0 w_OFF w_ADVISE w_AUTO w_EXPLICIT) (p0 : Int32) (hk : (p0 &&& (3 : Int32)) = (3 : Int32)) :
    Pay l Z x ws code maxLocals ret #[(.int p0)] h0 n0 room_1 (some (.int (1 : Int32))) := by
  obtain ⟨S_w_OFF, E_w_OFF, S_w_ADVISE, E_w_ADVISE, S_w_AUTO, E_w_AUTO, S_w_EXPLICIT, E_w_EXPLICIT, F_ordinal_w_OFF, F_ordinal_w_ADVISE, F_ordinal_w_AUTO, F_ordinal_w_EXPLICIT, hne_w_OFF_w_ADVISE, hne_w_OFF_w_AUTO, hne_w_OFF_w_EXPLICIT, hne_w_ADVISE_w_AUTO, hne_w_ADVISE_w_EXPLICIT, hne_w_AUTO_w_EXPLICIT⟩ := id S
  refine MetFree.of_bodySF (plainFor_of_name pn_1) hisR ?_
  intro p e s m args below meth c s₁ Bd hml0 hP hK
  obtain ⟨rfl, hZ, hh⟩ := hP
  have hx := Bd.exec
  have hby := Bd.bytes
  have hml : c.maxLocals = 4 := hml0
  have hown : s.vm.findClass "com/example/darogan/darogan/ModeLearnsPinLaw" = some m.cls := findClass_of_methodNamed Bd.named
  have X0 : Stand p l e room_1 s m #[(.int p0)] below meth c s₁ [] 0 0 := Stand.of_body Bd
  have e0 : s₁.heap = h0 := by rw [← hh, Bd.state]; rfl
  have N0 := Fr.nil n0
  have pre0 : ∀ t, Steps p.tables e below (s₁.setTop (mkF m 0 #[.val (.int p0), .unset, .unset, .unset] [])) t → Steps p.tables e below (s₁.setTop (entryFrame m #[(.int p0)] maxLocals)) t := fun t k => castTop (by first | rfl | (simp [entryFrame, mkF, argsToLocals, Value.category, maxLocals]; done)) k
  obtain ⟨T1, X1, e1, st1⟩ := getS2 X0 hx hZ hown (host := "") (Or.inl (hw _ (List.mem_of_getElem? (i := 12) rfl))) Via.refl e0 S_w_AUTO (g := (mkF m 45 #[.val (.int p0), .val (.int (3 : Int32)), .unset, .unset] [])) rfl (hb hby at_45)
  obtain ⟨cq2, kq2, q2a, q2b, q2c⟩ := isOf hZ e1 E_w_AUTO
  obtain ⟨_, _, ⟨T2, L2, k2, n2⟩, -, X2, ⟨Lc2, hQ2, l2, y2, z2⟩, st2⟩ := X1.virtualBack hx (y := (⟨"com/example/darogan/darogan/Mode", "learns", "()Z"⟩ : MethodName)) (z := (⟨"com/example/darogan/darogan/Mode", "learns", "()Z"⟩ : MethodName)) hown (mvT hZ (hw _ (List.mem_of_getElem? (i := 3) rfl))) (mvT hZ (hw _ (List.mem_of_getElem? (i := 4) rfl))) (notFace_of_selects (args := #[]) (mvT hZ (hw _ (List.mem_of_getElem? (i := 6) rfl)))) (mvT hZ (hw _ (List.mem_of_getElem? (i := 6) rfl))) (mvT hZ (hw _ (List.mem_of_getElem? (i := 5) rfl))) (by decide) (backOf (W := 0) (rm1_3 l Z a0 hw [] w_OFF w_ADVISE w_AUTO w_EXPLICIT h0 n0 Z0 S) hZ (hw _ (List.mem_of_getElem? (i := 7) rfl)) (hw _ (List.mem_of_getElem? (i := 1) rfl)) (by decide) (by decide)) q2a q2c (g := (mkF m 52 #[.val (.int p0), .val (.int (3 : Int32)), .val (.ref w_AUTO), .val (.int (1 : Int32))] [(.ref w_AUTO)])) rfl (by rw [hml]; rfl) (Steps.refl _) (argsL := []) (rest := []) (lenOf pd_0 rfl) rfl (by show 2 * 0 + _ ≤ _; exact Nat.le_of_eq rfl) (hb hby at_52) (fun _ _ => ⟨rfl, e1, (by decide : 0 + 0 ≤ _), (by decide : 0 + 0 ≤ _)⟩)
  dsimp only [Pt.U, Pt.locs, Pt.cells, Pt.slots] at X2 l2 y2 z2 st2 hQ2
  subst l2 y2 z2
  obtain ⟨rfl, Nq2, e2⟩ := hQ2
  have N2 := Fr.app N0 Nq2
  obtain ⟨fs, hr, hrun, hended, hW, hsame⟩ := X2.leave (v := (some (.int (1 : Int32)))) (fun h => by rw [Bd.returns] at h; cases h)
  refine ⟨_, _, pre0 _ ?_, hrun, hended, _, _, rfl, ⟨rfl, N2, e2⟩, ⟨_, rfl⟩, hW, hsame.mono (by decide) (by decide)⟩
  show Steps p.tables e below (s₁.setTop (mkF m 0 #[.val (.int p0), .unset, .unset, .unset] [])) _
  refine XS.iloadN X0.here hx rfl (hb hby at_0) rfl ?_
  show Steps p.tables e below (s₁.setTop (mkF m 1 #[.val (.int p0), .unset, .unset, .unset] [(.int p0)])) _
  refine XS.iconst X0.here hx rfl (hb hby at_1) ?_
  show Steps p.tables e below (s₁.setTop (mkF m 2 #[.val (.int p0), .unset, .unset, .unset] [(.int (3 : Int32)), (.int p0)])) _
  refine XS.iand X0.here hx rfl (hb hby at_2) rfl ?_
  show Steps p.tables e below (s₁.setTop (mkF m 3 #[.val (.int p0), .unset, .unset, .unset] [(.int (p0 &&& (3 : Int32)))])) _
  rw [hk]
  show Steps p.tables e below (s₁.setTop (mkF m 3 #[.val (.int p0), .unset, .unset, .unset] [(.int (3 : Int32))])) _
  refine XS.istoreN X0.here hx rfl (hb hby at_3) rfl (l' := #[.val (.int p0), .val (.int (3 : Int32)), .unset, .unset]) rfl ?_
  show Steps p.tables e below (s₁.setTop (mkF m 4 #[.val (.int p0), .val (.int (3 : Int32)), .unset, .unset] [])) _
  refine XS.iloadN X0.here hx rfl (hb hby at_4) rfl ?_
  show Steps p.tables e below (s₁.setTop (mkF m 5 #[.val (.int p0), .val (.int (3 : Int32)), .unset, .unset] [(.int (3 : Int32))])) _
  refine XS.ifYes X0.here hx rfl (pc0 := 5) (pc' := 17) rfl (hb hby at_5) rfl ((if0 _ _).trans (feq (by decide : ¬ ((3 : Int32) = (0 : Int32)))).2) (by decide) (by decide) ?_
  show Steps p.tables e below (s₁.setTop (mkF m 17 #[.val (.int p0), .val (.int (3 : Int32)), .unset, .unset] [])) _
  refine XS.iloadN X0.here hx rfl (hb hby at_17) rfl ?_
  show Steps p.tables e below (s₁.setTop (mkF m 18 #[.val (.int p0), .val (.int (3 : Int32)), .unset, .unset] [(.int (3 : Int32))])) _
  refine XS.iconst X0.here hx rfl (hb hby at_18) ?_
  show Steps p.tables e below (s₁.setTop (mkF m 19 #[.val (.int p0), .val (.int (3 : Int32)), .unset, .unset] [(.int (1 : Int32)), (.int (3 : Int32))])) _
  refine XS.icmpYes X0.here hx rfl (pc0 := 19) (pc' := 31) rfl (hb hby at_19) rfl (feq (by decide : ¬ ((3 : Int32) = (1 : Int32)))).2 (by decide) (by decide) ?_
  show Steps p.tables e below (s₁.setTop (mkF m 31 #[.val (.int p0), .val (.int (3 : Int32)), .unset, .unset] [])) _
  refine XS.iloadN X0.here hx rfl (hb hby at_31) rfl ?_
  show Steps p.tables e below (s₁.setTop (mkF m 32 #[.val (.int p0), .val (.int (3 : Int32)), .unset, .unset] [(.int (3 : Int32))])) _
  refine XS.iconst X0.here hx rfl (hb hby at_32) ?_
  show Steps p.tables e below (s₁.setTop (mkF m 33 #[.val (.int p0), .val (.int (3 : Int32)), .unset, .unset] [(.int (2 : Int32)), (.int (3 : Int32))])) _
  refine XS.icmpYes X0.here hx rfl (pc0 := 33) (pc' := 45) rfl (hb hby at_33) rfl (feq (by decide : ¬ ((3 : Int32) = (2 : Int32)))).2 (by decide) (by decide) ?_
  show Steps p.tables e below (s₁.setTop (mkF m 45 #[.val (.int p0), .val (.int (3 : Int32)), .unset, .unset] [])) _
  refine st1 _ ?_
  show Steps p.tables e below (T1.setTop (mkF m 48 #[.val (.int p0), .val (.int (3 : Int32)), .unset, .unset] [(.ref w_AUTO)])) _
  refine XS.astoreN X1.here hx rfl (hb hby at_48) rfl rfl (l' := #[.val (.int p0), .val (.int (3 : Int32)), .val (.ref w_AUTO), .unset]) rfl ?_
  show Steps p.tables e below (T1.setTop (mkF m 49 #[.val (.int p0), .val (.int (3 : Int32)), .val (.ref w_AUTO), .unset] [])) _
  refine XS.iconst X1.here hx rfl (hb hby at_49) ?_
  show Steps p.tables e below (T1.setTop (mkF m 50 #[.val (.int p0), .val (.int (3 : Int32)), .val (.ref w_AUTO), .unset] [(.int (1 : Int32))])) _
  refine XS.istoreN X1.here hx rfl (hb hby at_50) rfl (l' := #[.val (.int p0), .val (.int (3 : Int32)), .val (.ref w_AUTO), .val (.int (1 : Int32))]) rfl ?_
  show Steps p.tables e below (T1.setTop (mkF m 51 #[.val (.int p0), .val (.int (3 : Int32)), .val (.ref w_AUTO), .val (.int (1 : Int32))] [])) _
  refine XS.aloadN X1.here hx rfl (hb hby at_51) rfl rfl ?_
  show Steps p.tables e below (T1.setTop (mkF m 52 #[.val (.int p0), .val (.int (3 : Int32)), .val (.ref w_AUTO), .val (.int (1 : Int32))] [(.ref w_AUTO)])) _
  refine st2.trans ?_
  show Steps p.tables e below (T2.setTop (mkF m 55 #[.val (.int p0), .val (.int (3 : Int32)), .val (.ref w_AUTO), .val (.int (1 : Int32))] [(.int (1 : Int32))])) _
  refine XS.iloadN X2.here hx rfl (hb hby at_55) rfl ?_
  show Steps p.tables e below (T2.setTop (mkF m 56 #[.val (.int p0), .val (.int (3 : Int32)), .val (.ref w_AUTO), .val (.int (1 : Int32))] [(.int (1 : Int32)), (.int (1 : Int32))])) _
  refine XS.icmpNo X2.here hx rfl (hb hby at_56) rfl (teq (by decide : (1 : Int32) = (1 : Int32))).2 ?_
  show Steps p.tables e below (T2.setTop (mkF m 59 #[.val (.int p0), .val (.int (3 : Int32)), .val (.ref w_AUTO), .val (.int (1 : Int32))] [])) _
  refine XS.iconst X2.here hx rfl (hb hby at_59) ?_
  show Steps p.tables e below (T2.setTop (mkF m 60 #[.val (.int p0), .val (.int (3 : Int32)), .val (.ref w_AUTO), .val (.int (1 : Int32))] [(.int (1 : Int32))])) _
  refine XS.goto X2.here hx rfl (pc0 := 60) (pc' := 64) rfl (hb hby at_60) (by decide) (by decide) ?_
  show Steps p.tables e below (T2.setTop (mkF m 64 #[.val (.int p0), .val (.int (3 : Int32)), .val (.ref w_AUTO), .val (.int (1 : Int32))] [(.int (1 : Int32))])) _
  exact retN X2 hx (t := .boolean) Bd.returns (by simp) (hb hby at_64) hr
theorem rm0 (l : Launch) (Z : State) (a0 : Array Value) (hw : ∀ d ∈ tables_1, d.before a0 Z = true) (ws : List Jvm.Cond) (w_OFF w_ADVISE w_AUTO w_EXPLICIT : Addr) (h0 : Heap) (n0 : Nat) (Z0 : n0 ≤ h0.size) (S : SF Z h0 w_OFF w_ADVISE w_AUTO w_EXPLICIT) (p0 : Int32) :
    Pay l Z x ws code maxLocals ret #[(.int p0)] h0 n0 room_1 (some (.int (1 : Int32))) := by
  rcases own_and3 p0 with hk | hk | hk | hk
  · exact rm0_0 l Z a0 hw ws w_OFF w_ADVISE w_AUTO w_EXPLICIT h0 n0 Z0 S p0 hk
  · exact rm0_1 l Z a0 hw ws w_OFF w_ADVISE w_AUTO w_EXPLICIT h0 n0 Z0 S p0 hk
  · exact rm0_2 l Z a0 hw ws w_OFF w_ADVISE w_AUTO w_EXPLICIT h0 n0 Z0 S p0 hk
  · exact rm0_3 l Z a0 hw ws w_OFF w_ADVISE w_AUTO w_EXPLICIT h0 n0 Z0 S p0 hk
set_option maxRecDepth 65536 in
set_option maxHeartbeats 40000000 in
theorem comes_1 {Post : Tables → Env → Array Value → State → Outcome → State → Prop} (hpost : ∀ tb e args s v u, (limb_1_1.after args s (.returned v) u = true ∧ limb_1_2.after args s (.returned v) u = true ∧ True) → FrameEnd s (.returned v) u (Jvm.fieldLocs frame_1_writes args s ++ Jvm.arrayLocs frame_1_arrays args s ++ Jvm.staticLocs frame_1_statics s) 0 0 → Post tb e args s (.returned v) u) :
    ArmFor flags0 classFile x code maxLocals ret World_1 tables_1 room_1 Calls_1 rest_1 Pre_1 Post := by
  intro l hfl _ _ p e ha hc hk s m args below hf hA hF happ hP
  obtain ⟨hcalls, hrest, hpre⟩ := hP
  obtain ⟨-, -, -, hnamed, -, -, -, hat⟩ := (Spec.applies_iff hf).mp happ
  obtain ⟨hg, hn⟩ := and_e (Cond.before_iff.mp (show (Jvm.Cond.and given_1 narrow_1).before args s = true from hpre))
  obtain ⟨g0, gr0⟩ := and_e hg
  obtain ⟨v0, rfl⟩ : ∃ v0 : Value, args = #[v0] := by
    have hs : args.size = 1 := by simpa [Cond.value, given_1] using g0
    obtain ⟨L⟩ := args
    match L, hs with
    | [v0], _ => exact ⟨v0, rfl⟩
  have hw := fun d (hd : d ∈ tables_1) => atoms_spec (ws := Jvm.Cond.code x code maxLocals ret :: tables_1) hat d (List.mem_cons_of_mem _ hd)
  have hfit : Fit s := fun {y c} hc i hi => by
    obtain ⟨ha, rfl⟩ := Array.getElem?_eq_some_iff.mp hc
    have q := List.all_eq_true.mp ((Array.all_eq_true_iff_forall_mem.mp hF) _ (Array.getElem_mem ha)) i (List.mem_range.mpr hi)
    simpa [Array.getElem?_eq_getElem hi] using q
  obtain ⟨i0, ei0⟩ := is_v gr0
  obtain rfl : v0 = (.int i0) := Option.some.inj ei0
  obtain ⟨n0, nr0⟩ := and_e hn
  obtain ⟨n1, nr1⟩ := and_e nr0
  obtain ⟨n2, nr2⟩ := and_e nr1
  obtain ⟨n3, nr3⟩ := and_e nr2
  obtain ⟨n4, nr4⟩ := and_e nr3
  obtain ⟨n5, nr5⟩ := and_e nr4
  obtain ⟨n6, nr6⟩ := and_e nr5
  obtain ⟨w_OFF, ev_w_OFF⟩ := exa_v n0
  have S_w_OFF := Sta.start ev_w_OFF (Or.inr ⟨(hw _ (List.mem_of_getElem? (i := 1) rfl)), (hw _ (List.mem_of_getElem? (i := 2) rfl))⟩)
  have E_w_OFF := Exa.start ev_w_OFF n0
  obtain ⟨w_ADVISE, ev_w_ADVISE⟩ := exa_v n1
  have S_w_ADVISE := Sta.start ev_w_ADVISE (Or.inr ⟨(hw _ (List.mem_of_getElem? (i := 1) rfl)), (hw _ (List.mem_of_getElem? (i := 9) rfl))⟩)
  have E_w_ADVISE := Exa.start ev_w_ADVISE n1
  obtain ⟨w_AUTO, ev_w_AUTO⟩ := exa_v n4
  have S_w_AUTO := Sta.start ev_w_AUTO (Or.inr ⟨(hw _ (List.mem_of_getElem? (i := 1) rfl)), (hw _ (List.mem_of_getElem? (i := 11) rfl))⟩)
  have E_w_AUTO := Exa.start ev_w_AUTO n4
  obtain ⟨w_EXPLICIT, ev_w_EXPLICIT⟩ := exa_v n6
  have S_w_EXPLICIT := Sta.start ev_w_EXPLICIT (Or.inr ⟨(hw _ (List.mem_of_getElem? (i := 1) rfl)), (hw _ (List.mem_of_getElem? (i := 15) rfl))⟩)
  have E_w_EXPLICIT := Exa.start ev_w_EXPLICIT n6
  have F_ordinal_w_OFF := Fld.start ((fld_at ev_w_OFF).symm.trans (own_eqI n2))
  have F_ordinal_w_ADVISE := Fld.start ((fld_at ev_w_ADVISE).symm.trans (own_eqI n3))
  have F_ordinal_w_AUTO := Fld.start ((fld_at ev_w_AUTO).symm.trans (own_eqI n5))
  have F_ordinal_w_EXPLICIT := Fld.start ((fld_at ev_w_EXPLICIT).symm.trans (own_eqI nr6))
  have hne_w_OFF_w_ADVISE := F_ordinal_w_OFF.ne F_ordinal_w_ADVISE (by decide)
  have hne_w_OFF_w_AUTO := F_ordinal_w_OFF.ne F_ordinal_w_AUTO (by decide)
  have hne_w_OFF_w_EXPLICIT := F_ordinal_w_OFF.ne F_ordinal_w_EXPLICIT (by decide)
  have hne_w_ADVISE_w_AUTO := F_ordinal_w_ADVISE.ne F_ordinal_w_AUTO (by decide)
  have hne_w_ADVISE_w_EXPLICIT := F_ordinal_w_ADVISE.ne F_ordinal_w_EXPLICIT (by decide)
  have hne_w_AUTO_w_EXPLICIT := F_ordinal_w_AUTO.ne F_ordinal_w_EXPLICIT (by decide)
  obtain ⟨n, o, h1, h2, h3, _, L, rfl, ⟨rfl, N, -⟩, hq⟩ := rm0 l s _ hw tables_1 w_OFF w_ADVISE w_AUTO w_EXPLICIT s.heap s.heap.size (Nat.le_refl _) ⟨S_w_OFF, E_w_OFF, S_w_ADVISE, E_w_ADVISE, S_w_AUTO, E_w_AUTO, S_w_EXPLICIT, E_w_EXPLICIT, F_ordinal_w_OFF, F_ordinal_w_ADVISE, F_ordinal_w_AUTO, F_ordinal_w_EXPLICIT, hne_w_OFF_w_ADVISE, hne_w_OFF_w_AUTO, hne_w_OFF_w_EXPLICIT, hne_w_ADVISE_w_AUTO, hne_w_ADVISE_w_EXPLICIT, hne_w_AUTO_w_EXPLICIT⟩ i0 p e ha hc hk s m _ below hf ((Spec.applies_iff_loose hf).mp happ).1 ⟨rfl, State.Warmed39.refl s, rfl⟩ trivial
  refine ⟨n, _, h1, h2, h3, hpost _ _ _ _ _ _ ⟨Cond.after_iff.mpr rfl, Cond.after_iff.mpr (eq_i res_at (Term.int_eval (1)) rfl), trivial⟩ ⟨hq.1, hq.2.1, (hq.2.2.sift fun y hy => Or.inr (N y hy)).mono (by decide) (by decide)⟩⟩
theorem main_1_1 : Claimed_1_1 := comes_1 fun _ _ _ _ _ _ h hF => ⟨h.1, hF⟩
theorem main_1_2 : Claimed_1_2 := comes_1 fun _ _ _ _ _ _ h hF => ⟨h.2.1, hF⟩
end Jvm.Pilot.@@N@@
namespace Jvm.Pilot.@@N@@
open Jvm Jvm.ClassFile Sem Op Lib Jvm.Free Jvm.Stand Jvm.Pilot.@@N@@.Jvm.D
/-! MADE BY PROGRAM (witnessworld.py) out of the Statement's table words and the real class files: 12 classes; the members and pool entries that the words name. The judged class is class 1, her method 1. -/
namespace start1
open Jvm.ClassFile
def u (s : String) : CpInfo := .utf8 (stringToUtf16 s)
/-- a pool by its gaps: so many unusable entries, then the entry; so many at the end -/
def gap : Nat → List CpInfo → List CpInfo
  | 0, r => r
  | n + 1, r => .unusable :: gap n r
def poolList (es : List (Nat × CpInfo)) (last : Nat) : List CpInfo := es.foldr (fun e r => gap e.1 (e.2 :: r)) (gap last [])
def pool (es : List (Nat × CpInfo)) (last : Nat) : Array CpInfo := ⟨poolList es last⟩
def fileOf (pool : Array CpInfo) (this : Nat) (attrs : Array Attribute := #[]) (ms : Array MethodInfo := #[]) (fl : Nat := 33) (sup : Nat := 0) (ifs : Array Nat := #[]) (fds : Array FieldInfo := #[]) : ClassFile where
  minorVersion := 0
  majorVersion := 65
  constantPool := pool
  accessFlags := fl
  thisClass := this
  superClass := sup
  interfaces := ifs
  fields := fds
  methods := ms
  attributes := attrs
def plain (name : String) (sup : Option ClassId) : Class where
  name := name
  kind := .ordinary
  loader := none
  accessFlags := 33
  super := sup
  interfaces := #[]
  cf := none
  fields := #[]
  methods := #[]
  instanceTypes := #[]
  staticTypes := #[]
  resolved := #[]
  callSites := []
  init := .initialized
  statics := none
  mirror := none

def pool0 : Array CpInfo := pool [(5, u "<init>"), (0, u "()V"), (1, .class_ 10), (1, u "java/lang/Object")] 113

def k0m0 : Method := { name := "<init>", desc := "()V", sig := { parameters := [], returnType := none }, accessFlags := 1, code := none }
/-- java/lang/Object -/
def k0 : Class := { plain "java/lang/Object" none with
  accessFlags := 33
  interfaces := #[]
  cf := some (fileOf pool0 8 #[] #[{ accessFlags := 1, nameIndex := 5, descriptorIndex := 6, attributes := #[] }] 33 0 #[] #[])
  fields := #[]
  methods := #[k0m0]
  instanceTypes := #[]
  staticTypes := #[]
  resolved := Array.replicate 124 none
  statics := none }

def pool1 : Array CpInfo := pool [(2, .class_ 4), (1, u "java/lang/Object"), (0, u "<init>"), (0, u "()V"), (0, .fieldref 8 9), (0, .class_ 10), (0, .nameAndType 11 12), (0, u "com/example/darogan/darogan/Mode"), (0, u "OFF"), (0, u "Lcom/example/darogan/darogan/Mode;"), (0, .fieldref 8 14), (0, .nameAndType 15 12), (0, u "EXPLICIT"), (0, .fieldref 8 17), (0, .nameAndType 18 12), (0, u "ADVISE"), (0, .fieldref 8 20), (0, .nameAndType 21 12), (0, u "AUTO"), (0, .methodref 8 23), (0, .nameAndType 24 25), (0, u "learns"), (0, u "()Z"), (0, .class_ 27), (0, u "com/example/darogan/darogan/ModeLearnsPinLaw"), (2, u "law"), (0, u "(I)Z")] 3

def k1m0 : Method := { name := "<init>", desc := "()V", sig := { parameters := [], returnType := none }, accessFlags := 2, code := none }
def k1c1 : Code := { maxStack := 2, maxLocals := 4, code := code, exceptionTable := #[], attributes := #[] }
def k1m1 : Method := { name := "law", desc := "(I)Z", sig := { parameters := [.int], returnType := some .boolean }, accessFlags := 9, code := some k1c1 }
/-- com/example/darogan/darogan/ModeLearnsPinLaw -/
def k1 : Class := { plain "com/example/darogan/darogan/ModeLearnsPinLaw" (some 0) with
  accessFlags := 49
  interfaces := #[]
  cf := some (fileOf pool1 26 #[] #[{ accessFlags := 2, nameIndex := 5, descriptorIndex := 6, attributes := #[] }, { accessFlags := 9, nameIndex := 30, descriptorIndex := 31, attributes := #[] }] 49 2 #[] #[])
  fields := #[]
  methods := #[k1m0, k1m1]
  instanceTypes := #[]
  staticTypes := #[]
  resolved := Array.replicate 35 none
  statics := none }

def pool2 : Array CpInfo := pool [(1, .class_ 2), (0, u "java/lang/constant/Constable"), (0, .class_ 4), (0, u "java/lang/Object")] 6

/-- java/lang/constant/Constable -/
def k2 : Class := { plain "java/lang/constant/Constable" (some 0) with
  accessFlags := 1537
  interfaces := #[]
  cf := some (fileOf pool2 1 #[] #[] 1537 3 #[] #[])
  fields := #[]
  methods := #[]
  instanceTypes := #[]
  staticTypes := #[]
  resolved := Array.replicate 11 none
  statics := none }

def pool3 : Array CpInfo := pool [(1, .class_ 2), (0, u "java/lang/Comparable"), (0, .class_ 4), (0, u "java/lang/Object")] 7

/-- java/lang/Comparable -/
def k3 : Class := { plain "java/lang/Comparable" (some 0) with
  accessFlags := 1537
  interfaces := #[]
  cf := some (fileOf pool3 1 #[] #[] 1537 3 #[] #[])
  fields := #[]
  methods := #[]
  instanceTypes := #[]
  staticTypes := #[]
  resolved := Array.replicate 12 none
  statics := none }

def pool4 : Array CpInfo := pool [(1, .class_ 2), (0, u "java/io/Serializable"), (0, .class_ 4), (0, u "java/lang/Object")] 2

/-- java/io/Serializable -/
def k4 : Class := { plain "java/io/Serializable" (some 0) with
  accessFlags := 1537
  interfaces := #[]
  cf := some (fileOf pool4 1 #[] #[] 1537 3 #[] #[])
  fields := #[]
  methods := #[]
  instanceTypes := #[]
  staticTypes := #[]
  resolved := Array.replicate 7 none
  statics := none }

def pool5 : Array CpInfo := pool [(2, .class_ 4), (1, u "java/lang/Enum"), (0, u "name"), (0, u "Ljava/lang/String;"), (2, u "ordinal"), (0, u "I"), (1, .class_ 14), (1, u "java/lang/Object"), (4, u "hash"), (86, .class_ 108), (1, u "java/lang/Enum$EnumDesc"), (2, .class_ 112), (0, u "java/lang/constant/Constable"), (0, .class_ 114), (0, u "java/lang/Comparable"), (0, .class_ 116), (0, u "java/io/Serializable")] 87

/-- java/lang/Enum -/
def k5 : Class := { plain "java/lang/Enum" (some 0) with
  accessFlags := 1057
  interfaces := #[2, 3, 4]
  cf := some (fileOf pool5 2 #[.nestMembers #[106]] #[] 1057 12 #[111, 113, 115] #[{ accessFlags := 18, nameIndex := 5, descriptorIndex := 6, attributes := #[] }, { accessFlags := 18, nameIndex := 9, descriptorIndex := 10, attributes := #[] }, { accessFlags := 2, nameIndex := 19, descriptorIndex := 10, attributes := #[] }])
  fields := #[{ name := "name", type := (.object "java/lang/String"), accessFlags := 18, slot := 0, constantValue := 0 }, { name := "ordinal", type := .int, accessFlags := 18, slot := 1, constantValue := 0 }, { name := "hash", type := .int, accessFlags := 2, slot := 2, constantValue := 0 }]
  methods := #[]
  instanceTypes := #[(.object "java/lang/String"), .int, .int]
  staticTypes := #[]
  resolved := Array.replicate 204 none
  statics := none }

def pool6 : Array CpInfo := pool [(1, .class_ 2), (0, u "com/example/darogan/darogan/Mode"), (2, u "OFF"), (0, u "Lcom/example/darogan/darogan/Mode;"), (2, u "EXPLICIT"), (0, .fieldref 1 11), (0, .nameAndType 12 6), (0, u "ADVISE"), (0, .fieldref 1 14), (0, .nameAndType 15 6), (0, u "AUTO"), (2, u "$VALUES"), (0, u "[Lcom/example/darogan/darogan/Mode;"), (6, .class_ 28), (1, u "java/lang/Enum"), (39, u "learns"), (0, u "()Z")] 6

def k6c0 : Code := { maxStack := 2, maxLocals := 1, code := prog_13_method_5_code, exceptionTable := #[], attributes := #[] }
def k6m0 : Method := { name := "learns", desc := "()Z", sig := { parameters := [], returnType := some .boolean }, accessFlags := 0, code := some k6c0 }
/-- com/example/darogan/darogan/Mode -/
def k6 : Class := { plain "com/example/darogan/darogan/Mode" (some 5) with
  accessFlags := 16433
  interfaces := #[]
  cf := some (fileOf pool6 1 #[] #[{ accessFlags := 0, nameIndex := 68, descriptorIndex := 69, attributes := #[] }] 16433 26 #[] #[{ accessFlags := 16409, nameIndex := 5, descriptorIndex := 6, attributes := #[] }, { accessFlags := 16409, nameIndex := 9, descriptorIndex := 6, attributes := #[] }, { accessFlags := 16409, nameIndex := 12, descriptorIndex := 6, attributes := #[] }, { accessFlags := 16409, nameIndex := 15, descriptorIndex := 6, attributes := #[] }, { accessFlags := 4122, nameIndex := 18, descriptorIndex := 19, attributes := #[] }])
  fields := #[{ name := "OFF", type := (.object "com/example/darogan/darogan/Mode"), accessFlags := 16409, slot := 0, constantValue := 0 }, { name := "EXPLICIT", type := (.object "com/example/darogan/darogan/Mode"), accessFlags := 16409, slot := 1, constantValue := 0 }, { name := "ADVISE", type := (.object "com/example/darogan/darogan/Mode"), accessFlags := 16409, slot := 2, constantValue := 0 }, { name := "AUTO", type := (.object "com/example/darogan/darogan/Mode"), accessFlags := 16409, slot := 3, constantValue := 0 }, { name := "$VALUES", type := (.array (.object "com/example/darogan/darogan/Mode")), accessFlags := 4122, slot := 4, constantValue := 0 }]
  methods := #[k6m0]
  instanceTypes := #[(.object "java/lang/String"), .int, .int]
  staticTypes := #[(.object "com/example/darogan/darogan/Mode"), (.object "com/example/darogan/darogan/Mode"), (.object "com/example/darogan/darogan/Mode"), (.object "com/example/darogan/darogan/Mode"), (.array (.object "com/example/darogan/darogan/Mode"))]
  resolved := Array.replicate 76 none
  statics := some 0 }

def pool7 : Array CpInfo := pool [(1, u "java/lang/Cloneable"), (0, .class_ 1), (0, u "java/lang/Object"), (0, .class_ 3)] 3

/-- java/lang/Cloneable -/
def k7 : Class := { plain "java/lang/Cloneable" (some 0) with
  accessFlags := 1537
  interfaces := #[]
  cf := some (fileOf pool7 2 #[] #[] 1537 4 #[] #[])
  fields := #[]
  methods := #[]
  instanceTypes := #[]
  staticTypes := #[]
  resolved := Array.replicate 8 none
  statics := none }

/-- the primitive byte -/
def k8 : Class := { plain "byte" none with kind := .primitive 'B', accessFlags := 0x411 }
/-- [B -/
def k9 : Class := { plain "[B" (some 0) with kind := .array 8 .byte, interfaces := #[7, 4], accessFlags := 1041 }

/-- the primitive int -/
def k10 : Class := { plain "int" none with kind := .primitive 'I', accessFlags := 0x411 }
/-- [I -/
def k11 : Class := { plain "[I" (some 0) with kind := .array 10 .int, interfaces := #[7, 4], accessFlags := 1041 }

def heap : Heap := #[{ cls := 6, slots := #[.ref 1, .ref 4, .ref 2, .ref 3, .null], vm := .statics 6 },
  { cls := 6, slots := #[.null, .int 0, .int 0], vm := .none },
  { cls := 6, slots := #[.null, .int 2, .int 0], vm := .none },
  { cls := 6, slots := #[.null, .int 3, .int 0], vm := .none },
  { cls := 6, slots := #[.null, .int 1, .int 0], vm := .none }]
def classes : Array Class := #[k0, k1, k2, k3, k4, k5, k6, k7, k8, k9, k10, k11]
def interned : List (Array UInt16 × Addr) := []
def slotsUsed : Nat := 17
def theMethod : MethodId := ⟨1, 1⟩
def args0 : Array Value := #[.int 5]
def aboutOver (below : List Frame) : State where
  vm := { classes := classes, interned := interned.toArray }
  heap := heap
  slotsUsed := slotsUsed
  threads := #[{ frames := .invoking theMethod args0 :: below }]
def below0 : List Frame := [.native { method := ⟨0, 0⟩, args := #[] }]
def about1 : State := aboutOver below0
def p0 : Program := .bare "" "" ""
def e0 : Env := launch0.env 0 0 0
theorem w_frames : about1.frames = Frame.invoking theMethod args0 :: below0 := rfl
set_option maxRecDepth 65536 in
theorem w_args : argsFit about1.vm theMethod args0 = true := by decide +kernel
set_option maxRecDepth 65536 in
theorem w_heap : heapFits about1 = true := by decide +kernel
set_option maxRecDepth 65536 in
theorem w_runnable : about1.curStatus? = some .runnable := by decide +kernel
set_option maxRecDepth 65536 in
theorem w_alone : about1.alone = true := by decide +kernel
set_option maxRecDepth 65536 in
theorem w_named : about1.methodNamed? x = some theMethod := by decide +kernel
set_option maxRecDepth 65536 in
theorem w_hears : about1.hears theMethod below0 = true := by decide +kernel
set_option maxRecDepth 65536 in
theorem w_ripe : about1.ripe theMethod args0 below0 = true := by decide +kernel
theorem w_running : about1.status = .running := rfl
set_option maxRecDepth 65536 in
theorem w_room : about1.hasRoom e0.platform room_1 = true :=
  launch0.hasRoom_least _ room_1 (by decide +kernel) (by decide +kernel) (by decide +kernel) (by decide +kernel) (by decide +kernel) (by decide +kernel)
theorem allAtoms_all (ts : List Jvm.Cond) (a : Array Jvm.Value) (st : Jvm.State) : (allAtoms ts).before a st = ts.all (fun c => c.before a st) := by
  induction ts with
  | nil => rfl
  | cons c t ih =>
    show (Jvm.Cond.and c (allAtoms t)).before a st = _
    rw [Jvm.Cond.before_and, ih, List.all_cons]
def words1 : List Jvm.Cond := Jvm.Cond.code x code maxLocals ret :: tables_1
/-- a 'code' word, met by the world's own term for the bytes: nothing is compared byte by byte -/
theorem code_word {y : MethodName} {bytes : ByteArray} {mx : Nat} {rt : Option FieldType} {a : Array Value} {s : State} {m : MethodId} {meth : Method} {c : Code} (h1 : s.methodNamed? y = some m) (h2 : s.vm.method? m = some meth) (h3 : meth.code = some c) (h4 : c.code = bytes)
    (h5 : (c.maxLocals == mx && c.exceptionTable.isEmpty && decide (c.maxStack ≤ mostOperands) && decide (meth.sig.returnType = rt) && !meth.locks && decide (parseMethodDescriptor y.desc = some meth.sig)) = true) : (Jvm.Cond.code y bytes mx rt).before a s = true := by
  simp only [Bool.and_eq_true, beq_iff_eq, Bool.not_eq_true', decide_eq_true_eq] at h5
  obtain ⟨⟨⟨⟨⟨g1, g2⟩, g3⟩, g4⟩, g5⟩, g6⟩ := h5
  simp [Cond.before, Cond.holds, Cond.value, h1, h2, h3, h4, g1, g2, g3, g4, g5, g6]
def isCode : Jvm.Cond → Bool
  | .code _ _ _ _ => true
  | _ => false
theorem all_split {L : List Jvm.Cond} {P : Jvm.Cond → Bool} (h1 : L.all (fun c => isCode c || P c) = true) (h2 : ∀ c ∈ L.filter isCode, P c = true) : L.all P = true := by
  refine List.all_eq_true.mpr fun c hc => ?_
  have h := List.all_eq_true.mp h1 c hc
  rcases Bool.eq_false_or_eq_true (isCode c) with hi | hi
  · exact h2 c (List.mem_filter.mpr ⟨hc, hi⟩)
  · simpa [hi] using h
set_option maxRecDepth 65536 in
theorem w_c0 : (Jvm.Cond.code x code maxLocals ret).before args0 about1 = true := code_word (m := ⟨1, 1⟩) (meth := k1m1) (c := k1c1) (by decide +kernel) rfl rfl rfl (by decide +kernel)
set_option maxRecDepth 65536 in
theorem w_c1 : (Jvm.Cond.code ({ cls := "com/example/darogan/darogan/Mode", name := "learns", desc := "()Z" } : Jvm.MethodName) prog_13_method_5_code (1 : Nat) (Option.some Jvm.ClassFile.FieldType.boolean)).before args0 about1 = true := code_word (m := ⟨6, 0⟩) (meth := k6m0) (c := k6c0) (by decide +kernel) rfl rfl rfl (by decide +kernel)
def codes1 : List Jvm.Cond := [Jvm.Cond.code x code maxLocals ret, Jvm.Cond.code ({ cls := "com/example/darogan/darogan/Mode", name := "learns", desc := "()Z" } : Jvm.MethodName) prog_13_method_5_code (1 : Nat) (Option.some Jvm.ClassFile.FieldType.boolean)]
set_option maxRecDepth 65536 in
theorem codes_eq : words1.filter isCode = codes1 := rfl
theorem w_codes : ∀ c ∈ words1.filter isCode, c.before args0 about1 = true := by
  rw [codes_eq]
  intro c hc
  simp only [codes1, List.mem_cons, List.not_mem_nil, or_false] at hc
  rcases hc with rfl | rfl
  · exact w_c0
  · exact w_c1
set_option maxRecDepth 65536 in
theorem w_t1 : words1.all (fun c => isCode c || c.before args0 about1) = true := by decide +kernel
theorem w_tables : (allAtoms (Jvm.Cond.code x code maxLocals ret :: tables_1)).before args0 about1 = true := by
  rw [allAtoms_all]
  show words1.all (fun c => c.before args0 about1) = true
  refine all_split ?_ w_codes
  rw [w_t1]
set_option maxRecDepth 65536 in
theorem w_case : (Jvm.Cond.and given_1 narrow_1).before args0 about1 = true := by decide +kernel
theorem w_applies : (headSpec (Jvm.Cond.code x code maxLocals ret :: tables_1) room_1).applies x e0.platform about1 = true :=
  (Spec.applies_iff w_frames).mpr ⟨w_running, w_runnable, w_alone, w_named, w_hears, w_ripe, w_room, w_tables⟩
theorem atStart : AtStart classFile x code maxLocals ret World_1 tables_1 room_1 Calls_1 rest_1 Pre_1 launch0 p0 e0 about1 theMethod args0 below0 :=
  ⟨lists_1, trivial, launch0.admits_env _ _ _, launch0.least_env, fairChoices_fair.cas, fairChoices_fair.clock, w_frames, w_args, w_heap, w_applies, trivial, trivial, w_case⟩
end start1
theorem witness_1 : WitnessClaimed_1 := ⟨start1.p0, start1.e0, start1.about1, start1.theMethod, start1.args0, start1.below0, start1.atStart⟩
end Jvm.Pilot.@@N@@
