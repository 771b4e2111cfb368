import JvmDerived
import JvmDerived.Pilot.@@N@@Statement
import JvmDerived.Pilot.@@N@@Code
set_option linter.unusedVariables false
set_option linter.unusedSimpArgs false
@@BLOCK:NumsL.lean.txt@@
namespace Jvm.Pilot.@@N@@
open Jvm Jvm.ClassFile Sem Op Lib Jvm.Free Jvm.Stand Jvm.LawKit Jvm.RoadKit Bundle Jvm.Pilot.@@N@@.Jvm.D
theorem own_eqI {t : Term} {k : Int32} {args : Array Value} {Z : State} (h : (Jvm.Cond.eq t (Jvm.Term.int k)).value args Z none Z [] = some true) : t.eval args Z none [] Z = some (.int k) := by
  simp only [Cond.value, Term.eval] at h
  cases ht : t.eval args Z none [] Z with
  | none => simp [ht] at h
  | some v => cases v <;> simp [ht] at h ⊢; exact h
theorem own_mod6 (x : Int32) : ((x &&& (2147483647 : Int32)) % (6 : Int32)) = (0 : Int32) ∨ ((x &&& (2147483647 : Int32)) % (6 : Int32)) = (1 : Int32) ∨ ((x &&& (2147483647 : Int32)) % (6 : Int32)) = (2 : Int32) ∨ ((x &&& (2147483647 : Int32)) % (6 : Int32)) = (3 : Int32) ∨ ((x &&& (2147483647 : Int32)) % (6 : Int32)) = (4 : Int32) ∨ ((x &&& (2147483647 : Int32)) % (6 : Int32)) = (5 : Int32) := by
  have e : (x &&& (2147483647 : Int32)).toInt = x.toInt % 2 ^ 31 := Jvm.Kit.i32_mask x 2147483647 (k := 31) (by decide) (by decide)
  have h0 : 0 ≤ (x &&& (2147483647 : Int32)).toInt := by rw [e]; exact Int.emod_nonneg _ (by decide)
  have r := Jvm.Kit.i32_rem_nonneg (y := (6 : Int32)) h0
  have e0 : (0 : Int32).toInt = 0 := rfl
  have e1 : (1 : Int32).toInt = 1 := rfl
  have e2 : (2 : Int32).toInt = 2 := rfl
  have e3 : (3 : Int32).toInt = 3 := rfl
  have e4 : (4 : Int32).toInt = 4 := rfl
  have e5 : (5 : Int32).toInt = 5 := rfl
  have e6 : (6 : Int32).toInt = 6 := rfl
  have h1 : 0 ≤ (x &&& (2147483647 : Int32)).toInt % 6 := Int.emod_nonneg _ (by decide)
  have h2 : (x &&& (2147483647 : Int32)).toInt % 6 < 6 := Int.emod_lt_of_pos _ (by decide)
  simp only [← Int32.toInt_inj, r, e0, e1, e2, e3, e4, e5, e6]
  omega
/-- what the law's case says of the enum constants -/
def SF (Z : State) (h : Heap) (w_READ w_WRITE w_INSERT w_PHANTOM w_SCHEMA w_SCHEMA_EXCLUSIVE : Addr) : Prop := (Sta Z h "com/example/oyster/oyster/engine/LockMode" "READ" "Lcom/example/oyster/oyster/engine/LockMode;" (.ref w_READ)) ∧ (Exa Z h w_READ "com/example/oyster/oyster/engine/LockMode") ∧ (Sta Z h "com/example/oyster/oyster/engine/LockMode" "WRITE" "Lcom/example/oyster/oyster/engine/LockMode;" (.ref w_WRITE)) ∧ (Exa Z h w_WRITE "com/example/oyster/oyster/engine/LockMode") ∧ (Sta Z h "com/example/oyster/oyster/engine/LockMode" "INSERT" "Lcom/example/oyster/oyster/engine/LockMode;" (.ref w_INSERT)) ∧ (Exa Z h w_INSERT "com/example/oyster/oyster/engine/LockMode") ∧ (Sta Z h "com/example/oyster/oyster/engine/LockMode" "PHANTOM" "Lcom/example/oyster/oyster/engine/LockMode;" (.ref w_PHANTOM)) ∧ (Exa Z h w_PHANTOM "com/example/oyster/oyster/engine/LockMode") ∧ (Sta Z h "com/example/oyster/oyster/engine/LockMode" "SCHEMA" "Lcom/example/oyster/oyster/engine/LockMode;" (.ref w_SCHEMA)) ∧ (Exa Z h w_SCHEMA "com/example/oyster/oyster/engine/LockMode") ∧ (Sta Z h "com/example/oyster/oyster/engine/LockMode" "SCHEMA_EXCLUSIVE" "Lcom/example/oyster/oyster/engine/LockMode;" (.ref w_SCHEMA_EXCLUSIVE)) ∧ (Exa Z h w_SCHEMA_EXCLUSIVE "com/example/oyster/oyster/engine/LockMode") ∧ (Fld Z h w_READ "java/lang/Enum" "ordinal" "I" (.int (0 : Int32))) ∧ (Fld Z h w_WRITE "java/lang/Enum" "ordinal" "I" (.int (1 : Int32))) ∧ (Fld Z h w_INSERT "java/lang/Enum" "ordinal" "I" (.int (3 : Int32))) ∧ (Fld Z h w_PHANTOM "java/lang/Enum" "ordinal" "I" (.int (2 : Int32))) ∧ (Fld Z h w_SCHEMA "java/lang/Enum" "ordinal" "I" (.int (4 : Int32))) ∧ (Fld Z h w_SCHEMA_EXCLUSIVE "java/lang/Enum" "ordinal" "I" (.int (5 : Int32))) ∧ (w_READ ≠ w_WRITE) ∧ (w_READ ≠ w_INSERT) ∧ (w_READ ≠ w_PHANTOM) ∧ (w_READ ≠ w_SCHEMA) ∧ (w_READ ≠ w_SCHEMA_EXCLUSIVE) ∧ (w_WRITE ≠ w_INSERT) ∧ (w_WRITE ≠ w_PHANTOM) ∧ (w_WRITE ≠ w_SCHEMA) ∧ (w_WRITE ≠ w_SCHEMA_EXCLUSIVE) ∧ (w_INSERT ≠ w_PHANTOM) ∧ (w_INSERT ≠ w_SCHEMA) ∧ (w_INSERT ≠ w_SCHEMA_EXCLUSIVE) ∧ (w_PHANTOM ≠ w_SCHEMA) ∧ (w_PHANTOM ≠ w_SCHEMA_EXCLUSIVE) ∧ (w_SCHEMA ≠ w_SCHEMA_EXCLUSIVE)
/-- a body that writes nothing and returns w -/
def QP (h0 : Heap) (n0 : Nat) (w : Option Value) (v : Option Value) (h : Heap) (L : List Loc) : Prop := v = w ∧ Fr n0 L ∧ h = h0
abbrev Pay (l : Launch) (Z : State) (y : MethodName) (ws : List Jvm.Cond) (bytes : ByteArray) (ml : Nat) (rt : Option FieldType) (as' : Array Value) (h0 : Heap) (n0 : Nat) (rm : Room) (w : Option Value) : Prop :=
  MetFree l y (head1 (Jvm.Cond.code y bytes ml rt :: ws) rm) (fun a U => a = as' ∧ Z.Warmed39 U.vm ∧ U.heap = h0) (fun _ _ _ _ _ => True) (fun _ U o U' => ∃ v L, o = .returned v ∧ QP h0 n0 w v U'.heap L ∧ FrameEnd U o U' L rm.cells rm.slots)
theorem d1_0 : decode prog_62_method_8_code 0 = .ok (.aload_n 0, 1) := by decide +kernel
theorem d1_1 : decode prog_62_method_8_code 1 = .ok (.getstatic 3, 3) := by decide +kernel
theorem d1_4 : decode prog_62_method_8_code 4 = .ok (.if_acmp .eq 17, 3) := by decide +kernel
theorem d1_21 : decode prog_62_method_8_code 21 = .ok (.iconst 1, 1) := by decide +kernel
theorem d1_22 : decode prog_62_method_8_code 22 = .ok (.goto 4, 3) := by decide +kernel
theorem d1_26 : decode prog_62_method_8_code 26 = .ok (.ireturn, 1) := by decide +kernel
theorem pn_0 : plainName "com/example/oyster/oyster/engine/LockMode" = true := by first | (simp [plainName, overriddenIn]; done) | decide +kernel
set_option maxRecDepth 65536 in
set_option maxHeartbeats 40000000 in
theorem rm1_0 (l : Launch) (Z : State) (a0 : Array Value) (hw : ∀ d ∈ tables_1, d.before a0 Z = true) (ws : List Jvm.Cond) (w_READ w_WRITE w_INSERT w_PHANTOM w_SCHEMA w_SCHEMA_EXCLUSIVE : Addr) (h0 : Heap) (n0 : Nat) (Z0 : n0 ≤ h0.size) (S : SF Z h0 w_READ w_WRITE w_INSERT w_PHANTOM w_SCHEMA w_SCHEMA_EXCLUSIVE) :
    Pay l Z (⟨"com/example/oyster/oyster/engine/LockMode", "isForReading", "()Z"⟩ : MethodName) ws prog_62_method_8_code 1 (some .boolean) #[(.ref w_READ)] h0 n0 ({ frames := 0, cells := 0, slots := 0, locals := 0 } : Room) (some (.int (1 : Int32))) := by
  obtain ⟨S_w_READ, E_w_READ, S_w_WRITE, E_w_WRITE, S_w_INSERT, E_w_INSERT, S_w_PHANTOM, E_w_PHANTOM, S_w_SCHEMA, E_w_SCHEMA, S_w_SCHEMA_EXCLUSIVE, E_w_SCHEMA_EXCLUSIVE, F_ordinal_w_READ, F_ordinal_w_WRITE, F_ordinal_w_INSERT, F_ordinal_w_PHANTOM, F_ordinal_w_SCHEMA, F_ordinal_w_SCHEMA_EXCLUSIVE, hne_w_READ_w_WRITE, hne_w_READ_w_INSERT, hne_w_READ_w_PHANTOM, hne_w_READ_w_SCHEMA, hne_w_READ_w_SCHEMA_EXCLUSIVE, hne_w_WRITE_w_INSERT, hne_w_WRITE_w_PHANTOM, hne_w_WRITE_w_SCHEMA, hne_w_WRITE_w_SCHEMA_EXCLUSIVE, hne_w_INSERT_w_PHANTOM, hne_w_INSERT_w_SCHEMA, hne_w_INSERT_w_SCHEMA_EXCLUSIVE, hne_w_PHANTOM_w_SCHEMA, hne_w_PHANTOM_w_SCHEMA_EXCLUSIVE, hne_w_SCHEMA_w_SCHEMA_EXCLUSIVE⟩ := id S
  refine MetFree.of_bodySF (plainFor_of_name pn_0) hisR ?_
  intro p e s m args below meth c s₁ Bd hml0 hP hK
  obtain ⟨rfl, hZ, hh⟩ := hP
  have hx := Bd.exec
  have hby := Bd.bytes
  have hml : c.maxLocals = 1 := hml0
  have hown : s.vm.findClass "com/example/oyster/oyster/engine/LockMode" = some m.cls := findClass_of_methodNamed Bd.named
  have X0 : Stand p l e ({ frames := 0, cells := 0, slots := 0, locals := 0 } : Room) s m #[(.ref w_READ)] below meth c s₁ [] 0 0 := Stand.of_body Bd
  have e0 : s₁.heap = h0 := by rw [← hh, Bd.state]; rfl
  have N0 := Fr.nil n0
  have pre0 : ∀ t, Steps p.tables e below (s₁.setTop (mkF m 0 #[.val (.ref w_READ)] [])) t → Steps p.tables e below (s₁.setTop (entryFrame m #[(.ref w_READ)] 1)) t := fun t k => castTop (by first | rfl | (simp [entryFrame, mkF, argsToLocals, Value.category]; done)) k
  obtain ⟨T1, X1, e1, st1⟩ := getS2 X0 hx hZ hown (host := "") (Or.inl (hw _ (List.mem_of_getElem? (i := 9) rfl))) Via.refl e0 S_w_READ (g := (mkF m 1 #[.val (.ref w_READ)] [(.ref w_READ)])) rfl (hb hby d1_1)
  obtain ⟨fs, hr, hrun, hended, hW, hsame⟩ := X1.leave (v := (some (.int (1 : Int32)))) (fun h => by rw [Bd.returns] at h; cases h)
  refine ⟨_, _, pre0 _ ?_, hrun, hended, _, _, rfl, ⟨rfl, N0, e1⟩, ⟨_, rfl⟩, hW, hsame.mono (by decide) (by decide)⟩
  show Steps p.tables e below (s₁.setTop (mkF m 0 #[.val (.ref w_READ)] [])) _
  refine XS.aloadN X0.here hx rfl (hb hby d1_0) rfl rfl ?_
  show Steps p.tables e below (s₁.setTop (mkF m 1 #[.val (.ref w_READ)] [(.ref w_READ)])) _
  refine st1 _ ?_
  show Steps p.tables e below (T1.setTop (mkF m 4 #[.val (.ref w_READ)] [(.ref w_READ), (.ref w_READ)])) _
  refine Jvm.RoadKit.acmp (g := (mkF m 4 #[.val (.ref w_READ)] [(.ref w_READ), (.ref w_READ)])) X1 hx rfl rfl rfl (pc0 := 4) (pc' := 21) (same := true) rfl (hb hby d1_4) rfl (decide_eq_true rfl) (by decide) (by decide) ?_
  show Steps p.tables e below (T1.setTop (mkF m 21 #[.val (.ref w_READ)] [])) _
  refine XS.iconst X1.here hx rfl (hb hby d1_21) ?_
  show Steps p.tables e below (T1.setTop (mkF m 22 #[.val (.ref w_READ)] [(.int (1 : Int32))])) _
  refine XS.goto X1.here hx rfl (pc0 := 22) (pc' := 26) rfl (hb hby d1_22) (by decide) (by decide) ?_
  show Steps p.tables e below (T1.setTop (mkF m 26 #[.val (.ref w_READ)] [(.int (1 : Int32))])) _
  exact retN X1 hx (t := .boolean) Bd.returns (by simp) (hb hby d1_26) hr
theorem pd_0 : parseMethodDescriptor "()Z" = some ⟨[], some .boolean⟩ := by decide +kernel
theorem d2_0 : decode prog_62_method_9_code 0 = .ok (.aload_n 0, 1) := by decide +kernel
theorem d2_1 : decode prog_62_method_9_code 1 = .ok (.invokevirtual 57, 3) := by decide +kernel
theorem d3_0 : decode jdk_37_method_2_code 0 = .ok (.aload_n 0, 1) := by decide +kernel
theorem d3_1 : decode jdk_37_method_2_code 1 = .ok (.getfield 7, 3) := by decide +kernel
theorem d3_4 : decode jdk_37_method_2_code 4 = .ok (.ireturn, 1) := by decide +kernel
theorem pn_1 : plainName "java/lang/Enum" = true := by first | (simp [plainName, overriddenIn]; done) | decide +kernel
set_option maxRecDepth 65536 in
set_option maxHeartbeats 40000000 in
theorem rm3_0 (l : Launch) (Z : State) (a0 : Array Value) (hw : ∀ d ∈ tables_1, d.before a0 Z = true) (ws : List Jvm.Cond) (w_READ w_WRITE w_INSERT w_PHANTOM w_SCHEMA w_SCHEMA_EXCLUSIVE : Addr) (h0 : Heap) (n0 : Nat) (Z0 : n0 ≤ h0.size) (S : SF Z h0 w_READ w_WRITE w_INSERT w_PHANTOM w_SCHEMA w_SCHEMA_EXCLUSIVE) :
    Pay l Z (⟨"java/lang/Enum", "ordinal", "()I"⟩ : MethodName) ws jdk_37_method_2_code 1 (some .int) #[(.ref w_READ)] h0 n0 ({ frames := 0, cells := 0, slots := 0, locals := 0 } : Room) (some (.int (0 : Int32))) := by
  obtain ⟨S_w_READ, E_w_READ, S_w_WRITE, E_w_WRITE, S_w_INSERT, E_w_INSERT, S_w_PHANTOM, E_w_PHANTOM, S_w_SCHEMA, E_w_SCHEMA, S_w_SCHEMA_EXCLUSIVE, E_w_SCHEMA_EXCLUSIVE, F_ordinal_w_READ, F_ordinal_w_WRITE, F_ordinal_w_INSERT, F_ordinal_w_PHANTOM, F_ordinal_w_SCHEMA, F_ordinal_w_SCHEMA_EXCLUSIVE, hne_w_READ_w_WRITE, hne_w_READ_w_INSERT, hne_w_READ_w_PHANTOM, hne_w_READ_w_SCHEMA, hne_w_READ_w_SCHEMA_EXCLUSIVE, hne_w_WRITE_w_INSERT, hne_w_WRITE_w_PHANTOM, hne_w_WRITE_w_SCHEMA, hne_w_WRITE_w_SCHEMA_EXCLUSIVE, hne_w_INSERT_w_PHANTOM, hne_w_INSERT_w_SCHEMA, hne_w_INSERT_w_SCHEMA_EXCLUSIVE, hne_w_PHANTOM_w_SCHEMA, hne_w_PHANTOM_w_SCHEMA_EXCLUSIVE, hne_w_SCHEMA_w_SCHEMA_EXCLUSIVE⟩ := id S
  refine MetFree.of_bodySF (plainFor_of_name pn_1) hisR ?_
  intro p e s m args below meth c s₁ Bd hml0 hP hK
  obtain ⟨rfl, hZ, hh⟩ := hP
  have hx := Bd.exec
  have hby := Bd.bytes
  have hml : c.maxLocals = 1 := hml0
  have hown : s.vm.findClass "java/lang/Enum" = some m.cls := findClass_of_methodNamed Bd.named
  have X0 : Stand p l e ({ frames := 0, cells := 0, slots := 0, locals := 0 } : Room) s m #[(.ref w_READ)] below meth c s₁ [] 0 0 := Stand.of_body Bd
  have e0 : s₁.heap = h0 := by rw [← hh, Bd.state]; rfl
  have N0 := Fr.nil n0
  have pre0 : ∀ t, Steps p.tables e below (s₁.setTop (mkF m 0 #[.val (.ref w_READ)] [])) t → Steps p.tables e below (s₁.setTop (entryFrame m #[(.ref w_READ)] 1)) t := fun t k => castTop (by first | rfl | (simp [entryFrame, mkF, argsToLocals, Value.category]; done)) k
  obtain ⟨T1, X1, e1, st1⟩ := getF X0 hx hZ hown (host := "") (Or.inl (hw _ (List.mem_of_getElem? (i := 22) rfl))) Via.refl e0 F_ordinal_w_READ (g := (mkF m 1 #[.val (.ref w_READ)] [(.ref w_READ)])) rfl rfl (hb hby d3_1)
  obtain ⟨fs, hr, hrun, hended, hW, hsame⟩ := X1.leave (v := (some (.int (0 : Int32)))) (fun h => by rw [Bd.returns] at h; cases h)
  refine ⟨_, _, pre0 _ ?_, hrun, hended, _, _, rfl, ⟨rfl, N0, e1⟩, ⟨_, rfl⟩, hW, hsame.mono (by decide) (by decide)⟩
  show Steps p.tables e below (s₁.setTop (mkF m 0 #[.val (.ref w_READ)] [])) _
  refine XS.aloadN X0.here hx rfl (hb hby d3_0) rfl rfl ?_
  show Steps p.tables e below (s₁.setTop (mkF m 1 #[.val (.ref w_READ)] [(.ref w_READ)])) _
  refine st1 _ ?_
  show Steps p.tables e below (T1.setTop (mkF m 4 #[.val (.ref w_READ)] [(.int (0 : Int32))])) _
  exact retOut X1 hx (t := .int) (i := .ireturn) Bd.returns rfl (Or.inl ⟨rfl, Or.inl rfl, _, rfl⟩) (hb hby d3_4) hr
theorem pd_1 : parseMethodDescriptor "()I" = some ⟨[], some .int⟩ := by decide +kernel
theorem d2_4 : decode prog_62_method_9_code 4 = .ok (.tableswitch 40 0 5 #[50, 65, 87, 102, 117, 132], 40) := by decide +kernel
theorem d2_54 : decode prog_62_method_9_code 54 = .ok (.aload_n 1, 1) := by decide +kernel
theorem d2_55 : decode prog_62_method_9_code 55 = .ok (.getstatic 7, 3) := by decide +kernel
theorem d2_58 : decode prog_62_method_9_code 58 = .ok (.if_acmp .ne 7, 3) := by decide +kernel
theorem d2_65 : decode prog_62_method_9_code 65 = .ok (.iconst 0, 1) := by decide +kernel
theorem d2_66 : decode prog_62_method_9_code 66 = .ok (.goto 89, 3) := by decide +kernel
theorem d2_155 : decode prog_62_method_9_code 155 = .ok (.ireturn, 1) := by decide +kernel
set_option maxRecDepth 65536 in
set_option maxHeartbeats 40000000 in
theorem rm2_0 (l : Launch) (Z : State) (a0 : Array Value) (hw : ∀ d ∈ tables_1, d.before a0 Z = true) (ws : List Jvm.Cond) (w_READ w_WRITE w_INSERT w_PHANTOM w_SCHEMA w_SCHEMA_EXCLUSIVE : Addr) (h0 : Heap) (n0 : Nat) (Z0 : n0 ≤ h0.size) (S : SF Z h0 w_READ w_WRITE w_INSERT w_PHANTOM w_SCHEMA w_SCHEMA_EXCLUSIVE) :
    Pay l Z (⟨"com/example/oyster/oyster/engine/LockMode", "conflictsWith", "(Lcom/example/oyster/oyster/engine/LockMode;)Z"⟩ : MethodName) ws prog_62_method_9_code 2 (some .boolean) #[(.ref w_READ), (.ref w_READ)] h0 n0 ({ frames := 1, cells := 0, slots := 0, locals := 12 } : Room) (some (.int (0 : Int32))) := by
  obtain ⟨S_w_READ, E_w_READ, S_w_WRITE, E_w_WRITE, S_w_INSERT, E_w_INSERT, S_w_PHANTOM, E_w_PHANTOM, S_w_SCHEMA, E_w_SCHEMA, S_w_SCHEMA_EXCLUSIVE, E_w_SCHEMA_EXCLUSIVE, F_ordinal_w_READ, F_ordinal_w_WRITE, F_ordinal_w_INSERT, F_ordinal_w_PHANTOM, F_ordinal_w_SCHEMA, F_ordinal_w_SCHEMA_EXCLUSIVE, hne_w_READ_w_WRITE, hne_w_READ_w_INSERT, hne_w_READ_w_PHANTOM, hne_w_READ_w_SCHEMA, hne_w_READ_w_SCHEMA_EXCLUSIVE, hne_w_WRITE_w_INSERT, hne_w_WRITE_w_PHANTOM, hne_w_WRITE_w_SCHEMA, hne_w_WRITE_w_SCHEMA_EXCLUSIVE, hne_w_INSERT_w_PHANTOM, hne_w_INSERT_w_SCHEMA, hne_w_INSERT_w_SCHEMA_EXCLUSIVE, hne_w_PHANTOM_w_SCHEMA, hne_w_PHANTOM_w_SCHEMA_EXCLUSIVE, hne_w_SCHEMA_w_SCHEMA_EXCLUSIVE⟩ := id S
  refine MetFree.of_bodySF (plainFor_of_name pn_0) hisR ?_
  intro p e s m args below meth c s₁ Bd hml0 hP hK
  obtain ⟨rfl, hZ, hh⟩ := hP
  have hx := Bd.exec
  have hby := Bd.bytes
  have hml : c.maxLocals = 2 := hml0
  have hown : s.vm.findClass "com/example/oyster/oyster/engine/LockMode" = some m.cls := findClass_of_methodNamed Bd.named
  have X0 : Stand p l e ({ frames := 1, cells := 0, slots := 0, locals := 12 } : Room) s m #[(.ref w_READ), (.ref w_READ)] below meth c s₁ [] 0 0 := Stand.of_body Bd
  have e0 : s₁.heap = h0 := by rw [← hh, Bd.state]; rfl
  have N0 := Fr.nil n0
  have pre0 : ∀ t, Steps p.tables e below (s₁.setTop (mkF m 0 #[.val (.ref w_READ), .val (.ref w_READ)] [])) t → Steps p.tables e below (s₁.setTop (entryFrame m #[(.ref w_READ), (.ref w_READ)] 2)) t := fun t k => castTop (by first | rfl | (simp [entryFrame, mkF, argsToLocals, Value.category]; done)) k
  obtain ⟨cq1, kq1, q1a, q1b, q1c⟩ := isOf hZ e0 E_w_READ
  obtain ⟨_, _, ⟨T1, L1, k1, n1⟩, -, X1, ⟨Lc1, hQ1, l1, y1, z1⟩, st1⟩ := X0.virtualBackUp hx (x := (⟨"com/example/oyster/oyster/engine/LockMode", "ordinal", "()I"⟩ : MethodName)) (y := (⟨"java/lang/Enum", "ordinal", "()I"⟩ : MethodName)) (owner := "java/lang/Enum") hown (mvT hZ (hw _ (List.mem_of_getElem? (i := 15) rfl))) (mvT hZ (hw _ (List.mem_of_getElem? (i := 16) rfl))) (mvT hZ (hw _ (List.mem_of_getElem? (i := 17) rfl))) (by decide) (mvT hZ (hw _ (List.mem_of_getElem? (i := 19) rfl))) (mvT hZ (hw _ (List.mem_of_getElem? (i := 18) rfl))) (backOf (W := 0) (rm3_0 l Z a0 hw [] w_READ w_WRITE w_INSERT w_PHANTOM w_SCHEMA w_SCHEMA_EXCLUSIVE h0 n0 Z0 S) hZ (hw _ (List.mem_of_getElem? (i := 21) rfl)) (hw _ (List.mem_of_getElem? (i := 20) rfl)) (by decide) (by decide)) q1a q1c (g := (mkF m 1 #[.val (.ref w_READ), .val (.ref w_READ)] [(.ref w_READ)])) rfl (by rw [hml]; rfl) (Steps.refl _) (argsL := []) (rest := []) (lenOf pd_1 rfl) rfl (by show 2 * 0 + _ ≤ _; exact Nat.le_of_eq rfl) (hb hby d2_1) (fun _ _ => ⟨rfl, e0, (by decide : 0 + 0 ≤ _), (by decide : 0 + 0 ≤ _)⟩)
  dsimp only [Pt.U, Pt.locs, Pt.cells, Pt.slots] at X1 l1 y1 z1 st1 hQ1
  subst l1 y1 z1
  obtain ⟨rfl, Nq1, e1⟩ := hQ1
  have N1 := Fr.app N0 Nq1
  obtain ⟨T2, X2, e2, st2⟩ := getS2 X1 hx hZ hown (host := "") (Or.inl (hw _ (List.mem_of_getElem? (i := 24) rfl))) Via.refl e1 S_w_WRITE (g := (mkF m 55 #[.val (.ref w_READ), .val (.ref w_READ)] [(.ref w_READ)])) rfl (hb hby d2_55)
  obtain ⟨fs, hr, hrun, hended, hW, hsame⟩ := X2.leave (v := (some (.int (0 : Int32)))) (fun h => by rw [Bd.returns] at h; cases h)
  refine ⟨_, _, pre0 _ ?_, hrun, hended, _, _, rfl, ⟨rfl, N1, e2⟩, ⟨_, rfl⟩, hW, hsame.mono (by decide) (by decide)⟩
  show Steps p.tables e below (s₁.setTop (mkF m 0 #[.val (.ref w_READ), .val (.ref w_READ)] [])) _
  refine XS.aloadN X0.here hx rfl (hb hby d2_0) rfl rfl ?_
  show Steps p.tables e below (s₁.setTop (mkF m 1 #[.val (.ref w_READ), .val (.ref w_READ)] [(.ref w_READ)])) _
  refine st1.trans ?_
  show Steps p.tables e below (T1.setTop (mkF m 4 #[.val (.ref w_READ), .val (.ref w_READ)] [(.int (0 : Int32))])) _
  refine XS.tswIn X1.here hx rfl (pc0 := 4) (pc' := 54) rfl (hb hby d2_4) rfl (by decide) (o := 50) (by decide) (by decide) (by decide) ?_
  show Steps p.tables e below (T1.setTop (mkF m 54 #[.val (.ref w_READ), .val (.ref w_READ)] [])) _
  refine XS.aloadN X1.here hx rfl (hb hby d2_54) rfl rfl ?_
  show Steps p.tables e below (T1.setTop (mkF m 55 #[.val (.ref w_READ), .val (.ref w_READ)] [(.ref w_READ)])) _
  refine st2 _ ?_
  show Steps p.tables e below (T2.setTop (mkF m 58 #[.val (.ref w_READ), .val (.ref w_READ)] [(.ref w_WRITE), (.ref w_READ)])) _
  refine Jvm.RoadKit.acmp (g := (mkF m 58 #[.val (.ref w_READ), .val (.ref w_READ)] [(.ref w_WRITE), (.ref w_READ)])) X2 hx rfl rfl rfl (pc0 := 58) (pc' := 65) (same := false) rfl (hb hby d2_58) rfl (decide_eq_false fun q => hne_w_READ_w_WRITE (Value.ref.inj q)) (by decide) (by decide) ?_
  show Steps p.tables e below (T2.setTop (mkF m 65 #[.val (.ref w_READ), .val (.ref w_READ)] [])) _
  refine XS.iconst X2.here hx rfl (hb hby d2_65) ?_
  show Steps p.tables e below (T2.setTop (mkF m 66 #[.val (.ref w_READ), .val (.ref w_READ)] [(.int (0 : Int32))])) _
  refine XS.goto X2.here hx rfl (pc0 := 66) (pc' := 155) rfl (hb hby d2_66) (by decide) (by decide) ?_
  show Steps p.tables e below (T2.setTop (mkF m 155 #[.val (.ref w_READ), .val (.ref w_READ)] [(.int (0 : Int32))])) _
  exact retN X2 hx (t := .boolean) Bd.returns (by simp) (hb hby d2_155) hr
theorem pd_2 : parseMethodDescriptor "(Lcom/example/oyster/oyster/engine/LockMode;)Z" = some ⟨[(.object "com/example/oyster/oyster/engine/LockMode")], some .boolean⟩ := by decide +kernel
theorem pn_2 : plainName "com/example/oyster/oyster/engine/LockModeIsForReadingPinLaw" = true := by first | (simp [plainName, overriddenIn]; done) | decide +kernel
set_option maxRecDepth 65536 in
set_option maxHeartbeats 40000000 in
theorem rm0_0 (l : Launch) (Z : State) (a0 : Array Value) (hw : ∀ d ∈ tables_1, d.before a0 Z = true) (ws : List Jvm.Cond) (w_READ w_WRITE w_INSERT w_PHANTOM w_SCHEMA w_SCHEMA_EXCLUSIVE : Addr) (h0 : Heap) (n0 : Nat) (Z0 : n0 ≤ h0.size) (S : SF Z h0 w_READ w_WRITE w_INSERT w_PHANTOM w_SCHEMA w_SCHEMA_EXCLUSIVE) (p0 : Int32) (hk : ((p0 &&& (2147483647 : Int32)) % (6 : Int32)) = (0 : Int32)) :
    Pay l Z x ws code maxLocals ret #[(.int p0)] h0 n0 room_1 (some (.int (1 : Int32))) := by
  obtain ⟨S_w_READ, E_w_READ, S_w_WRITE, E_w_WRITE, S_w_INSERT, E_w_INSERT, S_w_PHANTOM, E_w_PHANTOM, S_w_SCHEMA, E_w_SCHEMA, S_w_SCHEMA_EXCLUSIVE, E_w_SCHEMA_EXCLUSIVE, F_ordinal_w_READ, F_ordinal_w_WRITE, F_ordinal_w_INSERT, F_ordinal_w_PHANTOM, F_ordinal_w_SCHEMA, F_ordinal_w_SCHEMA_EXCLUSIVE, hne_w_READ_w_WRITE, hne_w_READ_w_INSERT, hne_w_READ_w_PHANTOM, hne_w_READ_w_SCHEMA, hne_w_READ_w_SCHEMA_EXCLUSIVE, hne_w_WRITE_w_INSERT, hne_w_WRITE_w_PHANTOM, hne_w_WRITE_w_SCHEMA, hne_w_WRITE_w_SCHEMA_EXCLUSIVE, hne_w_INSERT_w_PHANTOM, hne_w_INSERT_w_SCHEMA, hne_w_INSERT_w_SCHEMA_EXCLUSIVE, hne_w_PHANTOM_w_SCHEMA, hne_w_PHANTOM_w_SCHEMA_EXCLUSIVE, hne_w_SCHEMA_w_SCHEMA_EXCLUSIVE⟩ := id S
  refine MetFree.of_bodySF (plainFor_of_name pn_2) hisR ?_
  intro p e s m args below meth c s₁ Bd hml0 hP hK
  obtain ⟨rfl, hZ, hh⟩ := hP
  have hx := Bd.exec
  have hby := Bd.bytes
  have hml : c.maxLocals = 5 := hml0
  have hown : s.vm.findClass "com/example/oyster/oyster/engine/LockModeIsForReadingPinLaw" = some m.cls := findClass_of_methodNamed Bd.named
  have X0 : Stand p l e room_1 s m #[(.int p0)] below meth c s₁ [] 0 0 := Stand.of_body Bd
  have e0 : s₁.heap = h0 := by rw [← hh, Bd.state]; rfl
  have N0 := Fr.nil n0
  have pre0 : ∀ t, Steps p.tables e below (s₁.setTop (mkF m 0 #[.val (.int p0), .unset, .unset, .unset, .unset] [])) t → Steps p.tables e below (s₁.setTop (entryFrame m #[(.int p0)] maxLocals)) t := fun t k => castTop (by first | rfl | (simp [entryFrame, mkF, argsToLocals, Value.category, maxLocals]; done)) k
  obtain ⟨T1, X1, e1, st1⟩ := getS2 X0 hx hZ hown (host := "") (Or.inl (hw _ (List.mem_of_getElem? (i := 1) rfl))) Via.refl e0 S_w_READ (g := (mkF m 12 #[.val (.int p0), .val (.int (0 : Int32)), .unset, .unset, .unset] [])) rfl (hb hby at_12)
  obtain ⟨cq2, kq2, q2a, q2b, q2c⟩ := isOf hZ e1 E_w_READ
  obtain ⟨_, _, ⟨T2, L2, k2, n2⟩, -, X2, ⟨Lc2, hQ2, l2, y2, z2⟩, st2⟩ := X1.virtualBack hx (y := (⟨"com/example/oyster/oyster/engine/LockMode", "isForReading", "()Z"⟩ : MethodName)) (z := (⟨"com/example/oyster/oyster/engine/LockMode", "isForReading", "()Z"⟩ : MethodName)) hown (mvT hZ (hw _ (List.mem_of_getElem? (i := 4) rfl))) (mvT hZ (hw _ (List.mem_of_getElem? (i := 5) rfl))) (notFace_of_selects (args := #[]) (mvT hZ (hw _ (List.mem_of_getElem? (i := 7) rfl)))) (mvT hZ (hw _ (List.mem_of_getElem? (i := 7) rfl))) (mvT hZ (hw _ (List.mem_of_getElem? (i := 6) rfl))) (by decide) (backOf (W := 0) (rm1_0 l Z a0 hw [] w_READ w_WRITE w_INSERT w_PHANTOM w_SCHEMA w_SCHEMA_EXCLUSIVE h0 n0 Z0 S) hZ (hw _ (List.mem_of_getElem? (i := 8) rfl)) (hw _ (List.mem_of_getElem? (i := 2) rfl)) (by decide) (by decide)) q2a q2c (g := (mkF m 84 #[.val (.int p0), .val (.int (0 : Int32)), .val (.ref w_READ), .val (.int (1 : Int32)), .unset] [(.ref w_READ)])) rfl (by rw [hml]; rfl) (Steps.refl _) (argsL := []) (rest := []) (lenOf pd_0 rfl) rfl (by show 2 * 0 + _ ≤ _; exact Nat.le_of_eq rfl) (hb hby at_84) (fun _ _ => ⟨rfl, e1, (by decide : 0 + 0 ≤ _), (by decide : 0 + 0 ≤ _)⟩)
  dsimp only [Pt.U, Pt.locs, Pt.cells, Pt.slots] at X2 l2 y2 z2 st2 hQ2
  subst l2 y2 z2
  obtain ⟨rfl, Nq2, e2⟩ := hQ2
  have N2 := Fr.app N0 Nq2
  obtain ⟨cq3, kq3, q3a, q3b, q3c⟩ := isOf hZ e2 E_w_READ
  obtain ⟨_, _, ⟨T3, L3, k3, n3⟩, -, X3, ⟨Lc3, hQ3, l3, y3, z3⟩, st3⟩ := X2.virtualBack hx (y := (⟨"com/example/oyster/oyster/engine/LockMode", "conflictsWith", "(Lcom/example/oyster/oyster/engine/LockMode;)Z"⟩ : MethodName)) (z := (⟨"com/example/oyster/oyster/engine/LockMode", "conflictsWith", "(Lcom/example/oyster/oyster/engine/LockMode;)Z"⟩ : MethodName)) hown (mvT hZ (hw _ (List.mem_of_getElem? (i := 10) rfl))) (mvT hZ (hw _ (List.mem_of_getElem? (i := 11) rfl))) (notFace_of_selects (args := #[]) (mvT hZ (hw _ (List.mem_of_getElem? (i := 13) rfl)))) (mvT hZ (hw _ (List.mem_of_getElem? (i := 13) rfl))) (mvT hZ (hw _ (List.mem_of_getElem? (i := 12) rfl))) (by decide) (backOf (W := 0) (rm2_0 l Z a0 hw [] w_READ w_WRITE w_INSERT w_PHANTOM w_SCHEMA w_SCHEMA_EXCLUSIVE h0 n0 Z0 S) hZ (hw _ (List.mem_of_getElem? (i := 14) rfl)) (hw _ (List.mem_of_getElem? (i := 2) rfl)) (by decide) (by decide)) q3a q3c (g := (mkF m 104 #[.val (.int p0), .val (.int (0 : Int32)), .val (.ref w_READ), .val (.int (1 : Int32)), .val (.int (1 : Int32))] [(.ref w_READ), (.ref w_READ)])) rfl (by rw [hml]; rfl) (Steps.refl _) (argsL := [(.ref w_READ)]) (rest := []) (lenOf pd_2 rfl) rfl (by show 2 * 0 + _ ≤ _; exact Nat.le_of_eq rfl) (hb hby at_104) (fun _ _ => ⟨rfl, e2, (by decide : 0 + 0 ≤ _), (by decide : 0 + 0 ≤ _)⟩)
  dsimp only [Pt.U, Pt.locs, Pt.cells, Pt.slots] at X3 l3 y3 z3 st3 hQ3
  subst l3 y3 z3
  obtain ⟨rfl, Nq3, e3⟩ := hQ3
  have N3 := Fr.app N2 Nq3
  obtain ⟨fs, hr, hrun, hended, hW, hsame⟩ := X3.leave (v := (some (.int (1 : Int32)))) (fun h => by rw [Bd.returns] at h; cases h)
  refine ⟨_, _, pre0 _ ?_, hrun, hended, _, _, rfl, ⟨rfl, N3, e3⟩, ⟨_, rfl⟩, hW, hsame.mono (by decide) (by decide)⟩
  show Steps p.tables e below (s₁.setTop (mkF m 0 #[.val (.int p0), .unset, .unset, .unset, .unset] [])) _
  refine XS.iloadN X0.here hx rfl (hb hby at_0) rfl ?_
  show Steps p.tables e below (s₁.setTop (mkF m 1 #[.val (.int p0), .unset, .unset, .unset, .unset] [(.int p0)])) _
  refine X0.ldcInt hx hown (mvT hZ (hw _ (List.mem_of_getElem? (i := 0) rfl))) (g := (mkF m 1 #[.val (.int p0), .unset, .unset, .unset, .unset] [(.int p0)])) rfl (hb hby at_1) _ ?_
  show Steps p.tables e below (s₁.setTop (mkF m 3 #[.val (.int p0), .unset, .unset, .unset, .unset] [(.int (2147483647 : Int32)), (.int p0)])) _
  refine XS.iand X0.here hx rfl (hb hby at_3) rfl ?_
  show Steps p.tables e below (s₁.setTop (mkF m 4 #[.val (.int p0), .unset, .unset, .unset, .unset] [(.int (p0 &&& (2147483647 : Int32)))])) _
  show Steps p.tables e below (s₁.setTop (mkF m 4 #[.val (.int p0), .unset, .unset, .unset, .unset] [(.int (p0 &&& (2147483647 : Int32)))])) _
  refine XS.bipush X0.here hx rfl (hb hby at_4) ?_
  show Steps p.tables e below (s₁.setTop (mkF m 6 #[.val (.int p0), .unset, .unset, .unset, .unset] [(.int (6 : Int32)), (.int (p0 &&& (2147483647 : Int32)))])) _
  refine iremM X0 hx rfl (hb hby at_6) rfl (by decide) ?_
  show Steps p.tables e below (s₁.setTop (mkF m 7 #[.val (.int p0), .unset, .unset, .unset, .unset] [(.int ((p0 &&& (2147483647 : Int32)) % (6 : Int32)))])) _
  rw [hk]
  show Steps p.tables e below (s₁.setTop (mkF m 7 #[.val (.int p0), .unset, .unset, .unset, .unset] [(.int (0 : Int32))])) _
  refine XS.istoreN X0.here hx rfl (hb hby at_7) rfl (l' := #[.val (.int p0), .val (.int (0 : Int32)), .unset, .unset, .unset]) rfl ?_
  show Steps p.tables e below (s₁.setTop (mkF m 8 #[.val (.int p0), .val (.int (0 : Int32)), .unset, .unset, .unset] [])) _
  refine XS.iloadN X0.here hx rfl (hb hby at_8) rfl ?_
  show Steps p.tables e below (s₁.setTop (mkF m 9 #[.val (.int p0), .val (.int (0 : Int32)), .unset, .unset, .unset] [(.int (0 : Int32))])) _
  refine XS.ifNo X0.here hx rfl (hb hby at_9) rfl ((if0 _ _).trans (teq (by decide : (0 : Int32) = (0 : Int32))).2) ?_
  show Steps p.tables e below (s₁.setTop (mkF m 12 #[.val (.int p0), .val (.int (0 : Int32)), .unset, .unset, .unset] [])) _
  refine st1 _ ?_
  show Steps p.tables e below (T1.setTop (mkF m 15 #[.val (.int p0), .val (.int (0 : Int32)), .unset, .unset, .unset] [(.ref w_READ)])) _
  refine XS.astoreN X1.here hx rfl (hb hby at_15) rfl rfl (l' := #[.val (.int p0), .val (.int (0 : Int32)), .val (.ref w_READ), .unset, .unset]) rfl ?_
  show Steps p.tables e below (T1.setTop (mkF m 16 #[.val (.int p0), .val (.int (0 : Int32)), .val (.ref w_READ), .unset, .unset] [])) _
  refine XS.iconst X1.here hx rfl (hb hby at_16) ?_
  show Steps p.tables e below (T1.setTop (mkF m 17 #[.val (.int p0), .val (.int (0 : Int32)), .val (.ref w_READ), .unset, .unset] [(.int (1 : Int32))])) _
  refine XS.istoreN X1.here hx rfl (hb hby at_17) rfl (l' := #[.val (.int p0), .val (.int (0 : Int32)), .val (.ref w_READ), .val (.int (1 : Int32)), .unset]) rfl ?_
  show Steps p.tables e below (T1.setTop (mkF m 18 #[.val (.int p0), .val (.int (0 : Int32)), .val (.ref w_READ), .val (.int (1 : Int32)), .unset] [])) _
  refine XS.goto X1.here hx rfl (pc0 := 18) (pc' := 83) rfl (hb hby at_18) (by decide) (by decide) ?_
  show Steps p.tables e below (T1.setTop (mkF m 83 #[.val (.int p0), .val (.int (0 : Int32)), .val (.ref w_READ), .val (.int (1 : Int32)), .unset] [])) _
  refine XS.aloadN X1.here hx rfl (hb hby at_83) rfl rfl ?_
  show Steps p.tables e below (T1.setTop (mkF m 84 #[.val (.int p0), .val (.int (0 : Int32)), .val (.ref w_READ), .val (.int (1 : Int32)), .unset] [(.ref w_READ)])) _
  refine st2.trans ?_
  show Steps p.tables e below (T2.setTop (mkF m 87 #[.val (.int p0), .val (.int (0 : Int32)), .val (.ref w_READ), .val (.int (1 : Int32)), .unset] [(.int (1 : Int32))])) _
  refine XS.istore X2.here hx rfl (hb hby at_87) rfl (l' := #[.val (.int p0), .val (.int (0 : Int32)), .val (.ref w_READ), .val (.int (1 : Int32)), .val (.int (1 : Int32))]) rfl ?_
  show Steps p.tables e below (T2.setTop (mkF m 89 #[.val (.int p0), .val (.int (0 : Int32)), .val (.ref w_READ), .val (.int (1 : Int32)), .val (.int (1 : Int32))] [])) _
  refine XS.iload X2.here hx rfl (hb hby at_89) rfl ?_
  show Steps p.tables e below (T2.setTop (mkF m 91 #[.val (.int p0), .val (.int (0 : Int32)), .val (.ref w_READ), .val (.int (1 : Int32)), .val (.int (1 : Int32))] [(.int (1 : Int32))])) _
  refine XS.iloadN X2.here hx rfl (hb hby at_91) rfl ?_
  show Steps p.tables e below (T2.setTop (mkF m 92 #[.val (.int p0), .val (.int (0 : Int32)), .val (.ref w_READ), .val (.int (1 : Int32)), .val (.int (1 : Int32))] [(.int (1 : Int32)), (.int (1 : Int32))])) _
  refine XS.icmpYes X2.here hx rfl (pc0 := 92) (pc' := 97) rfl (hb hby at_92) rfl (teq (by decide : (1 : Int32) = (1 : Int32))).1 (by decide) (by decide) ?_
  show Steps p.tables e below (T2.setTop (mkF m 97 #[.val (.int p0), .val (.int (0 : Int32)), .val (.ref w_READ), .val (.int (1 : Int32)), .val (.int (1 : Int32))] [])) _
  refine XS.iload X2.here hx rfl (hb hby at_97) rfl ?_
  show Steps p.tables e below (T2.setTop (mkF m 99 #[.val (.int p0), .val (.int (0 : Int32)), .val (.ref w_READ), .val (.int (1 : Int32)), .val (.int (1 : Int32))] [(.int (1 : Int32))])) _
  refine XS.ifNo X2.here hx rfl (hb hby at_99) rfl ((if0 _ _).trans (feq (by decide : ¬ ((1 : Int32) = (0 : Int32)))).1) ?_
  show Steps p.tables e below (T2.setTop (mkF m 102 #[.val (.int p0), .val (.int (0 : Int32)), .val (.ref w_READ), .val (.int (1 : Int32)), .val (.int (1 : Int32))] [])) _
  refine XS.aloadN X2.here hx rfl (hb hby at_102) rfl rfl ?_
  show Steps p.tables e below (T2.setTop (mkF m 103 #[.val (.int p0), .val (.int (0 : Int32)), .val (.ref w_READ), .val (.int (1 : Int32)), .val (.int (1 : Int32))] [(.ref w_READ)])) _
  refine XS.aloadN X2.here hx rfl (hb hby at_103) rfl rfl ?_
  show Steps p.tables e below (T2.setTop (mkF m 104 #[.val (.int p0), .val (.int (0 : Int32)), .val (.ref w_READ), .val (.int (1 : Int32)), .val (.int (1 : Int32))] [(.ref w_READ), (.ref w_READ)])) _
  refine st3.trans ?_
  show Steps p.tables e below (T3.setTop (mkF m 107 #[.val (.int p0), .val (.int (0 : Int32)), .val (.ref w_READ), .val (.int (1 : Int32)), .val (.int (1 : Int32))] [(.int (0 : Int32))])) _
  refine XS.ifNo X3.here hx rfl (hb hby at_107) rfl ((if0 _ _).trans (teq (by decide : (0 : Int32) = (0 : Int32))).2) ?_
  show Steps p.tables e below (T3.setTop (mkF m 110 #[.val (.int p0), .val (.int (0 : Int32)), .val (.ref w_READ), .val (.int (1 : Int32)), .val (.int (1 : Int32))] [])) _
  refine XS.iconst X3.here hx rfl (hb hby at_110) ?_
  show Steps p.tables e below (T3.setTop (mkF m 111 #[.val (.int p0), .val (.int (0 : Int32)), .val (.ref w_READ), .val (.int (1 : Int32)), .val (.int (1 : Int32))] [(.int (1 : Int32))])) _
  refine XS.goto X3.here hx rfl (pc0 := 111) (pc' := 115) rfl (hb hby at_111) (by decide) (by decide) ?_
  show Steps p.tables e below (T3.setTop (mkF m 115 #[.val (.int p0), .val (.int (0 : Int32)), .val (.ref w_READ), .val (.int (1 : Int32)), .val (.int (1 : Int32))] [(.int (1 : Int32))])) _
  exact retN X3 hx (t := .boolean) Bd.returns (by simp) (hb hby at_115) hr
theorem d1_7 : decode prog_62_method_8_code 7 = .ok (.aload_n 0, 1) := by decide +kernel
theorem d1_8 : decode prog_62_method_8_code 8 = .ok (.getstatic 10, 3) := by decide +kernel
theorem d1_11 : decode prog_62_method_8_code 11 = .ok (.if_acmp .eq 10, 3) := by decide +kernel
theorem d1_14 : decode prog_62_method_8_code 14 = .ok (.aload_n 0, 1) := by decide +kernel
theorem d1_15 : decode prog_62_method_8_code 15 = .ok (.getstatic 16, 3) := by decide +kernel
theorem d1_18 : decode prog_62_method_8_code 18 = .ok (.if_acmp .ne 7, 3) := by decide +kernel
theorem d1_25 : decode prog_62_method_8_code 25 = .ok (.iconst 0, 1) := by decide +kernel
set_option maxRecDepth 65536 in
set_option maxHeartbeats 40000000 in
theorem rm1_1 (l : Launch) (Z : State) (a0 : Array Value) (hw : ∀ d ∈ tables_1, d.before a0 Z = true) (ws : List Jvm.Cond) (w_READ w_WRITE w_INSERT w_PHANTOM w_SCHEMA w_SCHEMA_EXCLUSIVE : Addr) (h0 : Heap) (n0 : Nat) (Z0 : n0 ≤ h0.size) (S : SF Z h0 w_READ w_WRITE w_INSERT w_PHANTOM w_SCHEMA w_SCHEMA_EXCLUSIVE) :
    Pay l Z (⟨"com/example/oyster/oyster/engine/LockMode", "isForReading", "()Z"⟩ : MethodName) ws prog_62_method_8_code 1 (some .boolean) #[(.ref w_WRITE)] h0 n0 ({ frames := 0, cells := 0, slots := 0, locals := 0 } : Room) (some (.int (0 : Int32))) := by
  obtain ⟨S_w_READ, E_w_READ, S_w_WRITE, E_w_WRITE, S_w_INSERT, E_w_INSERT, S_w_PHANTOM, E_w_PHANTOM, S_w_SCHEMA, E_w_SCHEMA, S_w_SCHEMA_EXCLUSIVE, E_w_SCHEMA_EXCLUSIVE, F_ordinal_w_READ, F_ordinal_w_WRITE, F_ordinal_w_INSERT, F_ordinal_w_PHANTOM, F_ordinal_w_SCHEMA, F_ordinal_w_SCHEMA_EXCLUSIVE, hne_w_READ_w_WRITE, hne_w_READ_w_INSERT, hne_w_READ_w_PHANTOM, hne_w_READ_w_SCHEMA, hne_w_READ_w_SCHEMA_EXCLUSIVE, hne_w_WRITE_w_INSERT, hne_w_WRITE_w_PHANTOM, hne_w_WRITE_w_SCHEMA, hne_w_WRITE_w_SCHEMA_EXCLUSIVE, hne_w_INSERT_w_PHANTOM, hne_w_INSERT_w_SCHEMA, hne_w_INSERT_w_SCHEMA_EXCLUSIVE, hne_w_PHANTOM_w_SCHEMA, hne_w_PHANTOM_w_SCHEMA_EXCLUSIVE, hne_w_SCHEMA_w_SCHEMA_EXCLUSIVE⟩ := id S
  refine MetFree.of_bodySF (plainFor_of_name pn_0) hisR ?_
  intro p e s m args below meth c s₁ Bd hml0 hP hK
  obtain ⟨rfl, hZ, hh⟩ := hP
  have hx := Bd.exec
  have hby := Bd.bytes
  have hml : c.maxLocals = 1 := hml0
  have hown : s.vm.findClass "com/example/oyster/oyster/engine/LockMode" = some m.cls := findClass_of_methodNamed Bd.named
  have X0 : Stand p l e ({ frames := 0, cells := 0, slots := 0, locals := 0 } : Room) s m #[(.ref w_WRITE)] below meth c s₁ [] 0 0 := Stand.of_body Bd
  have e0 : s₁.heap = h0 := by rw [← hh, Bd.state]; rfl
  have N0 := Fr.nil n0
  have pre0 : ∀ t, Steps p.tables e below (s₁.setTop (mkF m 0 #[.val (.ref w_WRITE)] [])) t → Steps p.tables e below (s₁.setTop (entryFrame m #[(.ref w_WRITE)] 1)) t := fun t k => castTop (by first | rfl | (simp [entryFrame, mkF, argsToLocals, Value.category]; done)) k
  obtain ⟨T1, X1, e1, st1⟩ := getS2 X0 hx hZ hown (host := "") (Or.inl (hw _ (List.mem_of_getElem? (i := 9) rfl))) Via.refl e0 S_w_READ (g := (mkF m 1 #[.val (.ref w_WRITE)] [(.ref w_WRITE)])) rfl (hb hby d1_1)
  obtain ⟨T2, X2, e2, st2⟩ := getS2 X1 hx hZ hown (host := "") (Or.inl (hw _ (List.mem_of_getElem? (i := 28) rfl))) Via.refl e1 S_w_PHANTOM (g := (mkF m 8 #[.val (.ref w_WRITE)] [(.ref w_WRITE)])) rfl (hb hby d1_8)
  obtain ⟨T3, X3, e3, st3⟩ := getS2 X2 hx hZ hown (host := "") (Or.inl (hw _ (List.mem_of_getElem? (i := 30) rfl))) Via.refl e2 S_w_SCHEMA (g := (mkF m 15 #[.val (.ref w_WRITE)] [(.ref w_WRITE)])) rfl (hb hby d1_15)
  obtain ⟨fs, hr, hrun, hended, hW, hsame⟩ := X3.leave (v := (some (.int (0 : Int32)))) (fun h => by rw [Bd.returns] at h; cases h)
  refine ⟨_, _, pre0 _ ?_, hrun, hended, _, _, rfl, ⟨rfl, N0, e3⟩, ⟨_, rfl⟩, hW, hsame.mono (by decide) (by decide)⟩
  show Steps p.tables e below (s₁.setTop (mkF m 0 #[.val (.ref w_WRITE)] [])) _
  refine XS.aloadN X0.here hx rfl (hb hby d1_0) rfl rfl ?_
  show Steps p.tables e below (s₁.setTop (mkF m 1 #[.val (.ref w_WRITE)] [(.ref w_WRITE)])) _
  refine st1 _ ?_
  show Steps p.tables e below (T1.setTop (mkF m 4 #[.val (.ref w_WRITE)] [(.ref w_READ), (.ref w_WRITE)])) _
  refine Jvm.RoadKit.acmp (g := (mkF m 4 #[.val (.ref w_WRITE)] [(.ref w_READ), (.ref w_WRITE)])) X1 hx rfl rfl rfl (pc0 := 4) (pc' := 7) (same := false) rfl (hb hby d1_4) rfl (decide_eq_false fun q => hne_w_READ_w_WRITE (Value.ref.inj q).symm) (by decide) (by decide) ?_
  show Steps p.tables e below (T1.setTop (mkF m 7 #[.val (.ref w_WRITE)] [])) _
  refine XS.aloadN X1.here hx rfl (hb hby d1_7) rfl rfl ?_
  show Steps p.tables e below (T1.setTop (mkF m 8 #[.val (.ref w_WRITE)] [(.ref w_WRITE)])) _
  refine st2 _ ?_
  show Steps p.tables e below (T2.setTop (mkF m 11 #[.val (.ref w_WRITE)] [(.ref w_PHANTOM), (.ref w_WRITE)])) _
  refine Jvm.RoadKit.acmp (g := (mkF m 11 #[.val (.ref w_WRITE)] [(.ref w_PHANTOM), (.ref w_WRITE)])) X2 hx rfl rfl rfl (pc0 := 11) (pc' := 14) (same := false) rfl (hb hby d1_11) rfl (decide_eq_false fun q => hne_w_WRITE_w_PHANTOM (Value.ref.inj q)) (by decide) (by decide) ?_
  show Steps p.tables e below (T2.setTop (mkF m 14 #[.val (.ref w_WRITE)] [])) _
  refine XS.aloadN X2.here hx rfl (hb hby d1_14) rfl rfl ?_
  show Steps p.tables e below (T2.setTop (mkF m 15 #[.val (.ref w_WRITE)] [(.ref w_WRITE)])) _
  refine st3 _ ?_
  show Steps p.tables e below (T3.setTop (mkF m 18 #[.val (.ref w_WRITE)] [(.ref w_SCHEMA), (.ref w_WRITE)])) _
  refine Jvm.RoadKit.acmp (g := (mkF m 18 #[.val (.ref w_WRITE)] [(.ref w_SCHEMA), (.ref w_WRITE)])) X3 hx rfl rfl rfl (pc0 := 18) (pc' := 25) (same := false) rfl (hb hby d1_18) rfl (decide_eq_false fun q => hne_w_WRITE_w_SCHEMA (Value.ref.inj q)) (by decide) (by decide) ?_
  show Steps p.tables e below (T3.setTop (mkF m 25 #[.val (.ref w_WRITE)] [])) _
  refine XS.iconst X3.here hx rfl (hb hby d1_25) ?_
  show Steps p.tables e below (T3.setTop (mkF m 26 #[.val (.ref w_WRITE)] [(.int (0 : Int32))])) _
  exact retN X3 hx (t := .boolean) Bd.returns (by simp) (hb hby d1_26) hr
set_option maxRecDepth 65536 in
set_option maxHeartbeats 40000000 in
theorem rm0_1 (l : Launch) (Z : State) (a0 : Array Value) (hw : ∀ d ∈ tables_1, d.before a0 Z = true) (ws : List Jvm.Cond) (w_READ w_WRITE w_INSERT w_PHANTOM w_SCHEMA w_SCHEMA_EXCLUSIVE : Addr) (h0 : Heap) (n0 : Nat) (Z0 : n0 ≤ h0.size) (S : SF Z h0 w_READ w_WRITE w_INSERT w_PHANTOM w_SCHEMA w_SCHEMA_EXCLUSIVE) (p0 : Int32) (hk : ((p0 &&& (2147483647 : Int32)) % (6 : Int32)) = (1 : Int32)) :
    Pay l Z x ws code maxLocals ret #[(.int p0)] h0 n0 room_1 (some (.int (1 : Int32))) := by
  obtain ⟨S_w_READ, E_w_READ, S_w_WRITE, E_w_WRITE, S_w_INSERT, E_w_INSERT, S_w_PHANTOM, E_w_PHANTOM, S_w_SCHEMA, E_w_SCHEMA, S_w_SCHEMA_EXCLUSIVE, E_w_SCHEMA_EXCLUSIVE, F_ordinal_w_READ, F_ordinal_w_WRITE, F_ordinal_w_INSERT, F_ordinal_w_PHANTOM, F_ordinal_w_SCHEMA, F_ordinal_w_SCHEMA_EXCLUSIVE, hne_w_READ_w_WRITE, hne_w_READ_w_INSERT, hne_w_READ_w_PHANTOM, hne_w_READ_w_SCHEMA, hne_w_READ_w_SCHEMA_EXCLUSIVE, hne_w_WRITE_w_INSERT, hne_w_WRITE_w_PHANTOM, hne_w_WRITE_w_SCHEMA, hne_w_WRITE_w_SCHEMA_EXCLUSIVE, hne_w_INSERT_w_PHANTOM, hne_w_INSERT_w_SCHEMA, hne_w_INSERT_w_SCHEMA_EXCLUSIVE, hne_w_PHANTOM_w_SCHEMA, hne_w_PHANTOM_w_SCHEMA_EXCLUSIVE, hne_w_SCHEMA_w_SCHEMA_EXCLUSIVE⟩ := id S
  refine MetFree.of_bodySF (plainFor_of_name pn_2) hisR ?_
  intro p e s m args below meth c s₁ Bd hml0 hP hK
  obtain ⟨rfl, hZ, hh⟩ := hP
  have hx := Bd.exec
  have hby := Bd.bytes
  have hml : c.maxLocals = 5 := hml0
  have hown : s.vm.findClass "com/example/oyster/oyster/engine/LockModeIsForReadingPinLaw" = some m.cls := findClass_of_methodNamed Bd.named
  have X0 : Stand p l e room_1 s m #[(.int p0)] below meth c s₁ [] 0 0 := Stand.of_body Bd
  have e0 : s₁.heap = h0 := by rw [← hh, Bd.state]; rfl
  have N0 := Fr.nil n0
  have pre0 : ∀ t, Steps p.tables e below (s₁.setTop (mkF m 0 #[.val (.int p0), .unset, .unset, .unset, .unset] [])) t → Steps p.tables e below (s₁.setTop (entryFrame m #[(.int p0)] maxLocals)) t := fun t k => castTop (by first | rfl | (simp [entryFrame, mkF, argsToLocals, Value.category, maxLocals]; done)) k
  obtain ⟨T1, X1, e1, st1⟩ := getS2 X0 hx hZ hown (host := "") (Or.inl (hw _ (List.mem_of_getElem? (i := 34) rfl))) Via.refl e0 S_w_WRITE (g := (mkF m 26 #[.val (.int p0), .val (.int (1 : Int32)), .unset, .unset, .unset] [])) rfl (hb hby at_26)
  obtain ⟨cq2, kq2, q2a, q2b, q2c⟩ := isOf hZ e1 E_w_WRITE
  obtain ⟨_, _, ⟨T2, L2, k2, n2⟩, -, X2, ⟨Lc2, hQ2, l2, y2, z2⟩, st2⟩ := X1.virtualBack hx (y := (⟨"com/example/oyster/oyster/engine/LockMode", "isForReading", "()Z"⟩ : MethodName)) (z := (⟨"com/example/oyster/oyster/engine/LockMode", "isForReading", "()Z"⟩ : MethodName)) hown (mvT hZ (hw _ (List.mem_of_getElem? (i := 4) rfl))) (mvT hZ (hw _ (List.mem_of_getElem? (i := 5) rfl))) (notFace_of_selects (args := #[]) (mvT hZ (hw _ (List.mem_of_getElem? (i := 7) rfl)))) (mvT hZ (hw _ (List.mem_of_getElem? (i := 7) rfl))) (mvT hZ (hw _ (List.mem_of_getElem? (i := 6) rfl))) (by decide) (backOf (W := 0) (rm1_1 l Z a0 hw [] w_READ w_WRITE w_INSERT w_PHANTOM w_SCHEMA w_SCHEMA_EXCLUSIVE h0 n0 Z0 S) hZ (hw _ (List.mem_of_getElem? (i := 8) rfl)) (hw _ (List.mem_of_getElem? (i := 2) rfl)) (by decide) (by decide)) q2a q2c (g := (mkF m 84 #[.val (.int p0), .val (.int (1 : Int32)), .val (.ref w_WRITE), .val (.int (0 : Int32)), .unset] [(.ref w_WRITE)])) rfl (by rw [hml]; rfl) (Steps.refl _) (argsL := []) (rest := []) (lenOf pd_0 rfl) rfl (by show 2 * 0 + _ ≤ _; exact Nat.le_of_eq rfl) (hb hby at_84) (fun _ _ => ⟨rfl, e1, (by decide : 0 + 0 ≤ _), (by decide : 0 + 0 ≤ _)⟩)
  dsimp only [Pt.U, Pt.locs, Pt.cells, Pt.slots] at X2 l2 y2 z2 st2 hQ2
  subst l2 y2 z2
  obtain ⟨rfl, Nq2, e2⟩ := hQ2
  have N2 := Fr.app N0 Nq2
  obtain ⟨fs, hr, hrun, hended, hW, hsame⟩ := X2.leave (v := (some (.int (1 : Int32)))) (fun h => by rw [Bd.returns] at h; cases h)
  refine ⟨_, _, pre0 _ ?_, hrun, hended, _, _, rfl, ⟨rfl, N2, e2⟩, ⟨_, rfl⟩, hW, hsame.mono (by decide) (by decide)⟩
  show Steps p.tables e below (s₁.setTop (mkF m 0 #[.val (.int p0), .unset, .unset, .unset, .unset] [])) _
  refine XS.iloadN X0.here hx rfl (hb hby at_0) rfl ?_
  show Steps p.tables e below (s₁.setTop (mkF m 1 #[.val (.int p0), .unset, .unset, .unset, .unset] [(.int p0)])) _
  refine X0.ldcInt hx hown (mvT hZ (hw _ (List.mem_of_getElem? (i := 0) rfl))) (g := (mkF m 1 #[.val (.int p0), .unset, .unset, .unset, .unset] [(.int p0)])) rfl (hb hby at_1) _ ?_
  show Steps p.tables e below (s₁.setTop (mkF m 3 #[.val (.int p0), .unset, .unset, .unset, .unset] [(.int (2147483647 : Int32)), (.int p0)])) _
  refine XS.iand X0.here hx rfl (hb hby at_3) rfl ?_
  show Steps p.tables e below (s₁.setTop (mkF m 4 #[.val (.int p0), .unset, .unset, .unset, .unset] [(.int (p0 &&& (2147483647 : Int32)))])) _
  show Steps p.tables e below (s₁.setTop (mkF m 4 #[.val (.int p0), .unset, .unset, .unset, .unset] [(.int (p0 &&& (2147483647 : Int32)))])) _
  refine XS.bipush X0.here hx rfl (hb hby at_4) ?_
  show Steps p.tables e below (s₁.setTop (mkF m 6 #[.val (.int p0), .unset, .unset, .unset, .unset] [(.int (6 : Int32)), (.int (p0 &&& (2147483647 : Int32)))])) _
  refine iremM X0 hx rfl (hb hby at_6) rfl (by decide) ?_
  show Steps p.tables e below (s₁.setTop (mkF m 7 #[.val (.int p0), .unset, .unset, .unset, .unset] [(.int ((p0 &&& (2147483647 : Int32)) % (6 : Int32)))])) _
  rw [hk]
  show Steps p.tables e below (s₁.setTop (mkF m 7 #[.val (.int p0), .unset, .unset, .unset, .unset] [(.int (1 : Int32))])) _
  refine XS.istoreN X0.here hx rfl (hb hby at_7) rfl (l' := #[.val (.int p0), .val (.int (1 : Int32)), .unset, .unset, .unset]) rfl ?_
  show Steps p.tables e below (s₁.setTop (mkF m 8 #[.val (.int p0), .val (.int (1 : Int32)), .unset, .unset, .unset] [])) _
  refine XS.iloadN X0.here hx rfl (hb hby at_8) rfl ?_
  show Steps p.tables e below (s₁.setTop (mkF m 9 #[.val (.int p0), .val (.int (1 : Int32)), .unset, .unset, .unset] [(.int (1 : Int32))])) _
  refine XS.ifYes X0.here hx rfl (pc0 := 9) (pc' := 21) rfl (hb hby at_9) rfl ((if0 _ _).trans (feq (by decide : ¬ ((1 : Int32) = (0 : Int32)))).2) (by decide) (by decide) ?_
  show Steps p.tables e below (s₁.setTop (mkF m 21 #[.val (.int p0), .val (.int (1 : Int32)), .unset, .unset, .unset] [])) _
  refine XS.iloadN X0.here hx rfl (hb hby at_21) rfl ?_
  show Steps p.tables e below (s₁.setTop (mkF m 22 #[.val (.int p0), .val (.int (1 : Int32)), .unset, .unset, .unset] [(.int (1 : Int32))])) _
  refine XS.iconst X0.here hx rfl (hb hby at_22) ?_
  show Steps p.tables e below (s₁.setTop (mkF m 23 #[.val (.int p0), .val (.int (1 : Int32)), .unset, .unset, .unset] [(.int (1 : Int32)), (.int (1 : Int32))])) _
  refine XS.icmpNo X0.here hx rfl (hb hby at_23) rfl (teq (by decide : (1 : Int32) = (1 : Int32))).2 ?_
  show Steps p.tables e below (s₁.setTop (mkF m 26 #[.val (.int p0), .val (.int (1 : Int32)), .unset, .unset, .unset] [])) _
  refine st1 _ ?_
  show Steps p.tables e below (T1.setTop (mkF m 29 #[.val (.int p0), .val (.int (1 : Int32)), .unset, .unset, .unset] [(.ref w_WRITE)])) _
  refine XS.astoreN X1.here hx rfl (hb hby at_29) rfl rfl (l' := #[.val (.int p0), .val (.int (1 : Int32)), .val (.ref w_WRITE), .unset, .unset]) rfl ?_
  show Steps p.tables e below (T1.setTop (mkF m 30 #[.val (.int p0), .val (.int (1 : Int32)), .val (.ref w_WRITE), .unset, .unset] [])) _
  refine XS.iconst X1.here hx rfl (hb hby at_30) ?_
  show Steps p.tables e below (T1.setTop (mkF m 31 #[.val (.int p0), .val (.int (1 : Int32)), .val (.ref w_WRITE), .unset, .unset] [(.int (0 : Int32))])) _
  refine XS.istoreN X1.here hx rfl (hb hby at_31) rfl (l' := #[.val (.int p0), .val (.int (1 : Int32)), .val (.ref w_WRITE), .val (.int (0 : Int32)), .unset]) rfl ?_
  show Steps p.tables e below (T1.setTop (mkF m 32 #[.val (.int p0), .val (.int (1 : Int32)), .val (.ref w_WRITE), .val (.int (0 : Int32)), .unset] [])) _
  refine XS.goto X1.here hx rfl (pc0 := 32) (pc' := 83) rfl (hb hby at_32) (by decide) (by decide) ?_
  show Steps p.tables e below (T1.setTop (mkF m 83 #[.val (.int p0), .val (.int (1 : Int32)), .val (.ref w_WRITE), .val (.int (0 : Int32)), .unset] [])) _
  refine XS.aloadN X1.here hx rfl (hb hby at_83) rfl rfl ?_
  show Steps p.tables e below (T1.setTop (mkF m 84 #[.val (.int p0), .val (.int (1 : Int32)), .val (.ref w_WRITE), .val (.int (0 : Int32)), .unset] [(.ref w_WRITE)])) _
  refine st2.trans ?_
  show Steps p.tables e below (T2.setTop (mkF m 87 #[.val (.int p0), .val (.int (1 : Int32)), .val (.ref w_WRITE), .val (.int (0 : Int32)), .unset] [(.int (0 : Int32))])) _
  refine XS.istore X2.here hx rfl (hb hby at_87) rfl (l' := #[.val (.int p0), .val (.int (1 : Int32)), .val (.ref w_WRITE), .val (.int (0 : Int32)), .val (.int (0 : Int32))]) rfl ?_
  show Steps p.tables e below (T2.setTop (mkF m 89 #[.val (.int p0), .val (.int (1 : Int32)), .val (.ref w_WRITE), .val (.int (0 : Int32)), .val (.int (0 : Int32))] [])) _
  refine XS.iload X2.here hx rfl (hb hby at_89) rfl ?_
  show Steps p.tables e below (T2.setTop (mkF m 91 #[.val (.int p0), .val (.int (1 : Int32)), .val (.ref w_WRITE), .val (.int (0 : Int32)), .val (.int (0 : Int32))] [(.int (0 : Int32))])) _
  refine XS.iloadN X2.here hx rfl (hb hby at_91) rfl ?_
  show Steps p.tables e below (T2.setTop (mkF m 92 #[.val (.int p0), .val (.int (1 : Int32)), .val (.ref w_WRITE), .val (.int (0 : Int32)), .val (.int (0 : Int32))] [(.int (0 : Int32)), (.int (0 : Int32))])) _
  refine XS.icmpYes X2.here hx rfl (pc0 := 92) (pc' := 97) rfl (hb hby at_92) rfl (teq (by decide : (0 : Int32) = (0 : Int32))).1 (by decide) (by decide) ?_
  show Steps p.tables e below (T2.setTop (mkF m 97 #[.val (.int p0), .val (.int (1 : Int32)), .val (.ref w_WRITE), .val (.int (0 : Int32)), .val (.int (0 : Int32))] [])) _
  refine XS.iload X2.here hx rfl (hb hby at_97) rfl ?_
  show Steps p.tables e below (T2.setTop (mkF m 99 #[.val (.int p0), .val (.int (1 : Int32)), .val (.ref w_WRITE), .val (.int (0 : Int32)), .val (.int (0 : Int32))] [(.int (0 : Int32))])) _
  refine XS.ifYes X2.here hx rfl (pc0 := 99) (pc' := 110) rfl (hb hby at_99) rfl ((if0 _ _).trans (teq (by decide : (0 : Int32) = (0 : Int32))).1) (by decide) (by decide) ?_
  show Steps p.tables e below (T2.setTop (mkF m 110 #[.val (.int p0), .val (.int (1 : Int32)), .val (.ref w_WRITE), .val (.int (0 : Int32)), .val (.int (0 : Int32))] [])) _
  refine XS.iconst X2.here hx rfl (hb hby at_110) ?_
  show Steps p.tables e below (T2.setTop (mkF m 111 #[.val (.int p0), .val (.int (1 : Int32)), .val (.ref w_WRITE), .val (.int (0 : Int32)), .val (.int (0 : Int32))] [(.int (1 : Int32))])) _
  refine XS.goto X2.here hx rfl (pc0 := 111) (pc' := 115) rfl (hb hby at_111) (by decide) (by decide) ?_
  show Steps p.tables e below (T2.setTop (mkF m 115 #[.val (.int p0), .val (.int (1 : Int32)), .val (.ref w_WRITE), .val (.int (0 : Int32)), .val (.int (0 : Int32))] [(.int (1 : Int32))])) _
  exact retN X2 hx (t := .boolean) Bd.returns (by simp) (hb hby at_115) hr
set_option maxRecDepth 65536 in
set_option maxHeartbeats 40000000 in
theorem rm1_2 (l : Launch) (Z : State) (a0 : Array Value) (hw : ∀ d ∈ tables_1, d.before a0 Z = true) (ws : List Jvm.Cond) (w_READ w_WRITE w_INSERT w_PHANTOM w_SCHEMA w_SCHEMA_EXCLUSIVE : Addr) (h0 : Heap) (n0 : Nat) (Z0 : n0 ≤ h0.size) (S : SF Z h0 w_READ w_WRITE w_INSERT w_PHANTOM w_SCHEMA w_SCHEMA_EXCLUSIVE) :
    Pay l Z (⟨"com/example/oyster/oyster/engine/LockMode", "isForReading", "()Z"⟩ : MethodName) ws prog_62_method_8_code 1 (some .boolean) #[(.ref w_PHANTOM)] h0 n0 ({ frames := 0, cells := 0, slots := 0, locals := 0 } : Room) (some (.int (1 : Int32))) := by
  obtain ⟨S_w_READ, E_w_READ, S_w_WRITE, E_w_WRITE, S_w_INSERT, E_w_INSERT, S_w_PHANTOM, E_w_PHANTOM, S_w_SCHEMA, E_w_SCHEMA, S_w_SCHEMA_EXCLUSIVE, E_w_SCHEMA_EXCLUSIVE, F_ordinal_w_READ, F_ordinal_w_WRITE, F_ordinal_w_INSERT, F_ordinal_w_PHANTOM, F_ordinal_w_SCHEMA, F_ordinal_w_SCHEMA_EXCLUSIVE, hne_w_READ_w_WRITE, hne_w_READ_w_INSERT, hne_w_READ_w_PHANTOM, hne_w_READ_w_SCHEMA, hne_w_READ_w_SCHEMA_EXCLUSIVE, hne_w_WRITE_w_INSERT, hne_w_WRITE_w_PHANTOM, hne_w_WRITE_w_SCHEMA, hne_w_WRITE_w_SCHEMA_EXCLUSIVE, hne_w_INSERT_w_PHANTOM, hne_w_INSERT_w_SCHEMA, hne_w_INSERT_w_SCHEMA_EXCLUSIVE, hne_w_PHANTOM_w_SCHEMA, hne_w_PHANTOM_w_SCHEMA_EXCLUSIVE, hne_w_SCHEMA_w_SCHEMA_EXCLUSIVE⟩ := id S
  refine MetFree.of_bodySF (plainFor_of_name pn_0) hisR ?_
  intro p e s m args below meth c s₁ Bd hml0 hP hK
  obtain ⟨rfl, hZ, hh⟩ := hP
  have hx := Bd.exec
  have hby := Bd.bytes
  have hml : c.maxLocals = 1 := hml0
  have hown : s.vm.findClass "com/example/oyster/oyster/engine/LockMode" = some m.cls := findClass_of_methodNamed Bd.named
  have X0 : Stand p l e ({ frames := 0, cells := 0, slots := 0, locals := 0 } : Room) s m #[(.ref w_PHANTOM)] below meth c s₁ [] 0 0 := Stand.of_body Bd
  have e0 : s₁.heap = h0 := by rw [← hh, Bd.state]; rfl
  have N0 := Fr.nil n0
  have pre0 : ∀ t, Steps p.tables e below (s₁.setTop (mkF m 0 #[.val (.ref w_PHANTOM)] [])) t → Steps p.tables e below (s₁.setTop (entryFrame m #[(.ref w_PHANTOM)] 1)) t := fun t k => castTop (by first | rfl | (simp [entryFrame, mkF, argsToLocals, Value.category]; done)) k
  obtain ⟨T1, X1, e1, st1⟩ := getS2 X0 hx hZ hown (host := "") (Or.inl (hw _ (List.mem_of_getElem? (i := 9) rfl))) Via.refl e0 S_w_READ (g := (mkF m 1 #[.val (.ref w_PHANTOM)] [(.ref w_PHANTOM)])) rfl (hb hby d1_1)
  obtain ⟨T2, X2, e2, st2⟩ := getS2 X1 hx hZ hown (host := "") (Or.inl (hw _ (List.mem_of_getElem? (i := 28) rfl))) Via.refl e1 S_w_PHANTOM (g := (mkF m 8 #[.val (.ref w_PHANTOM)] [(.ref w_PHANTOM)])) rfl (hb hby d1_8)
  obtain ⟨fs, hr, hrun, hended, hW, hsame⟩ := X2.leave (v := (some (.int (1 : Int32)))) (fun h => by rw [Bd.returns] at h; cases h)
  refine ⟨_, _, pre0 _ ?_, hrun, hended, _, _, rfl, ⟨rfl, N0, e2⟩, ⟨_, rfl⟩, hW, hsame.mono (by decide) (by decide)⟩
  show Steps p.tables e below (s₁.setTop (mkF m 0 #[.val (.ref w_PHANTOM)] [])) _
  refine XS.aloadN X0.here hx rfl (hb hby d1_0) rfl rfl ?_
  show Steps p.tables e below (s₁.setTop (mkF m 1 #[.val (.ref w_PHANTOM)] [(.ref w_PHANTOM)])) _
  refine st1 _ ?_
  show Steps p.tables e below (T1.setTop (mkF m 4 #[.val (.ref w_PHANTOM)] [(.ref w_READ), (.ref w_PHANTOM)])) _
  refine Jvm.RoadKit.acmp (g := (mkF m 4 #[.val (.ref w_PHANTOM)] [(.ref w_READ), (.ref w_PHANTOM)])) X1 hx rfl rfl rfl (pc0 := 4) (pc' := 7) (same := false) rfl (hb hby d1_4) rfl (decide_eq_false fun q => hne_w_READ_w_PHANTOM (Value.ref.inj q).symm) (by decide) (by decide) ?_
  show Steps p.tables e below (T1.setTop (mkF m 7 #[.val (.ref w_PHANTOM)] [])) _
  refine XS.aloadN X1.here hx rfl (hb hby d1_7) rfl rfl ?_
  show Steps p.tables e below (T1.setTop (mkF m 8 #[.val (.ref w_PHANTOM)] [(.ref w_PHANTOM)])) _
  refine st2 _ ?_
  show Steps p.tables e below (T2.setTop (mkF m 11 #[.val (.ref w_PHANTOM)] [(.ref w_PHANTOM), (.ref w_PHANTOM)])) _
  refine Jvm.RoadKit.acmp (g := (mkF m 11 #[.val (.ref w_PHANTOM)] [(.ref w_PHANTOM), (.ref w_PHANTOM)])) X2 hx rfl rfl rfl (pc0 := 11) (pc' := 21) (same := true) rfl (hb hby d1_11) rfl (decide_eq_true rfl) (by decide) (by decide) ?_
  show Steps p.tables e below (T2.setTop (mkF m 21 #[.val (.ref w_PHANTOM)] [])) _
  refine XS.iconst X2.here hx rfl (hb hby d1_21) ?_
  show Steps p.tables e below (T2.setTop (mkF m 22 #[.val (.ref w_PHANTOM)] [(.int (1 : Int32))])) _
  refine XS.goto X2.here hx rfl (pc0 := 22) (pc' := 26) rfl (hb hby d1_22) (by decide) (by decide) ?_
  show Steps p.tables e below (T2.setTop (mkF m 26 #[.val (.ref w_PHANTOM)] [(.int (1 : Int32))])) _
  exact retN X2 hx (t := .boolean) Bd.returns (by simp) (hb hby d1_26) hr
set_option maxRecDepth 65536 in
set_option maxHeartbeats 40000000 in
theorem rm3_1 (l : Launch) (Z : State) (a0 : Array Value) (hw : ∀ d ∈ tables_1, d.before a0 Z = true) (ws : List Jvm.Cond) (w_READ w_WRITE w_INSERT w_PHANTOM w_SCHEMA w_SCHEMA_EXCLUSIVE : Addr) (h0 : Heap) (n0 : Nat) (Z0 : n0 ≤ h0.size) (S : SF Z h0 w_READ w_WRITE w_INSERT w_PHANTOM w_SCHEMA w_SCHEMA_EXCLUSIVE) :
    Pay l Z (⟨"java/lang/Enum", "ordinal", "()I"⟩ : MethodName) ws jdk_37_method_2_code 1 (some .int) #[(.ref w_PHANTOM)] h0 n0 ({ frames := 0, cells := 0, slots := 0, locals := 0 } : Room) (some (.int (2 : Int32))) := by
  obtain ⟨S_w_READ, E_w_READ, S_w_WRITE, E_w_WRITE, S_w_INSERT, E_w_INSERT, S_w_PHANTOM, E_w_PHANTOM, S_w_SCHEMA, E_w_SCHEMA, S_w_SCHEMA_EXCLUSIVE, E_w_SCHEMA_EXCLUSIVE, F_ordinal_w_READ, F_ordinal_w_WRITE, F_ordinal_w_INSERT, F_ordinal_w_PHANTOM, F_ordinal_w_SCHEMA, F_ordinal_w_SCHEMA_EXCLUSIVE, hne_w_READ_w_WRITE, hne_w_READ_w_INSERT, hne_w_READ_w_PHANTOM, hne_w_READ_w_SCHEMA, hne_w_READ_w_SCHEMA_EXCLUSIVE, hne_w_WRITE_w_INSERT, hne_w_WRITE_w_PHANTOM, hne_w_WRITE_w_SCHEMA, hne_w_WRITE_w_SCHEMA_EXCLUSIVE, hne_w_INSERT_w_PHANTOM, hne_w_INSERT_w_SCHEMA, hne_w_INSERT_w_SCHEMA_EXCLUSIVE, hne_w_PHANTOM_w_SCHEMA, hne_w_PHANTOM_w_SCHEMA_EXCLUSIVE, hne_w_SCHEMA_w_SCHEMA_EXCLUSIVE⟩ := id S
  refine MetFree.of_bodySF (plainFor_of_name pn_1) hisR ?_
  intro p e s m args below meth c s₁ Bd hml0 hP hK
  obtain ⟨rfl, hZ, hh⟩ := hP
  have hx := Bd.exec
  have hby := Bd.bytes
  have hml : c.maxLocals = 1 := hml0
  have hown : s.vm.findClass "java/lang/Enum" = some m.cls := findClass_of_methodNamed Bd.named
  have X0 : Stand p l e ({ frames := 0, cells := 0, slots := 0, locals := 0 } : Room) s m #[(.ref w_PHANTOM)] below meth c s₁ [] 0 0 := Stand.of_body Bd
  have e0 : s₁.heap = h0 := by rw [← hh, Bd.state]; rfl
  have N0 := Fr.nil n0
  have pre0 : ∀ t, Steps p.tables e below (s₁.setTop (mkF m 0 #[.val (.ref w_PHANTOM)] [])) t → Steps p.tables e below (s₁.setTop (entryFrame m #[(.ref w_PHANTOM)] 1)) t := fun t k => castTop (by first | rfl | (simp [entryFrame, mkF, argsToLocals, Value.category]; done)) k
  obtain ⟨T1, X1, e1, st1⟩ := getF X0 hx hZ hown (host := "") (Or.inl (hw _ (List.mem_of_getElem? (i := 22) rfl))) Via.refl e0 F_ordinal_w_PHANTOM (g := (mkF m 1 #[.val (.ref w_PHANTOM)] [(.ref w_PHANTOM)])) rfl rfl (hb hby d3_1)
  obtain ⟨fs, hr, hrun, hended, hW, hsame⟩ := X1.leave (v := (some (.int (2 : Int32)))) (fun h => by rw [Bd.returns] at h; cases h)
  refine ⟨_, _, pre0 _ ?_, hrun, hended, _, _, rfl, ⟨rfl, N0, e1⟩, ⟨_, rfl⟩, hW, hsame.mono (by decide) (by decide)⟩
  show Steps p.tables e below (s₁.setTop (mkF m 0 #[.val (.ref w_PHANTOM)] [])) _
  refine XS.aloadN X0.here hx rfl (hb hby d3_0) rfl rfl ?_
  show Steps p.tables e below (s₁.setTop (mkF m 1 #[.val (.ref w_PHANTOM)] [(.ref w_PHANTOM)])) _
  refine st1 _ ?_
  show Steps p.tables e below (T1.setTop (mkF m 4 #[.val (.ref w_PHANTOM)] [(.int (2 : Int32))])) _
  exact retOut X1 hx (t := .int) (i := .ireturn) Bd.returns rfl (Or.inl ⟨rfl, Or.inl rfl, _, rfl⟩) (hb hby d3_4) hr
theorem d2_91 : decode prog_62_method_9_code 91 = .ok (.aload_n 1, 1) := by decide +kernel
theorem d2_92 : decode prog_62_method_9_code 92 = .ok (.getstatic 13, 3) := by decide +kernel
theorem d2_95 : decode prog_62_method_9_code 95 = .ok (.if_acmp .ne 7, 3) := by decide +kernel
theorem d2_102 : decode prog_62_method_9_code 102 = .ok (.iconst 0, 1) := by decide +kernel
theorem d2_103 : decode prog_62_method_9_code 103 = .ok (.goto 52, 3) := by decide +kernel
set_option maxRecDepth 65536 in
set_option maxHeartbeats 40000000 in
theorem rm2_1 (l : Launch) (Z : State) (a0 : Array Value) (hw : ∀ d ∈ tables_1, d.before a0 Z = true) (ws : List Jvm.Cond) (w_READ w_WRITE w_INSERT w_PHANTOM w_SCHEMA w_SCHEMA_EXCLUSIVE : Addr) (h0 : Heap) (n0 : Nat) (Z0 : n0 ≤ h0.size) (S : SF Z h0 w_READ w_WRITE w_INSERT w_PHANTOM w_SCHEMA w_SCHEMA_EXCLUSIVE) :
    Pay l Z (⟨"com/example/oyster/oyster/engine/LockMode", "conflictsWith", "(Lcom/example/oyster/oyster/engine/LockMode;)Z"⟩ : MethodName) ws prog_62_method_9_code 2 (some .boolean) #[(.ref w_PHANTOM), (.ref w_PHANTOM)] h0 n0 ({ frames := 1, cells := 0, slots := 0, locals := 12 } : Room) (some (.int (0 : Int32))) := by
  obtain ⟨S_w_READ, E_w_READ, S_w_WRITE, E_w_WRITE, S_w_INSERT, E_w_INSERT, S_w_PHANTOM, E_w_PHANTOM, S_w_SCHEMA, E_w_SCHEMA, S_w_SCHEMA_EXCLUSIVE, E_w_SCHEMA_EXCLUSIVE, F_ordinal_w_READ, F_ordinal_w_WRITE, F_ordinal_w_INSERT, F_ordinal_w_PHANTOM, F_ordinal_w_SCHEMA, F_ordinal_w_SCHEMA_EXCLUSIVE, hne_w_READ_w_WRITE, hne_w_READ_w_INSERT, hne_w_READ_w_PHANTOM, hne_w_READ_w_SCHEMA, hne_w_READ_w_SCHEMA_EXCLUSIVE, hne_w_WRITE_w_INSERT, hne_w_WRITE_w_PHANTOM, hne_w_WRITE_w_SCHEMA, hne_w_WRITE_w_SCHEMA_EXCLUSIVE, hne_w_INSERT_w_PHANTOM, hne_w_INSERT_w_SCHEMA, hne_w_INSERT_w_SCHEMA_EXCLUSIVE, hne_w_PHANTOM_w_SCHEMA, hne_w_PHANTOM_w_SCHEMA_EXCLUSIVE, hne_w_SCHEMA_w_SCHEMA_EXCLUSIVE⟩ := id S
  refine MetFree.of_bodySF (plainFor_of_name pn_0) hisR ?_
  intro p e s m args below meth c s₁ Bd hml0 hP hK
  obtain ⟨rfl, hZ, hh⟩ := hP
  have hx := Bd.exec
  have hby := Bd.bytes
  have hml : c.maxLocals = 2 := hml0
  have hown : s.vm.findClass "com/example/oyster/oyster/engine/LockMode" = some m.cls := findClass_of_methodNamed Bd.named
  have X0 : Stand p l e ({ frames := 1, cells := 0, slots := 0, locals := 12 } : Room) s m #[(.ref w_PHANTOM), (.ref w_PHANTOM)] below meth c s₁ [] 0 0 := Stand.of_body Bd
  have e0 : s₁.heap = h0 := by rw [← hh, Bd.state]; rfl
  have N0 := Fr.nil n0
  have pre0 : ∀ t, Steps p.tables e below (s₁.setTop (mkF m 0 #[.val (.ref w_PHANTOM), .val (.ref w_PHANTOM)] [])) t → Steps p.tables e below (s₁.setTop (entryFrame m #[(.ref w_PHANTOM), (.ref w_PHANTOM)] 2)) t := fun t k => castTop (by first | rfl | (simp [entryFrame, mkF, argsToLocals, Value.category]; done)) k
  obtain ⟨cq1, kq1, q1a, q1b, q1c⟩ := isOf hZ e0 E_w_PHANTOM
  obtain ⟨_, _, ⟨T1, L1, k1, n1⟩, -, X1, ⟨Lc1, hQ1, l1, y1, z1⟩, st1⟩ := X0.virtualBackUp hx (x := (⟨"com/example/oyster/oyster/engine/LockMode", "ordinal", "()I"⟩ : MethodName)) (y := (⟨"java/lang/Enum", "ordinal", "()I"⟩ : MethodName)) (owner := "java/lang/Enum") hown (mvT hZ (hw _ (List.mem_of_getElem? (i := 15) rfl))) (mvT hZ (hw _ (List.mem_of_getElem? (i := 16) rfl))) (mvT hZ (hw _ (List.mem_of_getElem? (i := 17) rfl))) (by decide) (mvT hZ (hw _ (List.mem_of_getElem? (i := 19) rfl))) (mvT hZ (hw _ (List.mem_of_getElem? (i := 18) rfl))) (backOf (W := 0) (rm3_1 l Z a0 hw [] w_READ w_WRITE w_INSERT w_PHANTOM w_SCHEMA w_SCHEMA_EXCLUSIVE h0 n0 Z0 S) hZ (hw _ (List.mem_of_getElem? (i := 21) rfl)) (hw _ (List.mem_of_getElem? (i := 20) rfl)) (by decide) (by decide)) q1a q1c (g := (mkF m 1 #[.val (.ref w_PHANTOM), .val (.ref w_PHANTOM)] [(.ref w_PHANTOM)])) rfl (by rw [hml]; rfl) (Steps.refl _) (argsL := []) (rest := []) (lenOf pd_1 rfl) rfl (by show 2 * 0 + _ ≤ _; exact Nat.le_of_eq rfl) (hb hby d2_1) (fun _ _ => ⟨rfl, e0, (by decide : 0 + 0 ≤ _), (by decide : 0 + 0 ≤ _)⟩)
  dsimp only [Pt.U, Pt.locs, Pt.cells, Pt.slots] at X1 l1 y1 z1 st1 hQ1
  subst l1 y1 z1
  obtain ⟨rfl, Nq1, e1⟩ := hQ1
  have N1 := Fr.app N0 Nq1
  obtain ⟨T2, X2, e2, st2⟩ := getS2 X1 hx hZ hown (host := "") (Or.inl (hw _ (List.mem_of_getElem? (i := 33) rfl))) Via.refl e1 S_w_INSERT (g := (mkF m 92 #[.val (.ref w_PHANTOM), .val (.ref w_PHANTOM)] [(.ref w_PHANTOM)])) rfl (hb hby d2_92)
  obtain ⟨fs, hr, hrun, hended, hW, hsame⟩ := X2.leave (v := (some (.int (0 : Int32)))) (fun h => by rw [Bd.returns] at h; cases h)
  refine ⟨_, _, pre0 _ ?_, hrun, hended, _, _, rfl, ⟨rfl, N1, e2⟩, ⟨_, rfl⟩, hW, hsame.mono (by decide) (by decide)⟩
  show Steps p.tables e below (s₁.setTop (mkF m 0 #[.val (.ref w_PHANTOM), .val (.ref w_PHANTOM)] [])) _
  refine XS.aloadN X0.here hx rfl (hb hby d2_0) rfl rfl ?_
  show Steps p.tables e below (s₁.setTop (mkF m 1 #[.val (.ref w_PHANTOM), .val (.ref w_PHANTOM)] [(.ref w_PHANTOM)])) _
  refine st1.trans ?_
  show Steps p.tables e below (T1.setTop (mkF m 4 #[.val (.ref w_PHANTOM), .val (.ref w_PHANTOM)] [(.int (2 : Int32))])) _
  refine XS.tswIn X1.here hx rfl (pc0 := 4) (pc' := 91) rfl (hb hby d2_4) rfl (by decide) (o := 87) (by decide) (by decide) (by decide) ?_
  show Steps p.tables e below (T1.setTop (mkF m 91 #[.val (.ref w_PHANTOM), .val (.ref w_PHANTOM)] [])) _
  refine XS.aloadN X1.here hx rfl (hb hby d2_91) rfl rfl ?_
  show Steps p.tables e below (T1.setTop (mkF m 92 #[.val (.ref w_PHANTOM), .val (.ref w_PHANTOM)] [(.ref w_PHANTOM)])) _
  refine st2 _ ?_
  show Steps p.tables e below (T2.setTop (mkF m 95 #[.val (.ref w_PHANTOM), .val (.ref w_PHANTOM)] [(.ref w_INSERT), (.ref w_PHANTOM)])) _
  refine Jvm.RoadKit.acmp (g := (mkF m 95 #[.val (.ref w_PHANTOM), .val (.ref w_PHANTOM)] [(.ref w_INSERT), (.ref w_PHANTOM)])) X2 hx rfl rfl rfl (pc0 := 95) (pc' := 102) (same := false) rfl (hb hby d2_95) rfl (decide_eq_false fun q => hne_w_INSERT_w_PHANTOM (Value.ref.inj q).symm) (by decide) (by decide) ?_
  show Steps p.tables e below (T2.setTop (mkF m 102 #[.val (.ref w_PHANTOM), .val (.ref w_PHANTOM)] [])) _
  refine XS.iconst X2.here hx rfl (hb hby d2_102) ?_
  show Steps p.tables e below (T2.setTop (mkF m 103 #[.val (.ref w_PHANTOM), .val (.ref w_PHANTOM)] [(.int (0 : Int32))])) _
  refine XS.goto X2.here hx rfl (pc0 := 103) (pc' := 155) rfl (hb hby d2_103) (by decide) (by decide) ?_
  show Steps p.tables e below (T2.setTop (mkF m 155 #[.val (.ref w_PHANTOM), .val (.ref w_PHANTOM)] [(.int (0 : Int32))])) _
  exact retN X2 hx (t := .boolean) Bd.returns (by simp) (hb hby d2_155) hr
set_option maxRecDepth 65536 in
set_option maxHeartbeats 40000000 in
theorem rm0_2 (l : Launch) (Z : State) (a0 : Array Value) (hw : ∀ d ∈ tables_1, d.before a0 Z = true) (ws : List Jvm.Cond) (w_READ w_WRITE w_INSERT w_PHANTOM w_SCHEMA w_SCHEMA_EXCLUSIVE : Addr) (h0 : Heap) (n0 : Nat) (Z0 : n0 ≤ h0.size) (S : SF Z h0 w_READ w_WRITE w_INSERT w_PHANTOM w_SCHEMA w_SCHEMA_EXCLUSIVE) (p0 : Int32) (hk : ((p0 &&& (2147483647 : Int32)) % (6 : Int32)) = (2 : Int32)) :
    Pay l Z x ws code maxLocals ret #[(.int p0)] h0 n0 room_1 (some (.int (1 : Int32))) := by
  obtain ⟨S_w_READ, E_w_READ, S_w_WRITE, E_w_WRITE, S_w_INSERT, E_w_INSERT, S_w_PHANTOM, E_w_PHANTOM, S_w_SCHEMA, E_w_SCHEMA, S_w_SCHEMA_EXCLUSIVE, E_w_SCHEMA_EXCLUSIVE, F_ordinal_w_READ, F_ordinal_w_WRITE, F_ordinal_w_INSERT, F_ordinal_w_PHANTOM, F_ordinal_w_SCHEMA, F_ordinal_w_SCHEMA_EXCLUSIVE, hne_w_READ_w_WRITE, hne_w_READ_w_INSERT, hne_w_READ_w_PHANTOM, hne_w_READ_w_SCHEMA, hne_w_READ_w_SCHEMA_EXCLUSIVE, hne_w_WRITE_w_INSERT, hne_w_WRITE_w_PHANTOM, hne_w_WRITE_w_SCHEMA, hne_w_WRITE_w_SCHEMA_EXCLUSIVE, hne_w_INSERT_w_PHANTOM, hne_w_INSERT_w_SCHEMA, hne_w_INSERT_w_SCHEMA_EXCLUSIVE, hne_w_PHANTOM_w_SCHEMA, hne_w_PHANTOM_w_SCHEMA_EXCLUSIVE, hne_w_SCHEMA_w_SCHEMA_EXCLUSIVE⟩ := id S
  refine MetFree.of_bodySF (plainFor_of_name pn_2) hisR ?_
  intro p e s m args below meth c s₁ Bd hml0 hP hK
  obtain ⟨rfl, hZ, hh⟩ := hP
  have hx := Bd.exec
  have hby := Bd.bytes
  have hml : c.maxLocals = 5 := hml0
  have hown : s.vm.findClass "com/example/oyster/oyster/engine/LockModeIsForReadingPinLaw" = some m.cls := findClass_of_methodNamed Bd.named
  have X0 : Stand p l e room_1 s m #[(.int p0)] below meth c s₁ [] 0 0 := Stand.of_body Bd
  have e0 : s₁.heap = h0 := by rw [← hh, Bd.state]; rfl
  have N0 := Fr.nil n0
  have pre0 : ∀ t, Steps p.tables e below (s₁.setTop (mkF m 0 #[.val (.int p0), .unset, .unset, .unset, .unset] [])) t → Steps p.tables e below (s₁.setTop (entryFrame m #[(.int p0)] maxLocals)) t := fun t k => castTop (by first | rfl | (simp [entryFrame, mkF, argsToLocals, Value.category, maxLocals]; done)) k
  obtain ⟨T1, X1, e1, st1⟩ := getS2 X0 hx hZ hown (host := "") (Or.inl (hw _ (List.mem_of_getElem? (i := 32) rfl))) Via.refl e0 S_w_PHANTOM (g := (mkF m 40 #[.val (.int p0), .val (.int (2 : Int32)), .unset, .unset, .unset] [])) rfl (hb hby at_40)
  obtain ⟨cq2, kq2, q2a, q2b, q2c⟩ := isOf hZ e1 E_w_PHANTOM
  obtain ⟨_, _, ⟨T2, L2, k2, n2⟩, -, X2, ⟨Lc2, hQ2, l2, y2, z2⟩, st2⟩ := X1.virtualBack hx (y := (⟨"com/example/oyster/oyster/engine/LockMode", "isForReading", "()Z"⟩ : MethodName)) (z := (⟨"com/example/oyster/oyster/engine/LockMode", "isForReading", "()Z"⟩ : MethodName)) hown (mvT hZ (hw _ (List.mem_of_getElem? (i := 4) rfl))) (mvT hZ (hw _ (List.mem_of_getElem? (i := 5) rfl))) (notFace_of_selects (args := #[]) (mvT hZ (hw _ (List.mem_of_getElem? (i := 7) rfl)))) (mvT hZ (hw _ (List.mem_of_getElem? (i := 7) rfl))) (mvT hZ (hw _ (List.mem_of_getElem? (i := 6) rfl))) (by decide) (backOf (W := 0) (rm1_2 l Z a0 hw [] w_READ w_WRITE w_INSERT w_PHANTOM w_SCHEMA w_SCHEMA_EXCLUSIVE h0 n0 Z0 S) hZ (hw _ (List.mem_of_getElem? (i := 8) rfl)) (hw _ (List.mem_of_getElem? (i := 2) rfl)) (by decide) (by decide)) q2a q2c (g := (mkF m 84 #[.val (.int p0), .val (.int (2 : Int32)), .val (.ref w_PHANTOM), .val (.int (1 : Int32)), .unset] [(.ref w_PHANTOM)])) rfl (by rw [hml]; rfl) (Steps.refl _) (argsL := []) (rest := []) (lenOf pd_0 rfl) rfl (by show 2 * 0 + _ ≤ _; exact Nat.le_of_eq rfl) (hb hby at_84) (fun _ _ => ⟨rfl, e1, (by decide : 0 + 0 ≤ _), (by decide : 0 + 0 ≤ _)⟩)
  dsimp only [Pt.U, Pt.locs, Pt.cells, Pt.slots] at X2 l2 y2 z2 st2 hQ2
  subst l2 y2 z2
  obtain ⟨rfl, Nq2, e2⟩ := hQ2
  have N2 := Fr.app N0 Nq2
  obtain ⟨cq3, kq3, q3a, q3b, q3c⟩ := isOf hZ e2 E_w_PHANTOM
  obtain ⟨_, _, ⟨T3, L3, k3, n3⟩, -, X3, ⟨Lc3, hQ3, l3, y3, z3⟩, st3⟩ := X2.virtualBack hx (y := (⟨"com/example/oyster/oyster/engine/LockMode", "conflictsWith", "(Lcom/example/oyster/oyster/engine/LockMode;)Z"⟩ : MethodName)) (z := (⟨"com/example/oyster/oyster/engine/LockMode", "conflictsWith", "(Lcom/example/oyster/oyster/engine/LockMode;)Z"⟩ : MethodName)) hown (mvT hZ (hw _ (List.mem_of_getElem? (i := 10) rfl))) (mvT hZ (hw _ (List.mem_of_getElem? (i := 11) rfl))) (notFace_of_selects (args := #[]) (mvT hZ (hw _ (List.mem_of_getElem? (i := 13) rfl)))) (mvT hZ (hw _ (List.mem_of_getElem? (i := 13) rfl))) (mvT hZ (hw _ (List.mem_of_getElem? (i := 12) rfl))) (by decide) (backOf (W := 0) (rm2_1 l Z a0 hw [] w_READ w_WRITE w_INSERT w_PHANTOM w_SCHEMA w_SCHEMA_EXCLUSIVE h0 n0 Z0 S) hZ (hw _ (List.mem_of_getElem? (i := 14) rfl)) (hw _ (List.mem_of_getElem? (i := 2) rfl)) (by decide) (by decide)) q3a q3c (g := (mkF m 104 #[.val (.int p0), .val (.int (2 : Int32)), .val (.ref w_PHANTOM), .val (.int (1 : Int32)), .val (.int (1 : Int32))] [(.ref w_PHANTOM), (.ref w_PHANTOM)])) rfl (by rw [hml]; rfl) (Steps.refl _) (argsL := [(.ref w_PHANTOM)]) (rest := []) (lenOf pd_2 rfl) rfl (by show 2 * 0 + _ ≤ _; exact Nat.le_of_eq rfl) (hb hby at_104) (fun _ _ => ⟨rfl, e2, (by decide : 0 + 0 ≤ _), (by decide : 0 + 0 ≤ _)⟩)
  dsimp only [Pt.U, Pt.locs, Pt.cells, Pt.slots] at X3 l3 y3 z3 st3 hQ3
  subst l3 y3 z3
  obtain ⟨rfl, Nq3, e3⟩ := hQ3
  have N3 := Fr.app N2 Nq3
  obtain ⟨fs, hr, hrun, hended, hW, hsame⟩ := X3.leave (v := (some (.int (1 : Int32)))) (fun h => by rw [Bd.returns] at h; cases h)
  refine ⟨_, _, pre0 _ ?_, hrun, hended, _, _, rfl, ⟨rfl, N3, e3⟩, ⟨_, rfl⟩, hW, hsame.mono (by decide) (by decide)⟩
  show Steps p.tables e below (s₁.setTop (mkF m 0 #[.val (.int p0), .unset, .unset, .unset, .unset] [])) _
  refine XS.iloadN X0.here hx rfl (hb hby at_0) rfl ?_
  show Steps p.tables e below (s₁.setTop (mkF m 1 #[.val (.int p0), .unset, .unset, .unset, .unset] [(.int p0)])) _
  refine X0.ldcInt hx hown (mvT hZ (hw _ (List.mem_of_getElem? (i := 0) rfl))) (g := (mkF m 1 #[.val (.int p0), .unset, .unset, .unset, .unset] [(.int p0)])) rfl (hb hby at_1) _ ?_
  show Steps p.tables e below (s₁.setTop (mkF m 3 #[.val (.int p0), .unset, .unset, .unset, .unset] [(.int (2147483647 : Int32)), (.int p0)])) _
  refine XS.iand X0.here hx rfl (hb hby at_3) rfl ?_
  show Steps p.tables e below (s₁.setTop (mkF m 4 #[.val (.int p0), .unset, .unset, .unset, .unset] [(.int (p0 &&& (2147483647 : Int32)))])) _
  show Steps p.tables e below (s₁.setTop (mkF m 4 #[.val (.int p0), .unset, .unset, .unset, .unset] [(.int (p0 &&& (2147483647 : Int32)))])) _
  refine XS.bipush X0.here hx rfl (hb hby at_4) ?_
  show Steps p.tables e below (s₁.setTop (mkF m 6 #[.val (.int p0), .unset, .unset, .unset, .unset] [(.int (6 : Int32)), (.int (p0 &&& (2147483647 : Int32)))])) _
  refine iremM X0 hx rfl (hb hby at_6) rfl (by decide) ?_
  show Steps p.tables e below (s₁.setTop (mkF m 7 #[.val (.int p0), .unset, .unset, .unset, .unset] [(.int ((p0 &&& (2147483647 : Int32)) % (6 : Int32)))])) _
  rw [hk]
  show Steps p.tables e below (s₁.setTop (mkF m 7 #[.val (.int p0), .unset, .unset, .unset, .unset] [(.int (2 : Int32))])) _
  refine XS.istoreN X0.here hx rfl (hb hby at_7) rfl (l' := #[.val (.int p0), .val (.int (2 : Int32)), .unset, .unset, .unset]) rfl ?_
  show Steps p.tables e below (s₁.setTop (mkF m 8 #[.val (.int p0), .val (.int (2 : Int32)), .unset, .unset, .unset] [])) _
  refine XS.iloadN X0.here hx rfl (hb hby at_8) rfl ?_
  show Steps p.tables e below (s₁.setTop (mkF m 9 #[.val (.int p0), .val (.int (2 : Int32)), .unset, .unset, .unset] [(.int (2 : Int32))])) _
  refine XS.ifYes X0.here hx rfl (pc0 := 9) (pc' := 21) rfl (hb hby at_9) rfl ((if0 _ _).trans (feq (by decide : ¬ ((2 : Int32) = (0 : Int32)))).2) (by decide) (by decide) ?_
  show Steps p.tables e below (s₁.setTop (mkF m 21 #[.val (.int p0), .val (.int (2 : Int32)), .unset, .unset, .unset] [])) _
  refine XS.iloadN X0.here hx rfl (hb hby at_21) rfl ?_
  show Steps p.tables e below (s₁.setTop (mkF m 22 #[.val (.int p0), .val (.int (2 : Int32)), .unset, .unset, .unset] [(.int (2 : Int32))])) _
  refine XS.iconst X0.here hx rfl (hb hby at_22) ?_
  show Steps p.tables e below (s₁.setTop (mkF m 23 #[.val (.int p0), .val (.int (2 : Int32)), .unset, .unset, .unset] [(.int (1 : Int32)), (.int (2 : Int32))])) _
  refine XS.icmpYes X0.here hx rfl (pc0 := 23) (pc' := 35) rfl (hb hby at_23) rfl (feq (by decide : ¬ ((2 : Int32) = (1 : Int32)))).2 (by decide) (by decide) ?_
  show Steps p.tables e below (s₁.setTop (mkF m 35 #[.val (.int p0), .val (.int (2 : Int32)), .unset, .unset, .unset] [])) _
  refine XS.iloadN X0.here hx rfl (hb hby at_35) rfl ?_
  show Steps p.tables e below (s₁.setTop (mkF m 36 #[.val (.int p0), .val (.int (2 : Int32)), .unset, .unset, .unset] [(.int (2 : Int32))])) _
  refine XS.iconst X0.here hx rfl (hb hby at_36) ?_
  show Steps p.tables e below (s₁.setTop (mkF m 37 #[.val (.int p0), .val (.int (2 : Int32)), .unset, .unset, .unset] [(.int (2 : Int32)), (.int (2 : Int32))])) _
  refine XS.icmpNo X0.here hx rfl (hb hby at_37) rfl (teq (by decide : (2 : Int32) = (2 : Int32))).2 ?_
  show Steps p.tables e below (s₁.setTop (mkF m 40 #[.val (.int p0), .val (.int (2 : Int32)), .unset, .unset, .unset] [])) _
  refine st1 _ ?_
  show Steps p.tables e below (T1.setTop (mkF m 43 #[.val (.int p0), .val (.int (2 : Int32)), .unset, .unset, .unset] [(.ref w_PHANTOM)])) _
  refine XS.astoreN X1.here hx rfl (hb hby at_43) rfl rfl (l' := #[.val (.int p0), .val (.int (2 : Int32)), .val (.ref w_PHANTOM), .unset, .unset]) rfl ?_
  show Steps p.tables e below (T1.setTop (mkF m 44 #[.val (.int p0), .val (.int (2 : Int32)), .val (.ref w_PHANTOM), .unset, .unset] [])) _
  refine XS.iconst X1.here hx rfl (hb hby at_44) ?_
  show Steps p.tables e below (T1.setTop (mkF m 45 #[.val (.int p0), .val (.int (2 : Int32)), .val (.ref w_PHANTOM), .unset, .unset] [(.int (1 : Int32))])) _
  refine XS.istoreN X1.here hx rfl (hb hby at_45) rfl (l' := #[.val (.int p0), .val (.int (2 : Int32)), .val (.ref w_PHANTOM), .val (.int (1 : Int32)), .unset]) rfl ?_
  show Steps p.tables e below (T1.setTop (mkF m 46 #[.val (.int p0), .val (.int (2 : Int32)), .val (.ref w_PHANTOM), .val (.int (1 : Int32)), .unset] [])) _
  refine XS.goto X1.here hx rfl (pc0 := 46) (pc' := 83) rfl (hb hby at_46) (by decide) (by decide) ?_
  show Steps p.tables e below (T1.setTop (mkF m 83 #[.val (.int p0), .val (.int (2 : Int32)), .val (.ref w_PHANTOM), .val (.int (1 : Int32)), .unset] [])) _
  refine XS.aloadN X1.here hx rfl (hb hby at_83) rfl rfl ?_
  show Steps p.tables e below (T1.setTop (mkF m 84 #[.val (.int p0), .val (.int (2 : Int32)), .val (.ref w_PHANTOM), .val (.int (1 : Int32)), .unset] [(.ref w_PHANTOM)])) _
  refine st2.trans ?_
  show Steps p.tables e below (T2.setTop (mkF m 87 #[.val (.int p0), .val (.int (2 : Int32)), .val (.ref w_PHANTOM), .val (.int (1 : Int32)), .unset] [(.int (1 : Int32))])) _
  refine XS.istore X2.here hx rfl (hb hby at_87) rfl (l' := #[.val (.int p0), .val (.int (2 : Int32)), .val (.ref w_PHANTOM), .val (.int (1 : Int32)), .val (.int (1 : Int32))]) rfl ?_
  show Steps p.tables e below (T2.setTop (mkF m 89 #[.val (.int p0), .val (.int (2 : Int32)), .val (.ref w_PHANTOM), .val (.int (1 : Int32)), .val (.int (1 : Int32))] [])) _
  refine XS.iload X2.here hx rfl (hb hby at_89) rfl ?_
  show Steps p.tables e below (T2.setTop (mkF m 91 #[.val (.int p0), .val (.int (2 : Int32)), .val (.ref w_PHANTOM), .val (.int (1 : Int32)), .val (.int (1 : Int32))] [(.int (1 : Int32))])) _
  refine XS.iloadN X2.here hx rfl (hb hby at_91) rfl ?_
  show Steps p.tables e below (T2.setTop (mkF m 92 #[.val (.int p0), .val (.int (2 : Int32)), .val (.ref w_PHANTOM), .val (.int (1 : Int32)), .val (.int (1 : Int32))] [(.int (1 : Int32)), (.int (1 : Int32))])) _
  refine XS.icmpYes X2.here hx rfl (pc0 := 92) (pc' := 97) rfl (hb hby at_92) rfl (teq (by decide : (1 : Int32) = (1 : Int32))).1 (by decide) (by decide) ?_
  show Steps p.tables e below (T2.setTop (mkF m 97 #[.val (.int p0), .val (.int (2 : Int32)), .val (.ref w_PHANTOM), .val (.int (1 : Int32)), .val (.int (1 : Int32))] [])) _
  refine XS.iload X2.here hx rfl (hb hby at_97) rfl ?_
  show Steps p.tables e below (T2.setTop (mkF m 99 #[.val (.int p0), .val (.int (2 : Int32)), .val (.ref w_PHANTOM), .val (.int (1 : Int32)), .val (.int (1 : Int32))] [(.int (1 : Int32))])) _
  refine XS.ifNo X2.here hx rfl (hb hby at_99) rfl ((if0 _ _).trans (feq (by decide : ¬ ((1 : Int32) = (0 : Int32)))).1) ?_
  show Steps p.tables e below (T2.setTop (mkF m 102 #[.val (.int p0), .val (.int (2 : Int32)), .val (.ref w_PHANTOM), .val (.int (1 : Int32)), .val (.int (1 : Int32))] [])) _
  refine XS.aloadN X2.here hx rfl (hb hby at_102) rfl rfl ?_
  show Steps p.tables e below (T2.setTop (mkF m 103 #[.val (.int p0), .val (.int (2 : Int32)), .val (.ref w_PHANTOM), .val (.int (1 : Int32)), .val (.int (1 : Int32))] [(.ref w_PHANTOM)])) _
  refine XS.aloadN X2.here hx rfl (hb hby at_103) rfl rfl ?_
  show Steps p.tables e below (T2.setTop (mkF m 104 #[.val (.int p0), .val (.int (2 : Int32)), .val (.ref w_PHANTOM), .val (.int (1 : Int32)), .val (.int (1 : Int32))] [(.ref w_PHANTOM), (.ref w_PHANTOM)])) _
  refine st3.trans ?_
  show Steps p.tables e below (T3.setTop (mkF m 107 #[.val (.int p0), .val (.int (2 : Int32)), .val (.ref w_PHANTOM), .val (.int (1 : Int32)), .val (.int (1 : Int32))] [(.int (0 : Int32))])) _
  refine XS.ifNo X3.here hx rfl (hb hby at_107) rfl ((if0 _ _).trans (teq (by decide : (0 : Int32) = (0 : Int32))).2) ?_
  show Steps p.tables e below (T3.setTop (mkF m 110 #[.val (.int p0), .val (.int (2 : Int32)), .val (.ref w_PHANTOM), .val (.int (1 : Int32)), .val (.int (1 : Int32))] [])) _
  refine XS.iconst X3.here hx rfl (hb hby at_110) ?_
  show Steps p.tables e below (T3.setTop (mkF m 111 #[.val (.int p0), .val (.int (2 : Int32)), .val (.ref w_PHANTOM), .val (.int (1 : Int32)), .val (.int (1 : Int32))] [(.int (1 : Int32))])) _
  refine XS.goto X3.here hx rfl (pc0 := 111) (pc' := 115) rfl (hb hby at_111) (by decide) (by decide) ?_
  show Steps p.tables e below (T3.setTop (mkF m 115 #[.val (.int p0), .val (.int (2 : Int32)), .val (.ref w_PHANTOM), .val (.int (1 : Int32)), .val (.int (1 : Int32))] [(.int (1 : Int32))])) _
  exact retN X3 hx (t := .boolean) Bd.returns (by simp) (hb hby at_115) hr
set_option maxRecDepth 65536 in
set_option maxHeartbeats 40000000 in
theorem rm1_3 (l : Launch) (Z : State) (a0 : Array Value) (hw : ∀ d ∈ tables_1, d.before a0 Z = true) (ws : List Jvm.Cond) (w_READ w_WRITE w_INSERT w_PHANTOM w_SCHEMA w_SCHEMA_EXCLUSIVE : Addr) (h0 : Heap) (n0 : Nat) (Z0 : n0 ≤ h0.size) (S : SF Z h0 w_READ w_WRITE w_INSERT w_PHANTOM w_SCHEMA w_SCHEMA_EXCLUSIVE) :
    Pay l Z (⟨"com/example/oyster/oyster/engine/LockMode", "isForReading", "()Z"⟩ : MethodName) ws prog_62_method_8_code 1 (some .boolean) #[(.ref w_INSERT)] h0 n0 ({ frames := 0, cells := 0, slots := 0, locals := 0 } : Room) (some (.int (0 : Int32))) := by
  obtain ⟨S_w_READ, E_w_READ, S_w_WRITE, E_w_WRITE, S_w_INSERT, E_w_INSERT, S_w_PHANTOM, E_w_PHANTOM, S_w_SCHEMA, E_w_SCHEMA, S_w_SCHEMA_EXCLUSIVE, E_w_SCHEMA_EXCLUSIVE, F_ordinal_w_READ, F_ordinal_w_WRITE, F_ordinal_w_INSERT, F_ordinal_w_PHANTOM, F_ordinal_w_SCHEMA, F_ordinal_w_SCHEMA_EXCLUSIVE, hne_w_READ_w_WRITE, hne_w_READ_w_INSERT, hne_w_READ_w_PHANTOM, hne_w_READ_w_SCHEMA, hne_w_READ_w_SCHEMA_EXCLUSIVE, hne_w_WRITE_w_INSERT, hne_w_WRITE_w_PHANTOM, hne_w_WRITE_w_SCHEMA, hne_w_WRITE_w_SCHEMA_EXCLUSIVE, hne_w_INSERT_w_PHANTOM, hne_w_INSERT_w_SCHEMA, hne_w_INSERT_w_SCHEMA_EXCLUSIVE, hne_w_PHANTOM_w_SCHEMA, hne_w_PHANTOM_w_SCHEMA_EXCLUSIVE, hne_w_SCHEMA_w_SCHEMA_EXCLUSIVE⟩ := id S
  refine MetFree.of_bodySF (plainFor_of_name pn_0) hisR ?_
  intro p e s m args below meth c s₁ Bd hml0 hP hK
  obtain ⟨rfl, hZ, hh⟩ := hP
  have hx := Bd.exec
  have hby := Bd.bytes
  have hml : c.maxLocals = 1 := hml0
  have hown : s.vm.findClass "com/example/oyster/oyster/engine/LockMode" = some m.cls := findClass_of_methodNamed Bd.named
  have X0 : Stand p l e ({ frames := 0, cells := 0, slots := 0, locals := 0 } : Room) s m #[(.ref w_INSERT)] below meth c s₁ [] 0 0 := Stand.of_body Bd
  have e0 : s₁.heap = h0 := by rw [← hh, Bd.state]; rfl
  have N0 := Fr.nil n0
  have pre0 : ∀ t, Steps p.tables e below (s₁.setTop (mkF m 0 #[.val (.ref w_INSERT)] [])) t → Steps p.tables e below (s₁.setTop (entryFrame m #[(.ref w_INSERT)] 1)) t := fun t k => castTop (by first | rfl | (simp [entryFrame, mkF, argsToLocals, Value.category]; done)) k
  obtain ⟨T1, X1, e1, st1⟩ := getS2 X0 hx hZ hown (host := "") (Or.inl (hw _ (List.mem_of_getElem? (i := 9) rfl))) Via.refl e0 S_w_READ (g := (mkF m 1 #[.val (.ref w_INSERT)] [(.ref w_INSERT)])) rfl (hb hby d1_1)
  obtain ⟨T2, X2, e2, st2⟩ := getS2 X1 hx hZ hown (host := "") (Or.inl (hw _ (List.mem_of_getElem? (i := 28) rfl))) Via.refl e1 S_w_PHANTOM (g := (mkF m 8 #[.val (.ref w_INSERT)] [(.ref w_INSERT)])) rfl (hb hby d1_8)
  obtain ⟨T3, X3, e3, st3⟩ := getS2 X2 hx hZ hown (host := "") (Or.inl (hw _ (List.mem_of_getElem? (i := 30) rfl))) Via.refl e2 S_w_SCHEMA (g := (mkF m 15 #[.val (.ref w_INSERT)] [(.ref w_INSERT)])) rfl (hb hby d1_15)
  obtain ⟨fs, hr, hrun, hended, hW, hsame⟩ := X3.leave (v := (some (.int (0 : Int32)))) (fun h => by rw [Bd.returns] at h; cases h)
  refine ⟨_, _, pre0 _ ?_, hrun, hended, _, _, rfl, ⟨rfl, N0, e3⟩, ⟨_, rfl⟩, hW, hsame.mono (by decide) (by decide)⟩
  show Steps p.tables e below (s₁.setTop (mkF m 0 #[.val (.ref w_INSERT)] [])) _
  refine XS.aloadN X0.here hx rfl (hb hby d1_0) rfl rfl ?_
  show Steps p.tables e below (s₁.setTop (mkF m 1 #[.val (.ref w_INSERT)] [(.ref w_INSERT)])) _
  refine st1 _ ?_
  show Steps p.tables e below (T1.setTop (mkF m 4 #[.val (.ref w_INSERT)] [(.ref w_READ), (.ref w_INSERT)])) _
  refine Jvm.RoadKit.acmp (g := (mkF m 4 #[.val (.ref w_INSERT)] [(.ref w_READ), (.ref w_INSERT)])) X1 hx rfl rfl rfl (pc0 := 4) (pc' := 7) (same := false) rfl (hb hby d1_4) rfl (decide_eq_false fun q => hne_w_READ_w_INSERT (Value.ref.inj q).symm) (by decide) (by decide) ?_
  show Steps p.tables e below (T1.setTop (mkF m 7 #[.val (.ref w_INSERT)] [])) _
  refine XS.aloadN X1.here hx rfl (hb hby d1_7) rfl rfl ?_
  show Steps p.tables e below (T1.setTop (mkF m 8 #[.val (.ref w_INSERT)] [(.ref w_INSERT)])) _
  refine st2 _ ?_
  show Steps p.tables e below (T2.setTop (mkF m 11 #[.val (.ref w_INSERT)] [(.ref w_PHANTOM), (.ref w_INSERT)])) _
  refine Jvm.RoadKit.acmp (g := (mkF m 11 #[.val (.ref w_INSERT)] [(.ref w_PHANTOM), (.ref w_INSERT)])) X2 hx rfl rfl rfl (pc0 := 11) (pc' := 14) (same := false) rfl (hb hby d1_11) rfl (decide_eq_false fun q => hne_w_INSERT_w_PHANTOM (Value.ref.inj q)) (by decide) (by decide) ?_
  show Steps p.tables e below (T2.setTop (mkF m 14 #[.val (.ref w_INSERT)] [])) _
  refine XS.aloadN X2.here hx rfl (hb hby d1_14) rfl rfl ?_
  show Steps p.tables e below (T2.setTop (mkF m 15 #[.val (.ref w_INSERT)] [(.ref w_INSERT)])) _
  refine st3 _ ?_
  show Steps p.tables e below (T3.setTop (mkF m 18 #[.val (.ref w_INSERT)] [(.ref w_SCHEMA), (.ref w_INSERT)])) _
  refine Jvm.RoadKit.acmp (g := (mkF m 18 #[.val (.ref w_INSERT)] [(.ref w_SCHEMA), (.ref w_INSERT)])) X3 hx rfl rfl rfl (pc0 := 18) (pc' := 25) (same := false) rfl (hb hby d1_18) rfl (decide_eq_false fun q => hne_w_INSERT_w_SCHEMA (Value.ref.inj q)) (by decide) (by decide) ?_
  show Steps p.tables e below (T3.setTop (mkF m 25 #[.val (.ref w_INSERT)] [])) _
  refine XS.iconst X3.here hx rfl (hb hby d1_25) ?_
  show Steps p.tables e below (T3.setTop (mkF m 26 #[.val (.ref w_INSERT)] [(.int (0 : Int32))])) _
  exact retN X3 hx (t := .boolean) Bd.returns (by simp) (hb hby d1_26) hr
set_option maxRecDepth 65536 in
set_option maxHeartbeats 40000000 in
theorem rm0_3 (l : Launch) (Z : State) (a0 : Array Value) (hw : ∀ d ∈ tables_1, d.before a0 Z = true) (ws : List Jvm.Cond) (w_READ w_WRITE w_INSERT w_PHANTOM w_SCHEMA w_SCHEMA_EXCLUSIVE : Addr) (h0 : Heap) (n0 : Nat) (Z0 : n0 ≤ h0.size) (S : SF Z h0 w_READ w_WRITE w_INSERT w_PHANTOM w_SCHEMA w_SCHEMA_EXCLUSIVE) (p0 : Int32) (hk : ((p0 &&& (2147483647 : Int32)) % (6 : Int32)) = (3 : Int32)) :
    Pay l Z x ws code maxLocals ret #[(.int p0)] h0 n0 room_1 (some (.int (1 : Int32))) := by
  obtain ⟨S_w_READ, E_w_READ, S_w_WRITE, E_w_WRITE, S_w_INSERT, E_w_INSERT, S_w_PHANTOM, E_w_PHANTOM, S_w_SCHEMA, E_w_SCHEMA, S_w_SCHEMA_EXCLUSIVE, E_w_SCHEMA_EXCLUSIVE, F_ordinal_w_READ, F_ordinal_w_WRITE, F_ordinal_w_INSERT, F_ordinal_w_PHANTOM, F_ordinal_w_SCHEMA, F_ordinal_w_SCHEMA_EXCLUSIVE, hne_w_READ_w_WRITE, hne_w_READ_w_INSERT, hne_w_READ_w_PHANTOM, hne_w_READ_w_SCHEMA, hne_w_READ_w_SCHEMA_EXCLUSIVE, hne_w_WRITE_w_INSERT, hne_w_WRITE_w_PHANTOM, hne_w_WRITE_w_SCHEMA, hne_w_WRITE_w_SCHEMA_EXCLUSIVE, hne_w_INSERT_w_PHANTOM, hne_w_INSERT_w_SCHEMA, hne_w_INSERT_w_SCHEMA_EXCLUSIVE, hne_w_PHANTOM_w_SCHEMA, hne_w_PHANTOM_w_SCHEMA_EXCLUSIVE, hne_w_SCHEMA_w_SCHEMA_EXCLUSIVE⟩ := id S
  refine MetFree.of_bodySF (plainFor_of_name pn_2) hisR ?_
  intro p e s m args below meth c s₁ Bd hml0 hP hK
  obtain ⟨rfl, hZ, hh⟩ := hP
  have hx := Bd.exec
  have hby := Bd.bytes
  have hml : c.maxLocals = 5 := hml0
  have hown : s.vm.findClass "com/example/oyster/oyster/engine/LockModeIsForReadingPinLaw" = some m.cls := findClass_of_methodNamed Bd.named
  have X0 : Stand p l e room_1 s m #[(.int p0)] below meth c s₁ [] 0 0 := Stand.of_body Bd
  have e0 : s₁.heap = h0 := by rw [← hh, Bd.state]; rfl
  have N0 := Fr.nil n0
  have pre0 : ∀ t, Steps p.tables e below (s₁.setTop (mkF m 0 #[.val (.int p0), .unset, .unset, .unset, .unset] [])) t → Steps p.tables e below (s₁.setTop (entryFrame m #[(.int p0)] maxLocals)) t := fun t k => castTop (by first | rfl | (simp [entryFrame, mkF, argsToLocals, Value.category, maxLocals]; done)) k
  obtain ⟨T1, X1, e1, st1⟩ := getS2 X0 hx hZ hown (host := "") (Or.inl (hw _ (List.mem_of_getElem? (i := 26) rfl))) Via.refl e0 S_w_INSERT (g := (mkF m 54 #[.val (.int p0), .val (.int (3 : Int32)), .unset, .unset, .unset] [])) rfl (hb hby at_54)
  obtain ⟨cq2, kq2, q2a, q2b, q2c⟩ := isOf hZ e1 E_w_INSERT
  obtain ⟨_, _, ⟨T2, L2, k2, n2⟩, -, X2, ⟨Lc2, hQ2, l2, y2, z2⟩, st2⟩ := X1.virtualBack hx (y := (⟨"com/example/oyster/oyster/engine/LockMode", "isForReading", "()Z"⟩ : MethodName)) (z := (⟨"com/example/oyster/oyster/engine/LockMode", "isForReading", "()Z"⟩ : MethodName)) hown (mvT hZ (hw _ (List.mem_of_getElem? (i := 4) rfl))) (mvT hZ (hw _ (List.mem_of_getElem? (i := 5) rfl))) (notFace_of_selects (args := #[]) (mvT hZ (hw _ (List.mem_of_getElem? (i := 7) rfl)))) (mvT hZ (hw _ (List.mem_of_getElem? (i := 7) rfl))) (mvT hZ (hw _ (List.mem_of_getElem? (i := 6) rfl))) (by decide) (backOf (W := 0) (rm1_3 l Z a0 hw [] w_READ w_WRITE w_INSERT w_PHANTOM w_SCHEMA w_SCHEMA_EXCLUSIVE h0 n0 Z0 S) hZ (hw _ (List.mem_of_getElem? (i := 8) rfl)) (hw _ (List.mem_of_getElem? (i := 2) rfl)) (by decide) (by decide)) q2a q2c (g := (mkF m 84 #[.val (.int p0), .val (.int (3 : Int32)), .val (.ref w_INSERT), .val (.int (0 : Int32)), .unset] [(.ref w_INSERT)])) rfl (by rw [hml]; rfl) (Steps.refl _) (argsL := []) (rest := []) (lenOf pd_0 rfl) rfl (by show 2 * 0 + _ ≤ _; exact Nat.le_of_eq rfl) (hb hby at_84) (fun _ _ => ⟨rfl, e1, (by decide : 0 + 0 ≤ _), (by decide : 0 + 0 ≤ _)⟩)
  dsimp only [Pt.U, Pt.locs, Pt.cells, Pt.slots] at X2 l2 y2 z2 st2 hQ2
  subst l2 y2 z2
  obtain ⟨rfl, Nq2, e2⟩ := hQ2
  have N2 := Fr.app N0 Nq2
  obtain ⟨fs, hr, hrun, hended, hW, hsame⟩ := X2.leave (v := (some (.int (1 : Int32)))) (fun h => by rw [Bd.returns] at h; cases h)
  refine ⟨_, _, pre0 _ ?_, hrun, hended, _, _, rfl, ⟨rfl, N2, e2⟩, ⟨_, rfl⟩, hW, hsame.mono (by decide) (by decide)⟩
  show Steps p.tables e below (s₁.setTop (mkF m 0 #[.val (.int p0), .unset, .unset, .unset, .unset] [])) _
  refine XS.iloadN X0.here hx rfl (hb hby at_0) rfl ?_
  show Steps p.tables e below (s₁.setTop (mkF m 1 #[.val (.int p0), .unset, .unset, .unset, .unset] [(.int p0)])) _
  refine X0.ldcInt hx hown (mvT hZ (hw _ (List.mem_of_getElem? (i := 0) rfl))) (g := (mkF m 1 #[.val (.int p0), .unset, .unset, .unset, .unset] [(.int p0)])) rfl (hb hby at_1) _ ?_
  show Steps p.tables e below (s₁.setTop (mkF m 3 #[.val (.int p0), .unset, .unset, .unset, .unset] [(.int (2147483647 : Int32)), (.int p0)])) _
  refine XS.iand X0.here hx rfl (hb hby at_3) rfl ?_
  show Steps p.tables e below (s₁.setTop (mkF m 4 #[.val (.int p0), .unset, .unset, .unset, .unset] [(.int (p0 &&& (2147483647 : Int32)))])) _
  show Steps p.tables e below (s₁.setTop (mkF m 4 #[.val (.int p0), .unset, .unset, .unset, .unset] [(.int (p0 &&& (2147483647 : Int32)))])) _
  refine XS.bipush X0.here hx rfl (hb hby at_4) ?_
  show Steps p.tables e below (s₁.setTop (mkF m 6 #[.val (.int p0), .unset, .unset, .unset, .unset] [(.int (6 : Int32)), (.int (p0 &&& (2147483647 : Int32)))])) _
  refine iremM X0 hx rfl (hb hby at_6) rfl (by decide) ?_
  show Steps p.tables e below (s₁.setTop (mkF m 7 #[.val (.int p0), .unset, .unset, .unset, .unset] [(.int ((p0 &&& (2147483647 : Int32)) % (6 : Int32)))])) _
  rw [hk]
  show Steps p.tables e below (s₁.setTop (mkF m 7 #[.val (.int p0), .unset, .unset, .unset, .unset] [(.int (3 : Int32))])) _
  refine XS.istoreN X0.here hx rfl (hb hby at_7) rfl (l' := #[.val (.int p0), .val (.int (3 : Int32)), .unset, .unset, .unset]) rfl ?_
  show Steps p.tables e below (s₁.setTop (mkF m 8 #[.val (.int p0), .val (.int (3 : Int32)), .unset, .unset, .unset] [])) _
  refine XS.iloadN X0.here hx rfl (hb hby at_8) rfl ?_
  show Steps p.tables e below (s₁.setTop (mkF m 9 #[.val (.int p0), .val (.int (3 : Int32)), .unset, .unset, .unset] [(.int (3 : Int32))])) _
  refine XS.ifYes X0.here hx rfl (pc0 := 9) (pc' := 21) rfl (hb hby at_9) rfl ((if0 _ _).trans (feq (by decide : ¬ ((3 : Int32) = (0 : Int32)))).2) (by decide) (by decide) ?_
  show Steps p.tables e below (s₁.setTop (mkF m 21 #[.val (.int p0), .val (.int (3 : Int32)), .unset, .unset, .unset] [])) _
  refine XS.iloadN X0.here hx rfl (hb hby at_21) rfl ?_
  show Steps p.tables e below (s₁.setTop (mkF m 22 #[.val (.int p0), .val (.int (3 : Int32)), .unset, .unset, .unset] [(.int (3 : Int32))])) _
  refine XS.iconst X0.here hx rfl (hb hby at_22) ?_
  show Steps p.tables e below (s₁.setTop (mkF m 23 #[.val (.int p0), .val (.int (3 : Int32)), .unset, .unset, .unset] [(.int (1 : Int32)), (.int (3 : Int32))])) _
  refine XS.icmpYes X0.here hx rfl (pc0 := 23) (pc' := 35) rfl (hb hby at_23) rfl (feq (by decide : ¬ ((3 : Int32) = (1 : Int32)))).2 (by decide) (by decide) ?_
  show Steps p.tables e below (s₁.setTop (mkF m 35 #[.val (.int p0), .val (.int (3 : Int32)), .unset, .unset, .unset] [])) _
  refine XS.iloadN X0.here hx rfl (hb hby at_35) rfl ?_
  show Steps p.tables e below (s₁.setTop (mkF m 36 #[.val (.int p0), .val (.int (3 : Int32)), .unset, .unset, .unset] [(.int (3 : Int32))])) _
  refine XS.iconst X0.here hx rfl (hb hby at_36) ?_
  show Steps p.tables e below (s₁.setTop (mkF m 37 #[.val (.int p0), .val (.int (3 : Int32)), .unset, .unset, .unset] [(.int (2 : Int32)), (.int (3 : Int32))])) _
  refine XS.icmpYes X0.here hx rfl (pc0 := 37) (pc' := 49) rfl (hb hby at_37) rfl (feq (by decide : ¬ ((3 : Int32) = (2 : Int32)))).2 (by decide) (by decide) ?_
  show Steps p.tables e below (s₁.setTop (mkF m 49 #[.val (.int p0), .val (.int (3 : Int32)), .unset, .unset, .unset] [])) _
  refine XS.iloadN X0.here hx rfl (hb hby at_49) rfl ?_
  show Steps p.tables e below (s₁.setTop (mkF m 50 #[.val (.int p0), .val (.int (3 : Int32)), .unset, .unset, .unset] [(.int (3 : Int32))])) _
  refine XS.iconst X0.here hx rfl (hb hby at_50) ?_
  show Steps p.tables e below (s₁.setTop (mkF m 51 #[.val (.int p0), .val (.int (3 : Int32)), .unset, .unset, .unset] [(.int (3 : Int32)), (.int (3 : Int32))])) _
  refine XS.icmpNo X0.here hx rfl (hb hby at_51) rfl (teq (by decide : (3 : Int32) = (3 : Int32))).2 ?_
  show Steps p.tables e below (s₁.setTop (mkF m 54 #[.val (.int p0), .val (.int (3 : Int32)), .unset, .unset, .unset] [])) _
  refine st1 _ ?_
  show Steps p.tables e below (T1.setTop (mkF m 57 #[.val (.int p0), .val (.int (3 : Int32)), .unset, .unset, .unset] [(.ref w_INSERT)])) _
  refine XS.astoreN X1.here hx rfl (hb hby at_57) rfl rfl (l' := #[.val (.int p0), .val (.int (3 : Int32)), .val (.ref w_INSERT), .unset, .unset]) rfl ?_
  show Steps p.tables e below (T1.setTop (mkF m 58 #[.val (.int p0), .val (.int (3 : Int32)), .val (.ref w_INSERT), .unset, .unset] [])) _
  refine XS.iconst X1.here hx rfl (hb hby at_58) ?_
  show Steps p.tables e below (T1.setTop (mkF m 59 #[.val (.int p0), .val (.int (3 : Int32)), .val (.ref w_INSERT), .unset, .unset] [(.int (0 : Int32))])) _
  refine XS.istoreN X1.here hx rfl (hb hby at_59) rfl (l' := #[.val (.int p0), .val (.int (3 : Int32)), .val (.ref w_INSERT), .val (.int (0 : Int32)), .unset]) rfl ?_
  show Steps p.tables e below (T1.setTop (mkF m 60 #[.val (.int p0), .val (.int (3 : Int32)), .val (.ref w_INSERT), .val (.int (0 : Int32)), .unset] [])) _
  refine XS.goto X1.here hx rfl (pc0 := 60) (pc' := 83) rfl (hb hby at_60) (by decide) (by decide) ?_
  show Steps p.tables e below (T1.setTop (mkF m 83 #[.val (.int p0), .val (.int (3 : Int32)), .val (.ref w_INSERT), .val (.int (0 : Int32)), .unset] [])) _
  refine XS.aloadN X1.here hx rfl (hb hby at_83) rfl rfl ?_
  show Steps p.tables e below (T1.setTop (mkF m 84 #[.val (.int p0), .val (.int (3 : Int32)), .val (.ref w_INSERT), .val (.int (0 : Int32)), .unset] [(.ref w_INSERT)])) _
  refine st2.trans ?_
  show Steps p.tables e below (T2.setTop (mkF m 87 #[.val (.int p0), .val (.int (3 : Int32)), .val (.ref w_INSERT), .val (.int (0 : Int32)), .unset] [(.int (0 : Int32))])) _
  refine XS.istore X2.here hx rfl (hb hby at_87) rfl (l' := #[.val (.int p0), .val (.int (3 : Int32)), .val (.ref w_INSERT), .val (.int (0 : Int32)), .val (.int (0 : Int32))]) rfl ?_
  show Steps p.tables e below (T2.setTop (mkF m 89 #[.val (.int p0), .val (.int (3 : Int32)), .val (.ref w_INSERT), .val (.int (0 : Int32)), .val (.int (0 : Int32))] [])) _
  refine XS.iload X2.here hx rfl (hb hby at_89) rfl ?_
  show Steps p.tables e below (T2.setTop (mkF m 91 #[.val (.int p0), .val (.int (3 : Int32)), .val (.ref w_INSERT), .val (.int (0 : Int32)), .val (.int (0 : Int32))] [(.int (0 : Int32))])) _
  refine XS.iloadN X2.here hx rfl (hb hby at_91) rfl ?_
  show Steps p.tables e below (T2.setTop (mkF m 92 #[.val (.int p0), .val (.int (3 : Int32)), .val (.ref w_INSERT), .val (.int (0 : Int32)), .val (.int (0 : Int32))] [(.int (0 : Int32)), (.int (0 : Int32))])) _
  refine XS.icmpYes X2.here hx rfl (pc0 := 92) (pc' := 97) rfl (hb hby at_92) rfl (teq (by decide : (0 : Int32) = (0 : Int32))).1 (by decide) (by decide) ?_
  show Steps p.tables e below (T2.setTop (mkF m 97 #[.val (.int p0), .val (.int (3 : Int32)), .val (.ref w_INSERT), .val (.int (0 : Int32)), .val (.int (0 : Int32))] [])) _
  refine XS.iload X2.here hx rfl (hb hby at_97) rfl ?_
  show Steps p.tables e below (T2.setTop (mkF m 99 #[.val (.int p0), .val (.int (3 : Int32)), .val (.ref w_INSERT), .val (.int (0 : Int32)), .val (.int (0 : Int32))] [(.int (0 : Int32))])) _
  refine XS.ifYes X2.here hx rfl (pc0 := 99) (pc' := 110) rfl (hb hby at_99) rfl ((if0 _ _).trans (teq (by decide : (0 : Int32) = (0 : Int32))).1) (by decide) (by decide) ?_
  show Steps p.tables e below (T2.setTop (mkF m 110 #[.val (.int p0), .val (.int (3 : Int32)), .val (.ref w_INSERT), .val (.int (0 : Int32)), .val (.int (0 : Int32))] [])) _
  refine XS.iconst X2.here hx rfl (hb hby at_110) ?_
  show Steps p.tables e below (T2.setTop (mkF m 111 #[.val (.int p0), .val (.int (3 : Int32)), .val (.ref w_INSERT), .val (.int (0 : Int32)), .val (.int (0 : Int32))] [(.int (1 : Int32))])) _
  refine XS.goto X2.here hx rfl (pc0 := 111) (pc' := 115) rfl (hb hby at_111) (by decide) (by decide) ?_
  show Steps p.tables e below (T2.setTop (mkF m 115 #[.val (.int p0), .val (.int (3 : Int32)), .val (.ref w_INSERT), .val (.int (0 : Int32)), .val (.int (0 : Int32))] [(.int (1 : Int32))])) _
  exact retN X2 hx (t := .boolean) Bd.returns (by simp) (hb hby at_115) hr
set_option maxRecDepth 65536 in
set_option maxHeartbeats 40000000 in
theorem rm1_4 (l : Launch) (Z : State) (a0 : Array Value) (hw : ∀ d ∈ tables_1, d.before a0 Z = true) (ws : List Jvm.Cond) (w_READ w_WRITE w_INSERT w_PHANTOM w_SCHEMA w_SCHEMA_EXCLUSIVE : Addr) (h0 : Heap) (n0 : Nat) (Z0 : n0 ≤ h0.size) (S : SF Z h0 w_READ w_WRITE w_INSERT w_PHANTOM w_SCHEMA w_SCHEMA_EXCLUSIVE) :
    Pay l Z (⟨"com/example/oyster/oyster/engine/LockMode", "isForReading", "()Z"⟩ : MethodName) ws prog_62_method_8_code 1 (some .boolean) #[(.ref w_SCHEMA)] h0 n0 ({ frames := 0, cells := 0, slots := 0, locals := 0 } : Room) (some (.int (1 : Int32))) := by
  obtain ⟨S_w_READ, E_w_READ, S_w_WRITE, E_w_WRITE, S_w_INSERT, E_w_INSERT, S_w_PHANTOM, E_w_PHANTOM, S_w_SCHEMA, E_w_SCHEMA, S_w_SCHEMA_EXCLUSIVE, E_w_SCHEMA_EXCLUSIVE, F_ordinal_w_READ, F_ordinal_w_WRITE, F_ordinal_w_INSERT, F_ordinal_w_PHANTOM, F_ordinal_w_SCHEMA, F_ordinal_w_SCHEMA_EXCLUSIVE, hne_w_READ_w_WRITE, hne_w_READ_w_INSERT, hne_w_READ_w_PHANTOM, hne_w_READ_w_SCHEMA, hne_w_READ_w_SCHEMA_EXCLUSIVE, hne_w_WRITE_w_INSERT, hne_w_WRITE_w_PHANTOM, hne_w_WRITE_w_SCHEMA, hne_w_WRITE_w_SCHEMA_EXCLUSIVE, hne_w_INSERT_w_PHANTOM, hne_w_INSERT_w_SCHEMA, hne_w_INSERT_w_SCHEMA_EXCLUSIVE, hne_w_PHANTOM_w_SCHEMA, hne_w_PHANTOM_w_SCHEMA_EXCLUSIVE, hne_w_SCHEMA_w_SCHEMA_EXCLUSIVE⟩ := id S
  refine MetFree.of_bodySF (plainFor_of_name pn_0) hisR ?_
  intro p e s m args below meth c s₁ Bd hml0 hP hK
  obtain ⟨rfl, hZ, hh⟩ := hP
  have hx := Bd.exec
  have hby := Bd.bytes
  have hml : c.maxLocals = 1 := hml0
  have hown : s.vm.findClass "com/example/oyster/oyster/engine/LockMode" = some m.cls := findClass_of_methodNamed Bd.named
  have X0 : Stand p l e ({ frames := 0, cells := 0, slots := 0, locals := 0 } : Room) s m #[(.ref w_SCHEMA)] below meth c s₁ [] 0 0 := Stand.of_body Bd
  have e0 : s₁.heap = h0 := by rw [← hh, Bd.state]; rfl
  have N0 := Fr.nil n0
  have pre0 : ∀ t, Steps p.tables e below (s₁.setTop (mkF m 0 #[.val (.ref w_SCHEMA)] [])) t → Steps p.tables e below (s₁.setTop (entryFrame m #[(.ref w_SCHEMA)] 1)) t := fun t k => castTop (by first | rfl | (simp [entryFrame, mkF, argsToLocals, Value.category]; done)) k
  obtain ⟨T1, X1, e1, st1⟩ := getS2 X0 hx hZ hown (host := "") (Or.inl (hw _ (List.mem_of_getElem? (i := 9) rfl))) Via.refl e0 S_w_READ (g := (mkF m 1 #[.val (.ref w_SCHEMA)] [(.ref w_SCHEMA)])) rfl (hb hby d1_1)
  obtain ⟨T2, X2, e2, st2⟩ := getS2 X1 hx hZ hown (host := "") (Or.inl (hw _ (List.mem_of_getElem? (i := 28) rfl))) Via.refl e1 S_w_PHANTOM (g := (mkF m 8 #[.val (.ref w_SCHEMA)] [(.ref w_SCHEMA)])) rfl (hb hby d1_8)
  obtain ⟨T3, X3, e3, st3⟩ := getS2 X2 hx hZ hown (host := "") (Or.inl (hw _ (List.mem_of_getElem? (i := 30) rfl))) Via.refl e2 S_w_SCHEMA (g := (mkF m 15 #[.val (.ref w_SCHEMA)] [(.ref w_SCHEMA)])) rfl (hb hby d1_15)
  obtain ⟨fs, hr, hrun, hended, hW, hsame⟩ := X3.leave (v := (some (.int (1 : Int32)))) (fun h => by rw [Bd.returns] at h; cases h)
  refine ⟨_, _, pre0 _ ?_, hrun, hended, _, _, rfl, ⟨rfl, N0, e3⟩, ⟨_, rfl⟩, hW, hsame.mono (by decide) (by decide)⟩
  show Steps p.tables e below (s₁.setTop (mkF m 0 #[.val (.ref w_SCHEMA)] [])) _
  refine XS.aloadN X0.here hx rfl (hb hby d1_0) rfl rfl ?_
  show Steps p.tables e below (s₁.setTop (mkF m 1 #[.val (.ref w_SCHEMA)] [(.ref w_SCHEMA)])) _
  refine st1 _ ?_
  show Steps p.tables e below (T1.setTop (mkF m 4 #[.val (.ref w_SCHEMA)] [(.ref w_READ), (.ref w_SCHEMA)])) _
  refine Jvm.RoadKit.acmp (g := (mkF m 4 #[.val (.ref w_SCHEMA)] [(.ref w_READ), (.ref w_SCHEMA)])) X1 hx rfl rfl rfl (pc0 := 4) (pc' := 7) (same := false) rfl (hb hby d1_4) rfl (decide_eq_false fun q => hne_w_READ_w_SCHEMA (Value.ref.inj q).symm) (by decide) (by decide) ?_
  show Steps p.tables e below (T1.setTop (mkF m 7 #[.val (.ref w_SCHEMA)] [])) _
  refine XS.aloadN X1.here hx rfl (hb hby d1_7) rfl rfl ?_
  show Steps p.tables e below (T1.setTop (mkF m 8 #[.val (.ref w_SCHEMA)] [(.ref w_SCHEMA)])) _
  refine st2 _ ?_
  show Steps p.tables e below (T2.setTop (mkF m 11 #[.val (.ref w_SCHEMA)] [(.ref w_PHANTOM), (.ref w_SCHEMA)])) _
  refine Jvm.RoadKit.acmp (g := (mkF m 11 #[.val (.ref w_SCHEMA)] [(.ref w_PHANTOM), (.ref w_SCHEMA)])) X2 hx rfl rfl rfl (pc0 := 11) (pc' := 14) (same := false) rfl (hb hby d1_11) rfl (decide_eq_false fun q => hne_w_PHANTOM_w_SCHEMA (Value.ref.inj q).symm) (by decide) (by decide) ?_
  show Steps p.tables e below (T2.setTop (mkF m 14 #[.val (.ref w_SCHEMA)] [])) _
  refine XS.aloadN X2.here hx rfl (hb hby d1_14) rfl rfl ?_
  show Steps p.tables e below (T2.setTop (mkF m 15 #[.val (.ref w_SCHEMA)] [(.ref w_SCHEMA)])) _
  refine st3 _ ?_
  show Steps p.tables e below (T3.setTop (mkF m 18 #[.val (.ref w_SCHEMA)] [(.ref w_SCHEMA), (.ref w_SCHEMA)])) _
  refine Jvm.RoadKit.acmp (g := (mkF m 18 #[.val (.ref w_SCHEMA)] [(.ref w_SCHEMA), (.ref w_SCHEMA)])) X3 hx rfl rfl rfl (pc0 := 18) (pc' := 21) (same := true) rfl (hb hby d1_18) rfl (decide_eq_true rfl) (by decide) (by decide) ?_
  show Steps p.tables e below (T3.setTop (mkF m 21 #[.val (.ref w_SCHEMA)] [])) _
  refine XS.iconst X3.here hx rfl (hb hby d1_21) ?_
  show Steps p.tables e below (T3.setTop (mkF m 22 #[.val (.ref w_SCHEMA)] [(.int (1 : Int32))])) _
  refine XS.goto X3.here hx rfl (pc0 := 22) (pc' := 26) rfl (hb hby d1_22) (by decide) (by decide) ?_
  show Steps p.tables e below (T3.setTop (mkF m 26 #[.val (.ref w_SCHEMA)] [(.int (1 : Int32))])) _
  exact retN X3 hx (t := .boolean) Bd.returns (by simp) (hb hby d1_26) hr
set_option maxRecDepth 65536 in
set_option maxHeartbeats 40000000 in
theorem rm3_2 (l : Launch) (Z : State) (a0 : Array Value) (hw : ∀ d ∈ tables_1, d.before a0 Z = true) (ws : List Jvm.Cond) (w_READ w_WRITE w_INSERT w_PHANTOM w_SCHEMA w_SCHEMA_EXCLUSIVE : Addr) (h0 : Heap) (n0 : Nat) (Z0 : n0 ≤ h0.size) (S : SF Z h0 w_READ w_WRITE w_INSERT w_PHANTOM w_SCHEMA w_SCHEMA_EXCLUSIVE) :
    Pay l Z (⟨"java/lang/Enum", "ordinal", "()I"⟩ : MethodName) ws jdk_37_method_2_code 1 (some .int) #[(.ref w_SCHEMA)] h0 n0 ({ frames := 0, cells := 0, slots := 0, locals := 0 } : Room) (some (.int (4 : Int32))) := by
  obtain ⟨S_w_READ, E_w_READ, S_w_WRITE, E_w_WRITE, S_w_INSERT, E_w_INSERT, S_w_PHANTOM, E_w_PHANTOM, S_w_SCHEMA, E_w_SCHEMA, S_w_SCHEMA_EXCLUSIVE, E_w_SCHEMA_EXCLUSIVE, F_ordinal_w_READ, F_ordinal_w_WRITE, F_ordinal_w_INSERT, F_ordinal_w_PHANTOM, F_ordinal_w_SCHEMA, F_ordinal_w_SCHEMA_EXCLUSIVE, hne_w_READ_w_WRITE, hne_w_READ_w_INSERT, hne_w_READ_w_PHANTOM, hne_w_READ_w_SCHEMA, hne_w_READ_w_SCHEMA_EXCLUSIVE, hne_w_WRITE_w_INSERT, hne_w_WRITE_w_PHANTOM, hne_w_WRITE_w_SCHEMA, hne_w_WRITE_w_SCHEMA_EXCLUSIVE, hne_w_INSERT_w_PHANTOM, hne_w_INSERT_w_SCHEMA, hne_w_INSERT_w_SCHEMA_EXCLUSIVE, hne_w_PHANTOM_w_SCHEMA, hne_w_PHANTOM_w_SCHEMA_EXCLUSIVE, hne_w_SCHEMA_w_SCHEMA_EXCLUSIVE⟩ := id S
  refine MetFree.of_bodySF (plainFor_of_name pn_1) hisR ?_
  intro p e s m args below meth c s₁ Bd hml0 hP hK
  obtain ⟨rfl, hZ, hh⟩ := hP
  have hx := Bd.exec
  have hby := Bd.bytes
  have hml : c.maxLocals = 1 := hml0
  have hown : s.vm.findClass "java/lang/Enum" = some m.cls := findClass_of_methodNamed Bd.named
  have X0 : Stand p l e ({ frames := 0, cells := 0, slots := 0, locals := 0 } : Room) s m #[(.ref w_SCHEMA)] below meth c s₁ [] 0 0 := Stand.of_body Bd
  have e0 : s₁.heap = h0 := by rw [← hh, Bd.state]; rfl
  have N0 := Fr.nil n0
  have pre0 : ∀ t, Steps p.tables e below (s₁.setTop (mkF m 0 #[.val (.ref w_SCHEMA)] [])) t → Steps p.tables e below (s₁.setTop (entryFrame m #[(.ref w_SCHEMA)] 1)) t := fun t k => castTop (by first | rfl | (simp [entryFrame, mkF, argsToLocals, Value.category]; done)) k
  obtain ⟨T1, X1, e1, st1⟩ := getF X0 hx hZ hown (host := "") (Or.inl (hw _ (List.mem_of_getElem? (i := 22) rfl))) Via.refl e0 F_ordinal_w_SCHEMA (g := (mkF m 1 #[.val (.ref w_SCHEMA)] [(.ref w_SCHEMA)])) rfl rfl (hb hby d3_1)
  obtain ⟨fs, hr, hrun, hended, hW, hsame⟩ := X1.leave (v := (some (.int (4 : Int32)))) (fun h => by rw [Bd.returns] at h; cases h)
  refine ⟨_, _, pre0 _ ?_, hrun, hended, _, _, rfl, ⟨rfl, N0, e1⟩, ⟨_, rfl⟩, hW, hsame.mono (by decide) (by decide)⟩
  show Steps p.tables e below (s₁.setTop (mkF m 0 #[.val (.ref w_SCHEMA)] [])) _
  refine XS.aloadN X0.here hx rfl (hb hby d3_0) rfl rfl ?_
  show Steps p.tables e below (s₁.setTop (mkF m 1 #[.val (.ref w_SCHEMA)] [(.ref w_SCHEMA)])) _
  refine st1 _ ?_
  show Steps p.tables e below (T1.setTop (mkF m 4 #[.val (.ref w_SCHEMA)] [(.int (4 : Int32))])) _
  exact retOut X1 hx (t := .int) (i := .ireturn) Bd.returns rfl (Or.inl ⟨rfl, Or.inl rfl, _, rfl⟩) (hb hby d3_4) hr
theorem d2_121 : decode prog_62_method_9_code 121 = .ok (.aload_n 1, 1) := by decide +kernel
theorem d2_122 : decode prog_62_method_9_code 122 = .ok (.getstatic 19, 3) := by decide +kernel
theorem d2_125 : decode prog_62_method_9_code 125 = .ok (.if_acmp .ne 7, 3) := by decide +kernel
theorem d2_132 : decode prog_62_method_9_code 132 = .ok (.iconst 0, 1) := by decide +kernel
theorem d2_133 : decode prog_62_method_9_code 133 = .ok (.goto 22, 3) := by decide +kernel
set_option maxRecDepth 65536 in
set_option maxHeartbeats 40000000 in
theorem rm2_2 (l : Launch) (Z : State) (a0 : Array Value) (hw : ∀ d ∈ tables_1, d.before a0 Z = true) (ws : List Jvm.Cond) (w_READ w_WRITE w_INSERT w_PHANTOM w_SCHEMA w_SCHEMA_EXCLUSIVE : Addr) (h0 : Heap) (n0 : Nat) (Z0 : n0 ≤ h0.size) (S : SF Z h0 w_READ w_WRITE w_INSERT w_PHANTOM w_SCHEMA w_SCHEMA_EXCLUSIVE) :
    Pay l Z (⟨"com/example/oyster/oyster/engine/LockMode", "conflictsWith", "(Lcom/example/oyster/oyster/engine/LockMode;)Z"⟩ : MethodName) ws prog_62_method_9_code 2 (some .boolean) #[(.ref w_SCHEMA), (.ref w_SCHEMA)] h0 n0 ({ frames := 1, cells := 0, slots := 0, locals := 12 } : Room) (some (.int (0 : Int32))) := by
  obtain ⟨S_w_READ, E_w_READ, S_w_WRITE, E_w_WRITE, S_w_INSERT, E_w_INSERT, S_w_PHANTOM, E_w_PHANTOM, S_w_SCHEMA, E_w_SCHEMA, S_w_SCHEMA_EXCLUSIVE, E_w_SCHEMA_EXCLUSIVE, F_ordinal_w_READ, F_ordinal_w_WRITE, F_ordinal_w_INSERT, F_ordinal_w_PHANTOM, F_ordinal_w_SCHEMA, F_ordinal_w_SCHEMA_EXCLUSIVE, hne_w_READ_w_WRITE, hne_w_READ_w_INSERT, hne_w_READ_w_PHANTOM, hne_w_READ_w_SCHEMA, hne_w_READ_w_SCHEMA_EXCLUSIVE, hne_w_WRITE_w_INSERT, hne_w_WRITE_w_PHANTOM, hne_w_WRITE_w_SCHEMA, hne_w_WRITE_w_SCHEMA_EXCLUSIVE, hne_w_INSERT_w_PHANTOM, hne_w_INSERT_w_SCHEMA, hne_w_INSERT_w_SCHEMA_EXCLUSIVE, hne_w_PHANTOM_w_SCHEMA, hne_w_PHANTOM_w_SCHEMA_EXCLUSIVE, hne_w_SCHEMA_w_SCHEMA_EXCLUSIVE⟩ := id S
  refine MetFree.of_bodySF (plainFor_of_name pn_0) hisR ?_
  intro p e s m args below meth c s₁ Bd hml0 hP hK
  obtain ⟨rfl, hZ, hh⟩ := hP
  have hx := Bd.exec
  have hby := Bd.bytes
  have hml : c.maxLocals = 2 := hml0
  have hown : s.vm.findClass "com/example/oyster/oyster/engine/LockMode" = some m.cls := findClass_of_methodNamed Bd.named
  have X0 : Stand p l e ({ frames := 1, cells := 0, slots := 0, locals := 12 } : Room) s m #[(.ref w_SCHEMA), (.ref w_SCHEMA)] below meth c s₁ [] 0 0 := Stand.of_body Bd
  have e0 : s₁.heap = h0 := by rw [← hh, Bd.state]; rfl
  have N0 := Fr.nil n0
  have pre0 : ∀ t, Steps p.tables e below (s₁.setTop (mkF m 0 #[.val (.ref w_SCHEMA), .val (.ref w_SCHEMA)] [])) t → Steps p.tables e below (s₁.setTop (entryFrame m #[(.ref w_SCHEMA), (.ref w_SCHEMA)] 2)) t := fun t k => castTop (by first | rfl | (simp [entryFrame, mkF, argsToLocals, Value.category]; done)) k
  obtain ⟨cq1, kq1, q1a, q1b, q1c⟩ := isOf hZ e0 E_w_SCHEMA
  obtain ⟨_, _, ⟨T1, L1, k1, n1⟩, -, X1, ⟨Lc1, hQ1, l1, y1, z1⟩, st1⟩ := X0.virtualBackUp hx (x := (⟨"com/example/oyster/oyster/engine/LockMode", "ordinal", "()I"⟩ : MethodName)) (y := (⟨"java/lang/Enum", "ordinal", "()I"⟩ : MethodName)) (owner := "java/lang/Enum") hown (mvT hZ (hw _ (List.mem_of_getElem? (i := 15) rfl))) (mvT hZ (hw _ (List.mem_of_getElem? (i := 16) rfl))) (mvT hZ (hw _ (List.mem_of_getElem? (i := 17) rfl))) (by decide) (mvT hZ (hw _ (List.mem_of_getElem? (i := 19) rfl))) (mvT hZ (hw _ (List.mem_of_getElem? (i := 18) rfl))) (backOf (W := 0) (rm3_2 l Z a0 hw [] w_READ w_WRITE w_INSERT w_PHANTOM w_SCHEMA w_SCHEMA_EXCLUSIVE h0 n0 Z0 S) hZ (hw _ (List.mem_of_getElem? (i := 21) rfl)) (hw _ (List.mem_of_getElem? (i := 20) rfl)) (by decide) (by decide)) q1a q1c (g := (mkF m 1 #[.val (.ref w_SCHEMA), .val (.ref w_SCHEMA)] [(.ref w_SCHEMA)])) rfl (by rw [hml]; rfl) (Steps.refl _) (argsL := []) (rest := []) (lenOf pd_1 rfl) rfl (by show 2 * 0 + _ ≤ _; exact Nat.le_of_eq rfl) (hb hby d2_1) (fun _ _ => ⟨rfl, e0, (by decide : 0 + 0 ≤ _), (by decide : 0 + 0 ≤ _)⟩)
  dsimp only [Pt.U, Pt.locs, Pt.cells, Pt.slots] at X1 l1 y1 z1 st1 hQ1
  subst l1 y1 z1
  obtain ⟨rfl, Nq1, e1⟩ := hQ1
  have N1 := Fr.app N0 Nq1
  obtain ⟨T2, X2, e2, st2⟩ := getS2 X1 hx hZ hown (host := "") (Or.inl (hw _ (List.mem_of_getElem? (i := 38) rfl))) Via.refl e1 S_w_SCHEMA_EXCLUSIVE (g := (mkF m 122 #[.val (.ref w_SCHEMA), .val (.ref w_SCHEMA)] [(.ref w_SCHEMA)])) rfl (hb hby d2_122)
  obtain ⟨fs, hr, hrun, hended, hW, hsame⟩ := X2.leave (v := (some (.int (0 : Int32)))) (fun h => by rw [Bd.returns] at h; cases h)
  refine ⟨_, _, pre0 _ ?_, hrun, hended, _, _, rfl, ⟨rfl, N1, e2⟩, ⟨_, rfl⟩, hW, hsame.mono (by decide) (by decide)⟩
  show Steps p.tables e below (s₁.setTop (mkF m 0 #[.val (.ref w_SCHEMA), .val (.ref w_SCHEMA)] [])) _
  refine XS.aloadN X0.here hx rfl (hb hby d2_0) rfl rfl ?_
  show Steps p.tables e below (s₁.setTop (mkF m 1 #[.val (.ref w_SCHEMA), .val (.ref w_SCHEMA)] [(.ref w_SCHEMA)])) _
  refine st1.trans ?_
  show Steps p.tables e below (T1.setTop (mkF m 4 #[.val (.ref w_SCHEMA), .val (.ref w_SCHEMA)] [(.int (4 : Int32))])) _
  refine XS.tswIn X1.here hx rfl (pc0 := 4) (pc' := 121) rfl (hb hby d2_4) rfl (by decide) (o := 117) (by decide) (by decide) (by decide) ?_
  show Steps p.tables e below (T1.setTop (mkF m 121 #[.val (.ref w_SCHEMA), .val (.ref w_SCHEMA)] [])) _
  refine XS.aloadN X1.here hx rfl (hb hby d2_121) rfl rfl ?_
  show Steps p.tables e below (T1.setTop (mkF m 122 #[.val (.ref w_SCHEMA), .val (.ref w_SCHEMA)] [(.ref w_SCHEMA)])) _
  refine st2 _ ?_
  show Steps p.tables e below (T2.setTop (mkF m 125 #[.val (.ref w_SCHEMA), .val (.ref w_SCHEMA)] [(.ref w_SCHEMA_EXCLUSIVE), (.ref w_SCHEMA)])) _
  refine Jvm.RoadKit.acmp (g := (mkF m 125 #[.val (.ref w_SCHEMA), .val (.ref w_SCHEMA)] [(.ref w_SCHEMA_EXCLUSIVE), (.ref w_SCHEMA)])) X2 hx rfl rfl rfl (pc0 := 125) (pc' := 132) (same := false) rfl (hb hby d2_125) rfl (decide_eq_false fun q => hne_w_SCHEMA_w_SCHEMA_EXCLUSIVE (Value.ref.inj q)) (by decide) (by decide) ?_
  show Steps p.tables e below (T2.setTop (mkF m 132 #[.val (.ref w_SCHEMA), .val (.ref w_SCHEMA)] [])) _
  refine XS.iconst X2.here hx rfl (hb hby d2_132) ?_
  show Steps p.tables e below (T2.setTop (mkF m 133 #[.val (.ref w_SCHEMA), .val (.ref w_SCHEMA)] [(.int (0 : Int32))])) _
  refine XS.goto X2.here hx rfl (pc0 := 133) (pc' := 155) rfl (hb hby d2_133) (by decide) (by decide) ?_
  show Steps p.tables e below (T2.setTop (mkF m 155 #[.val (.ref w_SCHEMA), .val (.ref w_SCHEMA)] [(.int (0 : Int32))])) _
  exact retN X2 hx (t := .boolean) Bd.returns (by simp) (hb hby d2_155) hr
set_option maxRecDepth 65536 in
set_option maxHeartbeats 40000000 in
theorem rm0_4 (l : Launch) (Z : State) (a0 : Array Value) (hw : ∀ d ∈ tables_1, d.before a0 Z = true) (ws : List Jvm.Cond) (w_READ w_WRITE w_INSERT w_PHANTOM w_SCHEMA w_SCHEMA_EXCLUSIVE : Addr) (h0 : Heap) (n0 : Nat) (Z0 : n0 ≤ h0.size) (S : SF Z h0 w_READ w_WRITE w_INSERT w_PHANTOM w_SCHEMA w_SCHEMA_EXCLUSIVE) (p0 : Int32) (hk : ((p0 &&& (2147483647 : Int32)) % (6 : Int32)) = (4 : Int32)) :
    Pay l Z x ws code maxLocals ret #[(.int p0)] h0 n0 room_1 (some (.int (1 : Int32))) := by
  obtain ⟨S_w_READ, E_w_READ, S_w_WRITE, E_w_WRITE, S_w_INSERT, E_w_INSERT, S_w_PHANTOM, E_w_PHANTOM, S_w_SCHEMA, E_w_SCHEMA, S_w_SCHEMA_EXCLUSIVE, E_w_SCHEMA_EXCLUSIVE, F_ordinal_w_READ, F_ordinal_w_WRITE, F_ordinal_w_INSERT, F_ordinal_w_PHANTOM, F_ordinal_w_SCHEMA, F_ordinal_w_SCHEMA_EXCLUSIVE, hne_w_READ_w_WRITE, hne_w_READ_w_INSERT, hne_w_READ_w_PHANTOM, hne_w_READ_w_SCHEMA, hne_w_READ_w_SCHEMA_EXCLUSIVE, hne_w_WRITE_w_INSERT, hne_w_WRITE_w_PHANTOM, hne_w_WRITE_w_SCHEMA, hne_w_WRITE_w_SCHEMA_EXCLUSIVE, hne_w_INSERT_w_PHANTOM, hne_w_INSERT_w_SCHEMA, hne_w_INSERT_w_SCHEMA_EXCLUSIVE, hne_w_PHANTOM_w_SCHEMA, hne_w_PHANTOM_w_SCHEMA_EXCLUSIVE, hne_w_SCHEMA_w_SCHEMA_EXCLUSIVE⟩ := id S
  refine MetFree.of_bodySF (plainFor_of_name pn_2) hisR ?_
  intro p e s m args below meth c s₁ Bd hml0 hP hK
  obtain ⟨rfl, hZ, hh⟩ := hP
  have hx := Bd.exec
  have hby := Bd.bytes
  have hml : c.maxLocals = 5 := hml0
  have hown : s.vm.findClass "com/example/oyster/oyster/engine/LockModeIsForReadingPinLaw" = some m.cls := findClass_of_methodNamed Bd.named
  have X0 : Stand p l e room_1 s m #[(.int p0)] below meth c s₁ [] 0 0 := Stand.of_body Bd
  have e0 : s₁.heap = h0 := by rw [← hh, Bd.state]; rfl
  have N0 := Fr.nil n0
  have pre0 : ∀ t, Steps p.tables e below (s₁.setTop (mkF m 0 #[.val (.int p0), .unset, .unset, .unset, .unset] [])) t → Steps p.tables e below (s₁.setTop (entryFrame m #[(.int p0)] maxLocals)) t := fun t k => castTop (by first | rfl | (simp [entryFrame, mkF, argsToLocals, Value.category, maxLocals]; done)) k
  obtain ⟨T1, X1, e1, st1⟩ := getS2 X0 hx hZ hown (host := "") (Or.inl (hw _ (List.mem_of_getElem? (i := 37) rfl))) Via.refl e0 S_w_SCHEMA (g := (mkF m 68 #[.val (.int p0), .val (.int (4 : Int32)), .unset, .unset, .unset] [])) rfl (hb hby at_68)
  obtain ⟨cq2, kq2, q2a, q2b, q2c⟩ := isOf hZ e1 E_w_SCHEMA
  obtain ⟨_, _, ⟨T2, L2, k2, n2⟩, -, X2, ⟨Lc2, hQ2, l2, y2, z2⟩, st2⟩ := X1.virtualBack hx (y := (⟨"com/example/oyster/oyster/engine/LockMode", "isForReading", "()Z"⟩ : MethodName)) (z := (⟨"com/example/oyster/oyster/engine/LockMode", "isForReading", "()Z"⟩ : MethodName)) hown (mvT hZ (hw _ (List.mem_of_getElem? (i := 4) rfl))) (mvT hZ (hw _ (List.mem_of_getElem? (i := 5) rfl))) (notFace_of_selects (args := #[]) (mvT hZ (hw _ (List.mem_of_getElem? (i := 7) rfl)))) (mvT hZ (hw _ (List.mem_of_getElem? (i := 7) rfl))) (mvT hZ (hw _ (List.mem_of_getElem? (i := 6) rfl))) (by decide) (backOf (W := 0) (rm1_4 l Z a0 hw [] w_READ w_WRITE w_INSERT w_PHANTOM w_SCHEMA w_SCHEMA_EXCLUSIVE h0 n0 Z0 S) hZ (hw _ (List.mem_of_getElem? (i := 8) rfl)) (hw _ (List.mem_of_getElem? (i := 2) rfl)) (by decide) (by decide)) q2a q2c (g := (mkF m 84 #[.val (.int p0), .val (.int (4 : Int32)), .val (.ref w_SCHEMA), .val (.int (1 : Int32)), .unset] [(.ref w_SCHEMA)])) rfl (by rw [hml]; rfl) (Steps.refl _) (argsL := []) (rest := []) (lenOf pd_0 rfl) rfl (by show 2 * 0 + _ ≤ _; exact Nat.le_of_eq rfl) (hb hby at_84) (fun _ _ => ⟨rfl, e1, (by decide : 0 + 0 ≤ _), (by decide : 0 + 0 ≤ _)⟩)
  dsimp only [Pt.U, Pt.locs, Pt.cells, Pt.slots] at X2 l2 y2 z2 st2 hQ2
  subst l2 y2 z2
  obtain ⟨rfl, Nq2, e2⟩ := hQ2
  have N2 := Fr.app N0 Nq2
  obtain ⟨cq3, kq3, q3a, q3b, q3c⟩ := isOf hZ e2 E_w_SCHEMA
  obtain ⟨_, _, ⟨T3, L3, k3, n3⟩, -, X3, ⟨Lc3, hQ3, l3, y3, z3⟩, st3⟩ := X2.virtualBack hx (y := (⟨"com/example/oyster/oyster/engine/LockMode", "conflictsWith", "(Lcom/example/oyster/oyster/engine/LockMode;)Z"⟩ : MethodName)) (z := (⟨"com/example/oyster/oyster/engine/LockMode", "conflictsWith", "(Lcom/example/oyster/oyster/engine/LockMode;)Z"⟩ : MethodName)) hown (mvT hZ (hw _ (List.mem_of_getElem? (i := 10) rfl))) (mvT hZ (hw _ (List.mem_of_getElem? (i := 11) rfl))) (notFace_of_selects (args := #[]) (mvT hZ (hw _ (List.mem_of_getElem? (i := 13) rfl)))) (mvT hZ (hw _ (List.mem_of_getElem? (i := 13) rfl))) (mvT hZ (hw _ (List.mem_of_getElem? (i := 12) rfl))) (by decide) (backOf (W := 0) (rm2_2 l Z a0 hw [] w_READ w_WRITE w_INSERT w_PHANTOM w_SCHEMA w_SCHEMA_EXCLUSIVE h0 n0 Z0 S) hZ (hw _ (List.mem_of_getElem? (i := 14) rfl)) (hw _ (List.mem_of_getElem? (i := 2) rfl)) (by decide) (by decide)) q3a q3c (g := (mkF m 104 #[.val (.int p0), .val (.int (4 : Int32)), .val (.ref w_SCHEMA), .val (.int (1 : Int32)), .val (.int (1 : Int32))] [(.ref w_SCHEMA), (.ref w_SCHEMA)])) rfl (by rw [hml]; rfl) (Steps.refl _) (argsL := [(.ref w_SCHEMA)]) (rest := []) (lenOf pd_2 rfl) rfl (by show 2 * 0 + _ ≤ _; exact Nat.le_of_eq rfl) (hb hby at_104) (fun _ _ => ⟨rfl, e2, (by decide : 0 + 0 ≤ _), (by decide : 0 + 0 ≤ _)⟩)
  dsimp only [Pt.U, Pt.locs, Pt.cells, Pt.slots] at X3 l3 y3 z3 st3 hQ3
  subst l3 y3 z3
  obtain ⟨rfl, Nq3, e3⟩ := hQ3
  have N3 := Fr.app N2 Nq3
  obtain ⟨fs, hr, hrun, hended, hW, hsame⟩ := X3.leave (v := (some (.int (1 : Int32)))) (fun h => by rw [Bd.returns] at h; cases h)
  refine ⟨_, _, pre0 _ ?_, hrun, hended, _, _, rfl, ⟨rfl, N3, e3⟩, ⟨_, rfl⟩, hW, hsame.mono (by decide) (by decide)⟩
  show Steps p.tables e below (s₁.setTop (mkF m 0 #[.val (.int p0), .unset, .unset, .unset, .unset] [])) _
  refine XS.iloadN X0.here hx rfl (hb hby at_0) rfl ?_
  show Steps p.tables e below (s₁.setTop (mkF m 1 #[.val (.int p0), .unset, .unset, .unset, .unset] [(.int p0)])) _
  refine X0.ldcInt hx hown (mvT hZ (hw _ (List.mem_of_getElem? (i := 0) rfl))) (g := (mkF m 1 #[.val (.int p0), .unset, .unset, .unset, .unset] [(.int p0)])) rfl (hb hby at_1) _ ?_
  show Steps p.tables e below (s₁.setTop (mkF m 3 #[.val (.int p0), .unset, .unset, .unset, .unset] [(.int (2147483647 : Int32)), (.int p0)])) _
  refine XS.iand X0.here hx rfl (hb hby at_3) rfl ?_
  show Steps p.tables e below (s₁.setTop (mkF m 4 #[.val (.int p0), .unset, .unset, .unset, .unset] [(.int (p0 &&& (2147483647 : Int32)))])) _
  show Steps p.tables e below (s₁.setTop (mkF m 4 #[.val (.int p0), .unset, .unset, .unset, .unset] [(.int (p0 &&& (2147483647 : Int32)))])) _
  refine XS.bipush X0.here hx rfl (hb hby at_4) ?_
  show Steps p.tables e below (s₁.setTop (mkF m 6 #[.val (.int p0), .unset, .unset, .unset, .unset] [(.int (6 : Int32)), (.int (p0 &&& (2147483647 : Int32)))])) _
  refine iremM X0 hx rfl (hb hby at_6) rfl (by decide) ?_
  show Steps p.tables e below (s₁.setTop (mkF m 7 #[.val (.int p0), .unset, .unset, .unset, .unset] [(.int ((p0 &&& (2147483647 : Int32)) % (6 : Int32)))])) _
  rw [hk]
  show Steps p.tables e below (s₁.setTop (mkF m 7 #[.val (.int p0), .unset, .unset, .unset, .unset] [(.int (4 : Int32))])) _
  refine XS.istoreN X0.here hx rfl (hb hby at_7) rfl (l' := #[.val (.int p0), .val (.int (4 : Int32)), .unset, .unset, .unset]) rfl ?_
  show Steps p.tables e below (s₁.setTop (mkF m 8 #[.val (.int p0), .val (.int (4 : Int32)), .unset, .unset, .unset] [])) _
  refine XS.iloadN X0.here hx rfl (hb hby at_8) rfl ?_
  show Steps p.tables e below (s₁.setTop (mkF m 9 #[.val (.int p0), .val (.int (4 : Int32)), .unset, .unset, .unset] [(.int (4 : Int32))])) _
  refine XS.ifYes X0.here hx rfl (pc0 := 9) (pc' := 21) rfl (hb hby at_9) rfl ((if0 _ _).trans (feq (by decide : ¬ ((4 : Int32) = (0 : Int32)))).2) (by decide) (by decide) ?_
  show Steps p.tables e below (s₁.setTop (mkF m 21 #[.val (.int p0), .val (.int (4 : Int32)), .unset, .unset, .unset] [])) _
  refine XS.iloadN X0.here hx rfl (hb hby at_21) rfl ?_
  show Steps p.tables e below (s₁.setTop (mkF m 22 #[.val (.int p0), .val (.int (4 : Int32)), .unset, .unset, .unset] [(.int (4 : Int32))])) _
  refine XS.iconst X0.here hx rfl (hb hby at_22) ?_
  show Steps p.tables e below (s₁.setTop (mkF m 23 #[.val (.int p0), .val (.int (4 : Int32)), .unset, .unset, .unset] [(.int (1 : Int32)), (.int (4 : Int32))])) _
  refine XS.icmpYes X0.here hx rfl (pc0 := 23) (pc' := 35) rfl (hb hby at_23) rfl (feq (by decide : ¬ ((4 : Int32) = (1 : Int32)))).2 (by decide) (by decide) ?_
  show Steps p.tables e below (s₁.setTop (mkF m 35 #[.val (.int p0), .val (.int (4 : Int32)), .unset, .unset, .unset] [])) _
  refine XS.iloadN X0.here hx rfl (hb hby at_35) rfl ?_
  show Steps p.tables e below (s₁.setTop (mkF m 36 #[.val (.int p0), .val (.int (4 : Int32)), .unset, .unset, .unset] [(.int (4 : Int32))])) _
  refine XS.iconst X0.here hx rfl (hb hby at_36) ?_
  show Steps p.tables e below (s₁.setTop (mkF m 37 #[.val (.int p0), .val (.int (4 : Int32)), .unset, .unset, .unset] [(.int (2 : Int32)), (.int (4 : Int32))])) _
  refine XS.icmpYes X0.here hx rfl (pc0 := 37) (pc' := 49) rfl (hb hby at_37) rfl (feq (by decide : ¬ ((4 : Int32) = (2 : Int32)))).2 (by decide) (by decide) ?_
  show Steps p.tables e below (s₁.setTop (mkF m 49 #[.val (.int p0), .val (.int (4 : Int32)), .unset, .unset, .unset] [])) _
  refine XS.iloadN X0.here hx rfl (hb hby at_49) rfl ?_
  show Steps p.tables e below (s₁.setTop (mkF m 50 #[.val (.int p0), .val (.int (4 : Int32)), .unset, .unset, .unset] [(.int (4 : Int32))])) _
  refine XS.iconst X0.here hx rfl (hb hby at_50) ?_
  show Steps p.tables e below (s₁.setTop (mkF m 51 #[.val (.int p0), .val (.int (4 : Int32)), .unset, .unset, .unset] [(.int (3 : Int32)), (.int (4 : Int32))])) _
  refine XS.icmpYes X0.here hx rfl (pc0 := 51) (pc' := 63) rfl (hb hby at_51) rfl (feq (by decide : ¬ ((4 : Int32) = (3 : Int32)))).2 (by decide) (by decide) ?_
  show Steps p.tables e below (s₁.setTop (mkF m 63 #[.val (.int p0), .val (.int (4 : Int32)), .unset, .unset, .unset] [])) _
  refine XS.iloadN X0.here hx rfl (hb hby at_63) rfl ?_
  show Steps p.tables e below (s₁.setTop (mkF m 64 #[.val (.int p0), .val (.int (4 : Int32)), .unset, .unset, .unset] [(.int (4 : Int32))])) _
  refine XS.iconst X0.here hx rfl (hb hby at_64) ?_
  show Steps p.tables e below (s₁.setTop (mkF m 65 #[.val (.int p0), .val (.int (4 : Int32)), .unset, .unset, .unset] [(.int (4 : Int32)), (.int (4 : Int32))])) _
  refine XS.icmpNo X0.here hx rfl (hb hby at_65) rfl (teq (by decide : (4 : Int32) = (4 : Int32))).2 ?_
  show Steps p.tables e below (s₁.setTop (mkF m 68 #[.val (.int p0), .val (.int (4 : Int32)), .unset, .unset, .unset] [])) _
  refine st1 _ ?_
  show Steps p.tables e below (T1.setTop (mkF m 71 #[.val (.int p0), .val (.int (4 : Int32)), .unset, .unset, .unset] [(.ref w_SCHEMA)])) _
  refine XS.astoreN X1.here hx rfl (hb hby at_71) rfl rfl (l' := #[.val (.int p0), .val (.int (4 : Int32)), .val (.ref w_SCHEMA), .unset, .unset]) rfl ?_
  show Steps p.tables e below (T1.setTop (mkF m 72 #[.val (.int p0), .val (.int (4 : Int32)), .val (.ref w_SCHEMA), .unset, .unset] [])) _
  refine XS.iconst X1.here hx rfl (hb hby at_72) ?_
  show Steps p.tables e below (T1.setTop (mkF m 73 #[.val (.int p0), .val (.int (4 : Int32)), .val (.ref w_SCHEMA), .unset, .unset] [(.int (1 : Int32))])) _
  refine XS.istoreN X1.here hx rfl (hb hby at_73) rfl (l' := #[.val (.int p0), .val (.int (4 : Int32)), .val (.ref w_SCHEMA), .val (.int (1 : Int32)), .unset]) rfl ?_
  show Steps p.tables e below (T1.setTop (mkF m 74 #[.val (.int p0), .val (.int (4 : Int32)), .val (.ref w_SCHEMA), .val (.int (1 : Int32)), .unset] [])) _
  refine XS.goto X1.here hx rfl (pc0 := 74) (pc' := 83) rfl (hb hby at_74) (by decide) (by decide) ?_
  show Steps p.tables e below (T1.setTop (mkF m 83 #[.val (.int p0), .val (.int (4 : Int32)), .val (.ref w_SCHEMA), .val (.int (1 : Int32)), .unset] [])) _
  refine XS.aloadN X1.here hx rfl (hb hby at_83) rfl rfl ?_
  show Steps p.tables e below (T1.setTop (mkF m 84 #[.val (.int p0), .val (.int (4 : Int32)), .val (.ref w_SCHEMA), .val (.int (1 : Int32)), .unset] [(.ref w_SCHEMA)])) _
  refine st2.trans ?_
  show Steps p.tables e below (T2.setTop (mkF m 87 #[.val (.int p0), .val (.int (4 : Int32)), .val (.ref w_SCHEMA), .val (.int (1 : Int32)), .unset] [(.int (1 : Int32))])) _
  refine XS.istore X2.here hx rfl (hb hby at_87) rfl (l' := #[.val (.int p0), .val (.int (4 : Int32)), .val (.ref w_SCHEMA), .val (.int (1 : Int32)), .val (.int (1 : Int32))]) rfl ?_
  show Steps p.tables e below (T2.setTop (mkF m 89 #[.val (.int p0), .val (.int (4 : Int32)), .val (.ref w_SCHEMA), .val (.int (1 : Int32)), .val (.int (1 : Int32))] [])) _
  refine XS.iload X2.here hx rfl (hb hby at_89) rfl ?_
  show Steps p.tables e below (T2.setTop (mkF m 91 #[.val (.int p0), .val (.int (4 : Int32)), .val (.ref w_SCHEMA), .val (.int (1 : Int32)), .val (.int (1 : Int32))] [(.int (1 : Int32))])) _
  refine XS.iloadN X2.here hx rfl (hb hby at_91) rfl ?_
  show Steps p.tables e below (T2.setTop (mkF m 92 #[.val (.int p0), .val (.int (4 : Int32)), .val (.ref w_SCHEMA), .val (.int (1 : Int32)), .val (.int (1 : Int32))] [(.int (1 : Int32)), (.int (1 : Int32))])) _
  refine XS.icmpYes X2.here hx rfl (pc0 := 92) (pc' := 97) rfl (hb hby at_92) rfl (teq (by decide : (1 : Int32) = (1 : Int32))).1 (by decide) (by decide) ?_
  show Steps p.tables e below (T2.setTop (mkF m 97 #[.val (.int p0), .val (.int (4 : Int32)), .val (.ref w_SCHEMA), .val (.int (1 : Int32)), .val (.int (1 : Int32))] [])) _
  refine XS.iload X2.here hx rfl (hb hby at_97) rfl ?_
  show Steps p.tables e below (T2.setTop (mkF m 99 #[.val (.int p0), .val (.int (4 : Int32)), .val (.ref w_SCHEMA), .val (.int (1 : Int32)), .val (.int (1 : Int32))] [(.int (1 : Int32))])) _
  refine XS.ifNo X2.here hx rfl (hb hby at_99) rfl ((if0 _ _).trans (feq (by decide : ¬ ((1 : Int32) = (0 : Int32)))).1) ?_
  show Steps p.tables e below (T2.setTop (mkF m 102 #[.val (.int p0), .val (.int (4 : Int32)), .val (.ref w_SCHEMA), .val (.int (1 : Int32)), .val (.int (1 : Int32))] [])) _
  refine XS.aloadN X2.here hx rfl (hb hby at_102) rfl rfl ?_
  show Steps p.tables e below (T2.setTop (mkF m 103 #[.val (.int p0), .val (.int (4 : Int32)), .val (.ref w_SCHEMA), .val (.int (1 : Int32)), .val (.int (1 : Int32))] [(.ref w_SCHEMA)])) _
  refine XS.aloadN X2.here hx rfl (hb hby at_103) rfl rfl ?_
  show Steps p.tables e below (T2.setTop (mkF m 104 #[.val (.int p0), .val (.int (4 : Int32)), .val (.ref w_SCHEMA), .val (.int (1 : Int32)), .val (.int (1 : Int32))] [(.ref w_SCHEMA), (.ref w_SCHEMA)])) _
  refine st3.trans ?_
  show Steps p.tables e below (T3.setTop (mkF m 107 #[.val (.int p0), .val (.int (4 : Int32)), .val (.ref w_SCHEMA), .val (.int (1 : Int32)), .val (.int (1 : Int32))] [(.int (0 : Int32))])) _
  refine XS.ifNo X3.here hx rfl (hb hby at_107) rfl ((if0 _ _).trans (teq (by decide : (0 : Int32) = (0 : Int32))).2) ?_
  show Steps p.tables e below (T3.setTop (mkF m 110 #[.val (.int p0), .val (.int (4 : Int32)), .val (.ref w_SCHEMA), .val (.int (1 : Int32)), .val (.int (1 : Int32))] [])) _
  refine XS.iconst X3.here hx rfl (hb hby at_110) ?_
  show Steps p.tables e below (T3.setTop (mkF m 111 #[.val (.int p0), .val (.int (4 : Int32)), .val (.ref w_SCHEMA), .val (.int (1 : Int32)), .val (.int (1 : Int32))] [(.int (1 : Int32))])) _
  refine XS.goto X3.here hx rfl (pc0 := 111) (pc' := 115) rfl (hb hby at_111) (by decide) (by decide) ?_
  show Steps p.tables e below (T3.setTop (mkF m 115 #[.val (.int p0), .val (.int (4 : Int32)), .val (.ref w_SCHEMA), .val (.int (1 : Int32)), .val (.int (1 : Int32))] [(.int (1 : Int32))])) _
  exact retN X3 hx (t := .boolean) Bd.returns (by simp) (hb hby at_115) hr
set_option maxRecDepth 65536 in
set_option maxHeartbeats 40000000 in
theorem rm1_5 (l : Launch) (Z : State) (a0 : Array Value) (hw : ∀ d ∈ tables_1, d.before a0 Z = true) (ws : List Jvm.Cond) (w_READ w_WRITE w_INSERT w_PHANTOM w_SCHEMA w_SCHEMA_EXCLUSIVE : Addr) (h0 : Heap) (n0 : Nat) (Z0 : n0 ≤ h0.size) (S : SF Z h0 w_READ w_WRITE w_INSERT w_PHANTOM w_SCHEMA w_SCHEMA_EXCLUSIVE) :
    Pay l Z (⟨"com/example/oyster/oyster/engine/LockMode", "isForReading", "()Z"⟩ : MethodName) ws prog_62_method_8_code 1 (some .boolean) #[(.ref w_SCHEMA_EXCLUSIVE)] h0 n0 ({ frames := 0, cells := 0, slots := 0, locals := 0 } : Room) (some (.int (0 : Int32))) := by
  obtain ⟨S_w_READ, E_w_READ, S_w_WRITE, E_w_WRITE, S_w_INSERT, E_w_INSERT, S_w_PHANTOM, E_w_PHANTOM, S_w_SCHEMA, E_w_SCHEMA, S_w_SCHEMA_EXCLUSIVE, E_w_SCHEMA_EXCLUSIVE, F_ordinal_w_READ, F_ordinal_w_WRITE, F_ordinal_w_INSERT, F_ordinal_w_PHANTOM, F_ordinal_w_SCHEMA, F_ordinal_w_SCHEMA_EXCLUSIVE, hne_w_READ_w_WRITE, hne_w_READ_w_INSERT, hne_w_READ_w_PHANTOM, hne_w_READ_w_SCHEMA, hne_w_READ_w_SCHEMA_EXCLUSIVE, hne_w_WRITE_w_INSERT, hne_w_WRITE_w_PHANTOM, hne_w_WRITE_w_SCHEMA, hne_w_WRITE_w_SCHEMA_EXCLUSIVE, hne_w_INSERT_w_PHANTOM, hne_w_INSERT_w_SCHEMA, hne_w_INSERT_w_SCHEMA_EXCLUSIVE, hne_w_PHANTOM_w_SCHEMA, hne_w_PHANTOM_w_SCHEMA_EXCLUSIVE, hne_w_SCHEMA_w_SCHEMA_EXCLUSIVE⟩ := id S
  refine MetFree.of_bodySF (plainFor_of_name pn_0) hisR ?_
  intro p e s m args below meth c s₁ Bd hml0 hP hK
  obtain ⟨rfl, hZ, hh⟩ := hP
  have hx := Bd.exec
  have hby := Bd.bytes
  have hml : c.maxLocals = 1 := hml0
  have hown : s.vm.findClass "com/example/oyster/oyster/engine/LockMode" = some m.cls := findClass_of_methodNamed Bd.named
  have X0 : Stand p l e ({ frames := 0, cells := 0, slots := 0, locals := 0 } : Room) s m #[(.ref w_SCHEMA_EXCLUSIVE)] below meth c s₁ [] 0 0 := Stand.of_body Bd
  have e0 : s₁.heap = h0 := by rw [← hh, Bd.state]; rfl
  have N0 := Fr.nil n0
  have pre0 : ∀ t, Steps p.tables e below (s₁.setTop (mkF m 0 #[.val (.ref w_SCHEMA_EXCLUSIVE)] [])) t → Steps p.tables e below (s₁.setTop (entryFrame m #[(.ref w_SCHEMA_EXCLUSIVE)] 1)) t := fun t k => castTop (by first | rfl | (simp [entryFrame, mkF, argsToLocals, Value.category]; done)) k
  obtain ⟨T1, X1, e1, st1⟩ := getS2 X0 hx hZ hown (host := "") (Or.inl (hw _ (List.mem_of_getElem? (i := 9) rfl))) Via.refl e0 S_w_READ (g := (mkF m 1 #[.val (.ref w_SCHEMA_EXCLUSIVE)] [(.ref w_SCHEMA_EXCLUSIVE)])) rfl (hb hby d1_1)
  obtain ⟨T2, X2, e2, st2⟩ := getS2 X1 hx hZ hown (host := "") (Or.inl (hw _ (List.mem_of_getElem? (i := 28) rfl))) Via.refl e1 S_w_PHANTOM (g := (mkF m 8 #[.val (.ref w_SCHEMA_EXCLUSIVE)] [(.ref w_SCHEMA_EXCLUSIVE)])) rfl (hb hby d1_8)
  obtain ⟨T3, X3, e3, st3⟩ := getS2 X2 hx hZ hown (host := "") (Or.inl (hw _ (List.mem_of_getElem? (i := 30) rfl))) Via.refl e2 S_w_SCHEMA (g := (mkF m 15 #[.val (.ref w_SCHEMA_EXCLUSIVE)] [(.ref w_SCHEMA_EXCLUSIVE)])) rfl (hb hby d1_15)
  obtain ⟨fs, hr, hrun, hended, hW, hsame⟩ := X3.leave (v := (some (.int (0 : Int32)))) (fun h => by rw [Bd.returns] at h; cases h)
  refine ⟨_, _, pre0 _ ?_, hrun, hended, _, _, rfl, ⟨rfl, N0, e3⟩, ⟨_, rfl⟩, hW, hsame.mono (by decide) (by decide)⟩
  show Steps p.tables e below (s₁.setTop (mkF m 0 #[.val (.ref w_SCHEMA_EXCLUSIVE)] [])) _
  refine XS.aloadN X0.here hx rfl (hb hby d1_0) rfl rfl ?_
  show Steps p.tables e below (s₁.setTop (mkF m 1 #[.val (.ref w_SCHEMA_EXCLUSIVE)] [(.ref w_SCHEMA_EXCLUSIVE)])) _
  refine st1 _ ?_
  show Steps p.tables e below (T1.setTop (mkF m 4 #[.val (.ref w_SCHEMA_EXCLUSIVE)] [(.ref w_READ), (.ref w_SCHEMA_EXCLUSIVE)])) _
  refine Jvm.RoadKit.acmp (g := (mkF m 4 #[.val (.ref w_SCHEMA_EXCLUSIVE)] [(.ref w_READ), (.ref w_SCHEMA_EXCLUSIVE)])) X1 hx rfl rfl rfl (pc0 := 4) (pc' := 7) (same := false) rfl (hb hby d1_4) rfl (decide_eq_false fun q => hne_w_READ_w_SCHEMA_EXCLUSIVE (Value.ref.inj q).symm) (by decide) (by decide) ?_
  show Steps p.tables e below (T1.setTop (mkF m 7 #[.val (.ref w_SCHEMA_EXCLUSIVE)] [])) _
  refine XS.aloadN X1.here hx rfl (hb hby d1_7) rfl rfl ?_
  show Steps p.tables e below (T1.setTop (mkF m 8 #[.val (.ref w_SCHEMA_EXCLUSIVE)] [(.ref w_SCHEMA_EXCLUSIVE)])) _
  refine st2 _ ?_
  show Steps p.tables e below (T2.setTop (mkF m 11 #[.val (.ref w_SCHEMA_EXCLUSIVE)] [(.ref w_PHANTOM), (.ref w_SCHEMA_EXCLUSIVE)])) _
  refine Jvm.RoadKit.acmp (g := (mkF m 11 #[.val (.ref w_SCHEMA_EXCLUSIVE)] [(.ref w_PHANTOM), (.ref w_SCHEMA_EXCLUSIVE)])) X2 hx rfl rfl rfl (pc0 := 11) (pc' := 14) (same := false) rfl (hb hby d1_11) rfl (decide_eq_false fun q => hne_w_PHANTOM_w_SCHEMA_EXCLUSIVE (Value.ref.inj q).symm) (by decide) (by decide) ?_
  show Steps p.tables e below (T2.setTop (mkF m 14 #[.val (.ref w_SCHEMA_EXCLUSIVE)] [])) _
  refine XS.aloadN X2.here hx rfl (hb hby d1_14) rfl rfl ?_
  show Steps p.tables e below (T2.setTop (mkF m 15 #[.val (.ref w_SCHEMA_EXCLUSIVE)] [(.ref w_SCHEMA_EXCLUSIVE)])) _
  refine st3 _ ?_
  show Steps p.tables e below (T3.setTop (mkF m 18 #[.val (.ref w_SCHEMA_EXCLUSIVE)] [(.ref w_SCHEMA), (.ref w_SCHEMA_EXCLUSIVE)])) _
  refine Jvm.RoadKit.acmp (g := (mkF m 18 #[.val (.ref w_SCHEMA_EXCLUSIVE)] [(.ref w_SCHEMA), (.ref w_SCHEMA_EXCLUSIVE)])) X3 hx rfl rfl rfl (pc0 := 18) (pc' := 25) (same := false) rfl (hb hby d1_18) rfl (decide_eq_false fun q => hne_w_SCHEMA_w_SCHEMA_EXCLUSIVE (Value.ref.inj q).symm) (by decide) (by decide) ?_
  show Steps p.tables e below (T3.setTop (mkF m 25 #[.val (.ref w_SCHEMA_EXCLUSIVE)] [])) _
  refine XS.iconst X3.here hx rfl (hb hby d1_25) ?_
  show Steps p.tables e below (T3.setTop (mkF m 26 #[.val (.ref w_SCHEMA_EXCLUSIVE)] [(.int (0 : Int32))])) _
  exact retN X3 hx (t := .boolean) Bd.returns (by simp) (hb hby d1_26) hr
set_option maxRecDepth 65536 in
set_option maxHeartbeats 40000000 in
theorem rm0_5 (l : Launch) (Z : State) (a0 : Array Value) (hw : ∀ d ∈ tables_1, d.before a0 Z = true) (ws : List Jvm.Cond) (w_READ w_WRITE w_INSERT w_PHANTOM w_SCHEMA w_SCHEMA_EXCLUSIVE : Addr) (h0 : Heap) (n0 : Nat) (Z0 : n0 ≤ h0.size) (S : SF Z h0 w_READ w_WRITE w_INSERT w_PHANTOM w_SCHEMA w_SCHEMA_EXCLUSIVE) (p0 : Int32) (hk : ((p0 &&& (2147483647 : Int32)) % (6 : Int32)) = (5 : Int32)) :
    Pay l Z x ws code maxLocals ret #[(.int p0)] h0 n0 room_1 (some (.int (1 : Int32))) := by
  obtain ⟨S_w_READ, E_w_READ, S_w_WRITE, E_w_WRITE, S_w_INSERT, E_w_INSERT, S_w_PHANTOM, E_w_PHANTOM, S_w_SCHEMA, E_w_SCHEMA, S_w_SCHEMA_EXCLUSIVE, E_w_SCHEMA_EXCLUSIVE, F_ordinal_w_READ, F_ordinal_w_WRITE, F_ordinal_w_INSERT, F_ordinal_w_PHANTOM, F_ordinal_w_SCHEMA, F_ordinal_w_SCHEMA_EXCLUSIVE, hne_w_READ_w_WRITE, hne_w_READ_w_INSERT, hne_w_READ_w_PHANTOM, hne_w_READ_w_SCHEMA, hne_w_READ_w_SCHEMA_EXCLUSIVE, hne_w_WRITE_w_INSERT, hne_w_WRITE_w_PHANTOM, hne_w_WRITE_w_SCHEMA, hne_w_WRITE_w_SCHEMA_EXCLUSIVE, hne_w_INSERT_w_PHANTOM, hne_w_INSERT_w_SCHEMA, hne_w_INSERT_w_SCHEMA_EXCLUSIVE, hne_w_PHANTOM_w_SCHEMA, hne_w_PHANTOM_w_SCHEMA_EXCLUSIVE, hne_w_SCHEMA_w_SCHEMA_EXCLUSIVE⟩ := id S
  refine MetFree.of_bodySF (plainFor_of_name pn_2) hisR ?_
  intro p e s m args below meth c s₁ Bd hml0 hP hK
  obtain ⟨rfl, hZ, hh⟩ := hP
  have hx := Bd.exec
  have hby := Bd.bytes
  have hml : c.maxLocals = 5 := hml0
  have hown : s.vm.findClass "com/example/oyster/oyster/engine/LockModeIsForReadingPinLaw" = some m.cls := findClass_of_methodNamed Bd.named
  have X0 : Stand p l e room_1 s m #[(.int p0)] below meth c s₁ [] 0 0 := Stand.of_body Bd
  have e0 : s₁.heap = h0 := by rw [← hh, Bd.state]; rfl
  have N0 := Fr.nil n0
  have pre0 : ∀ t, Steps p.tables e below (s₁.setTop (mkF m 0 #[.val (.int p0), .unset, .unset, .unset, .unset] [])) t → Steps p.tables e below (s₁.setTop (entryFrame m #[(.int p0)] maxLocals)) t := fun t k => castTop (by first | rfl | (simp [entryFrame, mkF, argsToLocals, Value.category, maxLocals]; done)) k
  obtain ⟨T1, X1, e1, st1⟩ := getS2 X0 hx hZ hown (host := "") (Or.inl (hw _ (List.mem_of_getElem? (i := 35) rfl))) Via.refl e0 S_w_SCHEMA_EXCLUSIVE (g := (mkF m 77 #[.val (.int p0), .val (.int (5 : Int32)), .unset, .unset, .unset] [])) rfl (hb hby at_77)
  obtain ⟨cq2, kq2, q2a, q2b, q2c⟩ := isOf hZ e1 E_w_SCHEMA_EXCLUSIVE
  obtain ⟨_, _, ⟨T2, L2, k2, n2⟩, -, X2, ⟨Lc2, hQ2, l2, y2, z2⟩, st2⟩ := X1.virtualBack hx (y := (⟨"com/example/oyster/oyster/engine/LockMode", "isForReading", "()Z"⟩ : MethodName)) (z := (⟨"com/example/oyster/oyster/engine/LockMode", "isForReading", "()Z"⟩ : MethodName)) hown (mvT hZ (hw _ (List.mem_of_getElem? (i := 4) rfl))) (mvT hZ (hw _ (List.mem_of_getElem? (i := 5) rfl))) (notFace_of_selects (args := #[]) (mvT hZ (hw _ (List.mem_of_getElem? (i := 7) rfl)))) (mvT hZ (hw _ (List.mem_of_getElem? (i := 7) rfl))) (mvT hZ (hw _ (List.mem_of_getElem? (i := 6) rfl))) (by decide) (backOf (W := 0) (rm1_5 l Z a0 hw [] w_READ w_WRITE w_INSERT w_PHANTOM w_SCHEMA w_SCHEMA_EXCLUSIVE h0 n0 Z0 S) hZ (hw _ (List.mem_of_getElem? (i := 8) rfl)) (hw _ (List.mem_of_getElem? (i := 2) rfl)) (by decide) (by decide)) q2a q2c (g := (mkF m 84 #[.val (.int p0), .val (.int (5 : Int32)), .val (.ref w_SCHEMA_EXCLUSIVE), .val (.int (0 : Int32)), .unset] [(.ref w_SCHEMA_EXCLUSIVE)])) rfl (by rw [hml]; rfl) (Steps.refl _) (argsL := []) (rest := []) (lenOf pd_0 rfl) rfl (by show 2 * 0 + _ ≤ _; exact Nat.le_of_eq rfl) (hb hby at_84) (fun _ _ => ⟨rfl, e1, (by decide : 0 + 0 ≤ _), (by decide : 0 + 0 ≤ _)⟩)
  dsimp only [Pt.U, Pt.locs, Pt.cells, Pt.slots] at X2 l2 y2 z2 st2 hQ2
  subst l2 y2 z2
  obtain ⟨rfl, Nq2, e2⟩ := hQ2
  have N2 := Fr.app N0 Nq2
  obtain ⟨fs, hr, hrun, hended, hW, hsame⟩ := X2.leave (v := (some (.int (1 : Int32)))) (fun h => by rw [Bd.returns] at h; cases h)
  refine ⟨_, _, pre0 _ ?_, hrun, hended, _, _, rfl, ⟨rfl, N2, e2⟩, ⟨_, rfl⟩, hW, hsame.mono (by decide) (by decide)⟩
  show Steps p.tables e below (s₁.setTop (mkF m 0 #[.val (.int p0), .unset, .unset, .unset, .unset] [])) _
  refine XS.iloadN X0.here hx rfl (hb hby at_0) rfl ?_
  show Steps p.tables e below (s₁.setTop (mkF m 1 #[.val (.int p0), .unset, .unset, .unset, .unset] [(.int p0)])) _
  refine X0.ldcInt hx hown (mvT hZ (hw _ (List.mem_of_getElem? (i := 0) rfl))) (g := (mkF m 1 #[.val (.int p0), .unset, .unset, .unset, .unset] [(.int p0)])) rfl (hb hby at_1) _ ?_
  show Steps p.tables e below (s₁.setTop (mkF m 3 #[.val (.int p0), .unset, .unset, .unset, .unset] [(.int (2147483647 : Int32)), (.int p0)])) _
  refine XS.iand X0.here hx rfl (hb hby at_3) rfl ?_
  show Steps p.tables e below (s₁.setTop (mkF m 4 #[.val (.int p0), .unset, .unset, .unset, .unset] [(.int (p0 &&& (2147483647 : Int32)))])) _
  show Steps p.tables e below (s₁.setTop (mkF m 4 #[.val (.int p0), .unset, .unset, .unset, .unset] [(.int (p0 &&& (2147483647 : Int32)))])) _
  refine XS.bipush X0.here hx rfl (hb hby at_4) ?_
  show Steps p.tables e below (s₁.setTop (mkF m 6 #[.val (.int p0), .unset, .unset, .unset, .unset] [(.int (6 : Int32)), (.int (p0 &&& (2147483647 : Int32)))])) _
  refine iremM X0 hx rfl (hb hby at_6) rfl (by decide) ?_
  show Steps p.tables e below (s₁.setTop (mkF m 7 #[.val (.int p0), .unset, .unset, .unset, .unset] [(.int ((p0 &&& (2147483647 : Int32)) % (6 : Int32)))])) _
  rw [hk]
  show Steps p.tables e below (s₁.setTop (mkF m 7 #[.val (.int p0), .unset, .unset, .unset, .unset] [(.int (5 : Int32))])) _
  refine XS.istoreN X0.here hx rfl (hb hby at_7) rfl (l' := #[.val (.int p0), .val (.int (5 : Int32)), .unset, .unset, .unset]) rfl ?_
  show Steps p.tables e below (s₁.setTop (mkF m 8 #[.val (.int p0), .val (.int (5 : Int32)), .unset, .unset, .unset] [])) _
  refine XS.iloadN X0.here hx rfl (hb hby at_8) rfl ?_
  show Steps p.tables e below (s₁.setTop (mkF m 9 #[.val (.int p0), .val (.int (5 : Int32)), .unset, .unset, .unset] [(.int (5 : Int32))])) _
  refine XS.ifYes X0.here hx rfl (pc0 := 9) (pc' := 21) rfl (hb hby at_9) rfl ((if0 _ _).trans (feq (by decide : ¬ ((5 : Int32) = (0 : Int32)))).2) (by decide) (by decide) ?_
  show Steps p.tables e below (s₁.setTop (mkF m 21 #[.val (.int p0), .val (.int (5 : Int32)), .unset, .unset, .unset] [])) _
  refine XS.iloadN X0.here hx rfl (hb hby at_21) rfl ?_
  show Steps p.tables e below (s₁.setTop (mkF m 22 #[.val (.int p0), .val (.int (5 : Int32)), .unset, .unset, .unset] [(.int (5 : Int32))])) _
  refine XS.iconst X0.here hx rfl (hb hby at_22) ?_
  show Steps p.tables e below (s₁.setTop (mkF m 23 #[.val (.int p0), .val (.int (5 : Int32)), .unset, .unset, .unset] [(.int (1 : Int32)), (.int (5 : Int32))])) _
  refine XS.icmpYes X0.here hx rfl (pc0 := 23) (pc' := 35) rfl (hb hby at_23) rfl (feq (by decide : ¬ ((5 : Int32) = (1 : Int32)))).2 (by decide) (by decide) ?_
  show Steps p.tables e below (s₁.setTop (mkF m 35 #[.val (.int p0), .val (.int (5 : Int32)), .unset, .unset, .unset] [])) _
  refine XS.iloadN X0.here hx rfl (hb hby at_35) rfl ?_
  show Steps p.tables e below (s₁.setTop (mkF m 36 #[.val (.int p0), .val (.int (5 : Int32)), .unset, .unset, .unset] [(.int (5 : Int32))])) _
  refine XS.iconst X0.here hx rfl (hb hby at_36) ?_
  show Steps p.tables e below (s₁.setTop (mkF m 37 #[.val (.int p0), .val (.int (5 : Int32)), .unset, .unset, .unset] [(.int (2 : Int32)), (.int (5 : Int32))])) _
  refine XS.icmpYes X0.here hx rfl (pc0 := 37) (pc' := 49) rfl (hb hby at_37) rfl (feq (by decide : ¬ ((5 : Int32) = (2 : Int32)))).2 (by decide) (by decide) ?_
  show Steps p.tables e below (s₁.setTop (mkF m 49 #[.val (.int p0), .val (.int (5 : Int32)), .unset, .unset, .unset] [])) _
  refine XS.iloadN X0.here hx rfl (hb hby at_49) rfl ?_
  show Steps p.tables e below (s₁.setTop (mkF m 50 #[.val (.int p0), .val (.int (5 : Int32)), .unset, .unset, .unset] [(.int (5 : Int32))])) _
  refine XS.iconst X0.here hx rfl (hb hby at_50) ?_
  show Steps p.tables e below (s₁.setTop (mkF m 51 #[.val (.int p0), .val (.int (5 : Int32)), .unset, .unset, .unset] [(.int (3 : Int32)), (.int (5 : Int32))])) _
  refine XS.icmpYes X0.here hx rfl (pc0 := 51) (pc' := 63) rfl (hb hby at_51) rfl (feq (by decide : ¬ ((5 : Int32) = (3 : Int32)))).2 (by decide) (by decide) ?_
  show Steps p.tables e below (s₁.setTop (mkF m 63 #[.val (.int p0), .val (.int (5 : Int32)), .unset, .unset, .unset] [])) _
  refine XS.iloadN X0.here hx rfl (hb hby at_63) rfl ?_
  show Steps p.tables e below (s₁.setTop (mkF m 64 #[.val (.int p0), .val (.int (5 : Int32)), .unset, .unset, .unset] [(.int (5 : Int32))])) _
  refine XS.iconst X0.here hx rfl (hb hby at_64) ?_
  show Steps p.tables e below (s₁.setTop (mkF m 65 #[.val (.int p0), .val (.int (5 : Int32)), .unset, .unset, .unset] [(.int (4 : Int32)), (.int (5 : Int32))])) _
  refine XS.icmpYes X0.here hx rfl (pc0 := 65) (pc' := 77) rfl (hb hby at_65) rfl (feq (by decide : ¬ ((5 : Int32) = (4 : Int32)))).2 (by decide) (by decide) ?_
  show Steps p.tables e below (s₁.setTop (mkF m 77 #[.val (.int p0), .val (.int (5 : Int32)), .unset, .unset, .unset] [])) _
  refine st1 _ ?_
  show Steps p.tables e below (T1.setTop (mkF m 80 #[.val (.int p0), .val (.int (5 : Int32)), .unset, .unset, .unset] [(.ref w_SCHEMA_EXCLUSIVE)])) _
  refine XS.astoreN X1.here hx rfl (hb hby at_80) rfl rfl (l' := #[.val (.int p0), .val (.int (5 : Int32)), .val (.ref w_SCHEMA_EXCLUSIVE), .unset, .unset]) rfl ?_
  show Steps p.tables e below (T1.setTop (mkF m 81 #[.val (.int p0), .val (.int (5 : Int32)), .val (.ref w_SCHEMA_EXCLUSIVE), .unset, .unset] [])) _
  refine XS.iconst X1.here hx rfl (hb hby at_81) ?_
  show Steps p.tables e below (T1.setTop (mkF m 82 #[.val (.int p0), .val (.int (5 : Int32)), .val (.ref w_SCHEMA_EXCLUSIVE), .unset, .unset] [(.int (0 : Int32))])) _
  refine XS.istoreN X1.here hx rfl (hb hby at_82) rfl (l' := #[.val (.int p0), .val (.int (5 : Int32)), .val (.ref w_SCHEMA_EXCLUSIVE), .val (.int (0 : Int32)), .unset]) rfl ?_
  show Steps p.tables e below (T1.setTop (mkF m 83 #[.val (.int p0), .val (.int (5 : Int32)), .val (.ref w_SCHEMA_EXCLUSIVE), .val (.int (0 : Int32)), .unset] [])) _
  refine XS.aloadN X1.here hx rfl (hb hby at_83) rfl rfl ?_
  show Steps p.tables e below (T1.setTop (mkF m 84 #[.val (.int p0), .val (.int (5 : Int32)), .val (.ref w_SCHEMA_EXCLUSIVE), .val (.int (0 : Int32)), .unset] [(.ref w_SCHEMA_EXCLUSIVE)])) _
  refine st2.trans ?_
  show Steps p.tables e below (T2.setTop (mkF m 87 #[.val (.int p0), .val (.int (5 : Int32)), .val (.ref w_SCHEMA_EXCLUSIVE), .val (.int (0 : Int32)), .unset] [(.int (0 : Int32))])) _
  refine XS.istore X2.here hx rfl (hb hby at_87) rfl (l' := #[.val (.int p0), .val (.int (5 : Int32)), .val (.ref w_SCHEMA_EXCLUSIVE), .val (.int (0 : Int32)), .val (.int (0 : Int32))]) rfl ?_
  show Steps p.tables e below (T2.setTop (mkF m 89 #[.val (.int p0), .val (.int (5 : Int32)), .val (.ref w_SCHEMA_EXCLUSIVE), .val (.int (0 : Int32)), .val (.int (0 : Int32))] [])) _
  refine XS.iload X2.here hx rfl (hb hby at_89) rfl ?_
  show Steps p.tables e below (T2.setTop (mkF m 91 #[.val (.int p0), .val (.int (5 : Int32)), .val (.ref w_SCHEMA_EXCLUSIVE), .val (.int (0 : Int32)), .val (.int (0 : Int32))] [(.int (0 : Int32))])) _
  refine XS.iloadN X2.here hx rfl (hb hby at_91) rfl ?_
  show Steps p.tables e below (T2.setTop (mkF m 92 #[.val (.int p0), .val (.int (5 : Int32)), .val (.ref w_SCHEMA_EXCLUSIVE), .val (.int (0 : Int32)), .val (.int (0 : Int32))] [(.int (0 : Int32)), (.int (0 : Int32))])) _
  refine XS.icmpYes X2.here hx rfl (pc0 := 92) (pc' := 97) rfl (hb hby at_92) rfl (teq (by decide : (0 : Int32) = (0 : Int32))).1 (by decide) (by decide) ?_
  show Steps p.tables e below (T2.setTop (mkF m 97 #[.val (.int p0), .val (.int (5 : Int32)), .val (.ref w_SCHEMA_EXCLUSIVE), .val (.int (0 : Int32)), .val (.int (0 : Int32))] [])) _
  refine XS.iload X2.here hx rfl (hb hby at_97) rfl ?_
  show Steps p.tables e below (T2.setTop (mkF m 99 #[.val (.int p0), .val (.int (5 : Int32)), .val (.ref w_SCHEMA_EXCLUSIVE), .val (.int (0 : Int32)), .val (.int (0 : Int32))] [(.int (0 : Int32))])) _
  refine XS.ifYes X2.here hx rfl (pc0 := 99) (pc' := 110) rfl (hb hby at_99) rfl ((if0 _ _).trans (teq (by decide : (0 : Int32) = (0 : Int32))).1) (by decide) (by decide) ?_
  show Steps p.tables e below (T2.setTop (mkF m 110 #[.val (.int p0), .val (.int (5 : Int32)), .val (.ref w_SCHEMA_EXCLUSIVE), .val (.int (0 : Int32)), .val (.int (0 : Int32))] [])) _
  refine XS.iconst X2.here hx rfl (hb hby at_110) ?_
  show Steps p.tables e below (T2.setTop (mkF m 111 #[.val (.int p0), .val (.int (5 : Int32)), .val (.ref w_SCHEMA_EXCLUSIVE), .val (.int (0 : Int32)), .val (.int (0 : Int32))] [(.int (1 : Int32))])) _
  refine XS.goto X2.here hx rfl (pc0 := 111) (pc' := 115) rfl (hb hby at_111) (by decide) (by decide) ?_
  show Steps p.tables e below (T2.setTop (mkF m 115 #[.val (.int p0), .val (.int (5 : Int32)), .val (.ref w_SCHEMA_EXCLUSIVE), .val (.int (0 : Int32)), .val (.int (0 : Int32))] [(.int (1 : Int32))])) _
  exact retN X2 hx (t := .boolean) Bd.returns (by simp) (hb hby at_115) hr
theorem rm0 (l : Launch) (Z : State) (a0 : Array Value) (hw : ∀ d ∈ tables_1, d.before a0 Z = true) (ws : List Jvm.Cond) (w_READ w_WRITE w_INSERT w_PHANTOM w_SCHEMA w_SCHEMA_EXCLUSIVE : Addr) (h0 : Heap) (n0 : Nat) (Z0 : n0 ≤ h0.size) (S : SF Z h0 w_READ w_WRITE w_INSERT w_PHANTOM w_SCHEMA w_SCHEMA_EXCLUSIVE) (p0 : Int32) :
    Pay l Z x ws code maxLocals ret #[(.int p0)] h0 n0 room_1 (some (.int (1 : Int32))) := by
  rcases own_mod6 p0 with hk | hk | hk | hk | hk | hk
  · exact rm0_0 l Z a0 hw ws w_READ w_WRITE w_INSERT w_PHANTOM w_SCHEMA w_SCHEMA_EXCLUSIVE h0 n0 Z0 S p0 hk
  · exact rm0_1 l Z a0 hw ws w_READ w_WRITE w_INSERT w_PHANTOM w_SCHEMA w_SCHEMA_EXCLUSIVE h0 n0 Z0 S p0 hk
  · exact rm0_2 l Z a0 hw ws w_READ w_WRITE w_INSERT w_PHANTOM w_SCHEMA w_SCHEMA_EXCLUSIVE h0 n0 Z0 S p0 hk
  · exact rm0_3 l Z a0 hw ws w_READ w_WRITE w_INSERT w_PHANTOM w_SCHEMA w_SCHEMA_EXCLUSIVE h0 n0 Z0 S p0 hk
  · exact rm0_4 l Z a0 hw ws w_READ w_WRITE w_INSERT w_PHANTOM w_SCHEMA w_SCHEMA_EXCLUSIVE h0 n0 Z0 S p0 hk
  · exact rm0_5 l Z a0 hw ws w_READ w_WRITE w_INSERT w_PHANTOM w_SCHEMA w_SCHEMA_EXCLUSIVE h0 n0 Z0 S p0 hk
set_option maxRecDepth 65536 in
set_option maxHeartbeats 40000000 in
theorem comes_1 {Post : Tables → Env → Array Value → State → Outcome → State → Prop} (hpost : ∀ tb e args s v u, (limb_1_1.after args s (.returned v) u = true ∧ limb_1_2.after args s (.returned v) u = true ∧ True) → FrameEnd s (.returned v) u (Jvm.fieldLocs frame_1_writes args s ++ Jvm.arrayLocs frame_1_arrays args s ++ Jvm.staticLocs frame_1_statics s) 0 0 → Post tb e args s (.returned v) u) :
    ArmFor flags0 classFile x code maxLocals ret World_1 tables_1 room_1 Calls_1 rest_1 Pre_1 Post := by
  intro l hfl _ _ p e ha hc hk s m args below hf hA hF happ hP
  obtain ⟨hcalls, hrest, hpre⟩ := hP
  obtain ⟨-, -, -, hnamed, -, -, -, hat⟩ := (Spec.applies_iff hf).mp happ
  obtain ⟨hg, hn⟩ := and_e (Cond.before_iff.mp (show (Jvm.Cond.and given_1 narrow_1).before args s = true from hpre))
  obtain ⟨g0, gr0⟩ := and_e hg
  obtain ⟨v0, rfl⟩ : ∃ v0 : Value, args = #[v0] := by
    have hs : args.size = 1 := by simpa [Cond.value, given_1] using g0
    obtain ⟨L⟩ := args
    match L, hs with
    | [v0], _ => exact ⟨v0, rfl⟩
  have hw := fun d (hd : d ∈ tables_1) => atoms_spec (ws := Jvm.Cond.code x code maxLocals ret :: tables_1) hat d (List.mem_cons_of_mem _ hd)
  have hfit : Fit s := fun {y c} hc i hi => by
    obtain ⟨ha, rfl⟩ := Array.getElem?_eq_some_iff.mp hc
    have q := List.all_eq_true.mp ((Array.all_eq_true_iff_forall_mem.mp hF) _ (Array.getElem_mem ha)) i (List.mem_range.mpr hi)
    simpa [Array.getElem?_eq_getElem hi] using q
  obtain ⟨i0, ei0⟩ := is_v gr0
  obtain rfl : v0 = (.int i0) := Option.some.inj ei0
  obtain ⟨n0, nr0⟩ := and_e hn
  obtain ⟨n1, nr1⟩ := and_e nr0
  obtain ⟨n2, nr2⟩ := and_e nr1
  obtain ⟨n3, nr3⟩ := and_e nr2
  obtain ⟨n4, nr4⟩ := and_e nr3
  obtain ⟨n5, nr5⟩ := and_e nr4
  obtain ⟨n6, nr6⟩ := and_e nr5
  obtain ⟨n7, nr7⟩ := and_e nr6
  obtain ⟨n8, nr8⟩ := and_e nr7
  obtain ⟨n9, nr9⟩ := and_e nr8
  obtain ⟨n10, nr10⟩ := and_e nr9
  obtain ⟨w_READ, ev_w_READ⟩ := exa_v n0
  have S_w_READ := Sta.start ev_w_READ (Or.inr ⟨(hw _ (List.mem_of_getElem? (i := 2) rfl)), (hw _ (List.mem_of_getElem? (i := 3) rfl))⟩)
  have E_w_READ := Exa.start ev_w_READ n0
  obtain ⟨w_WRITE, ev_w_WRITE⟩ := exa_v n2
  have S_w_WRITE := Sta.start ev_w_WRITE (Or.inr ⟨(hw _ (List.mem_of_getElem? (i := 2) rfl)), (hw _ (List.mem_of_getElem? (i := 25) rfl))⟩)
  have E_w_WRITE := Exa.start ev_w_WRITE n2
  obtain ⟨w_INSERT, ev_w_INSERT⟩ := exa_v n4
  have S_w_INSERT := Sta.start ev_w_INSERT (Or.inr ⟨(hw _ (List.mem_of_getElem? (i := 2) rfl)), (hw _ (List.mem_of_getElem? (i := 27) rfl))⟩)
  have E_w_INSERT := Exa.start ev_w_INSERT n4
  obtain ⟨w_PHANTOM, ev_w_PHANTOM⟩ := exa_v n6
  have S_w_PHANTOM := Sta.start ev_w_PHANTOM (Or.inr ⟨(hw _ (List.mem_of_getElem? (i := 2) rfl)), (hw _ (List.mem_of_getElem? (i := 29) rfl))⟩)
  have E_w_PHANTOM := Exa.start ev_w_PHANTOM n6
  obtain ⟨w_SCHEMA, ev_w_SCHEMA⟩ := exa_v n8
  have S_w_SCHEMA := Sta.start ev_w_SCHEMA (Or.inr ⟨(hw _ (List.mem_of_getElem? (i := 2) rfl)), (hw _ (List.mem_of_getElem? (i := 31) rfl))⟩)
  have E_w_SCHEMA := Exa.start ev_w_SCHEMA n8
  obtain ⟨w_SCHEMA_EXCLUSIVE, ev_w_SCHEMA_EXCLUSIVE⟩ := exa_v n10
  have S_w_SCHEMA_EXCLUSIVE := Sta.start ev_w_SCHEMA_EXCLUSIVE (Or.inr ⟨(hw _ (List.mem_of_getElem? (i := 2) rfl)), (hw _ (List.mem_of_getElem? (i := 36) rfl))⟩)
  have E_w_SCHEMA_EXCLUSIVE := Exa.start ev_w_SCHEMA_EXCLUSIVE n10
  have F_ordinal_w_READ := Fld.start ((fld_at ev_w_READ).symm.trans (own_eqI n1))
  have F_ordinal_w_WRITE := Fld.start ((fld_at ev_w_WRITE).symm.trans (own_eqI n3))
  have F_ordinal_w_INSERT := Fld.start ((fld_at ev_w_INSERT).symm.trans (own_eqI n5))
  have F_ordinal_w_PHANTOM := Fld.start ((fld_at ev_w_PHANTOM).symm.trans (own_eqI n7))
  have F_ordinal_w_SCHEMA := Fld.start ((fld_at ev_w_SCHEMA).symm.trans (own_eqI n9))
  have F_ordinal_w_SCHEMA_EXCLUSIVE := Fld.start ((fld_at ev_w_SCHEMA_EXCLUSIVE).symm.trans (own_eqI nr10))
  have hne_w_READ_w_WRITE := F_ordinal_w_READ.ne F_ordinal_w_WRITE (by decide)
  have hne_w_READ_w_INSERT := F_ordinal_w_READ.ne F_ordinal_w_INSERT (by decide)
  have hne_w_READ_w_PHANTOM := F_ordinal_w_READ.ne F_ordinal_w_PHANTOM (by decide)
  have hne_w_READ_w_SCHEMA := F_ordinal_w_READ.ne F_ordinal_w_SCHEMA (by decide)
  have hne_w_READ_w_SCHEMA_EXCLUSIVE := F_ordinal_w_READ.ne F_ordinal_w_SCHEMA_EXCLUSIVE (by decide)
  have hne_w_WRITE_w_INSERT := F_ordinal_w_WRITE.ne F_ordinal_w_INSERT (by decide)
  have hne_w_WRITE_w_PHANTOM := F_ordinal_w_WRITE.ne F_ordinal_w_PHANTOM (by decide)
  have hne_w_WRITE_w_SCHEMA := F_ordinal_w_WRITE.ne F_ordinal_w_SCHEMA (by decide)
  have hne_w_WRITE_w_SCHEMA_EXCLUSIVE := F_ordinal_w_WRITE.ne F_ordinal_w_SCHEMA_EXCLUSIVE (by decide)
  have hne_w_INSERT_w_PHANTOM := F_ordinal_w_INSERT.ne F_ordinal_w_PHANTOM (by decide)
  have hne_w_INSERT_w_SCHEMA := F_ordinal_w_INSERT.ne F_ordinal_w_SCHEMA (by decide)
  have hne_w_INSERT_w_SCHEMA_EXCLUSIVE := F_ordinal_w_INSERT.ne F_ordinal_w_SCHEMA_EXCLUSIVE (by decide)
  have hne_w_PHANTOM_w_SCHEMA := F_ordinal_w_PHANTOM.ne F_ordinal_w_SCHEMA (by decide)
  have hne_w_PHANTOM_w_SCHEMA_EXCLUSIVE := F_ordinal_w_PHANTOM.ne F_ordinal_w_SCHEMA_EXCLUSIVE (by decide)
  have hne_w_SCHEMA_w_SCHEMA_EXCLUSIVE := F_ordinal_w_SCHEMA.ne F_ordinal_w_SCHEMA_EXCLUSIVE (by decide)
  obtain ⟨n, o, h1, h2, h3, _, L, rfl, ⟨rfl, N, -⟩, hq⟩ := rm0 l s _ hw tables_1 w_READ w_WRITE w_INSERT w_PHANTOM w_SCHEMA w_SCHEMA_EXCLUSIVE s.heap s.heap.size (Nat.le_refl _) ⟨S_w_READ, E_w_READ, S_w_WRITE, E_w_WRITE, S_w_INSERT, E_w_INSERT, S_w_PHANTOM, E_w_PHANTOM, S_w_SCHEMA, E_w_SCHEMA, S_w_SCHEMA_EXCLUSIVE, E_w_SCHEMA_EXCLUSIVE, F_ordinal_w_READ, F_ordinal_w_WRITE, F_ordinal_w_INSERT, F_ordinal_w_PHANTOM, F_ordinal_w_SCHEMA, F_ordinal_w_SCHEMA_EXCLUSIVE, hne_w_READ_w_WRITE, hne_w_READ_w_INSERT, hne_w_READ_w_PHANTOM, hne_w_READ_w_SCHEMA, hne_w_READ_w_SCHEMA_EXCLUSIVE, hne_w_WRITE_w_INSERT, hne_w_WRITE_w_PHANTOM, hne_w_WRITE_w_SCHEMA, hne_w_WRITE_w_SCHEMA_EXCLUSIVE, hne_w_INSERT_w_PHANTOM, hne_w_INSERT_w_SCHEMA, hne_w_INSERT_w_SCHEMA_EXCLUSIVE, hne_w_PHANTOM_w_SCHEMA, hne_w_PHANTOM_w_SCHEMA_EXCLUSIVE, hne_w_SCHEMA_w_SCHEMA_EXCLUSIVE⟩ i0 p e ha hc hk s m _ below hf ((Spec.applies_iff_loose hf).mp happ).1 ⟨rfl, State.Warmed39.refl s, rfl⟩ trivial
  refine ⟨n, _, h1, h2, h3, hpost _ _ _ _ _ _ ⟨Cond.after_iff.mpr rfl, Cond.after_iff.mpr (eq_i res_at (Term.int_eval (1)) rfl), trivial⟩ ⟨hq.1, hq.2.1, (hq.2.2.sift fun y hy => Or.inr (N y hy)).mono (by decide) (by decide)⟩⟩
theorem main_1_1 : Claimed_1_1 := comes_1 fun _ _ _ _ _ _ h hF => ⟨h.1, hF⟩
theorem main_1_2 : Claimed_1_2 := comes_1 fun _ _ _ _ _ _ h hF => ⟨h.2.1, hF⟩
end Jvm.Pilot.@@N@@
namespace Jvm.Pilot.@@N@@
open Jvm Jvm.ClassFile Sem Op Lib Jvm.Free Jvm.Stand Jvm.Pilot.@@N@@.Jvm.D
/-! MADE BY PROGRAM (witnessworld.py) out of the Statement's table words and the real class files: 12 classes; the members and pool entries that the words name. The judged class is class 1, her method 1. -/
namespace start1
open Jvm.ClassFile
def u (s : String) : CpInfo := .utf8 (stringToUtf16 s)
/-- a pool by its gaps: so many unusable entries, then the entry; so many at the end -/
def gap : Nat → List CpInfo → List CpInfo
  | 0, r => r
  | n + 1, r => .unusable :: gap n r
def poolList (es : List (Nat × CpInfo)) (last : Nat) : List CpInfo := es.foldr (fun e r => gap e.1 (e.2 :: r)) (gap last [])
def pool (es : List (Nat × CpInfo)) (last : Nat) : Array CpInfo := ⟨poolList es last⟩
def fileOf (pool : Array CpInfo) (this : Nat) (attrs : Array Attribute := #[]) (ms : Array MethodInfo := #[]) (fl : Nat := 33) (sup : Nat := 0) (ifs : Array Nat := #[]) (fds : Array FieldInfo := #[]) : ClassFile where
  minorVersion := 0
  majorVersion := 65
  constantPool := pool
  accessFlags := fl
  thisClass := this
  superClass := sup
  interfaces := ifs
  fields := fds
  methods := ms
  attributes := attrs
def plain (name : String) (sup : Option ClassId) : Class where
  name := name
  kind := .ordinary
  loader := none
  accessFlags := 33
  super := sup
  interfaces := #[]
  cf := none
  fields := #[]
  methods := #[]
  instanceTypes := #[]
  staticTypes := #[]
  resolved := #[]
  callSites := []
  init := .initialized
  statics := none
  mirror := none

def pool0 : Array CpInfo := pool [(5, u "<init>"), (0, u "()V"), (1, .class_ 10), (1, u "java/lang/Object")] 113

def k0m0 : Method := { name := "<init>", desc := "()V", sig := { parameters := [], returnType := none }, accessFlags := 1, code := none }
/-- java/lang/Object -/
def k0 : Class := { plain "java/lang/Object" none with
  accessFlags := 33
  interfaces := #[]
  cf := some (fileOf pool0 8 #[] #[{ accessFlags := 1, nameIndex := 5, descriptorIndex := 6, attributes := #[] }] 33 0 #[] #[])
  fields := #[]
  methods := #[k0m0]
  instanceTypes := #[]
  staticTypes := #[]
  resolved := Array.replicate 124 none
  statics := none }

def pool1 : Array CpInfo := pool [(2, .class_ 4), (1, u "java/lang/Object"), (0, u "<init>"), (0, u "()V"), (0, .integer 2147483647), (0, .fieldref 9 10), (0, .class_ 11), (0, .nameAndType 12 13), (0, u "com/example/oyster/oyster/engine/LockMode"), (0, u "READ"), (0, u "Lcom/example/oyster/oyster/engine/LockMode;"), (0, .fieldref 9 15), (0, .nameAndType 16 13), (0, u "WRITE"), (0, .fieldref 9 18), (0, .nameAndType 19 13), (0, u "PHANTOM"), (0, .fieldref 9 21), (0, .nameAndType 22 13), (0, u "INSERT"), (0, .fieldref 9 24), (0, .nameAndType 25 13), (0, u "SCHEMA"), (0, .fieldref 9 27), (0, .nameAndType 28 13), (0, u "SCHEMA_EXCLUSIVE"), (0, .methodref 9 30), (0, .nameAndType 31 32), (0, u "isForReading"), (0, u "()Z"), (0, .methodref 9 34), (0, .nameAndType 35 36), (0, u "conflictsWith"), (0, u "(Lcom/example/oyster/oyster/engine/LockMode;)Z"), (0, .class_ 38), (0, u "com/example/oyster/oyster/engine/LockModeIsForReadingPinLaw"), (2, u "law"), (0, u "(I)Z")] 3

def k1m0 : Method := { name := "<init>", desc := "()V", sig := { parameters := [], returnType := none }, accessFlags := 1, code := none }
def k1c1 : Code := { maxStack := 2, maxLocals := 5, code := code, exceptionTable := #[], attributes := #[] }
def k1m1 : Method := { name := "law", desc := "(I)Z", sig := { parameters := [.int], returnType := some .boolean }, accessFlags := 9, code := some k1c1 }
/-- com/example/oyster/oyster/engine/LockModeIsForReadingPinLaw -/
def k1 : Class := { plain "com/example/oyster/oyster/engine/LockModeIsForReadingPinLaw" (some 0) with
  accessFlags := 49
  interfaces := #[]
  cf := some (fileOf pool1 37 #[] #[{ accessFlags := 1, nameIndex := 5, descriptorIndex := 6, attributes := #[] }, { accessFlags := 9, nameIndex := 41, descriptorIndex := 42, attributes := #[] }] 49 2 #[] #[])
  fields := #[]
  methods := #[k1m0, k1m1]
  instanceTypes := #[]
  staticTypes := #[]
  resolved := Array.replicate 46 none
  statics := none }

def pool2 : Array CpInfo := pool [(1, .class_ 2), (0, u "java/lang/constant/Constable"), (0, .class_ 4), (0, u "java/lang/Object")] 6

/-- java/lang/constant/Constable -/
def k2 : Class := { plain "java/lang/constant/Constable" (some 0) with
  accessFlags := 1537
  interfaces := #[]
  cf := some (fileOf pool2 1 #[] #[] 1537 3 #[] #[])
  fields := #[]
  methods := #[]
  instanceTypes := #[]
  staticTypes := #[]
  resolved := Array.replicate 11 none
  statics := none }

def pool3 : Array CpInfo := pool [(1, .class_ 2), (0, u "java/lang/Comparable"), (0, .class_ 4), (0, u "java/lang/Object")] 7

/-- java/lang/Comparable -/
def k3 : Class := { plain "java/lang/Comparable" (some 0) with
  accessFlags := 1537
  interfaces := #[]
  cf := some (fileOf pool3 1 #[] #[] 1537 3 #[] #[])
  fields := #[]
  methods := #[]
  instanceTypes := #[]
  staticTypes := #[]
  resolved := Array.replicate 12 none
  statics := none }

def pool4 : Array CpInfo := pool [(1, .class_ 2), (0, u "java/io/Serializable"), (0, .class_ 4), (0, u "java/lang/Object")] 2

/-- java/io/Serializable -/
def k4 : Class := { plain "java/io/Serializable" (some 0) with
  accessFlags := 1537
  interfaces := #[]
  cf := some (fileOf pool4 1 #[] #[] 1537 3 #[] #[])
  fields := #[]
  methods := #[]
  instanceTypes := #[]
  staticTypes := #[]
  resolved := Array.replicate 7 none
  statics := none }

def pool5 : Array CpInfo := pool [(2, .class_ 4), (1, u "java/lang/Enum"), (0, u "name"), (0, u "Ljava/lang/String;"), (0, .fieldref 2 8), (0, .nameAndType 9 10), (0, u "ordinal"), (0, u "I"), (1, .class_ 14), (1, u "java/lang/Object"), (4, u "hash"), (86, .class_ 108), (1, u "java/lang/Enum$EnumDesc"), (2, .class_ 112), (0, u "java/lang/constant/Constable"), (0, .class_ 114), (0, u "java/lang/Comparable"), (0, .class_ 116), (0, u "java/io/Serializable"), (9, u "()I")] 77

def k5c0 : Code := { maxStack := 1, maxLocals := 1, code := jdk_37_method_2_code, exceptionTable := #[], attributes := #[] }
def k5m0 : Method := { name := "ordinal", desc := "()I", sig := { parameters := [], returnType := some .int }, accessFlags := 17, code := some k5c0 }
/-- java/lang/Enum -/
def k5 : Class := { plain "java/lang/Enum" (some 0) with
  accessFlags := 1057
  interfaces := #[2, 3, 4]
  cf := some (fileOf pool5 2 #[.nestMembers #[106]] #[{ accessFlags := 17, nameIndex := 9, descriptorIndex := 126, attributes := #[] }] 1057 12 #[111, 113, 115] #[{ accessFlags := 18, nameIndex := 5, descriptorIndex := 6, attributes := #[] }, { accessFlags := 18, nameIndex := 9, descriptorIndex := 10, attributes := #[] }, { accessFlags := 2, nameIndex := 19, descriptorIndex := 10, attributes := #[] }])
  fields := #[{ name := "name", type := (.object "java/lang/String"), accessFlags := 18, slot := 0, constantValue := 0 }, { name := "ordinal", type := .int, accessFlags := 18, slot := 1, constantValue := 0 }, { name := "hash", type := .int, accessFlags := 2, slot := 2, constantValue := 0 }]
  methods := #[k5m0]
  instanceTypes := #[(.object "java/lang/String"), .int, .int]
  staticTypes := #[]
  resolved := Array.replicate 204 none
  statics := none }

def pool6 : Array CpInfo := pool [(1, .class_ 2), (0, u "com/example/oyster/oyster/engine/LockMode"), (0, .fieldref 1 4), (0, .nameAndType 5 6), (0, u "READ"), (0, u "Lcom/example/oyster/oyster/engine/LockMode;"), (0, .fieldref 1 8), (0, .nameAndType 9 6), (0, u "WRITE"), (0, .fieldref 1 11), (0, .nameAndType 12 6), (0, u "PHANTOM"), (0, .fieldref 1 14), (0, .nameAndType 15 6), (0, u "INSERT"), (0, .fieldref 1 17), (0, .nameAndType 18 6), (0, u "SCHEMA"), (0, .fieldref 1 20), (0, .nameAndType 21 6), (0, u "SCHEMA_EXCLUSIVE"), (2, u "$VALUES"), (0, u "[Lcom/example/oyster/oyster/engine/LockMode;"), (6, .class_ 34), (1, u "java/lang/Enum"), (8, u "label"), (0, u "Ljava/lang/String;"), (2, u "on"), (0, u "Lcom/example/oyster/oyster/engine/LockMode$On;"), (1, .class_ 52), (1, u "com/example/oyster/oyster/engine/LockMode$On"), (4, .methodref 1 58), (0, .nameAndType 59 60), (0, u "ordinal"), (0, u "()I"), (42, u "()Z"), (3, u "isForReading"), (0, u "conflictsWith"), (0, u "(Lcom/example/oyster/oyster/engine/LockMode;)Z")] 9

def k6c0 : Code := { maxStack := 2, maxLocals := 1, code := prog_62_method_8_code, exceptionTable := #[], attributes := #[] }
def k6m0 : Method := { name := "isForReading", desc := "()Z", sig := { parameters := [], returnType := some .boolean }, accessFlags := 0, code := some k6c0 }
def k6c1 : Code := { maxStack := 4, maxLocals := 2, code := prog_62_method_9_code, exceptionTable := #[], attributes := #[] }
def k6m1 : Method := { name := "conflictsWith", desc := "(Lcom/example/oyster/oyster/engine/LockMode;)Z", sig := { parameters := [(.object "com/example/oyster/oyster/engine/LockMode")], returnType := some .boolean }, accessFlags := 0, code := some k6c1 }
/-- com/example/oyster/oyster/engine/LockMode -/
def k6 : Class := { plain "com/example/oyster/oyster/engine/LockMode" (some 5) with
  accessFlags := 16432
  interfaces := #[]
  cf := some (fileOf pool6 1 #[.nestMembers #[50]] #[{ accessFlags := 0, nameIndex := 107, descriptorIndex := 103, attributes := #[] }, { accessFlags := 0, nameIndex := 108, descriptorIndex := 109, attributes := #[] }] 16432 32 #[] #[{ accessFlags := 16409, nameIndex := 5, descriptorIndex := 6, attributes := #[] }, { accessFlags := 16409, nameIndex := 9, descriptorIndex := 6, attributes := #[] }, { accessFlags := 16409, nameIndex := 12, descriptorIndex := 6, attributes := #[] }, { accessFlags := 16409, nameIndex := 15, descriptorIndex := 6, attributes := #[] }, { accessFlags := 16409, nameIndex := 18, descriptorIndex := 6, attributes := #[] }, { accessFlags := 16409, nameIndex := 21, descriptorIndex := 6, attributes := #[] }, { accessFlags := 18, nameIndex := 43, descriptorIndex := 44, attributes := #[] }, { accessFlags := 18, nameIndex := 47, descriptorIndex := 48, attributes := #[] }, { accessFlags := 4122, nameIndex := 24, descriptorIndex := 25, attributes := #[] }])
  fields := #[{ name := "READ", type := (.object "com/example/oyster/oyster/engine/LockMode"), accessFlags := 16409, slot := 0, constantValue := 0 }, { name := "WRITE", type := (.object "com/example/oyster/oyster/engine/LockMode"), accessFlags := 16409, slot := 1, constantValue := 0 }, { name := "PHANTOM", type := (.object "com/example/oyster/oyster/engine/LockMode"), accessFlags := 16409, slot := 2, constantValue := 0 }, { name := "INSERT", type := (.object "com/example/oyster/oyster/engine/LockMode"), accessFlags := 16409, slot := 3, constantValue := 0 }, { name := "SCHEMA", type := (.object "com/example/oyster/oyster/engine/LockMode"), accessFlags := 16409, slot := 4, constantValue := 0 }, { name := "SCHEMA_EXCLUSIVE", type := (.object "com/example/oyster/oyster/engine/LockMode"), accessFlags := 16409, slot := 5, constantValue := 0 }, { name := "label", type := (.object "java/lang/String"), accessFlags := 18, slot := 3, constantValue := 0 }, { name := "on", type := (.object "com/example/oyster/oyster/engine/LockMode$On"), accessFlags := 18, slot := 4, constantValue := 0 }, { name := "$VALUES", type := (.array (.object "com/example/oyster/oyster/engine/LockMode")), accessFlags := 4122, slot := 6, constantValue := 0 }]
  methods := #[k6m0, k6m1]
  instanceTypes := #[(.object "java/lang/String"), .int, .int, (.object "java/lang/String"), (.object "com/example/oyster/oyster/engine/LockMode$On")]
  staticTypes := #[(.object "com/example/oyster/oyster/engine/LockMode"), (.object "com/example/oyster/oyster/engine/LockMode"), (.object "com/example/oyster/oyster/engine/LockMode"), (.object "com/example/oyster/oyster/engine/LockMode"), (.object "com/example/oyster/oyster/engine/LockMode"), (.object "com/example/oyster/oyster/engine/LockMode"), (.array (.object "com/example/oyster/oyster/engine/LockMode"))]
  resolved := Array.replicate 119 none
  statics := some 0 }

def pool7 : Array CpInfo := pool [(1, u "java/lang/Cloneable"), (0, .class_ 1), (0, u "java/lang/Object"), (0, .class_ 3)] 3

/-- java/lang/Cloneable -/
def k7 : Class := { plain "java/lang/Cloneable" (some 0) with
  accessFlags := 1537
  interfaces := #[]
  cf := some (fileOf pool7 2 #[] #[] 1537 4 #[] #[])
  fields := #[]
  methods := #[]
  instanceTypes := #[]
  staticTypes := #[]
  resolved := Array.replicate 8 none
  statics := none }

/-- the primitive byte -/
def k8 : Class := { plain "byte" none with kind := .primitive 'B', accessFlags := 0x411 }
/-- [B -/
def k9 : Class := { plain "[B" (some 0) with kind := .array 8 .byte, interfaces := #[7, 4], accessFlags := 1041 }

/-- the primitive int -/
def k10 : Class := { plain "int" none with kind := .primitive 'I', accessFlags := 0x411 }
/-- [I -/
def k11 : Class := { plain "[I" (some 0) with kind := .array 10 .int, interfaces := #[7, 4], accessFlags := 1041 }

def heap : Heap := #[{ cls := 6, slots := #[.ref 1, .ref 2, .ref 4, .ref 3, .ref 5, .ref 6, .null], vm := .statics 6 },
  { cls := 6, slots := #[.null, .int 0, .int 0, .null, .null], vm := .none },
  { cls := 6, slots := #[.null, .int 1, .int 0, .null, .null], vm := .none },
  { cls := 6, slots := #[.null, .int 3, .int 0, .null, .null], vm := .none },
  { cls := 6, slots := #[.null, .int 2, .int 0, .null, .null], vm := .none },
  { cls := 6, slots := #[.null, .int 4, .int 0, .null, .null], vm := .none },
  { cls := 6, slots := #[.null, .int 5, .int 0, .null, .null], vm := .none }]
def classes : Array Class := #[k0, k1, k2, k3, k4, k5, k6, k7, k8, k9, k10, k11]
def interned : List (Array UInt16 × Addr) := []
def slotsUsed : Nat := 37
def theMethod : MethodId := ⟨1, 1⟩
def args0 : Array Value := #[.int 5]
def aboutOver (below : List Frame) : State where
  vm := { classes := classes, interned := interned.toArray }
  heap := heap
  slotsUsed := slotsUsed
  threads := #[{ frames := .invoking theMethod args0 :: below }]
def below0 : List Frame := [.native { method := ⟨0, 0⟩, args := #[] }]
def about1 : State := aboutOver below0
def p0 : Program := .bare "" "" ""
def e0 : Env := launch0.env 0 0 0
theorem w_frames : about1.frames = Frame.invoking theMethod args0 :: below0 := rfl
set_option maxRecDepth 65536 in
theorem w_args : argsFit about1.vm theMethod args0 = true := by decide +kernel
set_option maxRecDepth 65536 in
theorem w_heap : heapFits about1 = true := by decide +kernel
set_option maxRecDepth 65536 in
theorem w_runnable : about1.curStatus? = some .runnable := by decide +kernel
set_option maxRecDepth 65536 in
theorem w_alone : about1.alone = true := by decide +kernel
set_option maxRecDepth 65536 in
theorem w_named : about1.methodNamed? x = some theMethod := by decide +kernel
set_option maxRecDepth 65536 in
theorem w_hears : about1.hears theMethod below0 = true := by decide +kernel
set_option maxRecDepth 65536 in
theorem w_ripe : about1.ripe theMethod args0 below0 = true := by decide +kernel
theorem w_running : about1.status = .running := rfl
set_option maxRecDepth 65536 in
theorem w_room : about1.hasRoom e0.platform room_1 = true :=
  launch0.hasRoom_least _ room_1 (by decide +kernel) (by decide +kernel) (by decide +kernel) (by decide +kernel) (by decide +kernel) (by decide +kernel)
theorem allAtoms_all (ts : List Jvm.Cond) (a : Array Jvm.Value) (st : Jvm.State) : (allAtoms ts).before a st = ts.all (fun c => c.before a st) := by
  induction ts with
  | nil => rfl
  | cons c t ih =>
    show (Jvm.Cond.and c (allAtoms t)).before a st = _
    rw [Jvm.Cond.before_and, ih, List.all_cons]
def words1 : List Jvm.Cond := Jvm.Cond.code x code maxLocals ret :: tables_1
/-- a 'code' word, met by the world's own term for the bytes: nothing is compared byte by byte -/
theorem code_word {y : MethodName} {bytes : ByteArray} {mx : Nat} {rt : Option FieldType} {a : Array Value} {s : State} {m : MethodId} {meth : Method} {c : Code} (h1 : s.methodNamed? y = some m) (h2 : s.vm.method? m = some meth) (h3 : meth.code = some c) (h4 : c.code = bytes)
    (h5 : (c.maxLocals == mx && c.exceptionTable.isEmpty && decide (c.maxStack ≤ mostOperands) && decide (meth.sig.returnType = rt) && !meth.locks && decide (parseMethodDescriptor y.desc = some meth.sig)) = true) : (Jvm.Cond.code y bytes mx rt).before a s = true := by
  simp only [Bool.and_eq_true, beq_iff_eq, Bool.not_eq_true', decide_eq_true_eq] at h5
  obtain ⟨⟨⟨⟨⟨g1, g2⟩, g3⟩, g4⟩, g5⟩, g6⟩ := h5
  simp [Cond.before, Cond.holds, Cond.value, h1, h2, h3, h4, g1, g2, g3, g4, g5, g6]
def isCode : Jvm.Cond → Bool
  | .code _ _ _ _ => true
  | _ => false
theorem all_split {L : List Jvm.Cond} {P : Jvm.Cond → Bool} (h1 : L.all (fun c => isCode c || P c) = true) (h2 : ∀ c ∈ L.filter isCode, P c = true) : L.all P = true := by
  refine List.all_eq_true.mpr fun c hc => ?_
  have h := List.all_eq_true.mp h1 c hc
  rcases Bool.eq_false_or_eq_true (isCode c) with hi | hi
  · exact h2 c (List.mem_filter.mpr ⟨hc, hi⟩)
  · simpa [hi] using h
set_option maxRecDepth 65536 in
theorem w_c0 : (Jvm.Cond.code x code maxLocals ret).before args0 about1 = true := code_word (m := ⟨1, 1⟩) (meth := k1m1) (c := k1c1) (by decide +kernel) rfl rfl rfl (by decide +kernel)
set_option maxRecDepth 65536 in
theorem w_c1 : (Jvm.Cond.code ({ cls := "com/example/oyster/oyster/engine/LockMode", name := "isForReading", desc := "()Z" } : Jvm.MethodName) prog_62_method_8_code (1 : Nat) (Option.some Jvm.ClassFile.FieldType.boolean)).before args0 about1 = true := code_word (m := ⟨6, 0⟩) (meth := k6m0) (c := k6c0) (by decide +kernel) rfl rfl rfl (by decide +kernel)
set_option maxRecDepth 65536 in
theorem w_c2 : (Jvm.Cond.code ({ cls := "com/example/oyster/oyster/engine/LockMode", name := "conflictsWith", desc := "(Lcom/example/oyster/oyster/engine/LockMode;)Z" } : Jvm.MethodName) prog_62_method_9_code (2 : Nat) (Option.some Jvm.ClassFile.FieldType.boolean)).before args0 about1 = true := code_word (m := ⟨6, 1⟩) (meth := k6m1) (c := k6c1) (by decide +kernel) rfl rfl rfl (by decide +kernel)
set_option maxRecDepth 65536 in
theorem w_c3 : (Jvm.Cond.code ({ cls := "java/lang/Enum", name := "ordinal", desc := "()I" } : Jvm.MethodName) jdk_37_method_2_code (1 : Nat) (Option.some Jvm.ClassFile.FieldType.int)).before args0 about1 = true := code_word (m := ⟨5, 0⟩) (meth := k5m0) (c := k5c0) (by decide +kernel) rfl rfl rfl (by decide +kernel)
def codes1 : List Jvm.Cond := [Jvm.Cond.code x code maxLocals ret, Jvm.Cond.code ({ cls := "com/example/oyster/oyster/engine/LockMode", name := "isForReading", desc := "()Z" } : Jvm.MethodName) prog_62_method_8_code (1 : Nat) (Option.some Jvm.ClassFile.FieldType.boolean), Jvm.Cond.code ({ cls := "com/example/oyster/oyster/engine/LockMode", name := "conflictsWith", desc := "(Lcom/example/oyster/oyster/engine/LockMode;)Z" } : Jvm.MethodName) prog_62_method_9_code (2 : Nat) (Option.some Jvm.ClassFile.FieldType.boolean), Jvm.Cond.code ({ cls := "java/lang/Enum", name := "ordinal", desc := "()I" } : Jvm.MethodName) jdk_37_method_2_code (1 : Nat) (Option.some Jvm.ClassFile.FieldType.int)]
set_option maxRecDepth 65536 in
theorem codes_eq : words1.filter isCode = codes1 := rfl
theorem w_codes : ∀ c ∈ words1.filter isCode, c.before args0 about1 = true := by
  rw [codes_eq]
  intro c hc
  simp only [codes1, List.mem_cons, List.not_mem_nil, or_false] at hc
  rcases hc with rfl | rfl | rfl | rfl
  · exact w_c0
  · exact w_c1
  · exact w_c2
  · exact w_c3
set_option maxRecDepth 65536 in
theorem w_t1 : (words1.take 24).all (fun c => isCode c || c.before args0 about1) = true := by decide +kernel
set_option maxRecDepth 65536 in
theorem w_t2 : (words1.drop 24).all (fun c => isCode c || c.before args0 about1) = true := by decide +kernel
theorem w_tables : (allAtoms (Jvm.Cond.code x code maxLocals ret :: tables_1)).before args0 about1 = true := by
  rw [allAtoms_all]
  show words1.all (fun c => c.before args0 about1) = true
  refine all_split ?_ w_codes
  rw [← List.take_append_drop 24 words1, List.all_append, w_t1, w_t2]
  rfl
set_option maxRecDepth 65536 in
theorem w_case : (Jvm.Cond.and given_1 narrow_1).before args0 about1 = true := by decide +kernel
theorem w_applies : (headSpec (Jvm.Cond.code x code maxLocals ret :: tables_1) room_1).applies x e0.platform about1 = true :=
  (Spec.applies_iff w_frames).mpr ⟨w_running, w_runnable, w_alone, w_named, w_hears, w_ripe, w_room, w_tables⟩
theorem atStart : AtStart classFile x code maxLocals ret World_1 tables_1 room_1 Calls_1 rest_1 Pre_1 launch0 p0 e0 about1 theMethod args0 below0 :=
  ⟨lists_1, trivial, launch0.admits_env _ _ _, launch0.least_env, fairChoices_fair.cas, fairChoices_fair.clock, w_frames, w_args, w_heap, w_applies, trivial, trivial, w_case⟩
end start1
theorem witness_1 : WitnessClaimed_1 := ⟨start1.p0, start1.e0, start1.about1, start1.theMethod, start1.args0, start1.below0, start1.atStart⟩
end Jvm.Pilot.@@N@@
