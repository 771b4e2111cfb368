import JvmDerived
import JvmDerived.Pilot.@@N@@Statement
import JvmDerived.Pilot.@@N@@Code
set_option linter.unusedVariables false
set_option linter.unusedSimpArgs false
@@BLOCK:NumsL.lean.txt@@
namespace Jvm.Pilot.@@N@@
open Jvm Jvm.ClassFile Sem Op Lib Jvm.Free Jvm.Stand Jvm.LawKit Jvm.RoadKit Bundle Jvm.Pilot.@@N@@.Jvm.D
theorem own_eqI {t : Term} {k : Int32} {args : Array Value} {Z : State} (h : (Jvm.Cond.eq t (Jvm.Term.int k)).value args Z none Z [] = some true) : t.eval args Z none [] Z = some (.int k) := by
  simp only [Cond.value, Term.eval] at h
  cases ht : t.eval args Z none [] Z with
  | none => simp [ht] at h
  | some v => cases v <;> simp [ht] at h ⊢; exact h
theorem own_mod7 (x : Int32) : ((x &&& (2147483647 : Int32)) % (7 : Int32)) = (0 : Int32) ∨ ((x &&& (2147483647 : Int32)) % (7 : Int32)) = (1 : Int32) ∨ ((x &&& (2147483647 : Int32)) % (7 : Int32)) = (2 : Int32) ∨ ((x &&& (2147483647 : Int32)) % (7 : Int32)) = (3 : Int32) ∨ ((x &&& (2147483647 : Int32)) % (7 : Int32)) = (4 : Int32) ∨ ((x &&& (2147483647 : Int32)) % (7 : Int32)) = (5 : Int32) ∨ ((x &&& (2147483647 : Int32)) % (7 : Int32)) = (6 : Int32) := by
  have e : (x &&& (2147483647 : Int32)).toInt = x.toInt % 2 ^ 31 := Jvm.Kit.i32_mask x 2147483647 (k := 31) (by decide) (by decide)
  have h0 : 0 ≤ (x &&& (2147483647 : Int32)).toInt := by rw [e]; exact Int.emod_nonneg _ (by decide)
  have r := Jvm.Kit.i32_rem_nonneg (y := (7 : Int32)) h0
  have e0 : (0 : Int32).toInt = 0 := rfl
  have e1 : (1 : Int32).toInt = 1 := rfl
  have e2 : (2 : Int32).toInt = 2 := rfl
  have e3 : (3 : Int32).toInt = 3 := rfl
  have e4 : (4 : Int32).toInt = 4 := rfl
  have e5 : (5 : Int32).toInt = 5 := rfl
  have e6 : (6 : Int32).toInt = 6 := rfl
  have e7 : (7 : Int32).toInt = 7 := rfl
  have h1 : 0 ≤ (x &&& (2147483647 : Int32)).toInt % 7 := Int.emod_nonneg _ (by decide)
  have h2 : (x &&& (2147483647 : Int32)).toInt % 7 < 7 := Int.emod_lt_of_pos _ (by decide)
  simp only [← Int32.toInt_inj, r, e0, e1, e2, e3, e4, e5, e6, e7]
  omega
/-- what the law's case says of the enum constants -/
def SF (Z : State) (h : Heap) (w_INT w_VARCHAR w_DECIMAL w_SMALLINT w_NULL w_BOOLEAN w_BIGINT : Addr) : Prop := (Sta Z h "com/example/oyster/oyster/jdbc/JdbcType" "INT" "Lcom/example/oyster/oyster/jdbc/JdbcType;" (.ref w_INT)) ∧ (Exa Z h w_INT "com/example/oyster/oyster/jdbc/JdbcType") ∧ (Sta Z h "com/example/oyster/oyster/jdbc/JdbcType" "VARCHAR" "Lcom/example/oyster/oyster/jdbc/JdbcType;" (.ref w_VARCHAR)) ∧ (Exa Z h w_VARCHAR "com/example/oyster/oyster/jdbc/JdbcType") ∧ (Sta Z h "com/example/oyster/oyster/jdbc/JdbcType" "DECIMAL" "Lcom/example/oyster/oyster/jdbc/JdbcType;" (.ref w_DECIMAL)) ∧ (Exa Z h w_DECIMAL "com/example/oyster/oyster/jdbc/JdbcType") ∧ (Sta Z h "com/example/oyster/oyster/jdbc/JdbcType" "SMALLINT" "Lcom/example/oyster/oyster/jdbc/JdbcType;" (.ref w_SMALLINT)) ∧ (Exa Z h w_SMALLINT "com/example/oyster/oyster/jdbc/JdbcType") ∧ (Sta Z h "com/example/oyster/oyster/jdbc/JdbcType" "NULL" "Lcom/example/oyster/oyster/jdbc/JdbcType;" (.ref w_NULL)) ∧ (Exa Z h w_NULL "com/example/oyster/oyster/jdbc/JdbcType") ∧ (Sta Z h "com/example/oyster/oyster/jdbc/JdbcType" "BOOLEAN" "Lcom/example/oyster/oyster/jdbc/JdbcType;" (.ref w_BOOLEAN)) ∧ (Exa Z h w_BOOLEAN "com/example/oyster/oyster/jdbc/JdbcType") ∧ (Sta Z h "com/example/oyster/oyster/jdbc/JdbcType" "BIGINT" "Lcom/example/oyster/oyster/jdbc/JdbcType;" (.ref w_BIGINT)) ∧ (Exa Z h w_BIGINT "com/example/oyster/oyster/jdbc/JdbcType") ∧ (Fld Z h w_INT "com/example/oyster/oyster/jdbc/JdbcType" "precision" "I" (.int (10 : Int32))) ∧ (Fld Z h w_INT "java/lang/Enum" "ordinal" "I" (.int (0 : Int32))) ∧ (Fld Z h w_VARCHAR "java/lang/Enum" "ordinal" "I" (.int (4 : Int32))) ∧ (Fld Z h w_DECIMAL "java/lang/Enum" "ordinal" "I" (.int (3 : Int32))) ∧ (Fld Z h w_DECIMAL "com/example/oyster/oyster/jdbc/JdbcType" "precision" "I" (.int (38 : Int32))) ∧ (Fld Z h w_SMALLINT "com/example/oyster/oyster/jdbc/JdbcType" "precision" "I" (.int (5 : Int32))) ∧ (Fld Z h w_SMALLINT "java/lang/Enum" "ordinal" "I" (.int (1 : Int32))) ∧ (Fld Z h w_VARCHAR "com/example/oyster/oyster/jdbc/JdbcType" "precision" "I" (.int (0 : Int32))) ∧ (Fld Z h w_NULL "com/example/oyster/oyster/jdbc/JdbcType" "precision" "I" (.int (0 : Int32))) ∧ (Fld Z h w_NULL "java/lang/Enum" "ordinal" "I" (.int (6 : Int32))) ∧ (Fld Z h w_BOOLEAN "com/example/oyster/oyster/jdbc/JdbcType" "precision" "I" (.int (1 : Int32))) ∧ (Fld Z h w_BOOLEAN "java/lang/Enum" "ordinal" "I" (.int (5 : Int32))) ∧ (Fld Z h w_BIGINT "com/example/oyster/oyster/jdbc/JdbcType" "precision" "I" (.int (19 : Int32))) ∧ (Fld Z h w_BIGINT "java/lang/Enum" "ordinal" "I" (.int (2 : Int32))) ∧ (w_INT ≠ w_VARCHAR) ∧ (w_INT ≠ w_DECIMAL) ∧ (w_INT ≠ w_SMALLINT) ∧ (w_INT ≠ w_NULL) ∧ (w_INT ≠ w_BOOLEAN) ∧ (w_INT ≠ w_BIGINT) ∧ (w_VARCHAR ≠ w_DECIMAL) ∧ (w_VARCHAR ≠ w_SMALLINT) ∧ (w_VARCHAR ≠ w_NULL) ∧ (w_VARCHAR ≠ w_BOOLEAN) ∧ (w_VARCHAR ≠ w_BIGINT) ∧ (w_DECIMAL ≠ w_SMALLINT) ∧ (w_DECIMAL ≠ w_NULL) ∧ (w_DECIMAL ≠ w_BOOLEAN) ∧ (w_DECIMAL ≠ w_BIGINT) ∧ (w_SMALLINT ≠ w_NULL) ∧ (w_SMALLINT ≠ w_BOOLEAN) ∧ (w_SMALLINT ≠ w_BIGINT) ∧ (w_NULL ≠ w_BOOLEAN) ∧ (w_NULL ≠ w_BIGINT) ∧ (w_BOOLEAN ≠ w_BIGINT)
/-- a body that writes nothing and returns w -/
def QP (h0 : Heap) (n0 : Nat) (w : Option Value) (v : Option Value) (h : Heap) (L : List Loc) : Prop := v = w ∧ Fr n0 L ∧ h = h0
abbrev Pay (l : Launch) (Z : State) (y : MethodName) (ws : List Jvm.Cond) (bytes : ByteArray) (ml : Nat) (rt : Option FieldType) (as' : Array Value) (h0 : Heap) (n0 : Nat) (rm : Room) (w : Option Value) : Prop :=
  MetFree l y (head1 (Jvm.Cond.code y bytes ml rt :: ws) rm) (fun a U => a = as' ∧ Z.Warmed39 U.vm ∧ U.heap = h0) (fun _ _ _ _ _ => True) (fun _ U o U' => ∃ v L, o = .returned v ∧ QP h0 n0 w v U'.heap L ∧ FrameEnd U o U' L rm.cells rm.slots)
theorem d1_0 : decode method_3_code 0 = .ok (.iload_n 0, 1) := by decide +kernel
theorem d1_1 : decode method_3_code 1 = .ok (.ifCond .ne 7, 3) := by decide +kernel
theorem d1_4 : decode method_3_code 4 = .ok (.getstatic 24, 3) := by decide +kernel
theorem d1_7 : decode method_3_code 7 = .ok (.areturn, 1) := by decide +kernel
theorem pn_0 : plainName "com/example/oyster/oyster/jdbc/JdbcTypePrecisionPinLaw" = true := by first | (simp [plainName, overriddenIn]; done) | decide +kernel
set_option maxRecDepth 65536 in
set_option maxHeartbeats 40000000 in
theorem rm1_0 (l : Launch) (Z : State) (a0 : Array Value) (hw : ∀ d ∈ tables_1, d.before a0 Z = true) (ws : List Jvm.Cond) (w_INT w_VARCHAR w_DECIMAL w_SMALLINT w_NULL w_BOOLEAN w_BIGINT : Addr) (h0 : Heap) (n0 : Nat) (Z0 : n0 ≤ h0.size) (S : SF Z h0 w_INT w_VARCHAR w_DECIMAL w_SMALLINT w_NULL w_BOOLEAN w_BIGINT) :
    Pay l Z (⟨"com/example/oyster/oyster/jdbc/JdbcTypePrecisionPinLaw", "pick", "(I)Lcom/example/oyster/oyster/jdbc/JdbcType;"⟩ : MethodName) ws method_3_code 1 (some (.object "com/example/oyster/oyster/jdbc/JdbcType")) #[(.int (0 : Int32))] h0 n0 ({ frames := 0, cells := 0, slots := 0, locals := 0 } : Room) (some (.ref w_INT)) := by
  obtain ⟨S_w_INT, E_w_INT, S_w_VARCHAR, E_w_VARCHAR, S_w_DECIMAL, E_w_DECIMAL, S_w_SMALLINT, E_w_SMALLINT, S_w_NULL, E_w_NULL, S_w_BOOLEAN, E_w_BOOLEAN, S_w_BIGINT, E_w_BIGINT, F_precision_w_INT, F_ordinal_w_INT, F_ordinal_w_VARCHAR, F_ordinal_w_DECIMAL, F_precision_w_DECIMAL, F_precision_w_SMALLINT, F_ordinal_w_SMALLINT, F_precision_w_VARCHAR, F_precision_w_NULL, F_ordinal_w_NULL, F_precision_w_BOOLEAN, F_ordinal_w_BOOLEAN, F_precision_w_BIGINT, F_ordinal_w_BIGINT, hne_w_INT_w_VARCHAR, hne_w_INT_w_DECIMAL, hne_w_INT_w_SMALLINT, hne_w_INT_w_NULL, hne_w_INT_w_BOOLEAN, hne_w_INT_w_BIGINT, hne_w_VARCHAR_w_DECIMAL, hne_w_VARCHAR_w_SMALLINT, hne_w_VARCHAR_w_NULL, hne_w_VARCHAR_w_BOOLEAN, hne_w_VARCHAR_w_BIGINT, hne_w_DECIMAL_w_SMALLINT, hne_w_DECIMAL_w_NULL, hne_w_DECIMAL_w_BOOLEAN, hne_w_DECIMAL_w_BIGINT, hne_w_SMALLINT_w_NULL, hne_w_SMALLINT_w_BOOLEAN, hne_w_SMALLINT_w_BIGINT, hne_w_NULL_w_BOOLEAN, hne_w_NULL_w_BIGINT, hne_w_BOOLEAN_w_BIGINT⟩ := id S
  refine MetFree.of_bodySF (plainFor_of_name pn_0) hisR ?_
  intro p e s m args below meth c s₁ Bd hml0 hP hK
  obtain ⟨rfl, hZ, hh⟩ := hP
  have hx := Bd.exec
  have hby := Bd.bytes
  have hml : c.maxLocals = 1 := hml0
  have hown : s.vm.findClass "com/example/oyster/oyster/jdbc/JdbcTypePrecisionPinLaw" = some m.cls := findClass_of_methodNamed Bd.named
  have X0 : Stand p l e ({ frames := 0, cells := 0, slots := 0, locals := 0 } : Room) s m #[(.int (0 : Int32))] below meth c s₁ [] 0 0 := Stand.of_body Bd
  have e0 : s₁.heap = h0 := by rw [← hh, Bd.state]; rfl
  have N0 := Fr.nil n0
  have pre0 : ∀ t, Steps p.tables e below (s₁.setTop (mkF m 0 #[.val (.int (0 : Int32))] [])) t → Steps p.tables e below (s₁.setTop (entryFrame m #[(.int (0 : Int32))] 1)) t := fun t k => castTop (by first | rfl | (simp [entryFrame, mkF, argsToLocals, Value.category]; done)) k
  obtain ⟨T1, X1, e1, st1⟩ := getS2 X0 hx hZ hown (host := "") (Or.inl (hw _ (List.mem_of_getElem? (i := 5) rfl))) Via.refl e0 S_w_INT (g := (mkF m 4 #[.val (.int (0 : Int32))] [])) rfl (hb hby d1_4)
  obtain ⟨fs, hr, hrun, hended, hW, hsame⟩ := X1.leave (v := (some (.ref w_INT))) (fun h => by rw [Bd.returns] at h; cases h)
  refine ⟨_, _, pre0 _ ?_, hrun, hended, _, _, rfl, ⟨rfl, N0, e1⟩, ⟨_, rfl⟩, hW, hsame.mono (by decide) (by decide)⟩
  show Steps p.tables e below (s₁.setTop (mkF m 0 #[.val (.int (0 : Int32))] [])) _
  refine XS.iloadN X0.here hx rfl (hb hby d1_0) rfl ?_
  show Steps p.tables e below (s₁.setTop (mkF m 1 #[.val (.int (0 : Int32))] [(.int (0 : Int32))])) _
  refine XS.ifNo X0.here hx rfl (hb hby d1_1) rfl ((if0 _ _).trans (teq (by decide : (0 : Int32) = (0 : Int32))).2) ?_
  show Steps p.tables e below (s₁.setTop (mkF m 4 #[.val (.int (0 : Int32))] [])) _
  refine st1 _ ?_
  show Steps p.tables e below (T1.setTop (mkF m 7 #[.val (.int (0 : Int32))] [(.ref w_INT)])) _
  exact retOut X1 hx (t := (.object "com/example/oyster/oyster/jdbc/JdbcType")) (i := .areturn) Bd.returns rfl (Or.inr (Or.inr (Or.inr (Or.inr ⟨rfl, rfl, rfl⟩)))) (hb hby d1_7) hr
theorem pd_0 : parseMethodDescriptor "(I)Lcom/example/oyster/oyster/jdbc/JdbcType;" = some ⟨[.int], some (.object "com/example/oyster/oyster/jdbc/JdbcType")⟩ := by decide +kernel
theorem d2_0 : decode prog_121_method_10_code 0 = .ok (.aload_n 0, 1) := by decide +kernel
theorem d2_1 : decode prog_121_method_10_code 1 = .ok (.getfield 65, 3) := by decide +kernel
theorem d2_4 : decode prog_121_method_10_code 4 = .ok (.istore_n 2, 1) := by decide +kernel
theorem d2_5 : decode prog_121_method_10_code 5 = .ok (.aload_n 0, 1) := by decide +kernel
theorem d2_6 : decode prog_121_method_10_code 6 = .ok (.getstatic 16, 3) := by decide +kernel
theorem d2_9 : decode prog_121_method_10_code 9 = .ok (.if_acmp .ne 17, 3) := by decide +kernel
theorem d2_26 : decode prog_121_method_10_code 26 = .ok (.aload_n 0, 1) := by decide +kernel
theorem d2_27 : decode prog_121_method_10_code 27 = .ok (.getstatic 13, 3) := by decide +kernel
theorem d2_30 : decode prog_121_method_10_code 30 = .ok (.if_acmp .ne 9, 3) := by decide +kernel
theorem d2_39 : decode prog_121_method_10_code 39 = .ok (.iload_n 2, 1) := by decide +kernel
theorem d2_40 : decode prog_121_method_10_code 40 = .ok (.ireturn, 1) := by decide +kernel
theorem pn_1 : plainName "com/example/oyster/oyster/jdbc/JdbcType" = true := by first | (simp [plainName, overriddenIn]; done) | decide +kernel
set_option maxRecDepth 65536 in
set_option maxHeartbeats 40000000 in
theorem rm2_0 (l : Launch) (Z : State) (a0 : Array Value) (hw : ∀ d ∈ tables_1, d.before a0 Z = true) (ws : List Jvm.Cond) (w_INT w_VARCHAR w_DECIMAL w_SMALLINT w_NULL w_BOOLEAN w_BIGINT : Addr) (h0 : Heap) (n0 : Nat) (Z0 : n0 ≤ h0.size) (S : SF Z h0 w_INT w_VARCHAR w_DECIMAL w_SMALLINT w_NULL w_BOOLEAN w_BIGINT) (p1 : Int32) :
    Pay l Z (⟨"com/example/oyster/oyster/jdbc/JdbcType", "precision", "(I)I"⟩ : MethodName) ws prog_121_method_10_code 3 (some .int) #[(.ref w_INT), (.int p1)] h0 n0 ({ frames := 0, cells := 0, slots := 0, locals := 0 } : Room) (some (.int (10 : Int32))) := by
  obtain ⟨S_w_INT, E_w_INT, S_w_VARCHAR, E_w_VARCHAR, S_w_DECIMAL, E_w_DECIMAL, S_w_SMALLINT, E_w_SMALLINT, S_w_NULL, E_w_NULL, S_w_BOOLEAN, E_w_BOOLEAN, S_w_BIGINT, E_w_BIGINT, F_precision_w_INT, F_ordinal_w_INT, F_ordinal_w_VARCHAR, F_ordinal_w_DECIMAL, F_precision_w_DECIMAL, F_precision_w_SMALLINT, F_ordinal_w_SMALLINT, F_precision_w_VARCHAR, F_precision_w_NULL, F_ordinal_w_NULL, F_precision_w_BOOLEAN, F_ordinal_w_BOOLEAN, F_precision_w_BIGINT, F_ordinal_w_BIGINT, hne_w_INT_w_VARCHAR, hne_w_INT_w_DECIMAL, hne_w_INT_w_SMALLINT, hne_w_INT_w_NULL, hne_w_INT_w_BOOLEAN, hne_w_INT_w_BIGINT, hne_w_VARCHAR_w_DECIMAL, hne_w_VARCHAR_w_SMALLINT, hne_w_VARCHAR_w_NULL, hne_w_VARCHAR_w_BOOLEAN, hne_w_VARCHAR_w_BIGINT, hne_w_DECIMAL_w_SMALLINT, hne_w_DECIMAL_w_NULL, hne_w_DECIMAL_w_BOOLEAN, hne_w_DECIMAL_w_BIGINT, hne_w_SMALLINT_w_NULL, hne_w_SMALLINT_w_BOOLEAN, hne_w_SMALLINT_w_BIGINT, hne_w_NULL_w_BOOLEAN, hne_w_NULL_w_BIGINT, hne_w_BOOLEAN_w_BIGINT⟩ := id S
  refine MetFree.of_bodySF (plainFor_of_name pn_1) hisR ?_
  intro p e s m args below meth c s₁ Bd hml0 hP hK
  obtain ⟨rfl, hZ, hh⟩ := hP
  have hx := Bd.exec
  have hby := Bd.bytes
  have hml : c.maxLocals = 3 := hml0
  have hown : s.vm.findClass "com/example/oyster/oyster/jdbc/JdbcType" = some m.cls := findClass_of_methodNamed Bd.named
  have X0 : Stand p l e ({ frames := 0, cells := 0, slots := 0, locals := 0 } : Room) s m #[(.ref w_INT), (.int p1)] below meth c s₁ [] 0 0 := Stand.of_body Bd
  have e0 : s₁.heap = h0 := by rw [← hh, Bd.state]; rfl
  have N0 := Fr.nil n0
  have pre0 : ∀ t, Steps p.tables e below (s₁.setTop (mkF m 0 #[.val (.ref w_INT), .val (.int p1), .unset] [])) t → Steps p.tables e below (s₁.setTop (entryFrame m #[(.ref w_INT), (.int p1)] 3)) t := fun t k => castTop (by first | rfl | (simp [entryFrame, mkF, argsToLocals, Value.category]; done)) k
  obtain ⟨T1, X1, e1, st1⟩ := getF X0 hx hZ hown (host := "") (Or.inl (hw _ (List.mem_of_getElem? (i := 13) rfl))) Via.refl e0 F_precision_w_INT (g := (mkF m 1 #[.val (.ref w_INT), .val (.int p1), .unset] [(.ref w_INT)])) rfl rfl (hb hby d2_1)
  obtain ⟨T2, X2, e2, st2⟩ := getS2 X1 hx hZ hown (host := "") (Or.inl (hw _ (List.mem_of_getElem? (i := 15) rfl))) Via.refl e1 S_w_VARCHAR (g := (mkF m 6 #[.val (.ref w_INT), .val (.int p1), .val (.int (10 : Int32))] [(.ref w_INT)])) rfl (hb hby d2_6)
  obtain ⟨T3, X3, e3, st3⟩ := getS2 X2 hx hZ hown (host := "") (Or.inl (hw _ (List.mem_of_getElem? (i := 17) rfl))) Via.refl e2 S_w_DECIMAL (g := (mkF m 27 #[.val (.ref w_INT), .val (.int p1), .val (.int (10 : Int32))] [(.ref w_INT)])) rfl (hb hby d2_27)
  obtain ⟨fs, hr, hrun, hended, hW, hsame⟩ := X3.leave (v := (some (.int (10 : Int32)))) (fun h => by rw [Bd.returns] at h; cases h)
  refine ⟨_, _, pre0 _ ?_, hrun, hended, _, _, rfl, ⟨rfl, N0, e3⟩, ⟨_, rfl⟩, hW, hsame.mono (by decide) (by decide)⟩
  show Steps p.tables e below (s₁.setTop (mkF m 0 #[.val (.ref w_INT), .val (.int p1), .unset] [])) _
  refine XS.aloadN X0.here hx rfl (hb hby d2_0) rfl rfl ?_
  show Steps p.tables e below (s₁.setTop (mkF m 1 #[.val (.ref w_INT), .val (.int p1), .unset] [(.ref w_INT)])) _
  refine st1 _ ?_
  show Steps p.tables e below (T1.setTop (mkF m 4 #[.val (.ref w_INT), .val (.int p1), .unset] [(.int (10 : Int32))])) _
  refine XS.istoreN X1.here hx rfl (hb hby d2_4) rfl (l' := #[.val (.ref w_INT), .val (.int p1), .val (.int (10 : Int32))]) rfl ?_
  show Steps p.tables e below (T1.setTop (mkF m 5 #[.val (.ref w_INT), .val (.int p1), .val (.int (10 : Int32))] [])) _
  refine XS.aloadN X1.here hx rfl (hb hby d2_5) rfl rfl ?_
  show Steps p.tables e below (T1.setTop (mkF m 6 #[.val (.ref w_INT), .val (.int p1), .val (.int (10 : Int32))] [(.ref w_INT)])) _
  refine st2 _ ?_
  show Steps p.tables e below (T2.setTop (mkF m 9 #[.val (.ref w_INT), .val (.int p1), .val (.int (10 : Int32))] [(.ref w_VARCHAR), (.ref w_INT)])) _
  refine Jvm.RoadKit.acmp (g := (mkF m 9 #[.val (.ref w_INT), .val (.int p1), .val (.int (10 : Int32))] [(.ref w_VARCHAR), (.ref w_INT)])) X2 hx rfl rfl rfl (pc0 := 9) (pc' := 26) (same := false) rfl (hb hby d2_9) rfl (decide_eq_false fun q => hne_w_INT_w_VARCHAR (Value.ref.inj q)) (by decide) (by decide) ?_
  show Steps p.tables e below (T2.setTop (mkF m 26 #[.val (.ref w_INT), .val (.int p1), .val (.int (10 : Int32))] [])) _
  refine XS.aloadN X2.here hx rfl (hb hby d2_26) rfl rfl ?_
  show Steps p.tables e below (T2.setTop (mkF m 27 #[.val (.ref w_INT), .val (.int p1), .val (.int (10 : Int32))] [(.ref w_INT)])) _
  refine st3 _ ?_
  show Steps p.tables e below (T3.setTop (mkF m 30 #[.val (.ref w_INT), .val (.int p1), .val (.int (10 : Int32))] [(.ref w_DECIMAL), (.ref w_INT)])) _
  refine Jvm.RoadKit.acmp (g := (mkF m 30 #[.val (.ref w_INT), .val (.int p1), .val (.int (10 : Int32))] [(.ref w_DECIMAL), (.ref w_INT)])) X3 hx rfl rfl rfl (pc0 := 30) (pc' := 39) (same := false) rfl (hb hby d2_30) rfl (decide_eq_false fun q => hne_w_INT_w_DECIMAL (Value.ref.inj q)) (by decide) (by decide) ?_
  show Steps p.tables e below (T3.setTop (mkF m 39 #[.val (.ref w_INT), .val (.int p1), .val (.int (10 : Int32))] [])) _
  refine XS.iloadN X3.here hx rfl (hb hby d2_39) rfl ?_
  show Steps p.tables e below (T3.setTop (mkF m 40 #[.val (.ref w_INT), .val (.int p1), .val (.int (10 : Int32))] [(.int (10 : Int32))])) _
  exact retOut X3 hx (t := .int) (i := .ireturn) Bd.returns rfl (Or.inl ⟨rfl, Or.inl rfl, _, rfl⟩) (hb hby d2_40) hr
theorem pd_1 : parseMethodDescriptor "(I)I" = some ⟨[.int], some .int⟩ := by decide +kernel
theorem d3_0 : decode method_4_code 0 = .ok (.iload_n 0, 1) := by decide +kernel
theorem d3_1 : decode method_4_code 1 = .ok (.ifCond .ne 6, 3) := by decide +kernel
theorem d3_4 : decode method_4_code 4 = .ok (.bipush 10, 2) := by decide +kernel
theorem d3_6 : decode method_4_code 6 = .ok (.ireturn, 1) := by decide +kernel
set_option maxRecDepth 65536 in
set_option maxHeartbeats 40000000 in
theorem rm3_0 (l : Launch) (Z : State) (a0 : Array Value) (hw : ∀ d ∈ tables_1, d.before a0 Z = true) (ws : List Jvm.Cond) (w_INT w_VARCHAR w_DECIMAL w_SMALLINT w_NULL w_BOOLEAN w_BIGINT : Addr) (h0 : Heap) (n0 : Nat) (Z0 : n0 ≤ h0.size) (S : SF Z h0 w_INT w_VARCHAR w_DECIMAL w_SMALLINT w_NULL w_BOOLEAN w_BIGINT) (p1 : Int32) :
    Pay l Z (⟨"com/example/oyster/oyster/jdbc/JdbcTypePrecisionPinLaw", "expected", "(II)I"⟩ : MethodName) ws method_4_code 2 (some .int) #[(.int (0 : Int32)), (.int p1)] h0 n0 ({ frames := 0, cells := 0, slots := 0, locals := 0 } : Room) (some (.int (10 : Int32))) := by
  obtain ⟨S_w_INT, E_w_INT, S_w_VARCHAR, E_w_VARCHAR, S_w_DECIMAL, E_w_DECIMAL, S_w_SMALLINT, E_w_SMALLINT, S_w_NULL, E_w_NULL, S_w_BOOLEAN, E_w_BOOLEAN, S_w_BIGINT, E_w_BIGINT, F_precision_w_INT, F_ordinal_w_INT, F_ordinal_w_VARCHAR, F_ordinal_w_DECIMAL, F_precision_w_DECIMAL, F_precision_w_SMALLINT, F_ordinal_w_SMALLINT, F_precision_w_VARCHAR, F_precision_w_NULL, F_ordinal_w_NULL, F_precision_w_BOOLEAN, F_ordinal_w_BOOLEAN, F_precision_w_BIGINT, F_ordinal_w_BIGINT, hne_w_INT_w_VARCHAR, hne_w_INT_w_DECIMAL, hne_w_INT_w_SMALLINT, hne_w_INT_w_NULL, hne_w_INT_w_BOOLEAN, hne_w_INT_w_BIGINT, hne_w_VARCHAR_w_DECIMAL, hne_w_VARCHAR_w_SMALLINT, hne_w_VARCHAR_w_NULL, hne_w_VARCHAR_w_BOOLEAN, hne_w_VARCHAR_w_BIGINT, hne_w_DECIMAL_w_SMALLINT, hne_w_DECIMAL_w_NULL, hne_w_DECIMAL_w_BOOLEAN, hne_w_DECIMAL_w_BIGINT, hne_w_SMALLINT_w_NULL, hne_w_SMALLINT_w_BOOLEAN, hne_w_SMALLINT_w_BIGINT, hne_w_NULL_w_BOOLEAN, hne_w_NULL_w_BIGINT, hne_w_BOOLEAN_w_BIGINT⟩ := id S
  refine MetFree.of_bodySF (plainFor_of_name pn_0) hisR ?_
  intro p e s m args below meth c s₁ Bd hml0 hP hK
  obtain ⟨rfl, hZ, hh⟩ := hP
  have hx := Bd.exec
  have hby := Bd.bytes
  have hml : c.maxLocals = 2 := hml0
  have hown : s.vm.findClass "com/example/oyster/oyster/jdbc/JdbcTypePrecisionPinLaw" = some m.cls := findClass_of_methodNamed Bd.named
  have X0 : Stand p l e ({ frames := 0, cells := 0, slots := 0, locals := 0 } : Room) s m #[(.int (0 : Int32)), (.int p1)] below meth c s₁ [] 0 0 := Stand.of_body Bd
  have e0 : s₁.heap = h0 := by rw [← hh, Bd.state]; rfl
  have N0 := Fr.nil n0
  have pre0 : ∀ t, Steps p.tables e below (s₁.setTop (mkF m 0 #[.val (.int (0 : Int32)), .val (.int p1)] [])) t → Steps p.tables e below (s₁.setTop (entryFrame m #[(.int (0 : Int32)), (.int p1)] 2)) t := fun t k => castTop (by first | rfl | (simp [entryFrame, mkF, argsToLocals, Value.category]; done)) k
  obtain ⟨fs, hr, hrun, hended, hW, hsame⟩ := X0.leave (v := (some (.int (10 : Int32)))) (fun h => by rw [Bd.returns] at h; cases h)
  refine ⟨_, _, pre0 _ ?_, hrun, hended, _, _, rfl, ⟨rfl, N0, e0⟩, ⟨_, rfl⟩, hW, hsame.mono (by decide) (by decide)⟩
  show Steps p.tables e below (s₁.setTop (mkF m 0 #[.val (.int (0 : Int32)), .val (.int p1)] [])) _
  refine XS.iloadN X0.here hx rfl (hb hby d3_0) rfl ?_
  show Steps p.tables e below (s₁.setTop (mkF m 1 #[.val (.int (0 : Int32)), .val (.int p1)] [(.int (0 : Int32))])) _
  refine XS.ifNo X0.here hx rfl (hb hby d3_1) rfl ((if0 _ _).trans (teq (by decide : (0 : Int32) = (0 : Int32))).2) ?_
  show Steps p.tables e below (s₁.setTop (mkF m 4 #[.val (.int (0 : Int32)), .val (.int p1)] [])) _
  refine XS.bipush X0.here hx rfl (hb hby d3_4) ?_
  show Steps p.tables e below (s₁.setTop (mkF m 6 #[.val (.int (0 : Int32)), .val (.int p1)] [(.int (10 : Int32))])) _
  exact retOut X0 hx (t := .int) (i := .ireturn) Bd.returns rfl (Or.inl ⟨rfl, Or.inl rfl, _, rfl⟩) (hb hby d3_6) hr
theorem pd_2 : parseMethodDescriptor "(II)I" = some ⟨[.int, .int], some .int⟩ := by decide +kernel
set_option maxRecDepth 65536 in
set_option maxHeartbeats 40000000 in
theorem rm0_0 (l : Launch) (Z : State) (a0 : Array Value) (hw : ∀ d ∈ tables_1, d.before a0 Z = true) (ws : List Jvm.Cond) (w_INT w_VARCHAR w_DECIMAL w_SMALLINT w_NULL w_BOOLEAN w_BIGINT : Addr) (h0 : Heap) (n0 : Nat) (Z0 : n0 ≤ h0.size) (S : SF Z h0 w_INT w_VARCHAR w_DECIMAL w_SMALLINT w_NULL w_BOOLEAN w_BIGINT) (p0 : Int32) (p1 : Int32) (hk : ((p0 &&& (2147483647 : Int32)) % (7 : Int32)) = (0 : Int32)) :
    Pay l Z x ws code maxLocals ret #[(.int p0), (.int p1)] h0 n0 room_1 (some (.int (1 : Int32))) := by
  obtain ⟨S_w_INT, E_w_INT, S_w_VARCHAR, E_w_VARCHAR, S_w_DECIMAL, E_w_DECIMAL, S_w_SMALLINT, E_w_SMALLINT, S_w_NULL, E_w_NULL, S_w_BOOLEAN, E_w_BOOLEAN, S_w_BIGINT, E_w_BIGINT, F_precision_w_INT, F_ordinal_w_INT, F_ordinal_w_VARCHAR, F_ordinal_w_DECIMAL, F_precision_w_DECIMAL, F_precision_w_SMALLINT, F_ordinal_w_SMALLINT, F_precision_w_VARCHAR, F_precision_w_NULL, F_ordinal_w_NULL, F_precision_w_BOOLEAN, F_ordinal_w_BOOLEAN, F_precision_w_BIGINT, F_ordinal_w_BIGINT, hne_w_INT_w_VARCHAR, hne_w_INT_w_DECIMAL, hne_w_INT_w_SMALLINT, hne_w_INT_w_NULL, hne_w_INT_w_BOOLEAN, hne_w_INT_w_BIGINT, hne_w_VARCHAR_w_DECIMAL, hne_w_VARCHAR_w_SMALLINT, hne_w_VARCHAR_w_NULL, hne_w_VARCHAR_w_BOOLEAN, hne_w_VARCHAR_w_BIGINT, hne_w_DECIMAL_w_SMALLINT, hne_w_DECIMAL_w_NULL, hne_w_DECIMAL_w_BOOLEAN, hne_w_DECIMAL_w_BIGINT, hne_w_SMALLINT_w_NULL, hne_w_SMALLINT_w_BOOLEAN, hne_w_SMALLINT_w_BIGINT, hne_w_NULL_w_BOOLEAN, hne_w_NULL_w_BIGINT, hne_w_BOOLEAN_w_BIGINT⟩ := id S
  refine MetFree.of_bodySF (plainFor_of_name pn_0) hisR ?_
  intro p e s m args below meth c s₁ Bd hml0 hP hK
  obtain ⟨rfl, hZ, hh⟩ := hP
  have hx := Bd.exec
  have hby := Bd.bytes
  have hml : c.maxLocals = 5 := hml0
  have hown : s.vm.findClass "com/example/oyster/oyster/jdbc/JdbcTypePrecisionPinLaw" = some m.cls := findClass_of_methodNamed Bd.named
  have X0 : Stand p l e room_1 s m #[(.int p0), (.int p1)] below meth c s₁ [] 0 0 := Stand.of_body Bd
  have e0 : s₁.heap = h0 := by rw [← hh, Bd.state]; rfl
  have N0 := Fr.nil n0
  have pre0 : ∀ t, Steps p.tables e below (s₁.setTop (mkF m 0 #[.val (.int p0), .val (.int p1), .unset, .unset, .unset] [])) t → Steps p.tables e below (s₁.setTop (entryFrame m #[(.int p0), (.int p1)] maxLocals)) t := fun t k => castTop (by first | rfl | (simp [entryFrame, mkF, argsToLocals, Value.category, maxLocals]; done)) k
  obtain ⟨_, _, ⟨T1, L1, k1, n1⟩, -, X1, ⟨Lc1, hQ1, l1, y1, z1⟩, st1⟩ := Jvm.LawKit.callS X0 hx (y := (⟨"com/example/oyster/oyster/jdbc/JdbcTypePrecisionPinLaw", "pick", "(I)Lcom/example/oyster/oyster/jdbc/JdbcType;"⟩ : MethodName)) hown (mvT hZ (hw _ (List.mem_of_getElem? (i := 1) rfl))) (mvT hZ (hw _ (List.mem_of_getElem? (i := 2) rfl))) (mvT hZ (hw _ (List.mem_of_getElem? (i := 3) rfl))) (mvT hZ (hw _ (List.mem_of_getElem? (i := 4) rfl))) (by decide) (backOf (W := 0) (rm1_0 l Z a0 hw [] w_INT w_VARCHAR w_DECIMAL w_SMALLINT w_NULL w_BOOLEAN w_BIGINT h0 n0 Z0 S) hZ (hw _ (List.mem_of_getElem? (i := 4) rfl)) (hw _ (List.mem_of_getElem? (i := 3) rfl)) (by decide) (by decide)) (g := (mkF m 9 #[.val (.int p0), .val (.int p1), .val (.int (0 : Int32)), .unset, .unset] [(.int (0 : Int32))])) rfl (by rw [hml]; rfl) (argsL := [(.int (0 : Int32))]) (rest := []) (lenOf pd_0 rfl) rfl (by show 2 * 0 + _ ≤ _; exact Nat.le_of_eq rfl) (hb hby at_9) (fun _ _ => ⟨rfl, e0, (by decide : 0 + 0 ≤ _), (by decide : 0 + 0 ≤ _)⟩)
  dsimp only [Pt.U, Pt.locs, Pt.cells, Pt.slots] at X1 l1 y1 z1 st1 hQ1
  subst l1 y1 z1
  obtain ⟨rfl, Nq1, e1⟩ := hQ1
  have N1 := Fr.app N0 Nq1
  obtain ⟨cq2, kq2, q2a, q2b, q2c⟩ := isOf hZ e1 E_w_INT
  obtain ⟨_, _, ⟨T2, L2, k2, n2⟩, -, X2, ⟨Lc2, hQ2, l2, y2, z2⟩, st2⟩ := X1.virtualBack hx (y := (⟨"com/example/oyster/oyster/jdbc/JdbcType", "precision", "(I)I"⟩ : MethodName)) (z := (⟨"com/example/oyster/oyster/jdbc/JdbcType", "precision", "(I)I"⟩ : MethodName)) hown (mvT hZ (hw _ (List.mem_of_getElem? (i := 8) rfl))) (mvT hZ (hw _ (List.mem_of_getElem? (i := 9) rfl))) (notFace_of_selects (args := #[]) (mvT hZ (hw _ (List.mem_of_getElem? (i := 11) rfl)))) (mvT hZ (hw _ (List.mem_of_getElem? (i := 11) rfl))) (mvT hZ (hw _ (List.mem_of_getElem? (i := 10) rfl))) (by decide) (backOf (W := 0) (rm2_0 l Z a0 hw [] w_INT w_VARCHAR w_DECIMAL w_SMALLINT w_NULL w_BOOLEAN w_BIGINT h0 n0 Z0 S p1) hZ (hw _ (List.mem_of_getElem? (i := 12) rfl)) (hw _ (List.mem_of_getElem? (i := 6) rfl)) (by decide) (by decide)) q2a q2c (g := (mkF m 15 #[.val (.int p0), .val (.int p1), .val (.int (0 : Int32)), .val (.ref w_INT), .unset] [(.int p1), (.ref w_INT)])) rfl (by rw [hml]; rfl) (Steps.refl _) (argsL := [(.int p1)]) (rest := []) (lenOf pd_1 rfl) rfl (by show 2 * 0 + _ ≤ _; exact Nat.le_of_eq rfl) (hb hby at_15) (fun _ _ => ⟨rfl, e1, (by decide : 0 + 0 ≤ _), (by decide : 0 + 0 ≤ _)⟩)
  dsimp only [Pt.U, Pt.locs, Pt.cells, Pt.slots] at X2 l2 y2 z2 st2 hQ2
  subst l2 y2 z2
  obtain ⟨rfl, Nq2, e2⟩ := hQ2
  have N2 := Fr.app N1 Nq2
  obtain ⟨_, _, ⟨T3, L3, k3, n3⟩, -, X3, ⟨Lc3, hQ3, l3, y3, z3⟩, st3⟩ := Jvm.LawKit.callS X2 hx (y := (⟨"com/example/oyster/oyster/jdbc/JdbcTypePrecisionPinLaw", "expected", "(II)I"⟩ : MethodName)) hown (mvT hZ (hw _ (List.mem_of_getElem? (i := 19) rfl))) (mvT hZ (hw _ (List.mem_of_getElem? (i := 20) rfl))) (mvT hZ (hw _ (List.mem_of_getElem? (i := 3) rfl))) (mvT hZ (hw _ (List.mem_of_getElem? (i := 21) rfl))) (by decide) (backOf (W := 1) (rm3_0 l Z a0 hw [] w_INT w_VARCHAR w_DECIMAL w_SMALLINT w_NULL w_BOOLEAN w_BIGINT h0 n0 Z0 S p1) hZ (hw _ (List.mem_of_getElem? (i := 21) rfl)) (hw _ (List.mem_of_getElem? (i := 3) rfl)) (by decide) (by decide)) (g := (mkF m 24 #[.val (.int p0), .val (.int p1), .val (.int (0 : Int32)), .val (.ref w_INT), .val (.int (10 : Int32))] [(.int p1), (.int (0 : Int32)), (.int (10 : Int32))])) rfl (by rw [hml]; rfl) (argsL := [(.int (0 : Int32)), (.int p1)]) (rest := [(.int (10 : Int32))]) (lenOf pd_2 rfl) rfl (by show 2 * 0 + _ ≤ _; exact Nat.le_of_eq rfl) (hb hby at_24) (fun _ _ => ⟨rfl, e2, (by decide : 0 + 0 ≤ _), (by decide : 0 + 0 ≤ _)⟩)
  dsimp only [Pt.U, Pt.locs, Pt.cells, Pt.slots] at X3 l3 y3 z3 st3 hQ3
  subst l3 y3 z3
  obtain ⟨rfl, Nq3, e3⟩ := hQ3
  have N3 := Fr.app N2 Nq3
  obtain ⟨fs, hr, hrun, hended, hW, hsame⟩ := X3.leave (v := (some (.int (1 : Int32)))) (fun h => by rw [Bd.returns] at h; cases h)
  refine ⟨_, _, pre0 _ ?_, hrun, hended, _, _, rfl, ⟨rfl, N3, e3⟩, ⟨_, rfl⟩, hW, hsame.mono (by decide) (by decide)⟩
  show Steps p.tables e below (s₁.setTop (mkF m 0 #[.val (.int p0), .val (.int p1), .unset, .unset, .unset] [])) _
  refine XS.iloadN X0.here hx rfl (hb hby at_0) rfl ?_
  show Steps p.tables e below (s₁.setTop (mkF m 1 #[.val (.int p0), .val (.int p1), .unset, .unset, .unset] [(.int p0)])) _
  refine X0.ldcInt hx hown (mvT hZ (hw _ (List.mem_of_getElem? (i := 0) rfl))) (g := (mkF m 1 #[.val (.int p0), .val (.int p1), .unset, .unset, .unset] [(.int p0)])) rfl (hb hby at_1) _ ?_
  show Steps p.tables e below (s₁.setTop (mkF m 3 #[.val (.int p0), .val (.int p1), .unset, .unset, .unset] [(.int (2147483647 : Int32)), (.int p0)])) _
  refine XS.iand X0.here hx rfl (hb hby at_3) rfl ?_
  show Steps p.tables e below (s₁.setTop (mkF m 4 #[.val (.int p0), .val (.int p1), .unset, .unset, .unset] [(.int (p0 &&& (2147483647 : Int32)))])) _
  show Steps p.tables e below (s₁.setTop (mkF m 4 #[.val (.int p0), .val (.int p1), .unset, .unset, .unset] [(.int (p0 &&& (2147483647 : Int32)))])) _
  refine XS.bipush X0.here hx rfl (hb hby at_4) ?_
  show Steps p.tables e below (s₁.setTop (mkF m 6 #[.val (.int p0), .val (.int p1), .unset, .unset, .unset] [(.int (7 : Int32)), (.int (p0 &&& (2147483647 : Int32)))])) _
  refine iremM X0 hx rfl (hb hby at_6) rfl (by decide) ?_
  show Steps p.tables e below (s₁.setTop (mkF m 7 #[.val (.int p0), .val (.int p1), .unset, .unset, .unset] [(.int ((p0 &&& (2147483647 : Int32)) % (7 : Int32)))])) _
  rw [hk]
  show Steps p.tables e below (s₁.setTop (mkF m 7 #[.val (.int p0), .val (.int p1), .unset, .unset, .unset] [(.int (0 : Int32))])) _
  refine XS.istoreN X0.here hx rfl (hb hby at_7) rfl (l' := #[.val (.int p0), .val (.int p1), .val (.int (0 : Int32)), .unset, .unset]) rfl ?_
  show Steps p.tables e below (s₁.setTop (mkF m 8 #[.val (.int p0), .val (.int p1), .val (.int (0 : Int32)), .unset, .unset] [])) _
  refine XS.iloadN X0.here hx rfl (hb hby at_8) rfl ?_
  show Steps p.tables e below (s₁.setTop (mkF m 9 #[.val (.int p0), .val (.int p1), .val (.int (0 : Int32)), .unset, .unset] [(.int (0 : Int32))])) _
  refine st1 _ ?_
  show Steps p.tables e below (T1.setTop (mkF m 12 #[.val (.int p0), .val (.int p1), .val (.int (0 : Int32)), .unset, .unset] [(.ref w_INT)])) _
  refine XS.astoreN X1.here hx rfl (hb hby at_12) rfl rfl (l' := #[.val (.int p0), .val (.int p1), .val (.int (0 : Int32)), .val (.ref w_INT), .unset]) rfl ?_
  show Steps p.tables e below (T1.setTop (mkF m 13 #[.val (.int p0), .val (.int p1), .val (.int (0 : Int32)), .val (.ref w_INT), .unset] [])) _
  refine XS.aloadN X1.here hx rfl (hb hby at_13) rfl rfl ?_
  show Steps p.tables e below (T1.setTop (mkF m 14 #[.val (.int p0), .val (.int p1), .val (.int (0 : Int32)), .val (.ref w_INT), .unset] [(.ref w_INT)])) _
  refine XS.iloadN X1.here hx rfl (hb hby at_14) rfl ?_
  show Steps p.tables e below (T1.setTop (mkF m 15 #[.val (.int p0), .val (.int p1), .val (.int (0 : Int32)), .val (.ref w_INT), .unset] [(.int p1), (.ref w_INT)])) _
  refine st2.trans ?_
  show Steps p.tables e below (T2.setTop (mkF m 18 #[.val (.int p0), .val (.int p1), .val (.int (0 : Int32)), .val (.ref w_INT), .unset] [(.int (10 : Int32))])) _
  refine XS.istore X2.here hx rfl (hb hby at_18) rfl (l' := #[.val (.int p0), .val (.int p1), .val (.int (0 : Int32)), .val (.ref w_INT), .val (.int (10 : Int32))]) rfl ?_
  show Steps p.tables e below (T2.setTop (mkF m 20 #[.val (.int p0), .val (.int p1), .val (.int (0 : Int32)), .val (.ref w_INT), .val (.int (10 : Int32))] [])) _
  refine XS.iload X2.here hx rfl (hb hby at_20) rfl ?_
  show Steps p.tables e below (T2.setTop (mkF m 22 #[.val (.int p0), .val (.int p1), .val (.int (0 : Int32)), .val (.ref w_INT), .val (.int (10 : Int32))] [(.int (10 : Int32))])) _
  refine XS.iloadN X2.here hx rfl (hb hby at_22) rfl ?_
  show Steps p.tables e below (T2.setTop (mkF m 23 #[.val (.int p0), .val (.int p1), .val (.int (0 : Int32)), .val (.ref w_INT), .val (.int (10 : Int32))] [(.int (0 : Int32)), (.int (10 : Int32))])) _
  refine XS.iloadN X2.here hx rfl (hb hby at_23) rfl ?_
  show Steps p.tables e below (T2.setTop (mkF m 24 #[.val (.int p0), .val (.int p1), .val (.int (0 : Int32)), .val (.ref w_INT), .val (.int (10 : Int32))] [(.int p1), (.int (0 : Int32)), (.int (10 : Int32))])) _
  refine st3 _ ?_
  show Steps p.tables e below (T3.setTop (mkF m 27 #[.val (.int p0), .val (.int p1), .val (.int (0 : Int32)), .val (.ref w_INT), .val (.int (10 : Int32))] [(.int (10 : Int32)), (.int (10 : Int32))])) _
  refine XS.icmpNo X3.here hx rfl (hb hby at_27) rfl (teq (by decide : (10 : Int32) = (10 : Int32))).2 ?_
  show Steps p.tables e below (T3.setTop (mkF m 30 #[.val (.int p0), .val (.int p1), .val (.int (0 : Int32)), .val (.ref w_INT), .val (.int (10 : Int32))] [])) _
  refine XS.iconst X3.here hx rfl (hb hby at_30) ?_
  show Steps p.tables e below (T3.setTop (mkF m 31 #[.val (.int p0), .val (.int p1), .val (.int (0 : Int32)), .val (.ref w_INT), .val (.int (10 : Int32))] [(.int (1 : Int32))])) _
  refine XS.goto X3.here hx rfl (pc0 := 31) (pc' := 35) rfl (hb hby at_31) (by decide) (by decide) ?_
  show Steps p.tables e below (T3.setTop (mkF m 35 #[.val (.int p0), .val (.int p1), .val (.int (0 : Int32)), .val (.ref w_INT), .val (.int (10 : Int32))] [(.int (1 : Int32))])) _
  exact retN X3 hx (t := .boolean) Bd.returns (by simp) (hb hby at_35) hr
theorem d1_8 : decode method_3_code 8 = .ok (.iload_n 0, 1) := by decide +kernel
theorem d1_9 : decode method_3_code 9 = .ok (.iconst 1, 1) := by decide +kernel
theorem d1_10 : decode method_3_code 10 = .ok (.if_icmp .ne 7, 3) := by decide +kernel
theorem d1_13 : decode method_3_code 13 = .ok (.getstatic 28, 3) := by decide +kernel
theorem d1_16 : decode method_3_code 16 = .ok (.areturn, 1) := by decide +kernel
set_option maxRecDepth 65536 in
set_option maxHeartbeats 40000000 in
theorem rm1_1 (l : Launch) (Z : State) (a0 : Array Value) (hw : ∀ d ∈ tables_1, d.before a0 Z = true) (ws : List Jvm.Cond) (w_INT w_VARCHAR w_DECIMAL w_SMALLINT w_NULL w_BOOLEAN w_BIGINT : Addr) (h0 : Heap) (n0 : Nat) (Z0 : n0 ≤ h0.size) (S : SF Z h0 w_INT w_VARCHAR w_DECIMAL w_SMALLINT w_NULL w_BOOLEAN w_BIGINT) :
    Pay l Z (⟨"com/example/oyster/oyster/jdbc/JdbcTypePrecisionPinLaw", "pick", "(I)Lcom/example/oyster/oyster/jdbc/JdbcType;"⟩ : MethodName) ws method_3_code 1 (some (.object "com/example/oyster/oyster/jdbc/JdbcType")) #[(.int (1 : Int32))] h0 n0 ({ frames := 0, cells := 0, slots := 0, locals := 0 } : Room) (some (.ref w_SMALLINT)) := by
  obtain ⟨S_w_INT, E_w_INT, S_w_VARCHAR, E_w_VARCHAR, S_w_DECIMAL, E_w_DECIMAL, S_w_SMALLINT, E_w_SMALLINT, S_w_NULL, E_w_NULL, S_w_BOOLEAN, E_w_BOOLEAN, S_w_BIGINT, E_w_BIGINT, F_precision_w_INT, F_ordinal_w_INT, F_ordinal_w_VARCHAR, F_ordinal_w_DECIMAL, F_precision_w_DECIMAL, F_precision_w_SMALLINT, F_ordinal_w_SMALLINT, F_precision_w_VARCHAR, F_precision_w_NULL, F_ordinal_w_NULL, F_precision_w_BOOLEAN, F_ordinal_w_BOOLEAN, F_precision_w_BIGINT, F_ordinal_w_BIGINT, hne_w_INT_w_VARCHAR, hne_w_INT_w_DECIMAL, hne_w_INT_w_SMALLINT, hne_w_INT_w_NULL, hne_w_INT_w_BOOLEAN, hne_w_INT_w_BIGINT, hne_w_VARCHAR_w_DECIMAL, hne_w_VARCHAR_w_SMALLINT, hne_w_VARCHAR_w_NULL, hne_w_VARCHAR_w_BOOLEAN, hne_w_VARCHAR_w_BIGINT, hne_w_DECIMAL_w_SMALLINT, hne_w_DECIMAL_w_NULL, hne_w_DECIMAL_w_BOOLEAN, hne_w_DECIMAL_w_BIGINT, hne_w_SMALLINT_w_NULL, hne_w_SMALLINT_w_BOOLEAN, hne_w_SMALLINT_w_BIGINT, hne_w_NULL_w_BOOLEAN, hne_w_NULL_w_BIGINT, hne_w_BOOLEAN_w_BIGINT⟩ := id S
  refine MetFree.of_bodySF (plainFor_of_name pn_0) hisR ?_
  intro p e s m args below meth c s₁ Bd hml0 hP hK
  obtain ⟨rfl, hZ, hh⟩ := hP
  have hx := Bd.exec
  have hby := Bd.bytes
  have hml : c.maxLocals = 1 := hml0
  have hown : s.vm.findClass "com/example/oyster/oyster/jdbc/JdbcTypePrecisionPinLaw" = some m.cls := findClass_of_methodNamed Bd.named
  have X0 : Stand p l e ({ frames := 0, cells := 0, slots := 0, locals := 0 } : Room) s m #[(.int (1 : Int32))] below meth c s₁ [] 0 0 := Stand.of_body Bd
  have e0 : s₁.heap = h0 := by rw [← hh, Bd.state]; rfl
  have N0 := Fr.nil n0
  have pre0 : ∀ t, Steps p.tables e below (s₁.setTop (mkF m 0 #[.val (.int (1 : Int32))] [])) t → Steps p.tables e below (s₁.setTop (entryFrame m #[(.int (1 : Int32))] 1)) t := fun t k => castTop (by first | rfl | (simp [entryFrame, mkF, argsToLocals, Value.category]; done)) k
  obtain ⟨T1, X1, e1, st1⟩ := getS2 X0 hx hZ hown (host := "") (Or.inl (hw _ (List.mem_of_getElem? (i := 23) rfl))) Via.refl e0 S_w_SMALLINT (g := (mkF m 13 #[.val (.int (1 : Int32))] [])) rfl (hb hby d1_13)
  obtain ⟨fs, hr, hrun, hended, hW, hsame⟩ := X1.leave (v := (some (.ref w_SMALLINT))) (fun h => by rw [Bd.returns] at h; cases h)
  refine ⟨_, _, pre0 _ ?_, hrun, hended, _, _, rfl, ⟨rfl, N0, e1⟩, ⟨_, rfl⟩, hW, hsame.mono (by decide) (by decide)⟩
  show Steps p.tables e below (s₁.setTop (mkF m 0 #[.val (.int (1 : Int32))] [])) _
  refine XS.iloadN X0.here hx rfl (hb hby d1_0) rfl ?_
  show Steps p.tables e below (s₁.setTop (mkF m 1 #[.val (.int (1 : Int32))] [(.int (1 : Int32))])) _
  refine XS.ifYes X0.here hx rfl (pc0 := 1) (pc' := 8) rfl (hb hby d1_1) rfl ((if0 _ _).trans (feq (by decide : ¬ ((1 : Int32) = (0 : Int32)))).2) (by decide) (by decide) ?_
  show Steps p.tables e below (s₁.setTop (mkF m 8 #[.val (.int (1 : Int32))] [])) _
  refine XS.iloadN X0.here hx rfl (hb hby d1_8) rfl ?_
  show Steps p.tables e below (s₁.setTop (mkF m 9 #[.val (.int (1 : Int32))] [(.int (1 : Int32))])) _
  refine XS.iconst X0.here hx rfl (hb hby d1_9) ?_
  show Steps p.tables e below (s₁.setTop (mkF m 10 #[.val (.int (1 : Int32))] [(.int (1 : Int32)), (.int (1 : Int32))])) _
  refine XS.icmpNo X0.here hx rfl (hb hby d1_10) rfl (teq (by decide : (1 : Int32) = (1 : Int32))).2 ?_
  show Steps p.tables e below (s₁.setTop (mkF m 13 #[.val (.int (1 : Int32))] [])) _
  refine st1 _ ?_
  show Steps p.tables e below (T1.setTop (mkF m 16 #[.val (.int (1 : Int32))] [(.ref w_SMALLINT)])) _
  exact retOut X1 hx (t := (.object "com/example/oyster/oyster/jdbc/JdbcType")) (i := .areturn) Bd.returns rfl (Or.inr (Or.inr (Or.inr (Or.inr ⟨rfl, rfl, rfl⟩)))) (hb hby d1_16) hr
set_option maxRecDepth 65536 in
set_option maxHeartbeats 40000000 in
theorem rm2_1 (l : Launch) (Z : State) (a0 : Array Value) (hw : ∀ d ∈ tables_1, d.before a0 Z = true) (ws : List Jvm.Cond) (w_INT w_VARCHAR w_DECIMAL w_SMALLINT w_NULL w_BOOLEAN w_BIGINT : Addr) (h0 : Heap) (n0 : Nat) (Z0 : n0 ≤ h0.size) (S : SF Z h0 w_INT w_VARCHAR w_DECIMAL w_SMALLINT w_NULL w_BOOLEAN w_BIGINT) (p1 : Int32) :
    Pay l Z (⟨"com/example/oyster/oyster/jdbc/JdbcType", "precision", "(I)I"⟩ : MethodName) ws prog_121_method_10_code 3 (some .int) #[(.ref w_SMALLINT), (.int p1)] h0 n0 ({ frames := 0, cells := 0, slots := 0, locals := 0 } : Room) (some (.int (5 : Int32))) := by
  obtain ⟨S_w_INT, E_w_INT, S_w_VARCHAR, E_w_VARCHAR, S_w_DECIMAL, E_w_DECIMAL, S_w_SMALLINT, E_w_SMALLINT, S_w_NULL, E_w_NULL, S_w_BOOLEAN, E_w_BOOLEAN, S_w_BIGINT, E_w_BIGINT, F_precision_w_INT, F_ordinal_w_INT, F_ordinal_w_VARCHAR, F_ordinal_w_DECIMAL, F_precision_w_DECIMAL, F_precision_w_SMALLINT, F_ordinal_w_SMALLINT, F_precision_w_VARCHAR, F_precision_w_NULL, F_ordinal_w_NULL, F_precision_w_BOOLEAN, F_ordinal_w_BOOLEAN, F_precision_w_BIGINT, F_ordinal_w_BIGINT, hne_w_INT_w_VARCHAR, hne_w_INT_w_DECIMAL, hne_w_INT_w_SMALLINT, hne_w_INT_w_NULL, hne_w_INT_w_BOOLEAN, hne_w_INT_w_BIGINT, hne_w_VARCHAR_w_DECIMAL, hne_w_VARCHAR_w_SMALLINT, hne_w_VARCHAR_w_NULL, hne_w_VARCHAR_w_BOOLEAN, hne_w_VARCHAR_w_BIGINT, hne_w_DECIMAL_w_SMALLINT, hne_w_DECIMAL_w_NULL, hne_w_DECIMAL_w_BOOLEAN, hne_w_DECIMAL_w_BIGINT, hne_w_SMALLINT_w_NULL, hne_w_SMALLINT_w_BOOLEAN, hne_w_SMALLINT_w_BIGINT, hne_w_NULL_w_BOOLEAN, hne_w_NULL_w_BIGINT, hne_w_BOOLEAN_w_BIGINT⟩ := id S
  refine MetFree.of_bodySF (plainFor_of_name pn_1) hisR ?_
  intro p e s m args below meth c s₁ Bd hml0 hP hK
  obtain ⟨rfl, hZ, hh⟩ := hP
  have hx := Bd.exec
  have hby := Bd.bytes
  have hml : c.maxLocals = 3 := hml0
  have hown : s.vm.findClass "com/example/oyster/oyster/jdbc/JdbcType" = some m.cls := findClass_of_methodNamed Bd.named
  have X0 : Stand p l e ({ frames := 0, cells := 0, slots := 0, locals := 0 } : Room) s m #[(.ref w_SMALLINT), (.int p1)] below meth c s₁ [] 0 0 := Stand.of_body Bd
  have e0 : s₁.heap = h0 := by rw [← hh, Bd.state]; rfl
  have N0 := Fr.nil n0
  have pre0 : ∀ t, Steps p.tables e below (s₁.setTop (mkF m 0 #[.val (.ref w_SMALLINT), .val (.int p1), .unset] [])) t → Steps p.tables e below (s₁.setTop (entryFrame m #[(.ref w_SMALLINT), (.int p1)] 3)) t := fun t k => castTop (by first | rfl | (simp [entryFrame, mkF, argsToLocals, Value.category]; done)) k
  obtain ⟨T1, X1, e1, st1⟩ := getF X0 hx hZ hown (host := "") (Or.inl (hw _ (List.mem_of_getElem? (i := 13) rfl))) Via.refl e0 F_precision_w_SMALLINT (g := (mkF m 1 #[.val (.ref w_SMALLINT), .val (.int p1), .unset] [(.ref w_SMALLINT)])) rfl rfl (hb hby d2_1)
  obtain ⟨T2, X2, e2, st2⟩ := getS2 X1 hx hZ hown (host := "") (Or.inl (hw _ (List.mem_of_getElem? (i := 15) rfl))) Via.refl e1 S_w_VARCHAR (g := (mkF m 6 #[.val (.ref w_SMALLINT), .val (.int p1), .val (.int (5 : Int32))] [(.ref w_SMALLINT)])) rfl (hb hby d2_6)
  obtain ⟨T3, X3, e3, st3⟩ := getS2 X2 hx hZ hown (host := "") (Or.inl (hw _ (List.mem_of_getElem? (i := 17) rfl))) Via.refl e2 S_w_DECIMAL (g := (mkF m 27 #[.val (.ref w_SMALLINT), .val (.int p1), .val (.int (5 : Int32))] [(.ref w_SMALLINT)])) rfl (hb hby d2_27)
  obtain ⟨fs, hr, hrun, hended, hW, hsame⟩ := X3.leave (v := (some (.int (5 : Int32)))) (fun h => by rw [Bd.returns] at h; cases h)
  refine ⟨_, _, pre0 _ ?_, hrun, hended, _, _, rfl, ⟨rfl, N0, e3⟩, ⟨_, rfl⟩, hW, hsame.mono (by decide) (by decide)⟩
  show Steps p.tables e below (s₁.setTop (mkF m 0 #[.val (.ref w_SMALLINT), .val (.int p1), .unset] [])) _
  refine XS.aloadN X0.here hx rfl (hb hby d2_0) rfl rfl ?_
  show Steps p.tables e below (s₁.setTop (mkF m 1 #[.val (.ref w_SMALLINT), .val (.int p1), .unset] [(.ref w_SMALLINT)])) _
  refine st1 _ ?_
  show Steps p.tables e below (T1.setTop (mkF m 4 #[.val (.ref w_SMALLINT), .val (.int p1), .unset] [(.int (5 : Int32))])) _
  refine XS.istoreN X1.here hx rfl (hb hby d2_4) rfl (l' := #[.val (.ref w_SMALLINT), .val (.int p1), .val (.int (5 : Int32))]) rfl ?_
  show Steps p.tables e below (T1.setTop (mkF m 5 #[.val (.ref w_SMALLINT), .val (.int p1), .val (.int (5 : Int32))] [])) _
  refine XS.aloadN X1.here hx rfl (hb hby d2_5) rfl rfl ?_
  show Steps p.tables e below (T1.setTop (mkF m 6 #[.val (.ref w_SMALLINT), .val (.int p1), .val (.int (5 : Int32))] [(.ref w_SMALLINT)])) _
  refine st2 _ ?_
  show Steps p.tables e below (T2.setTop (mkF m 9 #[.val (.ref w_SMALLINT), .val (.int p1), .val (.int (5 : Int32))] [(.ref w_VARCHAR), (.ref w_SMALLINT)])) _
  refine Jvm.RoadKit.acmp (g := (mkF m 9 #[.val (.ref w_SMALLINT), .val (.int p1), .val (.int (5 : Int32))] [(.ref w_VARCHAR), (.ref w_SMALLINT)])) X2 hx rfl rfl rfl (pc0 := 9) (pc' := 26) (same := false) rfl (hb hby d2_9) rfl (decide_eq_false fun q => hne_w_VARCHAR_w_SMALLINT (Value.ref.inj q).symm) (by decide) (by decide) ?_
  show Steps p.tables e below (T2.setTop (mkF m 26 #[.val (.ref w_SMALLINT), .val (.int p1), .val (.int (5 : Int32))] [])) _
  refine XS.aloadN X2.here hx rfl (hb hby d2_26) rfl rfl ?_
  show Steps p.tables e below (T2.setTop (mkF m 27 #[.val (.ref w_SMALLINT), .val (.int p1), .val (.int (5 : Int32))] [(.ref w_SMALLINT)])) _
  refine st3 _ ?_
  show Steps p.tables e below (T3.setTop (mkF m 30 #[.val (.ref w_SMALLINT), .val (.int p1), .val (.int (5 : Int32))] [(.ref w_DECIMAL), (.ref w_SMALLINT)])) _
  refine Jvm.RoadKit.acmp (g := (mkF m 30 #[.val (.ref w_SMALLINT), .val (.int p1), .val (.int (5 : Int32))] [(.ref w_DECIMAL), (.ref w_SMALLINT)])) X3 hx rfl rfl rfl (pc0 := 30) (pc' := 39) (same := false) rfl (hb hby d2_30) rfl (decide_eq_false fun q => hne_w_DECIMAL_w_SMALLINT (Value.ref.inj q).symm) (by decide) (by decide) ?_
  show Steps p.tables e below (T3.setTop (mkF m 39 #[.val (.ref w_SMALLINT), .val (.int p1), .val (.int (5 : Int32))] [])) _
  refine XS.iloadN X3.here hx rfl (hb hby d2_39) rfl ?_
  show Steps p.tables e below (T3.setTop (mkF m 40 #[.val (.ref w_SMALLINT), .val (.int p1), .val (.int (5 : Int32))] [(.int (5 : Int32))])) _
  exact retOut X3 hx (t := .int) (i := .ireturn) Bd.returns rfl (Or.inl ⟨rfl, Or.inl rfl, _, rfl⟩) (hb hby d2_40) hr
theorem d3_7 : decode method_4_code 7 = .ok (.iload_n 0, 1) := by decide +kernel
theorem d3_8 : decode method_4_code 8 = .ok (.iconst 1, 1) := by decide +kernel
theorem d3_9 : decode method_4_code 9 = .ok (.if_icmp .ne 5, 3) := by decide +kernel
theorem d3_12 : decode method_4_code 12 = .ok (.iconst 5, 1) := by decide +kernel
theorem d3_13 : decode method_4_code 13 = .ok (.ireturn, 1) := by decide +kernel
set_option maxRecDepth 65536 in
set_option maxHeartbeats 40000000 in
theorem rm3_1 (l : Launch) (Z : State) (a0 : Array Value) (hw : ∀ d ∈ tables_1, d.before a0 Z = true) (ws : List Jvm.Cond) (w_INT w_VARCHAR w_DECIMAL w_SMALLINT w_NULL w_BOOLEAN w_BIGINT : Addr) (h0 : Heap) (n0 : Nat) (Z0 : n0 ≤ h0.size) (S : SF Z h0 w_INT w_VARCHAR w_DECIMAL w_SMALLINT w_NULL w_BOOLEAN w_BIGINT) (p1 : Int32) :
    Pay l Z (⟨"com/example/oyster/oyster/jdbc/JdbcTypePrecisionPinLaw", "expected", "(II)I"⟩ : MethodName) ws method_4_code 2 (some .int) #[(.int (1 : Int32)), (.int p1)] h0 n0 ({ frames := 0, cells := 0, slots := 0, locals := 0 } : Room) (some (.int (5 : Int32))) := by
  obtain ⟨S_w_INT, E_w_INT, S_w_VARCHAR, E_w_VARCHAR, S_w_DECIMAL, E_w_DECIMAL, S_w_SMALLINT, E_w_SMALLINT, S_w_NULL, E_w_NULL, S_w_BOOLEAN, E_w_BOOLEAN, S_w_BIGINT, E_w_BIGINT, F_precision_w_INT, F_ordinal_w_INT, F_ordinal_w_VARCHAR, F_ordinal_w_DECIMAL, F_precision_w_DECIMAL, F_precision_w_SMALLINT, F_ordinal_w_SMALLINT, F_precision_w_VARCHAR, F_precision_w_NULL, F_ordinal_w_NULL, F_precision_w_BOOLEAN, F_ordinal_w_BOOLEAN, F_precision_w_BIGINT, F_ordinal_w_BIGINT, hne_w_INT_w_VARCHAR, hne_w_INT_w_DECIMAL, hne_w_INT_w_SMALLINT, hne_w_INT_w_NULL, hne_w_INT_w_BOOLEAN, hne_w_INT_w_BIGINT, hne_w_VARCHAR_w_DECIMAL, hne_w_VARCHAR_w_SMALLINT, hne_w_VARCHAR_w_NULL, hne_w_VARCHAR_w_BOOLEAN, hne_w_VARCHAR_w_BIGINT, hne_w_DECIMAL_w_SMALLINT, hne_w_DECIMAL_w_NULL, hne_w_DECIMAL_w_BOOLEAN, hne_w_DECIMAL_w_BIGINT, hne_w_SMALLINT_w_NULL, hne_w_SMALLINT_w_BOOLEAN, hne_w_SMALLINT_w_BIGINT, hne_w_NULL_w_BOOLEAN, hne_w_NULL_w_BIGINT, hne_w_BOOLEAN_w_BIGINT⟩ := id S
  refine MetFree.of_bodySF (plainFor_of_name pn_0) hisR ?_
  intro p e s m args below meth c s₁ Bd hml0 hP hK
  obtain ⟨rfl, hZ, hh⟩ := hP
  have hx := Bd.exec
  have hby := Bd.bytes
  have hml : c.maxLocals = 2 := hml0
  have hown : s.vm.findClass "com/example/oyster/oyster/jdbc/JdbcTypePrecisionPinLaw" = some m.cls := findClass_of_methodNamed Bd.named
  have X0 : Stand p l e ({ frames := 0, cells := 0, slots := 0, locals := 0 } : Room) s m #[(.int (1 : Int32)), (.int p1)] below meth c s₁ [] 0 0 := Stand.of_body Bd
  have e0 : s₁.heap = h0 := by rw [← hh, Bd.state]; rfl
  have N0 := Fr.nil n0
  have pre0 : ∀ t, Steps p.tables e below (s₁.setTop (mkF m 0 #[.val (.int (1 : Int32)), .val (.int p1)] [])) t → Steps p.tables e below (s₁.setTop (entryFrame m #[(.int (1 : Int32)), (.int p1)] 2)) t := fun t k => castTop (by first | rfl | (simp [entryFrame, mkF, argsToLocals, Value.category]; done)) k
  obtain ⟨fs, hr, hrun, hended, hW, hsame⟩ := X0.leave (v := (some (.int (5 : Int32)))) (fun h => by rw [Bd.returns] at h; cases h)
  refine ⟨_, _, pre0 _ ?_, hrun, hended, _, _, rfl, ⟨rfl, N0, e0⟩, ⟨_, rfl⟩, hW, hsame.mono (by decide) (by decide)⟩
  show Steps p.tables e below (s₁.setTop (mkF m 0 #[.val (.int (1 : Int32)), .val (.int p1)] [])) _
  refine XS.iloadN X0.here hx rfl (hb hby d3_0) rfl ?_
  show Steps p.tables e below (s₁.setTop (mkF m 1 #[.val (.int (1 : Int32)), .val (.int p1)] [(.int (1 : Int32))])) _
  refine XS.ifYes X0.here hx rfl (pc0 := 1) (pc' := 7) rfl (hb hby d3_1) rfl ((if0 _ _).trans (feq (by decide : ¬ ((1 : Int32) = (0 : Int32)))).2) (by decide) (by decide) ?_
  show Steps p.tables e below (s₁.setTop (mkF m 7 #[.val (.int (1 : Int32)), .val (.int p1)] [])) _
  refine XS.iloadN X0.here hx rfl (hb hby d3_7) rfl ?_
  show Steps p.tables e below (s₁.setTop (mkF m 8 #[.val (.int (1 : Int32)), .val (.int p1)] [(.int (1 : Int32))])) _
  refine XS.iconst X0.here hx rfl (hb hby d3_8) ?_
  show Steps p.tables e below (s₁.setTop (mkF m 9 #[.val (.int (1 : Int32)), .val (.int p1)] [(.int (1 : Int32)), (.int (1 : Int32))])) _
  refine XS.icmpNo X0.here hx rfl (hb hby d3_9) rfl (teq (by decide : (1 : Int32) = (1 : Int32))).2 ?_
  show Steps p.tables e below (s₁.setTop (mkF m 12 #[.val (.int (1 : Int32)), .val (.int p1)] [])) _
  refine XS.iconst X0.here hx rfl (hb hby d3_12) ?_
  show Steps p.tables e below (s₁.setTop (mkF m 13 #[.val (.int (1 : Int32)), .val (.int p1)] [(.int (5 : Int32))])) _
  exact retOut X0 hx (t := .int) (i := .ireturn) Bd.returns rfl (Or.inl ⟨rfl, Or.inl rfl, _, rfl⟩) (hb hby d3_13) hr
set_option maxRecDepth 65536 in
set_option maxHeartbeats 40000000 in
theorem rm0_1 (l : Launch) (Z : State) (a0 : Array Value) (hw : ∀ d ∈ tables_1, d.before a0 Z = true) (ws : List Jvm.Cond) (w_INT w_VARCHAR w_DECIMAL w_SMALLINT w_NULL w_BOOLEAN w_BIGINT : Addr) (h0 : Heap) (n0 : Nat) (Z0 : n0 ≤ h0.size) (S : SF Z h0 w_INT w_VARCHAR w_DECIMAL w_SMALLINT w_NULL w_BOOLEAN w_BIGINT) (p0 : Int32) (p1 : Int32) (hk : ((p0 &&& (2147483647 : Int32)) % (7 : Int32)) = (1 : Int32)) :
    Pay l Z x ws code maxLocals ret #[(.int p0), (.int p1)] h0 n0 room_1 (some (.int (1 : Int32))) := by
  obtain ⟨S_w_INT, E_w_INT, S_w_VARCHAR, E_w_VARCHAR, S_w_DECIMAL, E_w_DECIMAL, S_w_SMALLINT, E_w_SMALLINT, S_w_NULL, E_w_NULL, S_w_BOOLEAN, E_w_BOOLEAN, S_w_BIGINT, E_w_BIGINT, F_precision_w_INT, F_ordinal_w_INT, F_ordinal_w_VARCHAR, F_ordinal_w_DECIMAL, F_precision_w_DECIMAL, F_precision_w_SMALLINT, F_ordinal_w_SMALLINT, F_precision_w_VARCHAR, F_precision_w_NULL, F_ordinal_w_NULL, F_precision_w_BOOLEAN, F_ordinal_w_BOOLEAN, F_precision_w_BIGINT, F_ordinal_w_BIGINT, hne_w_INT_w_VARCHAR, hne_w_INT_w_DECIMAL, hne_w_INT_w_SMALLINT, hne_w_INT_w_NULL, hne_w_INT_w_BOOLEAN, hne_w_INT_w_BIGINT, hne_w_VARCHAR_w_DECIMAL, hne_w_VARCHAR_w_SMALLINT, hne_w_VARCHAR_w_NULL, hne_w_VARCHAR_w_BOOLEAN, hne_w_VARCHAR_w_BIGINT, hne_w_DECIMAL_w_SMALLINT, hne_w_DECIMAL_w_NULL, hne_w_DECIMAL_w_BOOLEAN, hne_w_DECIMAL_w_BIGINT, hne_w_SMALLINT_w_NULL, hne_w_SMALLINT_w_BOOLEAN, hne_w_SMALLINT_w_BIGINT, hne_w_NULL_w_BOOLEAN, hne_w_NULL_w_BIGINT, hne_w_BOOLEAN_w_BIGINT⟩ := id S
  refine MetFree.of_bodySF (plainFor_of_name pn_0) hisR ?_
  intro p e s m args below meth c s₁ Bd hml0 hP hK
  obtain ⟨rfl, hZ, hh⟩ := hP
  have hx := Bd.exec
  have hby := Bd.bytes
  have hml : c.maxLocals = 5 := hml0
  have hown : s.vm.findClass "com/example/oyster/oyster/jdbc/JdbcTypePrecisionPinLaw" = some m.cls := findClass_of_methodNamed Bd.named
  have X0 : Stand p l e room_1 s m #[(.int p0), (.int p1)] below meth c s₁ [] 0 0 := Stand.of_body Bd
  have e0 : s₁.heap = h0 := by rw [← hh, Bd.state]; rfl
  have N0 := Fr.nil n0
  have pre0 : ∀ t, Steps p.tables e below (s₁.setTop (mkF m 0 #[.val (.int p0), .val (.int p1), .unset, .unset, .unset] [])) t → Steps p.tables e below (s₁.setTop (entryFrame m #[(.int p0), (.int p1)] maxLocals)) t := fun t k => castTop (by first | rfl | (simp [entryFrame, mkF, argsToLocals, Value.category, maxLocals]; done)) k
  obtain ⟨_, _, ⟨T1, L1, k1, n1⟩, -, X1, ⟨Lc1, hQ1, l1, y1, z1⟩, st1⟩ := Jvm.LawKit.callS X0 hx (y := (⟨"com/example/oyster/oyster/jdbc/JdbcTypePrecisionPinLaw", "pick", "(I)Lcom/example/oyster/oyster/jdbc/JdbcType;"⟩ : MethodName)) hown (mvT hZ (hw _ (List.mem_of_getElem? (i := 1) rfl))) (mvT hZ (hw _ (List.mem_of_getElem? (i := 2) rfl))) (mvT hZ (hw _ (List.mem_of_getElem? (i := 3) rfl))) (mvT hZ (hw _ (List.mem_of_getElem? (i := 4) rfl))) (by decide) (backOf (W := 0) (rm1_1 l Z a0 hw [] w_INT w_VARCHAR w_DECIMAL w_SMALLINT w_NULL w_BOOLEAN w_BIGINT h0 n0 Z0 S) hZ (hw _ (List.mem_of_getElem? (i := 4) rfl)) (hw _ (List.mem_of_getElem? (i := 3) rfl)) (by decide) (by decide)) (g := (mkF m 9 #[.val (.int p0), .val (.int p1), .val (.int (1 : Int32)), .unset, .unset] [(.int (1 : Int32))])) rfl (by rw [hml]; rfl) (argsL := [(.int (1 : Int32))]) (rest := []) (lenOf pd_0 rfl) rfl (by show 2 * 0 + _ ≤ _; exact Nat.le_of_eq rfl) (hb hby at_9) (fun _ _ => ⟨rfl, e0, (by decide : 0 + 0 ≤ _), (by decide : 0 + 0 ≤ _)⟩)
  dsimp only [Pt.U, Pt.locs, Pt.cells, Pt.slots] at X1 l1 y1 z1 st1 hQ1
  subst l1 y1 z1
  obtain ⟨rfl, Nq1, e1⟩ := hQ1
  have N1 := Fr.app N0 Nq1
  obtain ⟨cq2, kq2, q2a, q2b, q2c⟩ := isOf hZ e1 E_w_SMALLINT
  obtain ⟨_, _, ⟨T2, L2, k2, n2⟩, -, X2, ⟨Lc2, hQ2, l2, y2, z2⟩, st2⟩ := X1.virtualBack hx (y := (⟨"com/example/oyster/oyster/jdbc/JdbcType", "precision", "(I)I"⟩ : MethodName)) (z := (⟨"com/example/oyster/oyster/jdbc/JdbcType", "precision", "(I)I"⟩ : MethodName)) hown (mvT hZ (hw _ (List.mem_of_getElem? (i := 8) rfl))) (mvT hZ (hw _ (List.mem_of_getElem? (i := 9) rfl))) (notFace_of_selects (args := #[]) (mvT hZ (hw _ (List.mem_of_getElem? (i := 11) rfl)))) (mvT hZ (hw _ (List.mem_of_getElem? (i := 11) rfl))) (mvT hZ (hw _ (List.mem_of_getElem? (i := 10) rfl))) (by decide) (backOf (W := 0) (rm2_1 l Z a0 hw [] w_INT w_VARCHAR w_DECIMAL w_SMALLINT w_NULL w_BOOLEAN w_BIGINT h0 n0 Z0 S p1) hZ (hw _ (List.mem_of_getElem? (i := 12) rfl)) (hw _ (List.mem_of_getElem? (i := 6) rfl)) (by decide) (by decide)) q2a q2c (g := (mkF m 15 #[.val (.int p0), .val (.int p1), .val (.int (1 : Int32)), .val (.ref w_SMALLINT), .unset] [(.int p1), (.ref w_SMALLINT)])) rfl (by rw [hml]; rfl) (Steps.refl _) (argsL := [(.int p1)]) (rest := []) (lenOf pd_1 rfl) rfl (by show 2 * 0 + _ ≤ _; exact Nat.le_of_eq rfl) (hb hby at_15) (fun _ _ => ⟨rfl, e1, (by decide : 0 + 0 ≤ _), (by decide : 0 + 0 ≤ _)⟩)
  dsimp only [Pt.U, Pt.locs, Pt.cells, Pt.slots] at X2 l2 y2 z2 st2 hQ2
  subst l2 y2 z2
  obtain ⟨rfl, Nq2, e2⟩ := hQ2
  have N2 := Fr.app N1 Nq2
  obtain ⟨_, _, ⟨T3, L3, k3, n3⟩, -, X3, ⟨Lc3, hQ3, l3, y3, z3⟩, st3⟩ := Jvm.LawKit.callS X2 hx (y := (⟨"com/example/oyster/oyster/jdbc/JdbcTypePrecisionPinLaw", "expected", "(II)I"⟩ : MethodName)) hown (mvT hZ (hw _ (List.mem_of_getElem? (i := 19) rfl))) (mvT hZ (hw _ (List.mem_of_getElem? (i := 20) rfl))) (mvT hZ (hw _ (List.mem_of_getElem? (i := 3) rfl))) (mvT hZ (hw _ (List.mem_of_getElem? (i := 21) rfl))) (by decide) (backOf (W := 1) (rm3_1 l Z a0 hw [] w_INT w_VARCHAR w_DECIMAL w_SMALLINT w_NULL w_BOOLEAN w_BIGINT h0 n0 Z0 S p1) hZ (hw _ (List.mem_of_getElem? (i := 21) rfl)) (hw _ (List.mem_of_getElem? (i := 3) rfl)) (by decide) (by decide)) (g := (mkF m 24 #[.val (.int p0), .val (.int p1), .val (.int (1 : Int32)), .val (.ref w_SMALLINT), .val (.int (5 : Int32))] [(.int p1), (.int (1 : Int32)), (.int (5 : Int32))])) rfl (by rw [hml]; rfl) (argsL := [(.int (1 : Int32)), (.int p1)]) (rest := [(.int (5 : Int32))]) (lenOf pd_2 rfl) rfl (by show 2 * 0 + _ ≤ _; exact Nat.le_of_eq rfl) (hb hby at_24) (fun _ _ => ⟨rfl, e2, (by decide : 0 + 0 ≤ _), (by decide : 0 + 0 ≤ _)⟩)
  dsimp only [Pt.U, Pt.locs, Pt.cells, Pt.slots] at X3 l3 y3 z3 st3 hQ3
  subst l3 y3 z3
  obtain ⟨rfl, Nq3, e3⟩ := hQ3
  have N3 := Fr.app N2 Nq3
  obtain ⟨fs, hr, hrun, hended, hW, hsame⟩ := X3.leave (v := (some (.int (1 : Int32)))) (fun h => by rw [Bd.returns] at h; cases h)
  refine ⟨_, _, pre0 _ ?_, hrun, hended, _, _, rfl, ⟨rfl, N3, e3⟩, ⟨_, rfl⟩, hW, hsame.mono (by decide) (by decide)⟩
  show Steps p.tables e below (s₁.setTop (mkF m 0 #[.val (.int p0), .val (.int p1), .unset, .unset, .unset] [])) _
  refine XS.iloadN X0.here hx rfl (hb hby at_0) rfl ?_
  show Steps p.tables e below (s₁.setTop (mkF m 1 #[.val (.int p0), .val (.int p1), .unset, .unset, .unset] [(.int p0)])) _
  refine X0.ldcInt hx hown (mvT hZ (hw _ (List.mem_of_getElem? (i := 0) rfl))) (g := (mkF m 1 #[.val (.int p0), .val (.int p1), .unset, .unset, .unset] [(.int p0)])) rfl (hb hby at_1) _ ?_
  show Steps p.tables e below (s₁.setTop (mkF m 3 #[.val (.int p0), .val (.int p1), .unset, .unset, .unset] [(.int (2147483647 : Int32)), (.int p0)])) _
  refine XS.iand X0.here hx rfl (hb hby at_3) rfl ?_
  show Steps p.tables e below (s₁.setTop (mkF m 4 #[.val (.int p0), .val (.int p1), .unset, .unset, .unset] [(.int (p0 &&& (2147483647 : Int32)))])) _
  show Steps p.tables e below (s₁.setTop (mkF m 4 #[.val (.int p0), .val (.int p1), .unset, .unset, .unset] [(.int (p0 &&& (2147483647 : Int32)))])) _
  refine XS.bipush X0.here hx rfl (hb hby at_4) ?_
  show Steps p.tables e below (s₁.setTop (mkF m 6 #[.val (.int p0), .val (.int p1), .unset, .unset, .unset] [(.int (7 : Int32)), (.int (p0 &&& (2147483647 : Int32)))])) _
  refine iremM X0 hx rfl (hb hby at_6) rfl (by decide) ?_
  show Steps p.tables e below (s₁.setTop (mkF m 7 #[.val (.int p0), .val (.int p1), .unset, .unset, .unset] [(.int ((p0 &&& (2147483647 : Int32)) % (7 : Int32)))])) _
  rw [hk]
  show Steps p.tables e below (s₁.setTop (mkF m 7 #[.val (.int p0), .val (.int p1), .unset, .unset, .unset] [(.int (1 : Int32))])) _
  refine XS.istoreN X0.here hx rfl (hb hby at_7) rfl (l' := #[.val (.int p0), .val (.int p1), .val (.int (1 : Int32)), .unset, .unset]) rfl ?_
  show Steps p.tables e below (s₁.setTop (mkF m 8 #[.val (.int p0), .val (.int p1), .val (.int (1 : Int32)), .unset, .unset] [])) _
  refine XS.iloadN X0.here hx rfl (hb hby at_8) rfl ?_
  show Steps p.tables e below (s₁.setTop (mkF m 9 #[.val (.int p0), .val (.int p1), .val (.int (1 : Int32)), .unset, .unset] [(.int (1 : Int32))])) _
  refine st1 _ ?_
  show Steps p.tables e below (T1.setTop (mkF m 12 #[.val (.int p0), .val (.int p1), .val (.int (1 : Int32)), .unset, .unset] [(.ref w_SMALLINT)])) _
  refine XS.astoreN X1.here hx rfl (hb hby at_12) rfl rfl (l' := #[.val (.int p0), .val (.int p1), .val (.int (1 : Int32)), .val (.ref w_SMALLINT), .unset]) rfl ?_
  show Steps p.tables e below (T1.setTop (mkF m 13 #[.val (.int p0), .val (.int p1), .val (.int (1 : Int32)), .val (.ref w_SMALLINT), .unset] [])) _
  refine XS.aloadN X1.here hx rfl (hb hby at_13) rfl rfl ?_
  show Steps p.tables e below (T1.setTop (mkF m 14 #[.val (.int p0), .val (.int p1), .val (.int (1 : Int32)), .val (.ref w_SMALLINT), .unset] [(.ref w_SMALLINT)])) _
  refine XS.iloadN X1.here hx rfl (hb hby at_14) rfl ?_
  show Steps p.tables e below (T1.setTop (mkF m 15 #[.val (.int p0), .val (.int p1), .val (.int (1 : Int32)), .val (.ref w_SMALLINT), .unset] [(.int p1), (.ref w_SMALLINT)])) _
  refine st2.trans ?_
  show Steps p.tables e below (T2.setTop (mkF m 18 #[.val (.int p0), .val (.int p1), .val (.int (1 : Int32)), .val (.ref w_SMALLINT), .unset] [(.int (5 : Int32))])) _
  refine XS.istore X2.here hx rfl (hb hby at_18) rfl (l' := #[.val (.int p0), .val (.int p1), .val (.int (1 : Int32)), .val (.ref w_SMALLINT), .val (.int (5 : Int32))]) rfl ?_
  show Steps p.tables e below (T2.setTop (mkF m 20 #[.val (.int p0), .val (.int p1), .val (.int (1 : Int32)), .val (.ref w_SMALLINT), .val (.int (5 : Int32))] [])) _
  refine XS.iload X2.here hx rfl (hb hby at_20) rfl ?_
  show Steps p.tables e below (T2.setTop (mkF m 22 #[.val (.int p0), .val (.int p1), .val (.int (1 : Int32)), .val (.ref w_SMALLINT), .val (.int (5 : Int32))] [(.int (5 : Int32))])) _
  refine XS.iloadN X2.here hx rfl (hb hby at_22) rfl ?_
  show Steps p.tables e below (T2.setTop (mkF m 23 #[.val (.int p0), .val (.int p1), .val (.int (1 : Int32)), .val (.ref w_SMALLINT), .val (.int (5 : Int32))] [(.int (1 : Int32)), (.int (5 : Int32))])) _
  refine XS.iloadN X2.here hx rfl (hb hby at_23) rfl ?_
  show Steps p.tables e below (T2.setTop (mkF m 24 #[.val (.int p0), .val (.int p1), .val (.int (1 : Int32)), .val (.ref w_SMALLINT), .val (.int (5 : Int32))] [(.int p1), (.int (1 : Int32)), (.int (5 : Int32))])) _
  refine st3 _ ?_
  show Steps p.tables e below (T3.setTop (mkF m 27 #[.val (.int p0), .val (.int p1), .val (.int (1 : Int32)), .val (.ref w_SMALLINT), .val (.int (5 : Int32))] [(.int (5 : Int32)), (.int (5 : Int32))])) _
  refine XS.icmpNo X3.here hx rfl (hb hby at_27) rfl (teq (by decide : (5 : Int32) = (5 : Int32))).2 ?_
  show Steps p.tables e below (T3.setTop (mkF m 30 #[.val (.int p0), .val (.int p1), .val (.int (1 : Int32)), .val (.ref w_SMALLINT), .val (.int (5 : Int32))] [])) _
  refine XS.iconst X3.here hx rfl (hb hby at_30) ?_
  show Steps p.tables e below (T3.setTop (mkF m 31 #[.val (.int p0), .val (.int p1), .val (.int (1 : Int32)), .val (.ref w_SMALLINT), .val (.int (5 : Int32))] [(.int (1 : Int32))])) _
  refine XS.goto X3.here hx rfl (pc0 := 31) (pc' := 35) rfl (hb hby at_31) (by decide) (by decide) ?_
  show Steps p.tables e below (T3.setTop (mkF m 35 #[.val (.int p0), .val (.int p1), .val (.int (1 : Int32)), .val (.ref w_SMALLINT), .val (.int (5 : Int32))] [(.int (1 : Int32))])) _
  exact retN X3 hx (t := .boolean) Bd.returns (by simp) (hb hby at_35) hr
theorem d1_17 : decode method_3_code 17 = .ok (.iload_n 0, 1) := by decide +kernel
theorem d1_18 : decode method_3_code 18 = .ok (.iconst 2, 1) := by decide +kernel
theorem d1_19 : decode method_3_code 19 = .ok (.if_icmp .ne 7, 3) := by decide +kernel
theorem d1_22 : decode method_3_code 22 = .ok (.getstatic 31, 3) := by decide +kernel
theorem d1_25 : decode method_3_code 25 = .ok (.areturn, 1) := by decide +kernel
set_option maxRecDepth 65536 in
set_option maxHeartbeats 40000000 in
theorem rm1_2 (l : Launch) (Z : State) (a0 : Array Value) (hw : ∀ d ∈ tables_1, d.before a0 Z = true) (ws : List Jvm.Cond) (w_INT w_VARCHAR w_DECIMAL w_SMALLINT w_NULL w_BOOLEAN w_BIGINT : Addr) (h0 : Heap) (n0 : Nat) (Z0 : n0 ≤ h0.size) (S : SF Z h0 w_INT w_VARCHAR w_DECIMAL w_SMALLINT w_NULL w_BOOLEAN w_BIGINT) :
    Pay l Z (⟨"com/example/oyster/oyster/jdbc/JdbcTypePrecisionPinLaw", "pick", "(I)Lcom/example/oyster/oyster/jdbc/JdbcType;"⟩ : MethodName) ws method_3_code 1 (some (.object "com/example/oyster/oyster/jdbc/JdbcType")) #[(.int (2 : Int32))] h0 n0 ({ frames := 0, cells := 0, slots := 0, locals := 0 } : Room) (some (.ref w_BIGINT)) := by
  obtain ⟨S_w_INT, E_w_INT, S_w_VARCHAR, E_w_VARCHAR, S_w_DECIMAL, E_w_DECIMAL, S_w_SMALLINT, E_w_SMALLINT, S_w_NULL, E_w_NULL, S_w_BOOLEAN, E_w_BOOLEAN, S_w_BIGINT, E_w_BIGINT, F_precision_w_INT, F_ordinal_w_INT, F_ordinal_w_VARCHAR, F_ordinal_w_DECIMAL, F_precision_w_DECIMAL, F_precision_w_SMALLINT, F_ordinal_w_SMALLINT, F_precision_w_VARCHAR, F_precision_w_NULL, F_ordinal_w_NULL, F_precision_w_BOOLEAN, F_ordinal_w_BOOLEAN, F_precision_w_BIGINT, F_ordinal_w_BIGINT, hne_w_INT_w_VARCHAR, hne_w_INT_w_DECIMAL, hne_w_INT_w_SMALLINT, hne_w_INT_w_NULL, hne_w_INT_w_BOOLEAN, hne_w_INT_w_BIGINT, hne_w_VARCHAR_w_DECIMAL, hne_w_VARCHAR_w_SMALLINT, hne_w_VARCHAR_w_NULL, hne_w_VARCHAR_w_BOOLEAN, hne_w_VARCHAR_w_BIGINT, hne_w_DECIMAL_w_SMALLINT, hne_w_DECIMAL_w_NULL, hne_w_DECIMAL_w_BOOLEAN, hne_w_DECIMAL_w_BIGINT, hne_w_SMALLINT_w_NULL, hne_w_SMALLINT_w_BOOLEAN, hne_w_SMALLINT_w_BIGINT, hne_w_NULL_w_BOOLEAN, hne_w_NULL_w_BIGINT, hne_w_BOOLEAN_w_BIGINT⟩ := id S
  refine MetFree.of_bodySF (plainFor_of_name pn_0) hisR ?_
  intro p e s m args below meth c s₁ Bd hml0 hP hK
  obtain ⟨rfl, hZ, hh⟩ := hP
  have hx := Bd.exec
  have hby := Bd.bytes
  have hml : c.maxLocals = 1 := hml0
  have hown : s.vm.findClass "com/example/oyster/oyster/jdbc/JdbcTypePrecisionPinLaw" = some m.cls := findClass_of_methodNamed Bd.named
  have X0 : Stand p l e ({ frames := 0, cells := 0, slots := 0, locals := 0 } : Room) s m #[(.int (2 : Int32))] below meth c s₁ [] 0 0 := Stand.of_body Bd
  have e0 : s₁.heap = h0 := by rw [← hh, Bd.state]; rfl
  have N0 := Fr.nil n0
  have pre0 : ∀ t, Steps p.tables e below (s₁.setTop (mkF m 0 #[.val (.int (2 : Int32))] [])) t → Steps p.tables e below (s₁.setTop (entryFrame m #[(.int (2 : Int32))] 1)) t := fun t k => castTop (by first | rfl | (simp [entryFrame, mkF, argsToLocals, Value.category]; done)) k
  obtain ⟨T1, X1, e1, st1⟩ := getS2 X0 hx hZ hown (host := "") (Or.inl (hw _ (List.mem_of_getElem? (i := 31) rfl))) Via.refl e0 S_w_BIGINT (g := (mkF m 22 #[.val (.int (2 : Int32))] [])) rfl (hb hby d1_22)
  obtain ⟨fs, hr, hrun, hended, hW, hsame⟩ := X1.leave (v := (some (.ref w_BIGINT))) (fun h => by rw [Bd.returns] at h; cases h)
  refine ⟨_, _, pre0 _ ?_, hrun, hended, _, _, rfl, ⟨rfl, N0, e1⟩, ⟨_, rfl⟩, hW, hsame.mono (by decide) (by decide)⟩
  show Steps p.tables e below (s₁.setTop (mkF m 0 #[.val (.int (2 : Int32))] [])) _
  refine XS.iloadN X0.here hx rfl (hb hby d1_0) rfl ?_
  show Steps p.tables e below (s₁.setTop (mkF m 1 #[.val (.int (2 : Int32))] [(.int (2 : Int32))])) _
  refine XS.ifYes X0.here hx rfl (pc0 := 1) (pc' := 8) rfl (hb hby d1_1) rfl ((if0 _ _).trans (feq (by decide : ¬ ((2 : Int32) = (0 : Int32)))).2) (by decide) (by decide) ?_
  show Steps p.tables e below (s₁.setTop (mkF m 8 #[.val (.int (2 : Int32))] [])) _
  refine XS.iloadN X0.here hx rfl (hb hby d1_8) rfl ?_
  show Steps p.tables e below (s₁.setTop (mkF m 9 #[.val (.int (2 : Int32))] [(.int (2 : Int32))])) _
  refine XS.iconst X0.here hx rfl (hb hby d1_9) ?_
  show Steps p.tables e below (s₁.setTop (mkF m 10 #[.val (.int (2 : Int32))] [(.int (1 : Int32)), (.int (2 : Int32))])) _
  refine XS.icmpYes X0.here hx rfl (pc0 := 10) (pc' := 17) rfl (hb hby d1_10) rfl (feq (by decide : ¬ ((2 : Int32) = (1 : Int32)))).2 (by decide) (by decide) ?_
  show Steps p.tables e below (s₁.setTop (mkF m 17 #[.val (.int (2 : Int32))] [])) _
  refine XS.iloadN X0.here hx rfl (hb hby d1_17) rfl ?_
  show Steps p.tables e below (s₁.setTop (mkF m 18 #[.val (.int (2 : Int32))] [(.int (2 : Int32))])) _
  refine XS.iconst X0.here hx rfl (hb hby d1_18) ?_
  show Steps p.tables e below (s₁.setTop (mkF m 19 #[.val (.int (2 : Int32))] [(.int (2 : Int32)), (.int (2 : Int32))])) _
  refine XS.icmpNo X0.here hx rfl (hb hby d1_19) rfl (teq (by decide : (2 : Int32) = (2 : Int32))).2 ?_
  show Steps p.tables e below (s₁.setTop (mkF m 22 #[.val (.int (2 : Int32))] [])) _
  refine st1 _ ?_
  show Steps p.tables e below (T1.setTop (mkF m 25 #[.val (.int (2 : Int32))] [(.ref w_BIGINT)])) _
  exact retOut X1 hx (t := (.object "com/example/oyster/oyster/jdbc/JdbcType")) (i := .areturn) Bd.returns rfl (Or.inr (Or.inr (Or.inr (Or.inr ⟨rfl, rfl, rfl⟩)))) (hb hby d1_25) hr
set_option maxRecDepth 65536 in
set_option maxHeartbeats 40000000 in
theorem rm2_2 (l : Launch) (Z : State) (a0 : Array Value) (hw : ∀ d ∈ tables_1, d.before a0 Z = true) (ws : List Jvm.Cond) (w_INT w_VARCHAR w_DECIMAL w_SMALLINT w_NULL w_BOOLEAN w_BIGINT : Addr) (h0 : Heap) (n0 : Nat) (Z0 : n0 ≤ h0.size) (S : SF Z h0 w_INT w_VARCHAR w_DECIMAL w_SMALLINT w_NULL w_BOOLEAN w_BIGINT) (p1 : Int32) :
    Pay l Z (⟨"com/example/oyster/oyster/jdbc/JdbcType", "precision", "(I)I"⟩ : MethodName) ws prog_121_method_10_code 3 (some .int) #[(.ref w_BIGINT), (.int p1)] h0 n0 ({ frames := 0, cells := 0, slots := 0, locals := 0 } : Room) (some (.int (19 : Int32))) := by
  obtain ⟨S_w_INT, E_w_INT, S_w_VARCHAR, E_w_VARCHAR, S_w_DECIMAL, E_w_DECIMAL, S_w_SMALLINT, E_w_SMALLINT, S_w_NULL, E_w_NULL, S_w_BOOLEAN, E_w_BOOLEAN, S_w_BIGINT, E_w_BIGINT, F_precision_w_INT, F_ordinal_w_INT, F_ordinal_w_VARCHAR, F_ordinal_w_DECIMAL, F_precision_w_DECIMAL, F_precision_w_SMALLINT, F_ordinal_w_SMALLINT, F_precision_w_VARCHAR, F_precision_w_NULL, F_ordinal_w_NULL, F_precision_w_BOOLEAN, F_ordinal_w_BOOLEAN, F_precision_w_BIGINT, F_ordinal_w_BIGINT, hne_w_INT_w_VARCHAR, hne_w_INT_w_DECIMAL, hne_w_INT_w_SMALLINT, hne_w_INT_w_NULL, hne_w_INT_w_BOOLEAN, hne_w_INT_w_BIGINT, hne_w_VARCHAR_w_DECIMAL, hne_w_VARCHAR_w_SMALLINT, hne_w_VARCHAR_w_NULL, hne_w_VARCHAR_w_BOOLEAN, hne_w_VARCHAR_w_BIGINT, hne_w_DECIMAL_w_SMALLINT, hne_w_DECIMAL_w_NULL, hne_w_DECIMAL_w_BOOLEAN, hne_w_DECIMAL_w_BIGINT, hne_w_SMALLINT_w_NULL, hne_w_SMALLINT_w_BOOLEAN, hne_w_SMALLINT_w_BIGINT, hne_w_NULL_w_BOOLEAN, hne_w_NULL_w_BIGINT, hne_w_BOOLEAN_w_BIGINT⟩ := id S
  refine MetFree.of_bodySF (plainFor_of_name pn_1) hisR ?_
  intro p e s m args below meth c s₁ Bd hml0 hP hK
  obtain ⟨rfl, hZ, hh⟩ := hP
  have hx := Bd.exec
  have hby := Bd.bytes
  have hml : c.maxLocals = 3 := hml0
  have hown : s.vm.findClass "com/example/oyster/oyster/jdbc/JdbcType" = some m.cls := findClass_of_methodNamed Bd.named
  have X0 : Stand p l e ({ frames := 0, cells := 0, slots := 0, locals := 0 } : Room) s m #[(.ref w_BIGINT), (.int p1)] below meth c s₁ [] 0 0 := Stand.of_body Bd
  have e0 : s₁.heap = h0 := by rw [← hh, Bd.state]; rfl
  have N0 := Fr.nil n0
  have pre0 : ∀ t, Steps p.tables e below (s₁.setTop (mkF m 0 #[.val (.ref w_BIGINT), .val (.int p1), .unset] [])) t → Steps p.tables e below (s₁.setTop (entryFrame m #[(.ref w_BIGINT), (.int p1)] 3)) t := fun t k => castTop (by first | rfl | (simp [entryFrame, mkF, argsToLocals, Value.category]; done)) k
  obtain ⟨T1, X1, e1, st1⟩ := getF X0 hx hZ hown (host := "") (Or.inl (hw _ (List.mem_of_getElem? (i := 13) rfl))) Via.refl e0 F_precision_w_BIGINT (g := (mkF m 1 #[.val (.ref w_BIGINT), .val (.int p1), .unset] [(.ref w_BIGINT)])) rfl rfl (hb hby d2_1)
  obtain ⟨T2, X2, e2, st2⟩ := getS2 X1 hx hZ hown (host := "") (Or.inl (hw _ (List.mem_of_getElem? (i := 15) rfl))) Via.refl e1 S_w_VARCHAR (g := (mkF m 6 #[.val (.ref w_BIGINT), .val (.int p1), .val (.int (19 : Int32))] [(.ref w_BIGINT)])) rfl (hb hby d2_6)
  obtain ⟨T3, X3, e3, st3⟩ := getS2 X2 hx hZ hown (host := "") (Or.inl (hw _ (List.mem_of_getElem? (i := 17) rfl))) Via.refl e2 S_w_DECIMAL (g := (mkF m 27 #[.val (.ref w_BIGINT), .val (.int p1), .val (.int (19 : Int32))] [(.ref w_BIGINT)])) rfl (hb hby d2_27)
  obtain ⟨fs, hr, hrun, hended, hW, hsame⟩ := X3.leave (v := (some (.int (19 : Int32)))) (fun h => by rw [Bd.returns] at h; cases h)
  refine ⟨_, _, pre0 _ ?_, hrun, hended, _, _, rfl, ⟨rfl, N0, e3⟩, ⟨_, rfl⟩, hW, hsame.mono (by decide) (by decide)⟩
  show Steps p.tables e below (s₁.setTop (mkF m 0 #[.val (.ref w_BIGINT), .val (.int p1), .unset] [])) _
  refine XS.aloadN X0.here hx rfl (hb hby d2_0) rfl rfl ?_
  show Steps p.tables e below (s₁.setTop (mkF m 1 #[.val (.ref w_BIGINT), .val (.int p1), .unset] [(.ref w_BIGINT)])) _
  refine st1 _ ?_
  show Steps p.tables e below (T1.setTop (mkF m 4 #[.val (.ref w_BIGINT), .val (.int p1), .unset] [(.int (19 : Int32))])) _
  refine XS.istoreN X1.here hx rfl (hb hby d2_4) rfl (l' := #[.val (.ref w_BIGINT), .val (.int p1), .val (.int (19 : Int32))]) rfl ?_
  show Steps p.tables e below (T1.setTop (mkF m 5 #[.val (.ref w_BIGINT), .val (.int p1), .val (.int (19 : Int32))] [])) _
  refine XS.aloadN X1.here hx rfl (hb hby d2_5) rfl rfl ?_
  show Steps p.tables e below (T1.setTop (mkF m 6 #[.val (.ref w_BIGINT), .val (.int p1), .val (.int (19 : Int32))] [(.ref w_BIGINT)])) _
  refine st2 _ ?_
  show Steps p.tables e below (T2.setTop (mkF m 9 #[.val (.ref w_BIGINT), .val (.int p1), .val (.int (19 : Int32))] [(.ref w_VARCHAR), (.ref w_BIGINT)])) _
  refine Jvm.RoadKit.acmp (g := (mkF m 9 #[.val (.ref w_BIGINT), .val (.int p1), .val (.int (19 : Int32))] [(.ref w_VARCHAR), (.ref w_BIGINT)])) X2 hx rfl rfl rfl (pc0 := 9) (pc' := 26) (same := false) rfl (hb hby d2_9) rfl (decide_eq_false fun q => hne_w_VARCHAR_w_BIGINT (Value.ref.inj q).symm) (by decide) (by decide) ?_
  show Steps p.tables e below (T2.setTop (mkF m 26 #[.val (.ref w_BIGINT), .val (.int p1), .val (.int (19 : Int32))] [])) _
  refine XS.aloadN X2.here hx rfl (hb hby d2_26) rfl rfl ?_
  show Steps p.tables e below (T2.setTop (mkF m 27 #[.val (.ref w_BIGINT), .val (.int p1), .val (.int (19 : Int32))] [(.ref w_BIGINT)])) _
  refine st3 _ ?_
  show Steps p.tables e below (T3.setTop (mkF m 30 #[.val (.ref w_BIGINT), .val (.int p1), .val (.int (19 : Int32))] [(.ref w_DECIMAL), (.ref w_BIGINT)])) _
  refine Jvm.RoadKit.acmp (g := (mkF m 30 #[.val (.ref w_BIGINT), .val (.int p1), .val (.int (19 : Int32))] [(.ref w_DECIMAL), (.ref w_BIGINT)])) X3 hx rfl rfl rfl (pc0 := 30) (pc' := 39) (same := false) rfl (hb hby d2_30) rfl (decide_eq_false fun q => hne_w_DECIMAL_w_BIGINT (Value.ref.inj q).symm) (by decide) (by decide) ?_
  show Steps p.tables e below (T3.setTop (mkF m 39 #[.val (.ref w_BIGINT), .val (.int p1), .val (.int (19 : Int32))] [])) _
  refine XS.iloadN X3.here hx rfl (hb hby d2_39) rfl ?_
  show Steps p.tables e below (T3.setTop (mkF m 40 #[.val (.ref w_BIGINT), .val (.int p1), .val (.int (19 : Int32))] [(.int (19 : Int32))])) _
  exact retOut X3 hx (t := .int) (i := .ireturn) Bd.returns rfl (Or.inl ⟨rfl, Or.inl rfl, _, rfl⟩) (hb hby d2_40) hr
theorem d3_14 : decode method_4_code 14 = .ok (.iload_n 0, 1) := by decide +kernel
theorem d3_15 : decode method_4_code 15 = .ok (.iconst 2, 1) := by decide +kernel
theorem d3_16 : decode method_4_code 16 = .ok (.if_icmp .ne 6, 3) := by decide +kernel
theorem d3_19 : decode method_4_code 19 = .ok (.bipush 19, 2) := by decide +kernel
theorem d3_21 : decode method_4_code 21 = .ok (.ireturn, 1) := by decide +kernel
set_option maxRecDepth 65536 in
set_option maxHeartbeats 40000000 in
theorem rm3_2 (l : Launch) (Z : State) (a0 : Array Value) (hw : ∀ d ∈ tables_1, d.before a0 Z = true) (ws : List Jvm.Cond) (w_INT w_VARCHAR w_DECIMAL w_SMALLINT w_NULL w_BOOLEAN w_BIGINT : Addr) (h0 : Heap) (n0 : Nat) (Z0 : n0 ≤ h0.size) (S : SF Z h0 w_INT w_VARCHAR w_DECIMAL w_SMALLINT w_NULL w_BOOLEAN w_BIGINT) (p1 : Int32) :
    Pay l Z (⟨"com/example/oyster/oyster/jdbc/JdbcTypePrecisionPinLaw", "expected", "(II)I"⟩ : MethodName) ws method_4_code 2 (some .int) #[(.int (2 : Int32)), (.int p1)] h0 n0 ({ frames := 0, cells := 0, slots := 0, locals := 0 } : Room) (some (.int (19 : Int32))) := by
  obtain ⟨S_w_INT, E_w_INT, S_w_VARCHAR, E_w_VARCHAR, S_w_DECIMAL, E_w_DECIMAL, S_w_SMALLINT, E_w_SMALLINT, S_w_NULL, E_w_NULL, S_w_BOOLEAN, E_w_BOOLEAN, S_w_BIGINT, E_w_BIGINT, F_precision_w_INT, F_ordinal_w_INT, F_ordinal_w_VARCHAR, F_ordinal_w_DECIMAL, F_precision_w_DECIMAL, F_precision_w_SMALLINT, F_ordinal_w_SMALLINT, F_precision_w_VARCHAR, F_precision_w_NULL, F_ordinal_w_NULL, F_precision_w_BOOLEAN, F_ordinal_w_BOOLEAN, F_precision_w_BIGINT, F_ordinal_w_BIGINT, hne_w_INT_w_VARCHAR, hne_w_INT_w_DECIMAL, hne_w_INT_w_SMALLINT, hne_w_INT_w_NULL, hne_w_INT_w_BOOLEAN, hne_w_INT_w_BIGINT, hne_w_VARCHAR_w_DECIMAL, hne_w_VARCHAR_w_SMALLINT, hne_w_VARCHAR_w_NULL, hne_w_VARCHAR_w_BOOLEAN, hne_w_VARCHAR_w_BIGINT, hne_w_DECIMAL_w_SMALLINT, hne_w_DECIMAL_w_NULL, hne_w_DECIMAL_w_BOOLEAN, hne_w_DECIMAL_w_BIGINT, hne_w_SMALLINT_w_NULL, hne_w_SMALLINT_w_BOOLEAN, hne_w_SMALLINT_w_BIGINT, hne_w_NULL_w_BOOLEAN, hne_w_NULL_w_BIGINT, hne_w_BOOLEAN_w_BIGINT⟩ := id S
  refine MetFree.of_bodySF (plainFor_of_name pn_0) hisR ?_
  intro p e s m args below meth c s₁ Bd hml0 hP hK
  obtain ⟨rfl, hZ, hh⟩ := hP
  have hx := Bd.exec
  have hby := Bd.bytes
  have hml : c.maxLocals = 2 := hml0
  have hown : s.vm.findClass "com/example/oyster/oyster/jdbc/JdbcTypePrecisionPinLaw" = some m.cls := findClass_of_methodNamed Bd.named
  have X0 : Stand p l e ({ frames := 0, cells := 0, slots := 0, locals := 0 } : Room) s m #[(.int (2 : Int32)), (.int p1)] below meth c s₁ [] 0 0 := Stand.of_body Bd
  have e0 : s₁.heap = h0 := by rw [← hh, Bd.state]; rfl
  have N0 := Fr.nil n0
  have pre0 : ∀ t, Steps p.tables e below (s₁.setTop (mkF m 0 #[.val (.int (2 : Int32)), .val (.int p1)] [])) t → Steps p.tables e below (s₁.setTop (entryFrame m #[(.int (2 : Int32)), (.int p1)] 2)) t := fun t k => castTop (by first | rfl | (simp [entryFrame, mkF, argsToLocals, Value.category]; done)) k
  obtain ⟨fs, hr, hrun, hended, hW, hsame⟩ := X0.leave (v := (some (.int (19 : Int32)))) (fun h => by rw [Bd.returns] at h; cases h)
  refine ⟨_, _, pre0 _ ?_, hrun, hended, _, _, rfl, ⟨rfl, N0, e0⟩, ⟨_, rfl⟩, hW, hsame.mono (by decide) (by decide)⟩
  show Steps p.tables e below (s₁.setTop (mkF m 0 #[.val (.int (2 : Int32)), .val (.int p1)] [])) _
  refine XS.iloadN X0.here hx rfl (hb hby d3_0) rfl ?_
  show Steps p.tables e below (s₁.setTop (mkF m 1 #[.val (.int (2 : Int32)), .val (.int p1)] [(.int (2 : Int32))])) _
  refine XS.ifYes X0.here hx rfl (pc0 := 1) (pc' := 7) rfl (hb hby d3_1) rfl ((if0 _ _).trans (feq (by decide : ¬ ((2 : Int32) = (0 : Int32)))).2) (by decide) (by decide) ?_
  show Steps p.tables e below (s₁.setTop (mkF m 7 #[.val (.int (2 : Int32)), .val (.int p1)] [])) _
  refine XS.iloadN X0.here hx rfl (hb hby d3_7) rfl ?_
  show Steps p.tables e below (s₁.setTop (mkF m 8 #[.val (.int (2 : Int32)), .val (.int p1)] [(.int (2 : Int32))])) _
  refine XS.iconst X0.here hx rfl (hb hby d3_8) ?_
  show Steps p.tables e below (s₁.setTop (mkF m 9 #[.val (.int (2 : Int32)), .val (.int p1)] [(.int (1 : Int32)), (.int (2 : Int32))])) _
  refine XS.icmpYes X0.here hx rfl (pc0 := 9) (pc' := 14) rfl (hb hby d3_9) rfl (feq (by decide : ¬ ((2 : Int32) = (1 : Int32)))).2 (by decide) (by decide) ?_
  show Steps p.tables e below (s₁.setTop (mkF m 14 #[.val (.int (2 : Int32)), .val (.int p1)] [])) _
  refine XS.iloadN X0.here hx rfl (hb hby d3_14) rfl ?_
  show Steps p.tables e below (s₁.setTop (mkF m 15 #[.val (.int (2 : Int32)), .val (.int p1)] [(.int (2 : Int32))])) _
  refine XS.iconst X0.here hx rfl (hb hby d3_15) ?_
  show Steps p.tables e below (s₁.setTop (mkF m 16 #[.val (.int (2 : Int32)), .val (.int p1)] [(.int (2 : Int32)), (.int (2 : Int32))])) _
  refine XS.icmpNo X0.here hx rfl (hb hby d3_16) rfl (teq (by decide : (2 : Int32) = (2 : Int32))).2 ?_
  show Steps p.tables e below (s₁.setTop (mkF m 19 #[.val (.int (2 : Int32)), .val (.int p1)] [])) _
  refine XS.bipush X0.here hx rfl (hb hby d3_19) ?_
  show Steps p.tables e below (s₁.setTop (mkF m 21 #[.val (.int (2 : Int32)), .val (.int p1)] [(.int (19 : Int32))])) _
  exact retOut X0 hx (t := .int) (i := .ireturn) Bd.returns rfl (Or.inl ⟨rfl, Or.inl rfl, _, rfl⟩) (hb hby d3_21) hr
set_option maxRecDepth 65536 in
set_option maxHeartbeats 40000000 in
theorem rm0_2 (l : Launch) (Z : State) (a0 : Array Value) (hw : ∀ d ∈ tables_1, d.before a0 Z = true) (ws : List Jvm.Cond) (w_INT w_VARCHAR w_DECIMAL w_SMALLINT w_NULL w_BOOLEAN w_BIGINT : Addr) (h0 : Heap) (n0 : Nat) (Z0 : n0 ≤ h0.size) (S : SF Z h0 w_INT w_VARCHAR w_DECIMAL w_SMALLINT w_NULL w_BOOLEAN w_BIGINT) (p0 : Int32) (p1 : Int32) (hk : ((p0 &&& (2147483647 : Int32)) % (7 : Int32)) = (2 : Int32)) :
    Pay l Z x ws code maxLocals ret #[(.int p0), (.int p1)] h0 n0 room_1 (some (.int (1 : Int32))) := by
  obtain ⟨S_w_INT, E_w_INT, S_w_VARCHAR, E_w_VARCHAR, S_w_DECIMAL, E_w_DECIMAL, S_w_SMALLINT, E_w_SMALLINT, S_w_NULL, E_w_NULL, S_w_BOOLEAN, E_w_BOOLEAN, S_w_BIGINT, E_w_BIGINT, F_precision_w_INT, F_ordinal_w_INT, F_ordinal_w_VARCHAR, F_ordinal_w_DECIMAL, F_precision_w_DECIMAL, F_precision_w_SMALLINT, F_ordinal_w_SMALLINT, F_precision_w_VARCHAR, F_precision_w_NULL, F_ordinal_w_NULL, F_precision_w_BOOLEAN, F_ordinal_w_BOOLEAN, F_precision_w_BIGINT, F_ordinal_w_BIGINT, hne_w_INT_w_VARCHAR, hne_w_INT_w_DECIMAL, hne_w_INT_w_SMALLINT, hne_w_INT_w_NULL, hne_w_INT_w_BOOLEAN, hne_w_INT_w_BIGINT, hne_w_VARCHAR_w_DECIMAL, hne_w_VARCHAR_w_SMALLINT, hne_w_VARCHAR_w_NULL, hne_w_VARCHAR_w_BOOLEAN, hne_w_VARCHAR_w_BIGINT, hne_w_DECIMAL_w_SMALLINT, hne_w_DECIMAL_w_NULL, hne_w_DECIMAL_w_BOOLEAN, hne_w_DECIMAL_w_BIGINT, hne_w_SMALLINT_w_NULL, hne_w_SMALLINT_w_BOOLEAN, hne_w_SMALLINT_w_BIGINT, hne_w_NULL_w_BOOLEAN, hne_w_NULL_w_BIGINT, hne_w_BOOLEAN_w_BIGINT⟩ := id S
  refine MetFree.of_bodySF (plainFor_of_name pn_0) hisR ?_
  intro p e s m args below meth c s₁ Bd hml0 hP hK
  obtain ⟨rfl, hZ, hh⟩ := hP
  have hx := Bd.exec
  have hby := Bd.bytes
  have hml : c.maxLocals = 5 := hml0
  have hown : s.vm.findClass "com/example/oyster/oyster/jdbc/JdbcTypePrecisionPinLaw" = some m.cls := findClass_of_methodNamed Bd.named
  have X0 : Stand p l e room_1 s m #[(.int p0), (.int p1)] below meth c s₁ [] 0 0 := Stand.of_body Bd
  have e0 : s₁.heap = h0 := by rw [← hh, Bd.state]; rfl
  have N0 := Fr.nil n0
  have pre0 : ∀ t, Steps p.tables e below (s₁.setTop (mkF m 0 #[.val (.int p0), .val (.int p1), .unset, .unset, .unset] [])) t → Steps p.tables e below (s₁.setTop (entryFrame m #[(.int p0), (.int p1)] maxLocals)) t := fun t k => castTop (by first | rfl | (simp [entryFrame, mkF, argsToLocals, Value.category, maxLocals]; done)) k
  obtain ⟨_, _, ⟨T1, L1, k1, n1⟩, -, X1, ⟨Lc1, hQ1, l1, y1, z1⟩, st1⟩ := Jvm.LawKit.callS X0 hx (y := (⟨"com/example/oyster/oyster/jdbc/JdbcTypePrecisionPinLaw", "pick", "(I)Lcom/example/oyster/oyster/jdbc/JdbcType;"⟩ : MethodName)) hown (mvT hZ (hw _ (List.mem_of_getElem? (i := 1) rfl))) (mvT hZ (hw _ (List.mem_of_getElem? (i := 2) rfl))) (mvT hZ (hw _ (List.mem_of_getElem? (i := 3) rfl))) (mvT hZ (hw _ (List.mem_of_getElem? (i := 4) rfl))) (by decide) (backOf (W := 0) (rm1_2 l Z a0 hw [] w_INT w_VARCHAR w_DECIMAL w_SMALLINT w_NULL w_BOOLEAN w_BIGINT h0 n0 Z0 S) hZ (hw _ (List.mem_of_getElem? (i := 4) rfl)) (hw _ (List.mem_of_getElem? (i := 3) rfl)) (by decide) (by decide)) (g := (mkF m 9 #[.val (.int p0), .val (.int p1), .val (.int (2 : Int32)), .unset, .unset] [(.int (2 : Int32))])) rfl (by rw [hml]; rfl) (argsL := [(.int (2 : Int32))]) (rest := []) (lenOf pd_0 rfl) rfl (by show 2 * 0 + _ ≤ _; exact Nat.le_of_eq rfl) (hb hby at_9) (fun _ _ => ⟨rfl, e0, (by decide : 0 + 0 ≤ _), (by decide : 0 + 0 ≤ _)⟩)
  dsimp only [Pt.U, Pt.locs, Pt.cells, Pt.slots] at X1 l1 y1 z1 st1 hQ1
  subst l1 y1 z1
  obtain ⟨rfl, Nq1, e1⟩ := hQ1
  have N1 := Fr.app N0 Nq1
  obtain ⟨cq2, kq2, q2a, q2b, q2c⟩ := isOf hZ e1 E_w_BIGINT
  obtain ⟨_, _, ⟨T2, L2, k2, n2⟩, -, X2, ⟨Lc2, hQ2, l2, y2, z2⟩, st2⟩ := X1.virtualBack hx (y := (⟨"com/example/oyster/oyster/jdbc/JdbcType", "precision", "(I)I"⟩ : MethodName)) (z := (⟨"com/example/oyster/oyster/jdbc/JdbcType", "precision", "(I)I"⟩ : MethodName)) hown (mvT hZ (hw _ (List.mem_of_getElem? (i := 8) rfl))) (mvT hZ (hw _ (List.mem_of_getElem? (i := 9) rfl))) (notFace_of_selects (args := #[]) (mvT hZ (hw _ (List.mem_of_getElem? (i := 11) rfl)))) (mvT hZ (hw _ (List.mem_of_getElem? (i := 11) rfl))) (mvT hZ (hw _ (List.mem_of_getElem? (i := 10) rfl))) (by decide) (backOf (W := 0) (rm2_2 l Z a0 hw [] w_INT w_VARCHAR w_DECIMAL w_SMALLINT w_NULL w_BOOLEAN w_BIGINT h0 n0 Z0 S p1) hZ (hw _ (List.mem_of_getElem? (i := 12) rfl)) (hw _ (List.mem_of_getElem? (i := 6) rfl)) (by decide) (by decide)) q2a q2c (g := (mkF m 15 #[.val (.int p0), .val (.int p1), .val (.int (2 : Int32)), .val (.ref w_BIGINT), .unset] [(.int p1), (.ref w_BIGINT)])) rfl (by rw [hml]; rfl) (Steps.refl _) (argsL := [(.int p1)]) (rest := []) (lenOf pd_1 rfl) rfl (by show 2 * 0 + _ ≤ _; exact Nat.le_of_eq rfl) (hb hby at_15) (fun _ _ => ⟨rfl, e1, (by decide : 0 + 0 ≤ _), (by decide : 0 + 0 ≤ _)⟩)
  dsimp only [Pt.U, Pt.locs, Pt.cells, Pt.slots] at X2 l2 y2 z2 st2 hQ2
  subst l2 y2 z2
  obtain ⟨rfl, Nq2, e2⟩ := hQ2
  have N2 := Fr.app N1 Nq2
  obtain ⟨_, _, ⟨T3, L3, k3, n3⟩, -, X3, ⟨Lc3, hQ3, l3, y3, z3⟩, st3⟩ := Jvm.LawKit.callS X2 hx (y := (⟨"com/example/oyster/oyster/jdbc/JdbcTypePrecisionPinLaw", "expected", "(II)I"⟩ : MethodName)) hown (mvT hZ (hw _ (List.mem_of_getElem? (i := 19) rfl))) (mvT hZ (hw _ (List.mem_of_getElem? (i := 20) rfl))) (mvT hZ (hw _ (List.mem_of_getElem? (i := 3) rfl))) (mvT hZ (hw _ (List.mem_of_getElem? (i := 21) rfl))) (by decide) (backOf (W := 1) (rm3_2 l Z a0 hw [] w_INT w_VARCHAR w_DECIMAL w_SMALLINT w_NULL w_BOOLEAN w_BIGINT h0 n0 Z0 S p1) hZ (hw _ (List.mem_of_getElem? (i := 21) rfl)) (hw _ (List.mem_of_getElem? (i := 3) rfl)) (by decide) (by decide)) (g := (mkF m 24 #[.val (.int p0), .val (.int p1), .val (.int (2 : Int32)), .val (.ref w_BIGINT), .val (.int (19 : Int32))] [(.int p1), (.int (2 : Int32)), (.int (19 : Int32))])) rfl (by rw [hml]; rfl) (argsL := [(.int (2 : Int32)), (.int p1)]) (rest := [(.int (19 : Int32))]) (lenOf pd_2 rfl) rfl (by show 2 * 0 + _ ≤ _; exact Nat.le_of_eq rfl) (hb hby at_24) (fun _ _ => ⟨rfl, e2, (by decide : 0 + 0 ≤ _), (by decide : 0 + 0 ≤ _)⟩)
  dsimp only [Pt.U, Pt.locs, Pt.cells, Pt.slots] at X3 l3 y3 z3 st3 hQ3
  subst l3 y3 z3
  obtain ⟨rfl, Nq3, e3⟩ := hQ3
  have N3 := Fr.app N2 Nq3
  obtain ⟨fs, hr, hrun, hended, hW, hsame⟩ := X3.leave (v := (some (.int (1 : Int32)))) (fun h => by rw [Bd.returns] at h; cases h)
  refine ⟨_, _, pre0 _ ?_, hrun, hended, _, _, rfl, ⟨rfl, N3, e3⟩, ⟨_, rfl⟩, hW, hsame.mono (by decide) (by decide)⟩
  show Steps p.tables e below (s₁.setTop (mkF m 0 #[.val (.int p0), .val (.int p1), .unset, .unset, .unset] [])) _
  refine XS.iloadN X0.here hx rfl (hb hby at_0) rfl ?_
  show Steps p.tables e below (s₁.setTop (mkF m 1 #[.val (.int p0), .val (.int p1), .unset, .unset, .unset] [(.int p0)])) _
  refine X0.ldcInt hx hown (mvT hZ (hw _ (List.mem_of_getElem? (i := 0) rfl))) (g := (mkF m 1 #[.val (.int p0), .val (.int p1), .unset, .unset, .unset] [(.int p0)])) rfl (hb hby at_1) _ ?_
  show Steps p.tables e below (s₁.setTop (mkF m 3 #[.val (.int p0), .val (.int p1), .unset, .unset, .unset] [(.int (2147483647 : Int32)), (.int p0)])) _
  refine XS.iand X0.here hx rfl (hb hby at_3) rfl ?_
  show Steps p.tables e below (s₁.setTop (mkF m 4 #[.val (.int p0), .val (.int p1), .unset, .unset, .unset] [(.int (p0 &&& (2147483647 : Int32)))])) _
  show Steps p.tables e below (s₁.setTop (mkF m 4 #[.val (.int p0), .val (.int p1), .unset, .unset, .unset] [(.int (p0 &&& (2147483647 : Int32)))])) _
  refine XS.bipush X0.here hx rfl (hb hby at_4) ?_
  show Steps p.tables e below (s₁.setTop (mkF m 6 #[.val (.int p0), .val (.int p1), .unset, .unset, .unset] [(.int (7 : Int32)), (.int (p0 &&& (2147483647 : Int32)))])) _
  refine iremM X0 hx rfl (hb hby at_6) rfl (by decide) ?_
  show Steps p.tables e below (s₁.setTop (mkF m 7 #[.val (.int p0), .val (.int p1), .unset, .unset, .unset] [(.int ((p0 &&& (2147483647 : Int32)) % (7 : Int32)))])) _
  rw [hk]
  show Steps p.tables e below (s₁.setTop (mkF m 7 #[.val (.int p0), .val (.int p1), .unset, .unset, .unset] [(.int (2 : Int32))])) _
  refine XS.istoreN X0.here hx rfl (hb hby at_7) rfl (l' := #[.val (.int p0), .val (.int p1), .val (.int (2 : Int32)), .unset, .unset]) rfl ?_
  show Steps p.tables e below (s₁.setTop (mkF m 8 #[.val (.int p0), .val (.int p1), .val (.int (2 : Int32)), .unset, .unset] [])) _
  refine XS.iloadN X0.here hx rfl (hb hby at_8) rfl ?_
  show Steps p.tables e below (s₁.setTop (mkF m 9 #[.val (.int p0), .val (.int p1), .val (.int (2 : Int32)), .unset, .unset] [(.int (2 : Int32))])) _
  refine st1 _ ?_
  show Steps p.tables e below (T1.setTop (mkF m 12 #[.val (.int p0), .val (.int p1), .val (.int (2 : Int32)), .unset, .unset] [(.ref w_BIGINT)])) _
  refine XS.astoreN X1.here hx rfl (hb hby at_12) rfl rfl (l' := #[.val (.int p0), .val (.int p1), .val (.int (2 : Int32)), .val (.ref w_BIGINT), .unset]) rfl ?_
  show Steps p.tables e below (T1.setTop (mkF m 13 #[.val (.int p0), .val (.int p1), .val (.int (2 : Int32)), .val (.ref w_BIGINT), .unset] [])) _
  refine XS.aloadN X1.here hx rfl (hb hby at_13) rfl rfl ?_
  show Steps p.tables e below (T1.setTop (mkF m 14 #[.val (.int p0), .val (.int p1), .val (.int (2 : Int32)), .val (.ref w_BIGINT), .unset] [(.ref w_BIGINT)])) _
  refine XS.iloadN X1.here hx rfl (hb hby at_14) rfl ?_
  show Steps p.tables e below (T1.setTop (mkF m 15 #[.val (.int p0), .val (.int p1), .val (.int (2 : Int32)), .val (.ref w_BIGINT), .unset] [(.int p1), (.ref w_BIGINT)])) _
  refine st2.trans ?_
  show Steps p.tables e below (T2.setTop (mkF m 18 #[.val (.int p0), .val (.int p1), .val (.int (2 : Int32)), .val (.ref w_BIGINT), .unset] [(.int (19 : Int32))])) _
  refine XS.istore X2.here hx rfl (hb hby at_18) rfl (l' := #[.val (.int p0), .val (.int p1), .val (.int (2 : Int32)), .val (.ref w_BIGINT), .val (.int (19 : Int32))]) rfl ?_
  show Steps p.tables e below (T2.setTop (mkF m 20 #[.val (.int p0), .val (.int p1), .val (.int (2 : Int32)), .val (.ref w_BIGINT), .val (.int (19 : Int32))] [])) _
  refine XS.iload X2.here hx rfl (hb hby at_20) rfl ?_
  show Steps p.tables e below (T2.setTop (mkF m 22 #[.val (.int p0), .val (.int p1), .val (.int (2 : Int32)), .val (.ref w_BIGINT), .val (.int (19 : Int32))] [(.int (19 : Int32))])) _
  refine XS.iloadN X2.here hx rfl (hb hby at_22) rfl ?_
  show Steps p.tables e below (T2.setTop (mkF m 23 #[.val (.int p0), .val (.int p1), .val (.int (2 : Int32)), .val (.ref w_BIGINT), .val (.int (19 : Int32))] [(.int (2 : Int32)), (.int (19 : Int32))])) _
  refine XS.iloadN X2.here hx rfl (hb hby at_23) rfl ?_
  show Steps p.tables e below (T2.setTop (mkF m 24 #[.val (.int p0), .val (.int p1), .val (.int (2 : Int32)), .val (.ref w_BIGINT), .val (.int (19 : Int32))] [(.int p1), (.int (2 : Int32)), (.int (19 : Int32))])) _
  refine st3 _ ?_
  show Steps p.tables e below (T3.setTop (mkF m 27 #[.val (.int p0), .val (.int p1), .val (.int (2 : Int32)), .val (.ref w_BIGINT), .val (.int (19 : Int32))] [(.int (19 : Int32)), (.int (19 : Int32))])) _
  refine XS.icmpNo X3.here hx rfl (hb hby at_27) rfl (teq (by decide : (19 : Int32) = (19 : Int32))).2 ?_
  show Steps p.tables e below (T3.setTop (mkF m 30 #[.val (.int p0), .val (.int p1), .val (.int (2 : Int32)), .val (.ref w_BIGINT), .val (.int (19 : Int32))] [])) _
  refine XS.iconst X3.here hx rfl (hb hby at_30) ?_
  show Steps p.tables e below (T3.setTop (mkF m 31 #[.val (.int p0), .val (.int p1), .val (.int (2 : Int32)), .val (.ref w_BIGINT), .val (.int (19 : Int32))] [(.int (1 : Int32))])) _
  refine XS.goto X3.here hx rfl (pc0 := 31) (pc' := 35) rfl (hb hby at_31) (by decide) (by decide) ?_
  show Steps p.tables e below (T3.setTop (mkF m 35 #[.val (.int p0), .val (.int p1), .val (.int (2 : Int32)), .val (.ref w_BIGINT), .val (.int (19 : Int32))] [(.int (1 : Int32))])) _
  exact retN X3 hx (t := .boolean) Bd.returns (by simp) (hb hby at_35) hr
theorem d1_26 : decode method_3_code 26 = .ok (.iload_n 0, 1) := by decide +kernel
theorem d1_27 : decode method_3_code 27 = .ok (.iconst 3, 1) := by decide +kernel
theorem d1_28 : decode method_3_code 28 = .ok (.if_icmp .ne 7, 3) := by decide +kernel
theorem d1_31 : decode method_3_code 31 = .ok (.getstatic 34, 3) := by decide +kernel
theorem d1_34 : decode method_3_code 34 = .ok (.areturn, 1) := by decide +kernel
set_option maxRecDepth 65536 in
set_option maxHeartbeats 40000000 in
theorem rm1_3 (l : Launch) (Z : State) (a0 : Array Value) (hw : ∀ d ∈ tables_1, d.before a0 Z = true) (ws : List Jvm.Cond) (w_INT w_VARCHAR w_DECIMAL w_SMALLINT w_NULL w_BOOLEAN w_BIGINT : Addr) (h0 : Heap) (n0 : Nat) (Z0 : n0 ≤ h0.size) (S : SF Z h0 w_INT w_VARCHAR w_DECIMAL w_SMALLINT w_NULL w_BOOLEAN w_BIGINT) :
    Pay l Z (⟨"com/example/oyster/oyster/jdbc/JdbcTypePrecisionPinLaw", "pick", "(I)Lcom/example/oyster/oyster/jdbc/JdbcType;"⟩ : MethodName) ws method_3_code 1 (some (.object "com/example/oyster/oyster/jdbc/JdbcType")) #[(.int (3 : Int32))] h0 n0 ({ frames := 0, cells := 0, slots := 0, locals := 0 } : Room) (some (.ref w_DECIMAL)) := by
  obtain ⟨S_w_INT, E_w_INT, S_w_VARCHAR, E_w_VARCHAR, S_w_DECIMAL, E_w_DECIMAL, S_w_SMALLINT, E_w_SMALLINT, S_w_NULL, E_w_NULL, S_w_BOOLEAN, E_w_BOOLEAN, S_w_BIGINT, E_w_BIGINT, F_precision_w_INT, F_ordinal_w_INT, F_ordinal_w_VARCHAR, F_ordinal_w_DECIMAL, F_precision_w_DECIMAL, F_precision_w_SMALLINT, F_ordinal_w_SMALLINT, F_precision_w_VARCHAR, F_precision_w_NULL, F_ordinal_w_NULL, F_precision_w_BOOLEAN, F_ordinal_w_BOOLEAN, F_precision_w_BIGINT, F_ordinal_w_BIGINT, hne_w_INT_w_VARCHAR, hne_w_INT_w_DECIMAL, hne_w_INT_w_SMALLINT, hne_w_INT_w_NULL, hne_w_INT_w_BOOLEAN, hne_w_INT_w_BIGINT, hne_w_VARCHAR_w_DECIMAL, hne_w_VARCHAR_w_SMALLINT, hne_w_VARCHAR_w_NULL, hne_w_VARCHAR_w_BOOLEAN, hne_w_VARCHAR_w_BIGINT, hne_w_DECIMAL_w_SMALLINT, hne_w_DECIMAL_w_NULL, hne_w_DECIMAL_w_BOOLEAN, hne_w_DECIMAL_w_BIGINT, hne_w_SMALLINT_w_NULL, hne_w_SMALLINT_w_BOOLEAN, hne_w_SMALLINT_w_BIGINT, hne_w_NULL_w_BOOLEAN, hne_w_NULL_w_BIGINT, hne_w_BOOLEAN_w_BIGINT⟩ := id S
  refine MetFree.of_bodySF (plainFor_of_name pn_0) hisR ?_
  intro p e s m args below meth c s₁ Bd hml0 hP hK
  obtain ⟨rfl, hZ, hh⟩ := hP
  have hx := Bd.exec
  have hby := Bd.bytes
  have hml : c.maxLocals = 1 := hml0
  have hown : s.vm.findClass "com/example/oyster/oyster/jdbc/JdbcTypePrecisionPinLaw" = some m.cls := findClass_of_methodNamed Bd.named
  have X0 : Stand p l e ({ frames := 0, cells := 0, slots := 0, locals := 0 } : Room) s m #[(.int (3 : Int32))] below meth c s₁ [] 0 0 := Stand.of_body Bd
  have e0 : s₁.heap = h0 := by rw [← hh, Bd.state]; rfl
  have N0 := Fr.nil n0
  have pre0 : ∀ t, Steps p.tables e below (s₁.setTop (mkF m 0 #[.val (.int (3 : Int32))] [])) t → Steps p.tables e below (s₁.setTop (entryFrame m #[(.int (3 : Int32))] 1)) t := fun t k => castTop (by first | rfl | (simp [entryFrame, mkF, argsToLocals, Value.category]; done)) k
  obtain ⟨T1, X1, e1, st1⟩ := getS2 X0 hx hZ hown (host := "") (Or.inl (hw _ (List.mem_of_getElem? (i := 22) rfl))) Via.refl e0 S_w_DECIMAL (g := (mkF m 31 #[.val (.int (3 : Int32))] [])) rfl (hb hby d1_31)
  obtain ⟨fs, hr, hrun, hended, hW, hsame⟩ := X1.leave (v := (some (.ref w_DECIMAL))) (fun h => by rw [Bd.returns] at h; cases h)
  refine ⟨_, _, pre0 _ ?_, hrun, hended, _, _, rfl, ⟨rfl, N0, e1⟩, ⟨_, rfl⟩, hW, hsame.mono (by decide) (by decide)⟩
  show Steps p.tables e below (s₁.setTop (mkF m 0 #[.val (.int (3 : Int32))] [])) _
  refine XS.iloadN X0.here hx rfl (hb hby d1_0) rfl ?_
  show Steps p.tables e below (s₁.setTop (mkF m 1 #[.val (.int (3 : Int32))] [(.int (3 : Int32))])) _
  refine XS.ifYes X0.here hx rfl (pc0 := 1) (pc' := 8) rfl (hb hby d1_1) rfl ((if0 _ _).trans (feq (by decide : ¬ ((3 : Int32) = (0 : Int32)))).2) (by decide) (by decide) ?_
  show Steps p.tables e below (s₁.setTop (mkF m 8 #[.val (.int (3 : Int32))] [])) _
  refine XS.iloadN X0.here hx rfl (hb hby d1_8) rfl ?_
  show Steps p.tables e below (s₁.setTop (mkF m 9 #[.val (.int (3 : Int32))] [(.int (3 : Int32))])) _
  refine XS.iconst X0.here hx rfl (hb hby d1_9) ?_
  show Steps p.tables e below (s₁.setTop (mkF m 10 #[.val (.int (3 : Int32))] [(.int (1 : Int32)), (.int (3 : Int32))])) _
  refine XS.icmpYes X0.here hx rfl (pc0 := 10) (pc' := 17) rfl (hb hby d1_10) rfl (feq (by decide : ¬ ((3 : Int32) = (1 : Int32)))).2 (by decide) (by decide) ?_
  show Steps p.tables e below (s₁.setTop (mkF m 17 #[.val (.int (3 : Int32))] [])) _
  refine XS.iloadN X0.here hx rfl (hb hby d1_17) rfl ?_
  show Steps p.tables e below (s₁.setTop (mkF m 18 #[.val (.int (3 : Int32))] [(.int (3 : Int32))])) _
  refine XS.iconst X0.here hx rfl (hb hby d1_18) ?_
  show Steps p.tables e below (s₁.setTop (mkF m 19 #[.val (.int (3 : Int32))] [(.int (2 : Int32)), (.int (3 : Int32))])) _
  refine XS.icmpYes X0.here hx rfl (pc0 := 19) (pc' := 26) rfl (hb hby d1_19) rfl (feq (by decide : ¬ ((3 : Int32) = (2 : Int32)))).2 (by decide) (by decide) ?_
  show Steps p.tables e below (s₁.setTop (mkF m 26 #[.val (.int (3 : Int32))] [])) _
  refine XS.iloadN X0.here hx rfl (hb hby d1_26) rfl ?_
  show Steps p.tables e below (s₁.setTop (mkF m 27 #[.val (.int (3 : Int32))] [(.int (3 : Int32))])) _
  refine XS.iconst X0.here hx rfl (hb hby d1_27) ?_
  show Steps p.tables e below (s₁.setTop (mkF m 28 #[.val (.int (3 : Int32))] [(.int (3 : Int32)), (.int (3 : Int32))])) _
  refine XS.icmpNo X0.here hx rfl (hb hby d1_28) rfl (teq (by decide : (3 : Int32) = (3 : Int32))).2 ?_
  show Steps p.tables e below (s₁.setTop (mkF m 31 #[.val (.int (3 : Int32))] [])) _
  refine st1 _ ?_
  show Steps p.tables e below (T1.setTop (mkF m 34 #[.val (.int (3 : Int32))] [(.ref w_DECIMAL)])) _
  exact retOut X1 hx (t := (.object "com/example/oyster/oyster/jdbc/JdbcType")) (i := .areturn) Bd.returns rfl (Or.inr (Or.inr (Or.inr (Or.inr ⟨rfl, rfl, rfl⟩)))) (hb hby d1_34) hr
theorem d2_33 : decode prog_121_method_10_code 33 = .ok (.iload_n 1, 1) := by decide +kernel
theorem d2_34 : decode prog_121_method_10_code 34 = .ok (.ifCond .le 5, 3) := by decide +kernel
theorem d2_37 : decode prog_121_method_10_code 37 = .ok (.iload_n 1, 1) := by decide +kernel
theorem d2_38 : decode prog_121_method_10_code 38 = .ok (.istore_n 2, 1) := by decide +kernel
set_option maxRecDepth 65536 in
set_option maxHeartbeats 40000000 in
theorem rm2_3 (l : Launch) (Z : State) (a0 : Array Value) (hw : ∀ d ∈ tables_1, d.before a0 Z = true) (ws : List Jvm.Cond) (w_INT w_VARCHAR w_DECIMAL w_SMALLINT w_NULL w_BOOLEAN w_BIGINT : Addr) (h0 : Heap) (n0 : Nat) (Z0 : n0 ≤ h0.size) (S : SF Z h0 w_INT w_VARCHAR w_DECIMAL w_SMALLINT w_NULL w_BOOLEAN w_BIGINT) (p1 : Int32) (hs : (0 : Int32) < p1) :
    Pay l Z (⟨"com/example/oyster/oyster/jdbc/JdbcType", "precision", "(I)I"⟩ : MethodName) ws prog_121_method_10_code 3 (some .int) #[(.ref w_DECIMAL), (.int p1)] h0 n0 ({ frames := 0, cells := 0, slots := 0, locals := 0 } : Room) (some (.int p1)) := by
  obtain ⟨S_w_INT, E_w_INT, S_w_VARCHAR, E_w_VARCHAR, S_w_DECIMAL, E_w_DECIMAL, S_w_SMALLINT, E_w_SMALLINT, S_w_NULL, E_w_NULL, S_w_BOOLEAN, E_w_BOOLEAN, S_w_BIGINT, E_w_BIGINT, F_precision_w_INT, F_ordinal_w_INT, F_ordinal_w_VARCHAR, F_ordinal_w_DECIMAL, F_precision_w_DECIMAL, F_precision_w_SMALLINT, F_ordinal_w_SMALLINT, F_precision_w_VARCHAR, F_precision_w_NULL, F_ordinal_w_NULL, F_precision_w_BOOLEAN, F_ordinal_w_BOOLEAN, F_precision_w_BIGINT, F_ordinal_w_BIGINT, hne_w_INT_w_VARCHAR, hne_w_INT_w_DECIMAL, hne_w_INT_w_SMALLINT, hne_w_INT_w_NULL, hne_w_INT_w_BOOLEAN, hne_w_INT_w_BIGINT, hne_w_VARCHAR_w_DECIMAL, hne_w_VARCHAR_w_SMALLINT, hne_w_VARCHAR_w_NULL, hne_w_VARCHAR_w_BOOLEAN, hne_w_VARCHAR_w_BIGINT, hne_w_DECIMAL_w_SMALLINT, hne_w_DECIMAL_w_NULL, hne_w_DECIMAL_w_BOOLEAN, hne_w_DECIMAL_w_BIGINT, hne_w_SMALLINT_w_NULL, hne_w_SMALLINT_w_BOOLEAN, hne_w_SMALLINT_w_BIGINT, hne_w_NULL_w_BOOLEAN, hne_w_NULL_w_BIGINT, hne_w_BOOLEAN_w_BIGINT⟩ := id S
  refine MetFree.of_bodySF (plainFor_of_name pn_1) hisR ?_
  intro p e s m args below meth c s₁ Bd hml0 hP hK
  obtain ⟨rfl, hZ, hh⟩ := hP
  have hx := Bd.exec
  have hby := Bd.bytes
  have hml : c.maxLocals = 3 := hml0
  have hown : s.vm.findClass "com/example/oyster/oyster/jdbc/JdbcType" = some m.cls := findClass_of_methodNamed Bd.named
  have X0 : Stand p l e ({ frames := 0, cells := 0, slots := 0, locals := 0 } : Room) s m #[(.ref w_DECIMAL), (.int p1)] below meth c s₁ [] 0 0 := Stand.of_body Bd
  have e0 : s₁.heap = h0 := by rw [← hh, Bd.state]; rfl
  have N0 := Fr.nil n0
  have pre0 : ∀ t, Steps p.tables e below (s₁.setTop (mkF m 0 #[.val (.ref w_DECIMAL), .val (.int p1), .unset] [])) t → Steps p.tables e below (s₁.setTop (entryFrame m #[(.ref w_DECIMAL), (.int p1)] 3)) t := fun t k => castTop (by first | rfl | (simp [entryFrame, mkF, argsToLocals, Value.category]; done)) k
  obtain ⟨T1, X1, e1, st1⟩ := getF X0 hx hZ hown (host := "") (Or.inl (hw _ (List.mem_of_getElem? (i := 13) rfl))) Via.refl e0 F_precision_w_DECIMAL (g := (mkF m 1 #[.val (.ref w_DECIMAL), .val (.int p1), .unset] [(.ref w_DECIMAL)])) rfl rfl (hb hby d2_1)
  obtain ⟨T2, X2, e2, st2⟩ := getS2 X1 hx hZ hown (host := "") (Or.inl (hw _ (List.mem_of_getElem? (i := 15) rfl))) Via.refl e1 S_w_VARCHAR (g := (mkF m 6 #[.val (.ref w_DECIMAL), .val (.int p1), .val (.int (38 : Int32))] [(.ref w_DECIMAL)])) rfl (hb hby d2_6)
  obtain ⟨T3, X3, e3, st3⟩ := getS2 X2 hx hZ hown (host := "") (Or.inl (hw _ (List.mem_of_getElem? (i := 17) rfl))) Via.refl e2 S_w_DECIMAL (g := (mkF m 27 #[.val (.ref w_DECIMAL), .val (.int p1), .val (.int (38 : Int32))] [(.ref w_DECIMAL)])) rfl (hb hby d2_27)
  obtain ⟨fs, hr, hrun, hended, hW, hsame⟩ := X3.leave (v := (some (.int p1))) (fun h => by rw [Bd.returns] at h; cases h)
  refine ⟨_, _, pre0 _ ?_, hrun, hended, _, _, rfl, ⟨rfl, N0, e3⟩, ⟨_, rfl⟩, hW, hsame.mono (by decide) (by decide)⟩
  show Steps p.tables e below (s₁.setTop (mkF m 0 #[.val (.ref w_DECIMAL), .val (.int p1), .unset] [])) _
  refine XS.aloadN X0.here hx rfl (hb hby d2_0) rfl rfl ?_
  show Steps p.tables e below (s₁.setTop (mkF m 1 #[.val (.ref w_DECIMAL), .val (.int p1), .unset] [(.ref w_DECIMAL)])) _
  refine st1 _ ?_
  show Steps p.tables e below (T1.setTop (mkF m 4 #[.val (.ref w_DECIMAL), .val (.int p1), .unset] [(.int (38 : Int32))])) _
  refine XS.istoreN X1.here hx rfl (hb hby d2_4) rfl (l' := #[.val (.ref w_DECIMAL), .val (.int p1), .val (.int (38 : Int32))]) rfl ?_
  show Steps p.tables e below (T1.setTop (mkF m 5 #[.val (.ref w_DECIMAL), .val (.int p1), .val (.int (38 : Int32))] [])) _
  refine XS.aloadN X1.here hx rfl (hb hby d2_5) rfl rfl ?_
  show Steps p.tables e below (T1.setTop (mkF m 6 #[.val (.ref w_DECIMAL), .val (.int p1), .val (.int (38 : Int32))] [(.ref w_DECIMAL)])) _
  refine st2 _ ?_
  show Steps p.tables e below (T2.setTop (mkF m 9 #[.val (.ref w_DECIMAL), .val (.int p1), .val (.int (38 : Int32))] [(.ref w_VARCHAR), (.ref w_DECIMAL)])) _
  refine Jvm.RoadKit.acmp (g := (mkF m 9 #[.val (.ref w_DECIMAL), .val (.int p1), .val (.int (38 : Int32))] [(.ref w_VARCHAR), (.ref w_DECIMAL)])) X2 hx rfl rfl rfl (pc0 := 9) (pc' := 26) (same := false) rfl (hb hby d2_9) rfl (decide_eq_false fun q => hne_w_VARCHAR_w_DECIMAL (Value.ref.inj q).symm) (by decide) (by decide) ?_
  show Steps p.tables e below (T2.setTop (mkF m 26 #[.val (.ref w_DECIMAL), .val (.int p1), .val (.int (38 : Int32))] [])) _
  refine XS.aloadN X2.here hx rfl (hb hby d2_26) rfl rfl ?_
  show Steps p.tables e below (T2.setTop (mkF m 27 #[.val (.ref w_DECIMAL), .val (.int p1), .val (.int (38 : Int32))] [(.ref w_DECIMAL)])) _
  refine st3 _ ?_
  show Steps p.tables e below (T3.setTop (mkF m 30 #[.val (.ref w_DECIMAL), .val (.int p1), .val (.int (38 : Int32))] [(.ref w_DECIMAL), (.ref w_DECIMAL)])) _
  refine Jvm.RoadKit.acmp (g := (mkF m 30 #[.val (.ref w_DECIMAL), .val (.int p1), .val (.int (38 : Int32))] [(.ref w_DECIMAL), (.ref w_DECIMAL)])) X3 hx rfl rfl rfl (pc0 := 30) (pc' := 33) (same := true) rfl (hb hby d2_30) rfl (decide_eq_true rfl) (by decide) (by decide) ?_
  show Steps p.tables e below (T3.setTop (mkF m 33 #[.val (.ref w_DECIMAL), .val (.int p1), .val (.int (38 : Int32))] [])) _
  refine XS.iloadN X3.here hx rfl (hb hby d2_33) rfl ?_
  show Steps p.tables e below (T3.setTop (mkF m 34 #[.val (.ref w_DECIMAL), .val (.int p1), .val (.int (38 : Int32))] [(.int p1)])) _
  refine XS.ifNo X3.here hx rfl (hb hby d2_34) rfl ((if0 _ _).trans (tlt hs).2.2.2) ?_
  show Steps p.tables e below (T3.setTop (mkF m 37 #[.val (.ref w_DECIMAL), .val (.int p1), .val (.int (38 : Int32))] [])) _
  refine XS.iloadN X3.here hx rfl (hb hby d2_37) rfl ?_
  show Steps p.tables e below (T3.setTop (mkF m 38 #[.val (.ref w_DECIMAL), .val (.int p1), .val (.int (38 : Int32))] [(.int p1)])) _
  refine XS.istoreN X3.here hx rfl (hb hby d2_38) rfl (l' := #[.val (.ref w_DECIMAL), .val (.int p1), .val (.int p1)]) rfl ?_
  show Steps p.tables e below (T3.setTop (mkF m 39 #[.val (.ref w_DECIMAL), .val (.int p1), .val (.int p1)] [])) _
  refine XS.iloadN X3.here hx rfl (hb hby d2_39) rfl ?_
  show Steps p.tables e below (T3.setTop (mkF m 40 #[.val (.ref w_DECIMAL), .val (.int p1), .val (.int p1)] [(.int p1)])) _
  exact retOut X3 hx (t := .int) (i := .ireturn) Bd.returns rfl (Or.inl ⟨rfl, Or.inl rfl, _, rfl⟩) (hb hby d2_40) hr
theorem d3_22 : decode method_4_code 22 = .ok (.iload_n 0, 1) := by decide +kernel
theorem d3_23 : decode method_4_code 23 = .ok (.iconst 3, 1) := by decide +kernel
theorem d3_24 : decode method_4_code 24 = .ok (.if_icmp .ne 12, 3) := by decide +kernel
theorem d3_27 : decode method_4_code 27 = .ok (.iload_n 1, 1) := by decide +kernel
theorem d3_28 : decode method_4_code 28 = .ok (.ifCond .le 5, 3) := by decide +kernel
theorem d3_31 : decode method_4_code 31 = .ok (.iload_n 1, 1) := by decide +kernel
theorem d3_32 : decode method_4_code 32 = .ok (.ireturn, 1) := by decide +kernel
set_option maxRecDepth 65536 in
set_option maxHeartbeats 40000000 in
theorem rm3_3 (l : Launch) (Z : State) (a0 : Array Value) (hw : ∀ d ∈ tables_1, d.before a0 Z = true) (ws : List Jvm.Cond) (w_INT w_VARCHAR w_DECIMAL w_SMALLINT w_NULL w_BOOLEAN w_BIGINT : Addr) (h0 : Heap) (n0 : Nat) (Z0 : n0 ≤ h0.size) (S : SF Z h0 w_INT w_VARCHAR w_DECIMAL w_SMALLINT w_NULL w_BOOLEAN w_BIGINT) (p1 : Int32) (hs : (0 : Int32) < p1) :
    Pay l Z (⟨"com/example/oyster/oyster/jdbc/JdbcTypePrecisionPinLaw", "expected", "(II)I"⟩ : MethodName) ws method_4_code 2 (some .int) #[(.int (3 : Int32)), (.int p1)] h0 n0 ({ frames := 0, cells := 0, slots := 0, locals := 0 } : Room) (some (.int p1)) := by
  obtain ⟨S_w_INT, E_w_INT, S_w_VARCHAR, E_w_VARCHAR, S_w_DECIMAL, E_w_DECIMAL, S_w_SMALLINT, E_w_SMALLINT, S_w_NULL, E_w_NULL, S_w_BOOLEAN, E_w_BOOLEAN, S_w_BIGINT, E_w_BIGINT, F_precision_w_INT, F_ordinal_w_INT, F_ordinal_w_VARCHAR, F_ordinal_w_DECIMAL, F_precision_w_DECIMAL, F_precision_w_SMALLINT, F_ordinal_w_SMALLINT, F_precision_w_VARCHAR, F_precision_w_NULL, F_ordinal_w_NULL, F_precision_w_BOOLEAN, F_ordinal_w_BOOLEAN, F_precision_w_BIGINT, F_ordinal_w_BIGINT, hne_w_INT_w_VARCHAR, hne_w_INT_w_DECIMAL, hne_w_INT_w_SMALLINT, hne_w_INT_w_NULL, hne_w_INT_w_BOOLEAN, hne_w_INT_w_BIGINT, hne_w_VARCHAR_w_DECIMAL, hne_w_VARCHAR_w_SMALLINT, hne_w_VARCHAR_w_NULL, hne_w_VARCHAR_w_BOOLEAN, hne_w_VARCHAR_w_BIGINT, hne_w_DECIMAL_w_SMALLINT, hne_w_DECIMAL_w_NULL, hne_w_DECIMAL_w_BOOLEAN, hne_w_DECIMAL_w_BIGINT, hne_w_SMALLINT_w_NULL, hne_w_SMALLINT_w_BOOLEAN, hne_w_SMALLINT_w_BIGINT, hne_w_NULL_w_BOOLEAN, hne_w_NULL_w_BIGINT, hne_w_BOOLEAN_w_BIGINT⟩ := id S
  refine MetFree.of_bodySF (plainFor_of_name pn_0) hisR ?_
  intro p e s m args below meth c s₁ Bd hml0 hP hK
  obtain ⟨rfl, hZ, hh⟩ := hP
  have hx := Bd.exec
  have hby := Bd.bytes
  have hml : c.maxLocals = 2 := hml0
  have hown : s.vm.findClass "com/example/oyster/oyster/jdbc/JdbcTypePrecisionPinLaw" = some m.cls := findClass_of_methodNamed Bd.named
  have X0 : Stand p l e ({ frames := 0, cells := 0, slots := 0, locals := 0 } : Room) s m #[(.int (3 : Int32)), (.int p1)] below meth c s₁ [] 0 0 := Stand.of_body Bd
  have e0 : s₁.heap = h0 := by rw [← hh, Bd.state]; rfl
  have N0 := Fr.nil n0
  have pre0 : ∀ t, Steps p.tables e below (s₁.setTop (mkF m 0 #[.val (.int (3 : Int32)), .val (.int p1)] [])) t → Steps p.tables e below (s₁.setTop (entryFrame m #[(.int (3 : Int32)), (.int p1)] 2)) t := fun t k => castTop (by first | rfl | (simp [entryFrame, mkF, argsToLocals, Value.category]; done)) k
  obtain ⟨fs, hr, hrun, hended, hW, hsame⟩ := X0.leave (v := (some (.int p1))) (fun h => by rw [Bd.returns] at h; cases h)
  refine ⟨_, _, pre0 _ ?_, hrun, hended, _, _, rfl, ⟨rfl, N0, e0⟩, ⟨_, rfl⟩, hW, hsame.mono (by decide) (by decide)⟩
  show Steps p.tables e below (s₁.setTop (mkF m 0 #[.val (.int (3 : Int32)), .val (.int p1)] [])) _
  refine XS.iloadN X0.here hx rfl (hb hby d3_0) rfl ?_
  show Steps p.tables e below (s₁.setTop (mkF m 1 #[.val (.int (3 : Int32)), .val (.int p1)] [(.int (3 : Int32))])) _
  refine XS.ifYes X0.here hx rfl (pc0 := 1) (pc' := 7) rfl (hb hby d3_1) rfl ((if0 _ _).trans (feq (by decide : ¬ ((3 : Int32) = (0 : Int32)))).2) (by decide) (by decide) ?_
  show Steps p.tables e below (s₁.setTop (mkF m 7 #[.val (.int (3 : Int32)), .val (.int p1)] [])) _
  refine XS.iloadN X0.here hx rfl (hb hby d3_7) rfl ?_
  show Steps p.tables e below (s₁.setTop (mkF m 8 #[.val (.int (3 : Int32)), .val (.int p1)] [(.int (3 : Int32))])) _
  refine XS.iconst X0.here hx rfl (hb hby d3_8) ?_
  show Steps p.tables e below (s₁.setTop (mkF m 9 #[.val (.int (3 : Int32)), .val (.int p1)] [(.int (1 : Int32)), (.int (3 : Int32))])) _
  refine XS.icmpYes X0.here hx rfl (pc0 := 9) (pc' := 14) rfl (hb hby d3_9) rfl (feq (by decide : ¬ ((3 : Int32) = (1 : Int32)))).2 (by decide) (by decide) ?_
  show Steps p.tables e below (s₁.setTop (mkF m 14 #[.val (.int (3 : Int32)), .val (.int p1)] [])) _
  refine XS.iloadN X0.here hx rfl (hb hby d3_14) rfl ?_
  show Steps p.tables e below (s₁.setTop (mkF m 15 #[.val (.int (3 : Int32)), .val (.int p1)] [(.int (3 : Int32))])) _
  refine XS.iconst X0.here hx rfl (hb hby d3_15) ?_
  show Steps p.tables e below (s₁.setTop (mkF m 16 #[.val (.int (3 : Int32)), .val (.int p1)] [(.int (2 : Int32)), (.int (3 : Int32))])) _
  refine XS.icmpYes X0.here hx rfl (pc0 := 16) (pc' := 22) rfl (hb hby d3_16) rfl (feq (by decide : ¬ ((3 : Int32) = (2 : Int32)))).2 (by decide) (by decide) ?_
  show Steps p.tables e below (s₁.setTop (mkF m 22 #[.val (.int (3 : Int32)), .val (.int p1)] [])) _
  refine XS.iloadN X0.here hx rfl (hb hby d3_22) rfl ?_
  show Steps p.tables e below (s₁.setTop (mkF m 23 #[.val (.int (3 : Int32)), .val (.int p1)] [(.int (3 : Int32))])) _
  refine XS.iconst X0.here hx rfl (hb hby d3_23) ?_
  show Steps p.tables e below (s₁.setTop (mkF m 24 #[.val (.int (3 : Int32)), .val (.int p1)] [(.int (3 : Int32)), (.int (3 : Int32))])) _
  refine XS.icmpNo X0.here hx rfl (hb hby d3_24) rfl (teq (by decide : (3 : Int32) = (3 : Int32))).2 ?_
  show Steps p.tables e below (s₁.setTop (mkF m 27 #[.val (.int (3 : Int32)), .val (.int p1)] [])) _
  refine XS.iloadN X0.here hx rfl (hb hby d3_27) rfl ?_
  show Steps p.tables e below (s₁.setTop (mkF m 28 #[.val (.int (3 : Int32)), .val (.int p1)] [(.int p1)])) _
  refine XS.ifNo X0.here hx rfl (hb hby d3_28) rfl ((if0 _ _).trans (tlt hs).2.2.2) ?_
  show Steps p.tables e below (s₁.setTop (mkF m 31 #[.val (.int (3 : Int32)), .val (.int p1)] [])) _
  refine XS.iloadN X0.here hx rfl (hb hby d3_31) rfl ?_
  show Steps p.tables e below (s₁.setTop (mkF m 32 #[.val (.int (3 : Int32)), .val (.int p1)] [(.int p1)])) _
  exact retOut X0 hx (t := .int) (i := .ireturn) Bd.returns rfl (Or.inl ⟨rfl, Or.inl rfl, _, rfl⟩) (hb hby d3_32) hr
set_option maxRecDepth 65536 in
set_option maxHeartbeats 40000000 in
theorem rm0_3 (l : Launch) (Z : State) (a0 : Array Value) (hw : ∀ d ∈ tables_1, d.before a0 Z = true) (ws : List Jvm.Cond) (w_INT w_VARCHAR w_DECIMAL w_SMALLINT w_NULL w_BOOLEAN w_BIGINT : Addr) (h0 : Heap) (n0 : Nat) (Z0 : n0 ≤ h0.size) (S : SF Z h0 w_INT w_VARCHAR w_DECIMAL w_SMALLINT w_NULL w_BOOLEAN w_BIGINT) (p0 : Int32) (p1 : Int32) (hk : ((p0 &&& (2147483647 : Int32)) % (7 : Int32)) = (3 : Int32)) (hs : (0 : Int32) < p1) :
    Pay l Z x ws code maxLocals ret #[(.int p0), (.int p1)] h0 n0 room_1 (some (.int (1 : Int32))) := by
  obtain ⟨S_w_INT, E_w_INT, S_w_VARCHAR, E_w_VARCHAR, S_w_DECIMAL, E_w_DECIMAL, S_w_SMALLINT, E_w_SMALLINT, S_w_NULL, E_w_NULL, S_w_BOOLEAN, E_w_BOOLEAN, S_w_BIGINT, E_w_BIGINT, F_precision_w_INT, F_ordinal_w_INT, F_ordinal_w_VARCHAR, F_ordinal_w_DECIMAL, F_precision_w_DECIMAL, F_precision_w_SMALLINT, F_ordinal_w_SMALLINT, F_precision_w_VARCHAR, F_precision_w_NULL, F_ordinal_w_NULL, F_precision_w_BOOLEAN, F_ordinal_w_BOOLEAN, F_precision_w_BIGINT, F_ordinal_w_BIGINT, hne_w_INT_w_VARCHAR, hne_w_INT_w_DECIMAL, hne_w_INT_w_SMALLINT, hne_w_INT_w_NULL, hne_w_INT_w_BOOLEAN, hne_w_INT_w_BIGINT, hne_w_VARCHAR_w_DECIMAL, hne_w_VARCHAR_w_SMALLINT, hne_w_VARCHAR_w_NULL, hne_w_VARCHAR_w_BOOLEAN, hne_w_VARCHAR_w_BIGINT, hne_w_DECIMAL_w_SMALLINT, hne_w_DECIMAL_w_NULL, hne_w_DECIMAL_w_BOOLEAN, hne_w_DECIMAL_w_BIGINT, hne_w_SMALLINT_w_NULL, hne_w_SMALLINT_w_BOOLEAN, hne_w_SMALLINT_w_BIGINT, hne_w_NULL_w_BOOLEAN, hne_w_NULL_w_BIGINT, hne_w_BOOLEAN_w_BIGINT⟩ := id S
  refine MetFree.of_bodySF (plainFor_of_name pn_0) hisR ?_
  intro p e s m args below meth c s₁ Bd hml0 hP hK
  obtain ⟨rfl, hZ, hh⟩ := hP
  have hx := Bd.exec
  have hby := Bd.bytes
  have hml : c.maxLocals = 5 := hml0
  have hown : s.vm.findClass "com/example/oyster/oyster/jdbc/JdbcTypePrecisionPinLaw" = some m.cls := findClass_of_methodNamed Bd.named
  have X0 : Stand p l e room_1 s m #[(.int p0), (.int p1)] below meth c s₁ [] 0 0 := Stand.of_body Bd
  have e0 : s₁.heap = h0 := by rw [← hh, Bd.state]; rfl
  have N0 := Fr.nil n0
  have pre0 : ∀ t, Steps p.tables e below (s₁.setTop (mkF m 0 #[.val (.int p0), .val (.int p1), .unset, .unset, .unset] [])) t → Steps p.tables e below (s₁.setTop (entryFrame m #[(.int p0), (.int p1)] maxLocals)) t := fun t k => castTop (by first | rfl | (simp [entryFrame, mkF, argsToLocals, Value.category, maxLocals]; done)) k
  obtain ⟨_, _, ⟨T1, L1, k1, n1⟩, -, X1, ⟨Lc1, hQ1, l1, y1, z1⟩, st1⟩ := Jvm.LawKit.callS X0 hx (y := (⟨"com/example/oyster/oyster/jdbc/JdbcTypePrecisionPinLaw", "pick", "(I)Lcom/example/oyster/oyster/jdbc/JdbcType;"⟩ : MethodName)) hown (mvT hZ (hw _ (List.mem_of_getElem? (i := 1) rfl))) (mvT hZ (hw _ (List.mem_of_getElem? (i := 2) rfl))) (mvT hZ (hw _ (List.mem_of_getElem? (i := 3) rfl))) (mvT hZ (hw _ (List.mem_of_getElem? (i := 4) rfl))) (by decide) (backOf (W := 0) (rm1_3 l Z a0 hw [] w_INT w_VARCHAR w_DECIMAL w_SMALLINT w_NULL w_BOOLEAN w_BIGINT h0 n0 Z0 S) hZ (hw _ (List.mem_of_getElem? (i := 4) rfl)) (hw _ (List.mem_of_getElem? (i := 3) rfl)) (by decide) (by decide)) (g := (mkF m 9 #[.val (.int p0), .val (.int p1), .val (.int (3 : Int32)), .unset, .unset] [(.int (3 : Int32))])) rfl (by rw [hml]; rfl) (argsL := [(.int (3 : Int32))]) (rest := []) (lenOf pd_0 rfl) rfl (by show 2 * 0 + _ ≤ _; exact Nat.le_of_eq rfl) (hb hby at_9) (fun _ _ => ⟨rfl, e0, (by decide : 0 + 0 ≤ _), (by decide : 0 + 0 ≤ _)⟩)
  dsimp only [Pt.U, Pt.locs, Pt.cells, Pt.slots] at X1 l1 y1 z1 st1 hQ1
  subst l1 y1 z1
  obtain ⟨rfl, Nq1, e1⟩ := hQ1
  have N1 := Fr.app N0 Nq1
  obtain ⟨cq2, kq2, q2a, q2b, q2c⟩ := isOf hZ e1 E_w_DECIMAL
  obtain ⟨_, _, ⟨T2, L2, k2, n2⟩, -, X2, ⟨Lc2, hQ2, l2, y2, z2⟩, st2⟩ := X1.virtualBack hx (y := (⟨"com/example/oyster/oyster/jdbc/JdbcType", "precision", "(I)I"⟩ : MethodName)) (z := (⟨"com/example/oyster/oyster/jdbc/JdbcType", "precision", "(I)I"⟩ : MethodName)) hown (mvT hZ (hw _ (List.mem_of_getElem? (i := 8) rfl))) (mvT hZ (hw _ (List.mem_of_getElem? (i := 9) rfl))) (notFace_of_selects (args := #[]) (mvT hZ (hw _ (List.mem_of_getElem? (i := 11) rfl)))) (mvT hZ (hw _ (List.mem_of_getElem? (i := 11) rfl))) (mvT hZ (hw _ (List.mem_of_getElem? (i := 10) rfl))) (by decide) (backOf (W := 0) (rm2_3 l Z a0 hw [] w_INT w_VARCHAR w_DECIMAL w_SMALLINT w_NULL w_BOOLEAN w_BIGINT h0 n0 Z0 S p1 hs) hZ (hw _ (List.mem_of_getElem? (i := 12) rfl)) (hw _ (List.mem_of_getElem? (i := 6) rfl)) (by decide) (by decide)) q2a q2c (g := (mkF m 15 #[.val (.int p0), .val (.int p1), .val (.int (3 : Int32)), .val (.ref w_DECIMAL), .unset] [(.int p1), (.ref w_DECIMAL)])) rfl (by rw [hml]; rfl) (Steps.refl _) (argsL := [(.int p1)]) (rest := []) (lenOf pd_1 rfl) rfl (by show 2 * 0 + _ ≤ _; exact Nat.le_of_eq rfl) (hb hby at_15) (fun _ _ => ⟨rfl, e1, (by decide : 0 + 0 ≤ _), (by decide : 0 + 0 ≤ _)⟩)
  dsimp only [Pt.U, Pt.locs, Pt.cells, Pt.slots] at X2 l2 y2 z2 st2 hQ2
  subst l2 y2 z2
  obtain ⟨rfl, Nq2, e2⟩ := hQ2
  have N2 := Fr.app N1 Nq2
  obtain ⟨_, _, ⟨T3, L3, k3, n3⟩, -, X3, ⟨Lc3, hQ3, l3, y3, z3⟩, st3⟩ := Jvm.LawKit.callS X2 hx (y := (⟨"com/example/oyster/oyster/jdbc/JdbcTypePrecisionPinLaw", "expected", "(II)I"⟩ : MethodName)) hown (mvT hZ (hw _ (List.mem_of_getElem? (i := 19) rfl))) (mvT hZ (hw _ (List.mem_of_getElem? (i := 20) rfl))) (mvT hZ (hw _ (List.mem_of_getElem? (i := 3) rfl))) (mvT hZ (hw _ (List.mem_of_getElem? (i := 21) rfl))) (by decide) (backOf (W := 1) (rm3_3 l Z a0 hw [] w_INT w_VARCHAR w_DECIMAL w_SMALLINT w_NULL w_BOOLEAN w_BIGINT h0 n0 Z0 S p1 hs) hZ (hw _ (List.mem_of_getElem? (i := 21) rfl)) (hw _ (List.mem_of_getElem? (i := 3) rfl)) (by decide) (by decide)) (g := (mkF m 24 #[.val (.int p0), .val (.int p1), .val (.int (3 : Int32)), .val (.ref w_DECIMAL), .val (.int p1)] [(.int p1), (.int (3 : Int32)), (.int p1)])) rfl (by rw [hml]; rfl) (argsL := [(.int (3 : Int32)), (.int p1)]) (rest := [(.int p1)]) (lenOf pd_2 rfl) rfl (by show 2 * 0 + _ ≤ _; exact Nat.le_of_eq rfl) (hb hby at_24) (fun _ _ => ⟨rfl, e2, (by decide : 0 + 0 ≤ _), (by decide : 0 + 0 ≤ _)⟩)
  dsimp only [Pt.U, Pt.locs, Pt.cells, Pt.slots] at X3 l3 y3 z3 st3 hQ3
  subst l3 y3 z3
  obtain ⟨rfl, Nq3, e3⟩ := hQ3
  have N3 := Fr.app N2 Nq3
  obtain ⟨fs, hr, hrun, hended, hW, hsame⟩ := X3.leave (v := (some (.int (1 : Int32)))) (fun h => by rw [Bd.returns] at h; cases h)
  refine ⟨_, _, pre0 _ ?_, hrun, hended, _, _, rfl, ⟨rfl, N3, e3⟩, ⟨_, rfl⟩, hW, hsame.mono (by decide) (by decide)⟩
  show Steps p.tables e below (s₁.setTop (mkF m 0 #[.val (.int p0), .val (.int p1), .unset, .unset, .unset] [])) _
  refine XS.iloadN X0.here hx rfl (hb hby at_0) rfl ?_
  show Steps p.tables e below (s₁.setTop (mkF m 1 #[.val (.int p0), .val (.int p1), .unset, .unset, .unset] [(.int p0)])) _
  refine X0.ldcInt hx hown (mvT hZ (hw _ (List.mem_of_getElem? (i := 0) rfl))) (g := (mkF m 1 #[.val (.int p0), .val (.int p1), .unset, .unset, .unset] [(.int p0)])) rfl (hb hby at_1) _ ?_
  show Steps p.tables e below (s₁.setTop (mkF m 3 #[.val (.int p0), .val (.int p1), .unset, .unset, .unset] [(.int (2147483647 : Int32)), (.int p0)])) _
  refine XS.iand X0.here hx rfl (hb hby at_3) rfl ?_
  show Steps p.tables e below (s₁.setTop (mkF m 4 #[.val (.int p0), .val (.int p1), .unset, .unset, .unset] [(.int (p0 &&& (2147483647 : Int32)))])) _
  show Steps p.tables e below (s₁.setTop (mkF m 4 #[.val (.int p0), .val (.int p1), .unset, .unset, .unset] [(.int (p0 &&& (2147483647 : Int32)))])) _
  refine XS.bipush X0.here hx rfl (hb hby at_4) ?_
  show Steps p.tables e below (s₁.setTop (mkF m 6 #[.val (.int p0), .val (.int p1), .unset, .unset, .unset] [(.int (7 : Int32)), (.int (p0 &&& (2147483647 : Int32)))])) _
  refine iremM X0 hx rfl (hb hby at_6) rfl (by decide) ?_
  show Steps p.tables e below (s₁.setTop (mkF m 7 #[.val (.int p0), .val (.int p1), .unset, .unset, .unset] [(.int ((p0 &&& (2147483647 : Int32)) % (7 : Int32)))])) _
  rw [hk]
  show Steps p.tables e below (s₁.setTop (mkF m 7 #[.val (.int p0), .val (.int p1), .unset, .unset, .unset] [(.int (3 : Int32))])) _
  refine XS.istoreN X0.here hx rfl (hb hby at_7) rfl (l' := #[.val (.int p0), .val (.int p1), .val (.int (3 : Int32)), .unset, .unset]) rfl ?_
  show Steps p.tables e below (s₁.setTop (mkF m 8 #[.val (.int p0), .val (.int p1), .val (.int (3 : Int32)), .unset, .unset] [])) _
  refine XS.iloadN X0.here hx rfl (hb hby at_8) rfl ?_
  show Steps p.tables e below (s₁.setTop (mkF m 9 #[.val (.int p0), .val (.int p1), .val (.int (3 : Int32)), .unset, .unset] [(.int (3 : Int32))])) _
  refine st1 _ ?_
  show Steps p.tables e below (T1.setTop (mkF m 12 #[.val (.int p0), .val (.int p1), .val (.int (3 : Int32)), .unset, .unset] [(.ref w_DECIMAL)])) _
  refine XS.astoreN X1.here hx rfl (hb hby at_12) rfl rfl (l' := #[.val (.int p0), .val (.int p1), .val (.int (3 : Int32)), .val (.ref w_DECIMAL), .unset]) rfl ?_
  show Steps p.tables e below (T1.setTop (mkF m 13 #[.val (.int p0), .val (.int p1), .val (.int (3 : Int32)), .val (.ref w_DECIMAL), .unset] [])) _
  refine XS.aloadN X1.here hx rfl (hb hby at_13) rfl rfl ?_
  show Steps p.tables e below (T1.setTop (mkF m 14 #[.val (.int p0), .val (.int p1), .val (.int (3 : Int32)), .val (.ref w_DECIMAL), .unset] [(.ref w_DECIMAL)])) _
  refine XS.iloadN X1.here hx rfl (hb hby at_14) rfl ?_
  show Steps p.tables e below (T1.setTop (mkF m 15 #[.val (.int p0), .val (.int p1), .val (.int (3 : Int32)), .val (.ref w_DECIMAL), .unset] [(.int p1), (.ref w_DECIMAL)])) _
  refine st2.trans ?_
  show Steps p.tables e below (T2.setTop (mkF m 18 #[.val (.int p0), .val (.int p1), .val (.int (3 : Int32)), .val (.ref w_DECIMAL), .unset] [(.int p1)])) _
  refine XS.istore X2.here hx rfl (hb hby at_18) rfl (l' := #[.val (.int p0), .val (.int p1), .val (.int (3 : Int32)), .val (.ref w_DECIMAL), .val (.int p1)]) rfl ?_
  show Steps p.tables e below (T2.setTop (mkF m 20 #[.val (.int p0), .val (.int p1), .val (.int (3 : Int32)), .val (.ref w_DECIMAL), .val (.int p1)] [])) _
  refine XS.iload X2.here hx rfl (hb hby at_20) rfl ?_
  show Steps p.tables e below (T2.setTop (mkF m 22 #[.val (.int p0), .val (.int p1), .val (.int (3 : Int32)), .val (.ref w_DECIMAL), .val (.int p1)] [(.int p1)])) _
  refine XS.iloadN X2.here hx rfl (hb hby at_22) rfl ?_
  show Steps p.tables e below (T2.setTop (mkF m 23 #[.val (.int p0), .val (.int p1), .val (.int (3 : Int32)), .val (.ref w_DECIMAL), .val (.int p1)] [(.int (3 : Int32)), (.int p1)])) _
  refine XS.iloadN X2.here hx rfl (hb hby at_23) rfl ?_
  show Steps p.tables e below (T2.setTop (mkF m 24 #[.val (.int p0), .val (.int p1), .val (.int (3 : Int32)), .val (.ref w_DECIMAL), .val (.int p1)] [(.int p1), (.int (3 : Int32)), (.int p1)])) _
  refine st3 _ ?_
  show Steps p.tables e below (T3.setTop (mkF m 27 #[.val (.int p0), .val (.int p1), .val (.int (3 : Int32)), .val (.ref w_DECIMAL), .val (.int p1)] [(.int p1), (.int p1)])) _
  refine XS.icmpNo X3.here hx rfl (hb hby at_27) rfl (teq (rfl : p1 = p1)).2 ?_
  show Steps p.tables e below (T3.setTop (mkF m 30 #[.val (.int p0), .val (.int p1), .val (.int (3 : Int32)), .val (.ref w_DECIMAL), .val (.int p1)] [])) _
  refine XS.iconst X3.here hx rfl (hb hby at_30) ?_
  show Steps p.tables e below (T3.setTop (mkF m 31 #[.val (.int p0), .val (.int p1), .val (.int (3 : Int32)), .val (.ref w_DECIMAL), .val (.int p1)] [(.int (1 : Int32))])) _
  refine XS.goto X3.here hx rfl (pc0 := 31) (pc' := 35) rfl (hb hby at_31) (by decide) (by decide) ?_
  show Steps p.tables e below (T3.setTop (mkF m 35 #[.val (.int p0), .val (.int p1), .val (.int (3 : Int32)), .val (.ref w_DECIMAL), .val (.int p1)] [(.int (1 : Int32))])) _
  exact retN X3 hx (t := .boolean) Bd.returns (by simp) (hb hby at_35) hr
set_option maxRecDepth 65536 in
set_option maxHeartbeats 40000000 in
theorem rm2_4 (l : Launch) (Z : State) (a0 : Array Value) (hw : ∀ d ∈ tables_1, d.before a0 Z = true) (ws : List Jvm.Cond) (w_INT w_VARCHAR w_DECIMAL w_SMALLINT w_NULL w_BOOLEAN w_BIGINT : Addr) (h0 : Heap) (n0 : Nat) (Z0 : n0 ≤ h0.size) (S : SF Z h0 w_INT w_VARCHAR w_DECIMAL w_SMALLINT w_NULL w_BOOLEAN w_BIGINT) (p1 : Int32) (hs : ¬ ((0 : Int32) < p1)) :
    Pay l Z (⟨"com/example/oyster/oyster/jdbc/JdbcType", "precision", "(I)I"⟩ : MethodName) ws prog_121_method_10_code 3 (some .int) #[(.ref w_DECIMAL), (.int p1)] h0 n0 ({ frames := 0, cells := 0, slots := 0, locals := 0 } : Room) (some (.int (38 : Int32))) := by
  obtain ⟨S_w_INT, E_w_INT, S_w_VARCHAR, E_w_VARCHAR, S_w_DECIMAL, E_w_DECIMAL, S_w_SMALLINT, E_w_SMALLINT, S_w_NULL, E_w_NULL, S_w_BOOLEAN, E_w_BOOLEAN, S_w_BIGINT, E_w_BIGINT, F_precision_w_INT, F_ordinal_w_INT, F_ordinal_w_VARCHAR, F_ordinal_w_DECIMAL, F_precision_w_DECIMAL, F_precision_w_SMALLINT, F_ordinal_w_SMALLINT, F_precision_w_VARCHAR, F_precision_w_NULL, F_ordinal_w_NULL, F_precision_w_BOOLEAN, F_ordinal_w_BOOLEAN, F_precision_w_BIGINT, F_ordinal_w_BIGINT, hne_w_INT_w_VARCHAR, hne_w_INT_w_DECIMAL, hne_w_INT_w_SMALLINT, hne_w_INT_w_NULL, hne_w_INT_w_BOOLEAN, hne_w_INT_w_BIGINT, hne_w_VARCHAR_w_DECIMAL, hne_w_VARCHAR_w_SMALLINT, hne_w_VARCHAR_w_NULL, hne_w_VARCHAR_w_BOOLEAN, hne_w_VARCHAR_w_BIGINT, hne_w_DECIMAL_w_SMALLINT, hne_w_DECIMAL_w_NULL, hne_w_DECIMAL_w_BOOLEAN, hne_w_DECIMAL_w_BIGINT, hne_w_SMALLINT_w_NULL, hne_w_SMALLINT_w_BOOLEAN, hne_w_SMALLINT_w_BIGINT, hne_w_NULL_w_BOOLEAN, hne_w_NULL_w_BIGINT, hne_w_BOOLEAN_w_BIGINT⟩ := id S
  refine MetFree.of_bodySF (plainFor_of_name pn_1) hisR ?_
  intro p e s m args below meth c s₁ Bd hml0 hP hK
  obtain ⟨rfl, hZ, hh⟩ := hP
  have hx := Bd.exec
  have hby := Bd.bytes
  have hml : c.maxLocals = 3 := hml0
  have hown : s.vm.findClass "com/example/oyster/oyster/jdbc/JdbcType" = some m.cls := findClass_of_methodNamed Bd.named
  have X0 : Stand p l e ({ frames := 0, cells := 0, slots := 0, locals := 0 } : Room) s m #[(.ref w_DECIMAL), (.int p1)] below meth c s₁ [] 0 0 := Stand.of_body Bd
  have e0 : s₁.heap = h0 := by rw [← hh, Bd.state]; rfl
  have N0 := Fr.nil n0
  have pre0 : ∀ t, Steps p.tables e below (s₁.setTop (mkF m 0 #[.val (.ref w_DECIMAL), .val (.int p1), .unset] [])) t → Steps p.tables e below (s₁.setTop (entryFrame m #[(.ref w_DECIMAL), (.int p1)] 3)) t := fun t k => castTop (by first | rfl | (simp [entryFrame, mkF, argsToLocals, Value.category]; done)) k
  obtain ⟨T1, X1, e1, st1⟩ := getF X0 hx hZ hown (host := "") (Or.inl (hw _ (List.mem_of_getElem? (i := 13) rfl))) Via.refl e0 F_precision_w_DECIMAL (g := (mkF m 1 #[.val (.ref w_DECIMAL), .val (.int p1), .unset] [(.ref w_DECIMAL)])) rfl rfl (hb hby d2_1)
  obtain ⟨T2, X2, e2, st2⟩ := getS2 X1 hx hZ hown (host := "") (Or.inl (hw _ (List.mem_of_getElem? (i := 15) rfl))) Via.refl e1 S_w_VARCHAR (g := (mkF m 6 #[.val (.ref w_DECIMAL), .val (.int p1), .val (.int (38 : Int32))] [(.ref w_DECIMAL)])) rfl (hb hby d2_6)
  obtain ⟨T3, X3, e3, st3⟩ := getS2 X2 hx hZ hown (host := "") (Or.inl (hw _ (List.mem_of_getElem? (i := 17) rfl))) Via.refl e2 S_w_DECIMAL (g := (mkF m 27 #[.val (.ref w_DECIMAL), .val (.int p1), .val (.int (38 : Int32))] [(.ref w_DECIMAL)])) rfl (hb hby d2_27)
  obtain ⟨fs, hr, hrun, hended, hW, hsame⟩ := X3.leave (v := (some (.int (38 : Int32)))) (fun h => by rw [Bd.returns] at h; cases h)
  refine ⟨_, _, pre0 _ ?_, hrun, hended, _, _, rfl, ⟨rfl, N0, e3⟩, ⟨_, rfl⟩, hW, hsame.mono (by decide) (by decide)⟩
  show Steps p.tables e below (s₁.setTop (mkF m 0 #[.val (.ref w_DECIMAL), .val (.int p1), .unset] [])) _
  refine XS.aloadN X0.here hx rfl (hb hby d2_0) rfl rfl ?_
  show Steps p.tables e below (s₁.setTop (mkF m 1 #[.val (.ref w_DECIMAL), .val (.int p1), .unset] [(.ref w_DECIMAL)])) _
  refine st1 _ ?_
  show Steps p.tables e below (T1.setTop (mkF m 4 #[.val (.ref w_DECIMAL), .val (.int p1), .unset] [(.int (38 : Int32))])) _
  refine XS.istoreN X1.here hx rfl (hb hby d2_4) rfl (l' := #[.val (.ref w_DECIMAL), .val (.int p1), .val (.int (38 : Int32))]) rfl ?_
  show Steps p.tables e below (T1.setTop (mkF m 5 #[.val (.ref w_DECIMAL), .val (.int p1), .val (.int (38 : Int32))] [])) _
  refine XS.aloadN X1.here hx rfl (hb hby d2_5) rfl rfl ?_
  show Steps p.tables e below (T1.setTop (mkF m 6 #[.val (.ref w_DECIMAL), .val (.int p1), .val (.int (38 : Int32))] [(.ref w_DECIMAL)])) _
  refine st2 _ ?_
  show Steps p.tables e below (T2.setTop (mkF m 9 #[.val (.ref w_DECIMAL), .val (.int p1), .val (.int (38 : Int32))] [(.ref w_VARCHAR), (.ref w_DECIMAL)])) _
  refine Jvm.RoadKit.acmp (g := (mkF m 9 #[.val (.ref w_DECIMAL), .val (.int p1), .val (.int (38 : Int32))] [(.ref w_VARCHAR), (.ref w_DECIMAL)])) X2 hx rfl rfl rfl (pc0 := 9) (pc' := 26) (same := false) rfl (hb hby d2_9) rfl (decide_eq_false fun q => hne_w_VARCHAR_w_DECIMAL (Value.ref.inj q).symm) (by decide) (by decide) ?_
  show Steps p.tables e below (T2.setTop (mkF m 26 #[.val (.ref w_DECIMAL), .val (.int p1), .val (.int (38 : Int32))] [])) _
  refine XS.aloadN X2.here hx rfl (hb hby d2_26) rfl rfl ?_
  show Steps p.tables e below (T2.setTop (mkF m 27 #[.val (.ref w_DECIMAL), .val (.int p1), .val (.int (38 : Int32))] [(.ref w_DECIMAL)])) _
  refine st3 _ ?_
  show Steps p.tables e below (T3.setTop (mkF m 30 #[.val (.ref w_DECIMAL), .val (.int p1), .val (.int (38 : Int32))] [(.ref w_DECIMAL), (.ref w_DECIMAL)])) _
  refine Jvm.RoadKit.acmp (g := (mkF m 30 #[.val (.ref w_DECIMAL), .val (.int p1), .val (.int (38 : Int32))] [(.ref w_DECIMAL), (.ref w_DECIMAL)])) X3 hx rfl rfl rfl (pc0 := 30) (pc' := 33) (same := true) rfl (hb hby d2_30) rfl (decide_eq_true rfl) (by decide) (by decide) ?_
  show Steps p.tables e below (T3.setTop (mkF m 33 #[.val (.ref w_DECIMAL), .val (.int p1), .val (.int (38 : Int32))] [])) _
  refine XS.iloadN X3.here hx rfl (hb hby d2_33) rfl ?_
  show Steps p.tables e below (T3.setTop (mkF m 34 #[.val (.ref w_DECIMAL), .val (.int p1), .val (.int (38 : Int32))] [(.int p1)])) _
  refine XS.ifYes X3.here hx rfl (pc0 := 34) (pc' := 39) rfl (hb hby d2_34) rfl ((if0 _ _).trans (flt hs).2.2.2) (by decide) (by decide) ?_
  show Steps p.tables e below (T3.setTop (mkF m 39 #[.val (.ref w_DECIMAL), .val (.int p1), .val (.int (38 : Int32))] [])) _
  refine XS.iloadN X3.here hx rfl (hb hby d2_39) rfl ?_
  show Steps p.tables e below (T3.setTop (mkF m 40 #[.val (.ref w_DECIMAL), .val (.int p1), .val (.int (38 : Int32))] [(.int (38 : Int32))])) _
  exact retOut X3 hx (t := .int) (i := .ireturn) Bd.returns rfl (Or.inl ⟨rfl, Or.inl rfl, _, rfl⟩) (hb hby d2_40) hr
theorem d3_33 : decode method_4_code 33 = .ok (.bipush 38, 2) := by decide +kernel
theorem d3_35 : decode method_4_code 35 = .ok (.ireturn, 1) := by decide +kernel
set_option maxRecDepth 65536 in
set_option maxHeartbeats 40000000 in
theorem rm3_4 (l : Launch) (Z : State) (a0 : Array Value) (hw : ∀ d ∈ tables_1, d.before a0 Z = true) (ws : List Jvm.Cond) (w_INT w_VARCHAR w_DECIMAL w_SMALLINT w_NULL w_BOOLEAN w_BIGINT : Addr) (h0 : Heap) (n0 : Nat) (Z0 : n0 ≤ h0.size) (S : SF Z h0 w_INT w_VARCHAR w_DECIMAL w_SMALLINT w_NULL w_BOOLEAN w_BIGINT) (p1 : Int32) (hs : ¬ ((0 : Int32) < p1)) :
    Pay l Z (⟨"com/example/oyster/oyster/jdbc/JdbcTypePrecisionPinLaw", "expected", "(II)I"⟩ : MethodName) ws method_4_code 2 (some .int) #[(.int (3 : Int32)), (.int p1)] h0 n0 ({ frames := 0, cells := 0, slots := 0, locals := 0 } : Room) (some (.int (38 : Int32))) := by
  obtain ⟨S_w_INT, E_w_INT, S_w_VARCHAR, E_w_VARCHAR, S_w_DECIMAL, E_w_DECIMAL, S_w_SMALLINT, E_w_SMALLINT, S_w_NULL, E_w_NULL, S_w_BOOLEAN, E_w_BOOLEAN, S_w_BIGINT, E_w_BIGINT, F_precision_w_INT, F_ordinal_w_INT, F_ordinal_w_VARCHAR, F_ordinal_w_DECIMAL, F_precision_w_DECIMAL, F_precision_w_SMALLINT, F_ordinal_w_SMALLINT, F_precision_w_VARCHAR, F_precision_w_NULL, F_ordinal_w_NULL, F_precision_w_BOOLEAN, F_ordinal_w_BOOLEAN, F_precision_w_BIGINT, F_ordinal_w_BIGINT, hne_w_INT_w_VARCHAR, hne_w_INT_w_DECIMAL, hne_w_INT_w_SMALLINT, hne_w_INT_w_NULL, hne_w_INT_w_BOOLEAN, hne_w_INT_w_BIGINT, hne_w_VARCHAR_w_DECIMAL, hne_w_VARCHAR_w_SMALLINT, hne_w_VARCHAR_w_NULL, hne_w_VARCHAR_w_BOOLEAN, hne_w_VARCHAR_w_BIGINT, hne_w_DECIMAL_w_SMALLINT, hne_w_DECIMAL_w_NULL, hne_w_DECIMAL_w_BOOLEAN, hne_w_DECIMAL_w_BIGINT, hne_w_SMALLINT_w_NULL, hne_w_SMALLINT_w_BOOLEAN, hne_w_SMALLINT_w_BIGINT, hne_w_NULL_w_BOOLEAN, hne_w_NULL_w_BIGINT, hne_w_BOOLEAN_w_BIGINT⟩ := id S
  refine MetFree.of_bodySF (plainFor_of_name pn_0) hisR ?_
  intro p e s m args below meth c s₁ Bd hml0 hP hK
  obtain ⟨rfl, hZ, hh⟩ := hP
  have hx := Bd.exec
  have hby := Bd.bytes
  have hml : c.maxLocals = 2 := hml0
  have hown : s.vm.findClass "com/example/oyster/oyster/jdbc/JdbcTypePrecisionPinLaw" = some m.cls := findClass_of_methodNamed Bd.named
  have X0 : Stand p l e ({ frames := 0, cells := 0, slots := 0, locals := 0 } : Room) s m #[(.int (3 : Int32)), (.int p1)] below meth c s₁ [] 0 0 := Stand.of_body Bd
  have e0 : s₁.heap = h0 := by rw [← hh, Bd.state]; rfl
  have N0 := Fr.nil n0
  have pre0 : ∀ t, Steps p.tables e below (s₁.setTop (mkF m 0 #[.val (.int (3 : Int32)), .val (.int p1)] [])) t → Steps p.tables e below (s₁.setTop (entryFrame m #[(.int (3 : Int32)), (.int p1)] 2)) t := fun t k => castTop (by first | rfl | (simp [entryFrame, mkF, argsToLocals, Value.category]; done)) k
  obtain ⟨fs, hr, hrun, hended, hW, hsame⟩ := X0.leave (v := (some (.int (38 : Int32)))) (fun h => by rw [Bd.returns] at h; cases h)
  refine ⟨_, _, pre0 _ ?_, hrun, hended, _, _, rfl, ⟨rfl, N0, e0⟩, ⟨_, rfl⟩, hW, hsame.mono (by decide) (by decide)⟩
  show Steps p.tables e below (s₁.setTop (mkF m 0 #[.val (.int (3 : Int32)), .val (.int p1)] [])) _
  refine XS.iloadN X0.here hx rfl (hb hby d3_0) rfl ?_
  show Steps p.tables e below (s₁.setTop (mkF m 1 #[.val (.int (3 : Int32)), .val (.int p1)] [(.int (3 : Int32))])) _
  refine XS.ifYes X0.here hx rfl (pc0 := 1) (pc' := 7) rfl (hb hby d3_1) rfl ((if0 _ _).trans (feq (by decide : ¬ ((3 : Int32) = (0 : Int32)))).2) (by decide) (by decide) ?_
  show Steps p.tables e below (s₁.setTop (mkF m 7 #[.val (.int (3 : Int32)), .val (.int p1)] [])) _
  refine XS.iloadN X0.here hx rfl (hb hby d3_7) rfl ?_
  show Steps p.tables e below (s₁.setTop (mkF m 8 #[.val (.int (3 : Int32)), .val (.int p1)] [(.int (3 : Int32))])) _
  refine XS.iconst X0.here hx rfl (hb hby d3_8) ?_
  show Steps p.tables e below (s₁.setTop (mkF m 9 #[.val (.int (3 : Int32)), .val (.int p1)] [(.int (1 : Int32)), (.int (3 : Int32))])) _
  refine XS.icmpYes X0.here hx rfl (pc0 := 9) (pc' := 14) rfl (hb hby d3_9) rfl (feq (by decide : ¬ ((3 : Int32) = (1 : Int32)))).2 (by decide) (by decide) ?_
  show Steps p.tables e below (s₁.setTop (mkF m 14 #[.val (.int (3 : Int32)), .val (.int p1)] [])) _
  refine XS.iloadN X0.here hx rfl (hb hby d3_14) rfl ?_
  show Steps p.tables e below (s₁.setTop (mkF m 15 #[.val (.int (3 : Int32)), .val (.int p1)] [(.int (3 : Int32))])) _
  refine XS.iconst X0.here hx rfl (hb hby d3_15) ?_
  show Steps p.tables e below (s₁.setTop (mkF m 16 #[.val (.int (3 : Int32)), .val (.int p1)] [(.int (2 : Int32)), (.int (3 : Int32))])) _
  refine XS.icmpYes X0.here hx rfl (pc0 := 16) (pc' := 22) rfl (hb hby d3_16) rfl (feq (by decide : ¬ ((3 : Int32) = (2 : Int32)))).2 (by decide) (by decide) ?_
  show Steps p.tables e below (s₁.setTop (mkF m 22 #[.val (.int (3 : Int32)), .val (.int p1)] [])) _
  refine XS.iloadN X0.here hx rfl (hb hby d3_22) rfl ?_
  show Steps p.tables e below (s₁.setTop (mkF m 23 #[.val (.int (3 : Int32)), .val (.int p1)] [(.int (3 : Int32))])) _
  refine XS.iconst X0.here hx rfl (hb hby d3_23) ?_
  show Steps p.tables e below (s₁.setTop (mkF m 24 #[.val (.int (3 : Int32)), .val (.int p1)] [(.int (3 : Int32)), (.int (3 : Int32))])) _
  refine XS.icmpNo X0.here hx rfl (hb hby d3_24) rfl (teq (by decide : (3 : Int32) = (3 : Int32))).2 ?_
  show Steps p.tables e below (s₁.setTop (mkF m 27 #[.val (.int (3 : Int32)), .val (.int p1)] [])) _
  refine XS.iloadN X0.here hx rfl (hb hby d3_27) rfl ?_
  show Steps p.tables e below (s₁.setTop (mkF m 28 #[.val (.int (3 : Int32)), .val (.int p1)] [(.int p1)])) _
  refine XS.ifYes X0.here hx rfl (pc0 := 28) (pc' := 33) rfl (hb hby d3_28) rfl ((if0 _ _).trans (flt hs).2.2.2) (by decide) (by decide) ?_
  show Steps p.tables e below (s₁.setTop (mkF m 33 #[.val (.int (3 : Int32)), .val (.int p1)] [])) _
  refine XS.bipush X0.here hx rfl (hb hby d3_33) ?_
  show Steps p.tables e below (s₁.setTop (mkF m 35 #[.val (.int (3 : Int32)), .val (.int p1)] [(.int (38 : Int32))])) _
  exact retOut X0 hx (t := .int) (i := .ireturn) Bd.returns rfl (Or.inl ⟨rfl, Or.inl rfl, _, rfl⟩) (hb hby d3_35) hr
set_option maxRecDepth 65536 in
set_option maxHeartbeats 40000000 in
theorem rm0_4 (l : Launch) (Z : State) (a0 : Array Value) (hw : ∀ d ∈ tables_1, d.before a0 Z = true) (ws : List Jvm.Cond) (w_INT w_VARCHAR w_DECIMAL w_SMALLINT w_NULL w_BOOLEAN w_BIGINT : Addr) (h0 : Heap) (n0 : Nat) (Z0 : n0 ≤ h0.size) (S : SF Z h0 w_INT w_VARCHAR w_DECIMAL w_SMALLINT w_NULL w_BOOLEAN w_BIGINT) (p0 : Int32) (p1 : Int32) (hk : ((p0 &&& (2147483647 : Int32)) % (7 : Int32)) = (3 : Int32)) (hs : ¬ ((0 : Int32) < p1)) :
    Pay l Z x ws code maxLocals ret #[(.int p0), (.int p1)] h0 n0 room_1 (some (.int (1 : Int32))) := by
  obtain ⟨S_w_INT, E_w_INT, S_w_VARCHAR, E_w_VARCHAR, S_w_DECIMAL, E_w_DECIMAL, S_w_SMALLINT, E_w_SMALLINT, S_w_NULL, E_w_NULL, S_w_BOOLEAN, E_w_BOOLEAN, S_w_BIGINT, E_w_BIGINT, F_precision_w_INT, F_ordinal_w_INT, F_ordinal_w_VARCHAR, F_ordinal_w_DECIMAL, F_precision_w_DECIMAL, F_precision_w_SMALLINT, F_ordinal_w_SMALLINT, F_precision_w_VARCHAR, F_precision_w_NULL, F_ordinal_w_NULL, F_precision_w_BOOLEAN, F_ordinal_w_BOOLEAN, F_precision_w_BIGINT, F_ordinal_w_BIGINT, hne_w_INT_w_VARCHAR, hne_w_INT_w_DECIMAL, hne_w_INT_w_SMALLINT, hne_w_INT_w_NULL, hne_w_INT_w_BOOLEAN, hne_w_INT_w_BIGINT, hne_w_VARCHAR_w_DECIMAL, hne_w_VARCHAR_w_SMALLINT, hne_w_VARCHAR_w_NULL, hne_w_VARCHAR_w_BOOLEAN, hne_w_VARCHAR_w_BIGINT, hne_w_DECIMAL_w_SMALLINT, hne_w_DECIMAL_w_NULL, hne_w_DECIMAL_w_BOOLEAN, hne_w_DECIMAL_w_BIGINT, hne_w_SMALLINT_w_NULL, hne_w_SMALLINT_w_BOOLEAN, hne_w_SMALLINT_w_BIGINT, hne_w_NULL_w_BOOLEAN, hne_w_NULL_w_BIGINT, hne_w_BOOLEAN_w_BIGINT⟩ := id S
  refine MetFree.of_bodySF (plainFor_of_name pn_0) hisR ?_
  intro p e s m args below meth c s₁ Bd hml0 hP hK
  obtain ⟨rfl, hZ, hh⟩ := hP
  have hx := Bd.exec
  have hby := Bd.bytes
  have hml : c.maxLocals = 5 := hml0
  have hown : s.vm.findClass "com/example/oyster/oyster/jdbc/JdbcTypePrecisionPinLaw" = some m.cls := findClass_of_methodNamed Bd.named
  have X0 : Stand p l e room_1 s m #[(.int p0), (.int p1)] below meth c s₁ [] 0 0 := Stand.of_body Bd
  have e0 : s₁.heap = h0 := by rw [← hh, Bd.state]; rfl
  have N0 := Fr.nil n0
  have pre0 : ∀ t, Steps p.tables e below (s₁.setTop (mkF m 0 #[.val (.int p0), .val (.int p1), .unset, .unset, .unset] [])) t → Steps p.tables e below (s₁.setTop (entryFrame m #[(.int p0), (.int p1)] maxLocals)) t := fun t k => castTop (by first | rfl | (simp [entryFrame, mkF, argsToLocals, Value.category, maxLocals]; done)) k
  obtain ⟨_, _, ⟨T1, L1, k1, n1⟩, -, X1, ⟨Lc1, hQ1, l1, y1, z1⟩, st1⟩ := Jvm.LawKit.callS X0 hx (y := (⟨"com/example/oyster/oyster/jdbc/JdbcTypePrecisionPinLaw", "pick", "(I)Lcom/example/oyster/oyster/jdbc/JdbcType;"⟩ : MethodName)) hown (mvT hZ (hw _ (List.mem_of_getElem? (i := 1) rfl))) (mvT hZ (hw _ (List.mem_of_getElem? (i := 2) rfl))) (mvT hZ (hw _ (List.mem_of_getElem? (i := 3) rfl))) (mvT hZ (hw _ (List.mem_of_getElem? (i := 4) rfl))) (by decide) (backOf (W := 0) (rm1_3 l Z a0 hw [] w_INT w_VARCHAR w_DECIMAL w_SMALLINT w_NULL w_BOOLEAN w_BIGINT h0 n0 Z0 S) hZ (hw _ (List.mem_of_getElem? (i := 4) rfl)) (hw _ (List.mem_of_getElem? (i := 3) rfl)) (by decide) (by decide)) (g := (mkF m 9 #[.val (.int p0), .val (.int p1), .val (.int (3 : Int32)), .unset, .unset] [(.int (3 : Int32))])) rfl (by rw [hml]; rfl) (argsL := [(.int (3 : Int32))]) (rest := []) (lenOf pd_0 rfl) rfl (by show 2 * 0 + _ ≤ _; exact Nat.le_of_eq rfl) (hb hby at_9) (fun _ _ => ⟨rfl, e0, (by decide : 0 + 0 ≤ _), (by decide : 0 + 0 ≤ _)⟩)
  dsimp only [Pt.U, Pt.locs, Pt.cells, Pt.slots] at X1 l1 y1 z1 st1 hQ1
  subst l1 y1 z1
  obtain ⟨rfl, Nq1, e1⟩ := hQ1
  have N1 := Fr.app N0 Nq1
  obtain ⟨cq2, kq2, q2a, q2b, q2c⟩ := isOf hZ e1 E_w_DECIMAL
  obtain ⟨_, _, ⟨T2, L2, k2, n2⟩, -, X2, ⟨Lc2, hQ2, l2, y2, z2⟩, st2⟩ := X1.virtualBack hx (y := (⟨"com/example/oyster/oyster/jdbc/JdbcType", "precision", "(I)I"⟩ : MethodName)) (z := (⟨"com/example/oyster/oyster/jdbc/JdbcType", "precision", "(I)I"⟩ : MethodName)) hown (mvT hZ (hw _ (List.mem_of_getElem? (i := 8) rfl))) (mvT hZ (hw _ (List.mem_of_getElem? (i := 9) rfl))) (notFace_of_selects (args := #[]) (mvT hZ (hw _ (List.mem_of_getElem? (i := 11) rfl)))) (mvT hZ (hw _ (List.mem_of_getElem? (i := 11) rfl))) (mvT hZ (hw _ (List.mem_of_getElem? (i := 10) rfl))) (by decide) (backOf (W := 0) (rm2_4 l Z a0 hw [] w_INT w_VARCHAR w_DECIMAL w_SMALLINT w_NULL w_BOOLEAN w_BIGINT h0 n0 Z0 S p1 hs) hZ (hw _ (List.mem_of_getElem? (i := 12) rfl)) (hw _ (List.mem_of_getElem? (i := 6) rfl)) (by decide) (by decide)) q2a q2c (g := (mkF m 15 #[.val (.int p0), .val (.int p1), .val (.int (3 : Int32)), .val (.ref w_DECIMAL), .unset] [(.int p1), (.ref w_DECIMAL)])) rfl (by rw [hml]; rfl) (Steps.refl _) (argsL := [(.int p1)]) (rest := []) (lenOf pd_1 rfl) rfl (by show 2 * 0 + _ ≤ _; exact Nat.le_of_eq rfl) (hb hby at_15) (fun _ _ => ⟨rfl, e1, (by decide : 0 + 0 ≤ _), (by decide : 0 + 0 ≤ _)⟩)
  dsimp only [Pt.U, Pt.locs, Pt.cells, Pt.slots] at X2 l2 y2 z2 st2 hQ2
  subst l2 y2 z2
  obtain ⟨rfl, Nq2, e2⟩ := hQ2
  have N2 := Fr.app N1 Nq2
  obtain ⟨_, _, ⟨T3, L3, k3, n3⟩, -, X3, ⟨Lc3, hQ3, l3, y3, z3⟩, st3⟩ := Jvm.LawKit.callS X2 hx (y := (⟨"com/example/oyster/oyster/jdbc/JdbcTypePrecisionPinLaw", "expected", "(II)I"⟩ : MethodName)) hown (mvT hZ (hw _ (List.mem_of_getElem? (i := 19) rfl))) (mvT hZ (hw _ (List.mem_of_getElem? (i := 20) rfl))) (mvT hZ (hw _ (List.mem_of_getElem? (i := 3) rfl))) (mvT hZ (hw _ (List.mem_of_getElem? (i := 21) rfl))) (by decide) (backOf (W := 1) (rm3_4 l Z a0 hw [] w_INT w_VARCHAR w_DECIMAL w_SMALLINT w_NULL w_BOOLEAN w_BIGINT h0 n0 Z0 S p1 hs) hZ (hw _ (List.mem_of_getElem? (i := 21) rfl)) (hw _ (List.mem_of_getElem? (i := 3) rfl)) (by decide) (by decide)) (g := (mkF m 24 #[.val (.int p0), .val (.int p1), .val (.int (3 : Int32)), .val (.ref w_DECIMAL), .val (.int (38 : Int32))] [(.int p1), (.int (3 : Int32)), (.int (38 : Int32))])) rfl (by rw [hml]; rfl) (argsL := [(.int (3 : Int32)), (.int p1)]) (rest := [(.int (38 : Int32))]) (lenOf pd_2 rfl) rfl (by show 2 * 0 + _ ≤ _; exact Nat.le_of_eq rfl) (hb hby at_24) (fun _ _ => ⟨rfl, e2, (by decide : 0 + 0 ≤ _), (by decide : 0 + 0 ≤ _)⟩)
  dsimp only [Pt.U, Pt.locs, Pt.cells, Pt.slots] at X3 l3 y3 z3 st3 hQ3
  subst l3 y3 z3
  obtain ⟨rfl, Nq3, e3⟩ := hQ3
  have N3 := Fr.app N2 Nq3
  obtain ⟨fs, hr, hrun, hended, hW, hsame⟩ := X3.leave (v := (some (.int (1 : Int32)))) (fun h => by rw [Bd.returns] at h; cases h)
  refine ⟨_, _, pre0 _ ?_, hrun, hended, _, _, rfl, ⟨rfl, N3, e3⟩, ⟨_, rfl⟩, hW, hsame.mono (by decide) (by decide)⟩
  show Steps p.tables e below (s₁.setTop (mkF m 0 #[.val (.int p0), .val (.int p1), .unset, .unset, .unset] [])) _
  refine XS.iloadN X0.here hx rfl (hb hby at_0) rfl ?_
  show Steps p.tables e below (s₁.setTop (mkF m 1 #[.val (.int p0), .val (.int p1), .unset, .unset, .unset] [(.int p0)])) _
  refine X0.ldcInt hx hown (mvT hZ (hw _ (List.mem_of_getElem? (i := 0) rfl))) (g := (mkF m 1 #[.val (.int p0), .val (.int p1), .unset, .unset, .unset] [(.int p0)])) rfl (hb hby at_1) _ ?_
  show Steps p.tables e below (s₁.setTop (mkF m 3 #[.val (.int p0), .val (.int p1), .unset, .unset, .unset] [(.int (2147483647 : Int32)), (.int p0)])) _
  refine XS.iand X0.here hx rfl (hb hby at_3) rfl ?_
  show Steps p.tables e below (s₁.setTop (mkF m 4 #[.val (.int p0), .val (.int p1), .unset, .unset, .unset] [(.int (p0 &&& (2147483647 : Int32)))])) _
  show Steps p.tables e below (s₁.setTop (mkF m 4 #[.val (.int p0), .val (.int p1), .unset, .unset, .unset] [(.int (p0 &&& (2147483647 : Int32)))])) _
  refine XS.bipush X0.here hx rfl (hb hby at_4) ?_
  show Steps p.tables e below (s₁.setTop (mkF m 6 #[.val (.int p0), .val (.int p1), .unset, .unset, .unset] [(.int (7 : Int32)), (.int (p0 &&& (2147483647 : Int32)))])) _
  refine iremM X0 hx rfl (hb hby at_6) rfl (by decide) ?_
  show Steps p.tables e below (s₁.setTop (mkF m 7 #[.val (.int p0), .val (.int p1), .unset, .unset, .unset] [(.int ((p0 &&& (2147483647 : Int32)) % (7 : Int32)))])) _
  rw [hk]
  show Steps p.tables e below (s₁.setTop (mkF m 7 #[.val (.int p0), .val (.int p1), .unset, .unset, .unset] [(.int (3 : Int32))])) _
  refine XS.istoreN X0.here hx rfl (hb hby at_7) rfl (l' := #[.val (.int p0), .val (.int p1), .val (.int (3 : Int32)), .unset, .unset]) rfl ?_
  show Steps p.tables e below (s₁.setTop (mkF m 8 #[.val (.int p0), .val (.int p1), .val (.int (3 : Int32)), .unset, .unset] [])) _
  refine XS.iloadN X0.here hx rfl (hb hby at_8) rfl ?_
  show Steps p.tables e below (s₁.setTop (mkF m 9 #[.val (.int p0), .val (.int p1), .val (.int (3 : Int32)), .unset, .unset] [(.int (3 : Int32))])) _
  refine st1 _ ?_
  show Steps p.tables e below (T1.setTop (mkF m 12 #[.val (.int p0), .val (.int p1), .val (.int (3 : Int32)), .unset, .unset] [(.ref w_DECIMAL)])) _
  refine XS.astoreN X1.here hx rfl (hb hby at_12) rfl rfl (l' := #[.val (.int p0), .val (.int p1), .val (.int (3 : Int32)), .val (.ref w_DECIMAL), .unset]) rfl ?_
  show Steps p.tables e below (T1.setTop (mkF m 13 #[.val (.int p0), .val (.int p1), .val (.int (3 : Int32)), .val (.ref w_DECIMAL), .unset] [])) _
  refine XS.aloadN X1.here hx rfl (hb hby at_13) rfl rfl ?_
  show Steps p.tables e below (T1.setTop (mkF m 14 #[.val (.int p0), .val (.int p1), .val (.int (3 : Int32)), .val (.ref w_DECIMAL), .unset] [(.ref w_DECIMAL)])) _
  refine XS.iloadN X1.here hx rfl (hb hby at_14) rfl ?_
  show Steps p.tables e below (T1.setTop (mkF m 15 #[.val (.int p0), .val (.int p1), .val (.int (3 : Int32)), .val (.ref w_DECIMAL), .unset] [(.int p1), (.ref w_DECIMAL)])) _
  refine st2.trans ?_
  show Steps p.tables e below (T2.setTop (mkF m 18 #[.val (.int p0), .val (.int p1), .val (.int (3 : Int32)), .val (.ref w_DECIMAL), .unset] [(.int (38 : Int32))])) _
  refine XS.istore X2.here hx rfl (hb hby at_18) rfl (l' := #[.val (.int p0), .val (.int p1), .val (.int (3 : Int32)), .val (.ref w_DECIMAL), .val (.int (38 : Int32))]) rfl ?_
  show Steps p.tables e below (T2.setTop (mkF m 20 #[.val (.int p0), .val (.int p1), .val (.int (3 : Int32)), .val (.ref w_DECIMAL), .val (.int (38 : Int32))] [])) _
  refine XS.iload X2.here hx rfl (hb hby at_20) rfl ?_
  show Steps p.tables e below (T2.setTop (mkF m 22 #[.val (.int p0), .val (.int p1), .val (.int (3 : Int32)), .val (.ref w_DECIMAL), .val (.int (38 : Int32))] [(.int (38 : Int32))])) _
  refine XS.iloadN X2.here hx rfl (hb hby at_22) rfl ?_
  show Steps p.tables e below (T2.setTop (mkF m 23 #[.val (.int p0), .val (.int p1), .val (.int (3 : Int32)), .val (.ref w_DECIMAL), .val (.int (38 : Int32))] [(.int (3 : Int32)), (.int (38 : Int32))])) _
  refine XS.iloadN X2.here hx rfl (hb hby at_23) rfl ?_
  show Steps p.tables e below (T2.setTop (mkF m 24 #[.val (.int p0), .val (.int p1), .val (.int (3 : Int32)), .val (.ref w_DECIMAL), .val (.int (38 : Int32))] [(.int p1), (.int (3 : Int32)), (.int (38 : Int32))])) _
  refine st3 _ ?_
  show Steps p.tables e below (T3.setTop (mkF m 27 #[.val (.int p0), .val (.int p1), .val (.int (3 : Int32)), .val (.ref w_DECIMAL), .val (.int (38 : Int32))] [(.int (38 : Int32)), (.int (38 : Int32))])) _
  refine XS.icmpNo X3.here hx rfl (hb hby at_27) rfl (teq (by decide : (38 : Int32) = (38 : Int32))).2 ?_
  show Steps p.tables e below (T3.setTop (mkF m 30 #[.val (.int p0), .val (.int p1), .val (.int (3 : Int32)), .val (.ref w_DECIMAL), .val (.int (38 : Int32))] [])) _
  refine XS.iconst X3.here hx rfl (hb hby at_30) ?_
  show Steps p.tables e below (T3.setTop (mkF m 31 #[.val (.int p0), .val (.int p1), .val (.int (3 : Int32)), .val (.ref w_DECIMAL), .val (.int (38 : Int32))] [(.int (1 : Int32))])) _
  refine XS.goto X3.here hx rfl (pc0 := 31) (pc' := 35) rfl (hb hby at_31) (by decide) (by decide) ?_
  show Steps p.tables e below (T3.setTop (mkF m 35 #[.val (.int p0), .val (.int p1), .val (.int (3 : Int32)), .val (.ref w_DECIMAL), .val (.int (38 : Int32))] [(.int (1 : Int32))])) _
  exact retN X3 hx (t := .boolean) Bd.returns (by simp) (hb hby at_35) hr
theorem d1_35 : decode method_3_code 35 = .ok (.iload_n 0, 1) := by decide +kernel
theorem d1_36 : decode method_3_code 36 = .ok (.iconst 4, 1) := by decide +kernel
theorem d1_37 : decode method_3_code 37 = .ok (.if_icmp .ne 7, 3) := by decide +kernel
theorem d1_40 : decode method_3_code 40 = .ok (.getstatic 37, 3) := by decide +kernel
theorem d1_43 : decode method_3_code 43 = .ok (.areturn, 1) := by decide +kernel
set_option maxRecDepth 65536 in
set_option maxHeartbeats 40000000 in
theorem rm1_4 (l : Launch) (Z : State) (a0 : Array Value) (hw : ∀ d ∈ tables_1, d.before a0 Z = true) (ws : List Jvm.Cond) (w_INT w_VARCHAR w_DECIMAL w_SMALLINT w_NULL w_BOOLEAN w_BIGINT : Addr) (h0 : Heap) (n0 : Nat) (Z0 : n0 ≤ h0.size) (S : SF Z h0 w_INT w_VARCHAR w_DECIMAL w_SMALLINT w_NULL w_BOOLEAN w_BIGINT) :
    Pay l Z (⟨"com/example/oyster/oyster/jdbc/JdbcTypePrecisionPinLaw", "pick", "(I)Lcom/example/oyster/oyster/jdbc/JdbcType;"⟩ : MethodName) ws method_3_code 1 (some (.object "com/example/oyster/oyster/jdbc/JdbcType")) #[(.int (4 : Int32))] h0 n0 ({ frames := 0, cells := 0, slots := 0, locals := 0 } : Room) (some (.ref w_VARCHAR)) := by
  obtain ⟨S_w_INT, E_w_INT, S_w_VARCHAR, E_w_VARCHAR, S_w_DECIMAL, E_w_DECIMAL, S_w_SMALLINT, E_w_SMALLINT, S_w_NULL, E_w_NULL, S_w_BOOLEAN, E_w_BOOLEAN, S_w_BIGINT, E_w_BIGINT, F_precision_w_INT, F_ordinal_w_INT, F_ordinal_w_VARCHAR, F_ordinal_w_DECIMAL, F_precision_w_DECIMAL, F_precision_w_SMALLINT, F_ordinal_w_SMALLINT, F_precision_w_VARCHAR, F_precision_w_NULL, F_ordinal_w_NULL, F_precision_w_BOOLEAN, F_ordinal_w_BOOLEAN, F_precision_w_BIGINT, F_ordinal_w_BIGINT, hne_w_INT_w_VARCHAR, hne_w_INT_w_DECIMAL, hne_w_INT_w_SMALLINT, hne_w_INT_w_NULL, hne_w_INT_w_BOOLEAN, hne_w_INT_w_BIGINT, hne_w_VARCHAR_w_DECIMAL, hne_w_VARCHAR_w_SMALLINT, hne_w_VARCHAR_w_NULL, hne_w_VARCHAR_w_BOOLEAN, hne_w_VARCHAR_w_BIGINT, hne_w_DECIMAL_w_SMALLINT, hne_w_DECIMAL_w_NULL, hne_w_DECIMAL_w_BOOLEAN, hne_w_DECIMAL_w_BIGINT, hne_w_SMALLINT_w_NULL, hne_w_SMALLINT_w_BOOLEAN, hne_w_SMALLINT_w_BIGINT, hne_w_NULL_w_BOOLEAN, hne_w_NULL_w_BIGINT, hne_w_BOOLEAN_w_BIGINT⟩ := id S
  refine MetFree.of_bodySF (plainFor_of_name pn_0) hisR ?_
  intro p e s m args below meth c s₁ Bd hml0 hP hK
  obtain ⟨rfl, hZ, hh⟩ := hP
  have hx := Bd.exec
  have hby := Bd.bytes
  have hml : c.maxLocals = 1 := hml0
  have hown : s.vm.findClass "com/example/oyster/oyster/jdbc/JdbcTypePrecisionPinLaw" = some m.cls := findClass_of_methodNamed Bd.named
  have X0 : Stand p l e ({ frames := 0, cells := 0, slots := 0, locals := 0 } : Room) s m #[(.int (4 : Int32))] below meth c s₁ [] 0 0 := Stand.of_body Bd
  have e0 : s₁.heap = h0 := by rw [← hh, Bd.state]; rfl
  have N0 := Fr.nil n0
  have pre0 : ∀ t, Steps p.tables e below (s₁.setTop (mkF m 0 #[.val (.int (4 : Int32))] [])) t → Steps p.tables e below (s₁.setTop (entryFrame m #[(.int (4 : Int32))] 1)) t := fun t k => castTop (by first | rfl | (simp [entryFrame, mkF, argsToLocals, Value.category]; done)) k
  obtain ⟨T1, X1, e1, st1⟩ := getS2 X0 hx hZ hown (host := "") (Or.inl (hw _ (List.mem_of_getElem? (i := 25) rfl))) Via.refl e0 S_w_VARCHAR (g := (mkF m 40 #[.val (.int (4 : Int32))] [])) rfl (hb hby d1_40)
  obtain ⟨fs, hr, hrun, hended, hW, hsame⟩ := X1.leave (v := (some (.ref w_VARCHAR))) (fun h => by rw [Bd.returns] at h; cases h)
  refine ⟨_, _, pre0 _ ?_, hrun, hended, _, _, rfl, ⟨rfl, N0, e1⟩, ⟨_, rfl⟩, hW, hsame.mono (by decide) (by decide)⟩
  show Steps p.tables e below (s₁.setTop (mkF m 0 #[.val (.int (4 : Int32))] [])) _
  refine XS.iloadN X0.here hx rfl (hb hby d1_0) rfl ?_
  show Steps p.tables e below (s₁.setTop (mkF m 1 #[.val (.int (4 : Int32))] [(.int (4 : Int32))])) _
  refine XS.ifYes X0.here hx rfl (pc0 := 1) (pc' := 8) rfl (hb hby d1_1) rfl ((if0 _ _).trans (feq (by decide : ¬ ((4 : Int32) = (0 : Int32)))).2) (by decide) (by decide) ?_
  show Steps p.tables e below (s₁.setTop (mkF m 8 #[.val (.int (4 : Int32))] [])) _
  refine XS.iloadN X0.here hx rfl (hb hby d1_8) rfl ?_
  show Steps p.tables e below (s₁.setTop (mkF m 9 #[.val (.int (4 : Int32))] [(.int (4 : Int32))])) _
  refine XS.iconst X0.here hx rfl (hb hby d1_9) ?_
  show Steps p.tables e below (s₁.setTop (mkF m 10 #[.val (.int (4 : Int32))] [(.int (1 : Int32)), (.int (4 : Int32))])) _
  refine XS.icmpYes X0.here hx rfl (pc0 := 10) (pc' := 17) rfl (hb hby d1_10) rfl (feq (by decide : ¬ ((4 : Int32) = (1 : Int32)))).2 (by decide) (by decide) ?_
  show Steps p.tables e below (s₁.setTop (mkF m 17 #[.val (.int (4 : Int32))] [])) _
  refine XS.iloadN X0.here hx rfl (hb hby d1_17) rfl ?_
  show Steps p.tables e below (s₁.setTop (mkF m 18 #[.val (.int (4 : Int32))] [(.int (4 : Int32))])) _
  refine XS.iconst X0.here hx rfl (hb hby d1_18) ?_
  show Steps p.tables e below (s₁.setTop (mkF m 19 #[.val (.int (4 : Int32))] [(.int (2 : Int32)), (.int (4 : Int32))])) _
  refine XS.icmpYes X0.here hx rfl (pc0 := 19) (pc' := 26) rfl (hb hby d1_19) rfl (feq (by decide : ¬ ((4 : Int32) = (2 : Int32)))).2 (by decide) (by decide) ?_
  show Steps p.tables e below (s₁.setTop (mkF m 26 #[.val (.int (4 : Int32))] [])) _
  refine XS.iloadN X0.here hx rfl (hb hby d1_26) rfl ?_
  show Steps p.tables e below (s₁.setTop (mkF m 27 #[.val (.int (4 : Int32))] [(.int (4 : Int32))])) _
  refine XS.iconst X0.here hx rfl (hb hby d1_27) ?_
  show Steps p.tables e below (s₁.setTop (mkF m 28 #[.val (.int (4 : Int32))] [(.int (3 : Int32)), (.int (4 : Int32))])) _
  refine XS.icmpYes X0.here hx rfl (pc0 := 28) (pc' := 35) rfl (hb hby d1_28) rfl (feq (by decide : ¬ ((4 : Int32) = (3 : Int32)))).2 (by decide) (by decide) ?_
  show Steps p.tables e below (s₁.setTop (mkF m 35 #[.val (.int (4 : Int32))] [])) _
  refine XS.iloadN X0.here hx rfl (hb hby d1_35) rfl ?_
  show Steps p.tables e below (s₁.setTop (mkF m 36 #[.val (.int (4 : Int32))] [(.int (4 : Int32))])) _
  refine XS.iconst X0.here hx rfl (hb hby d1_36) ?_
  show Steps p.tables e below (s₁.setTop (mkF m 37 #[.val (.int (4 : Int32))] [(.int (4 : Int32)), (.int (4 : Int32))])) _
  refine XS.icmpNo X0.here hx rfl (hb hby d1_37) rfl (teq (by decide : (4 : Int32) = (4 : Int32))).2 ?_
  show Steps p.tables e below (s₁.setTop (mkF m 40 #[.val (.int (4 : Int32))] [])) _
  refine st1 _ ?_
  show Steps p.tables e below (T1.setTop (mkF m 43 #[.val (.int (4 : Int32))] [(.ref w_VARCHAR)])) _
  exact retOut X1 hx (t := (.object "com/example/oyster/oyster/jdbc/JdbcType")) (i := .areturn) Bd.returns rfl (Or.inr (Or.inr (Or.inr (Or.inr ⟨rfl, rfl, rfl⟩)))) (hb hby d1_43) hr
theorem d2_12 : decode prog_121_method_10_code 12 = .ok (.iload_n 1, 1) := by decide +kernel
theorem d2_13 : decode prog_121_method_10_code 13 = .ok (.ifCond .le 7, 3) := by decide +kernel
theorem d2_16 : decode prog_121_method_10_code 16 = .ok (.iload_n 1, 1) := by decide +kernel
theorem d2_17 : decode prog_121_method_10_code 17 = .ok (.goto 5, 3) := by decide +kernel
theorem d2_22 : decode prog_121_method_10_code 22 = .ok (.istore_n 2, 1) := by decide +kernel
theorem d2_23 : decode prog_121_method_10_code 23 = .ok (.goto 16, 3) := by decide +kernel
set_option maxRecDepth 65536 in
set_option maxHeartbeats 40000000 in
theorem rm2_5 (l : Launch) (Z : State) (a0 : Array Value) (hw : ∀ d ∈ tables_1, d.before a0 Z = true) (ws : List Jvm.Cond) (w_INT w_VARCHAR w_DECIMAL w_SMALLINT w_NULL w_BOOLEAN w_BIGINT : Addr) (h0 : Heap) (n0 : Nat) (Z0 : n0 ≤ h0.size) (S : SF Z h0 w_INT w_VARCHAR w_DECIMAL w_SMALLINT w_NULL w_BOOLEAN w_BIGINT) (p1 : Int32) (hs : (0 : Int32) < p1) :
    Pay l Z (⟨"com/example/oyster/oyster/jdbc/JdbcType", "precision", "(I)I"⟩ : MethodName) ws prog_121_method_10_code 3 (some .int) #[(.ref w_VARCHAR), (.int p1)] h0 n0 ({ frames := 0, cells := 0, slots := 0, locals := 0 } : Room) (some (.int p1)) := by
  obtain ⟨S_w_INT, E_w_INT, S_w_VARCHAR, E_w_VARCHAR, S_w_DECIMAL, E_w_DECIMAL, S_w_SMALLINT, E_w_SMALLINT, S_w_NULL, E_w_NULL, S_w_BOOLEAN, E_w_BOOLEAN, S_w_BIGINT, E_w_BIGINT, F_precision_w_INT, F_ordinal_w_INT, F_ordinal_w_VARCHAR, F_ordinal_w_DECIMAL, F_precision_w_DECIMAL, F_precision_w_SMALLINT, F_ordinal_w_SMALLINT, F_precision_w_VARCHAR, F_precision_w_NULL, F_ordinal_w_NULL, F_precision_w_BOOLEAN, F_ordinal_w_BOOLEAN, F_precision_w_BIGINT, F_ordinal_w_BIGINT, hne_w_INT_w_VARCHAR, hne_w_INT_w_DECIMAL, hne_w_INT_w_SMALLINT, hne_w_INT_w_NULL, hne_w_INT_w_BOOLEAN, hne_w_INT_w_BIGINT, hne_w_VARCHAR_w_DECIMAL, hne_w_VARCHAR_w_SMALLINT, hne_w_VARCHAR_w_NULL, hne_w_VARCHAR_w_BOOLEAN, hne_w_VARCHAR_w_BIGINT, hne_w_DECIMAL_w_SMALLINT, hne_w_DECIMAL_w_NULL, hne_w_DECIMAL_w_BOOLEAN, hne_w_DECIMAL_w_BIGINT, hne_w_SMALLINT_w_NULL, hne_w_SMALLINT_w_BOOLEAN, hne_w_SMALLINT_w_BIGINT, hne_w_NULL_w_BOOLEAN, hne_w_NULL_w_BIGINT, hne_w_BOOLEAN_w_BIGINT⟩ := id S
  refine MetFree.of_bodySF (plainFor_of_name pn_1) hisR ?_
  intro p e s m args below meth c s₁ Bd hml0 hP hK
  obtain ⟨rfl, hZ, hh⟩ := hP
  have hx := Bd.exec
  have hby := Bd.bytes
  have hml : c.maxLocals = 3 := hml0
  have hown : s.vm.findClass "com/example/oyster/oyster/jdbc/JdbcType" = some m.cls := findClass_of_methodNamed Bd.named
  have X0 : Stand p l e ({ frames := 0, cells := 0, slots := 0, locals := 0 } : Room) s m #[(.ref w_VARCHAR), (.int p1)] below meth c s₁ [] 0 0 := Stand.of_body Bd
  have e0 : s₁.heap = h0 := by rw [← hh, Bd.state]; rfl
  have N0 := Fr.nil n0
  have pre0 : ∀ t, Steps p.tables e below (s₁.setTop (mkF m 0 #[.val (.ref w_VARCHAR), .val (.int p1), .unset] [])) t → Steps p.tables e below (s₁.setTop (entryFrame m #[(.ref w_VARCHAR), (.int p1)] 3)) t := fun t k => castTop (by first | rfl | (simp [entryFrame, mkF, argsToLocals, Value.category]; done)) k
  obtain ⟨T1, X1, e1, st1⟩ := getF X0 hx hZ hown (host := "") (Or.inl (hw _ (List.mem_of_getElem? (i := 13) rfl))) Via.refl e0 F_precision_w_VARCHAR (g := (mkF m 1 #[.val (.ref w_VARCHAR), .val (.int p1), .unset] [(.ref w_VARCHAR)])) rfl rfl (hb hby d2_1)
  obtain ⟨T2, X2, e2, st2⟩ := getS2 X1 hx hZ hown (host := "") (Or.inl (hw _ (List.mem_of_getElem? (i := 15) rfl))) Via.refl e1 S_w_VARCHAR (g := (mkF m 6 #[.val (.ref w_VARCHAR), .val (.int p1), .val (.int (0 : Int32))] [(.ref w_VARCHAR)])) rfl (hb hby d2_6)
  obtain ⟨fs, hr, hrun, hended, hW, hsame⟩ := X2.leave (v := (some (.int p1))) (fun h => by rw [Bd.returns] at h; cases h)
  refine ⟨_, _, pre0 _ ?_, hrun, hended, _, _, rfl, ⟨rfl, N0, e2⟩, ⟨_, rfl⟩, hW, hsame.mono (by decide) (by decide)⟩
  show Steps p.tables e below (s₁.setTop (mkF m 0 #[.val (.ref w_VARCHAR), .val (.int p1), .unset] [])) _
  refine XS.aloadN X0.here hx rfl (hb hby d2_0) rfl rfl ?_
  show Steps p.tables e below (s₁.setTop (mkF m 1 #[.val (.ref w_VARCHAR), .val (.int p1), .unset] [(.ref w_VARCHAR)])) _
  refine st1 _ ?_
  show Steps p.tables e below (T1.setTop (mkF m 4 #[.val (.ref w_VARCHAR), .val (.int p1), .unset] [(.int (0 : Int32))])) _
  refine XS.istoreN X1.here hx rfl (hb hby d2_4) rfl (l' := #[.val (.ref w_VARCHAR), .val (.int p1), .val (.int (0 : Int32))]) rfl ?_
  show Steps p.tables e below (T1.setTop (mkF m 5 #[.val (.ref w_VARCHAR), .val (.int p1), .val (.int (0 : Int32))] [])) _
  refine XS.aloadN X1.here hx rfl (hb hby d2_5) rfl rfl ?_
  show Steps p.tables e below (T1.setTop (mkF m 6 #[.val (.ref w_VARCHAR), .val (.int p1), .val (.int (0 : Int32))] [(.ref w_VARCHAR)])) _
  refine st2 _ ?_
  show Steps p.tables e below (T2.setTop (mkF m 9 #[.val (.ref w_VARCHAR), .val (.int p1), .val (.int (0 : Int32))] [(.ref w_VARCHAR), (.ref w_VARCHAR)])) _
  refine Jvm.RoadKit.acmp (g := (mkF m 9 #[.val (.ref w_VARCHAR), .val (.int p1), .val (.int (0 : Int32))] [(.ref w_VARCHAR), (.ref w_VARCHAR)])) X2 hx rfl rfl rfl (pc0 := 9) (pc' := 12) (same := true) rfl (hb hby d2_9) rfl (decide_eq_true rfl) (by decide) (by decide) ?_
  show Steps p.tables e below (T2.setTop (mkF m 12 #[.val (.ref w_VARCHAR), .val (.int p1), .val (.int (0 : Int32))] [])) _
  refine XS.iloadN X2.here hx rfl (hb hby d2_12) rfl ?_
  show Steps p.tables e below (T2.setTop (mkF m 13 #[.val (.ref w_VARCHAR), .val (.int p1), .val (.int (0 : Int32))] [(.int p1)])) _
  refine XS.ifNo X2.here hx rfl (hb hby d2_13) rfl ((if0 _ _).trans (tlt hs).2.2.2) ?_
  show Steps p.tables e below (T2.setTop (mkF m 16 #[.val (.ref w_VARCHAR), .val (.int p1), .val (.int (0 : Int32))] [])) _
  refine XS.iloadN X2.here hx rfl (hb hby d2_16) rfl ?_
  show Steps p.tables e below (T2.setTop (mkF m 17 #[.val (.ref w_VARCHAR), .val (.int p1), .val (.int (0 : Int32))] [(.int p1)])) _
  refine XS.goto X2.here hx rfl (pc0 := 17) (pc' := 22) rfl (hb hby d2_17) (by decide) (by decide) ?_
  show Steps p.tables e below (T2.setTop (mkF m 22 #[.val (.ref w_VARCHAR), .val (.int p1), .val (.int (0 : Int32))] [(.int p1)])) _
  refine XS.istoreN X2.here hx rfl (hb hby d2_22) rfl (l' := #[.val (.ref w_VARCHAR), .val (.int p1), .val (.int p1)]) rfl ?_
  show Steps p.tables e below (T2.setTop (mkF m 23 #[.val (.ref w_VARCHAR), .val (.int p1), .val (.int p1)] [])) _
  refine XS.goto X2.here hx rfl (pc0 := 23) (pc' := 39) rfl (hb hby d2_23) (by decide) (by decide) ?_
  show Steps p.tables e below (T2.setTop (mkF m 39 #[.val (.ref w_VARCHAR), .val (.int p1), .val (.int p1)] [])) _
  refine XS.iloadN X2.here hx rfl (hb hby d2_39) rfl ?_
  show Steps p.tables e below (T2.setTop (mkF m 40 #[.val (.ref w_VARCHAR), .val (.int p1), .val (.int p1)] [(.int p1)])) _
  exact retOut X2 hx (t := .int) (i := .ireturn) Bd.returns rfl (Or.inl ⟨rfl, Or.inl rfl, _, rfl⟩) (hb hby d2_40) hr
theorem d3_36 : decode method_4_code 36 = .ok (.iload_n 0, 1) := by decide +kernel
theorem d3_37 : decode method_4_code 37 = .ok (.iconst 4, 1) := by decide +kernel
theorem d3_38 : decode method_4_code 38 = .ok (.if_icmp .ne 12, 3) := by decide +kernel
theorem d3_41 : decode method_4_code 41 = .ok (.iload_n 1, 1) := by decide +kernel
theorem d3_42 : decode method_4_code 42 = .ok (.ifCond .le 5, 3) := by decide +kernel
theorem d3_45 : decode method_4_code 45 = .ok (.iload_n 1, 1) := by decide +kernel
theorem d3_46 : decode method_4_code 46 = .ok (.ireturn, 1) := by decide +kernel
set_option maxRecDepth 65536 in
set_option maxHeartbeats 40000000 in
theorem rm3_5 (l : Launch) (Z : State) (a0 : Array Value) (hw : ∀ d ∈ tables_1, d.before a0 Z = true) (ws : List Jvm.Cond) (w_INT w_VARCHAR w_DECIMAL w_SMALLINT w_NULL w_BOOLEAN w_BIGINT : Addr) (h0 : Heap) (n0 : Nat) (Z0 : n0 ≤ h0.size) (S : SF Z h0 w_INT w_VARCHAR w_DECIMAL w_SMALLINT w_NULL w_BOOLEAN w_BIGINT) (p1 : Int32) (hs : (0 : Int32) < p1) :
    Pay l Z (⟨"com/example/oyster/oyster/jdbc/JdbcTypePrecisionPinLaw", "expected", "(II)I"⟩ : MethodName) ws method_4_code 2 (some .int) #[(.int (4 : Int32)), (.int p1)] h0 n0 ({ frames := 0, cells := 0, slots := 0, locals := 0 } : Room) (some (.int p1)) := by
  obtain ⟨S_w_INT, E_w_INT, S_w_VARCHAR, E_w_VARCHAR, S_w_DECIMAL, E_w_DECIMAL, S_w_SMALLINT, E_w_SMALLINT, S_w_NULL, E_w_NULL, S_w_BOOLEAN, E_w_BOOLEAN, S_w_BIGINT, E_w_BIGINT, F_precision_w_INT, F_ordinal_w_INT, F_ordinal_w_VARCHAR, F_ordinal_w_DECIMAL, F_precision_w_DECIMAL, F_precision_w_SMALLINT, F_ordinal_w_SMALLINT, F_precision_w_VARCHAR, F_precision_w_NULL, F_ordinal_w_NULL, F_precision_w_BOOLEAN, F_ordinal_w_BOOLEAN, F_precision_w_BIGINT, F_ordinal_w_BIGINT, hne_w_INT_w_VARCHAR, hne_w_INT_w_DECIMAL, hne_w_INT_w_SMALLINT, hne_w_INT_w_NULL, hne_w_INT_w_BOOLEAN, hne_w_INT_w_BIGINT, hne_w_VARCHAR_w_DECIMAL, hne_w_VARCHAR_w_SMALLINT, hne_w_VARCHAR_w_NULL, hne_w_VARCHAR_w_BOOLEAN, hne_w_VARCHAR_w_BIGINT, hne_w_DECIMAL_w_SMALLINT, hne_w_DECIMAL_w_NULL, hne_w_DECIMAL_w_BOOLEAN, hne_w_DECIMAL_w_BIGINT, hne_w_SMALLINT_w_NULL, hne_w_SMALLINT_w_BOOLEAN, hne_w_SMALLINT_w_BIGINT, hne_w_NULL_w_BOOLEAN, hne_w_NULL_w_BIGINT, hne_w_BOOLEAN_w_BIGINT⟩ := id S
  refine MetFree.of_bodySF (plainFor_of_name pn_0) hisR ?_
  intro p e s m args below meth c s₁ Bd hml0 hP hK
  obtain ⟨rfl, hZ, hh⟩ := hP
  have hx := Bd.exec
  have hby := Bd.bytes
  have hml : c.maxLocals = 2 := hml0
  have hown : s.vm.findClass "com/example/oyster/oyster/jdbc/JdbcTypePrecisionPinLaw" = some m.cls := findClass_of_methodNamed Bd.named
  have X0 : Stand p l e ({ frames := 0, cells := 0, slots := 0, locals := 0 } : Room) s m #[(.int (4 : Int32)), (.int p1)] below meth c s₁ [] 0 0 := Stand.of_body Bd
  have e0 : s₁.heap = h0 := by rw [← hh, Bd.state]; rfl
  have N0 := Fr.nil n0
  have pre0 : ∀ t, Steps p.tables e below (s₁.setTop (mkF m 0 #[.val (.int (4 : Int32)), .val (.int p1)] [])) t → Steps p.tables e below (s₁.setTop (entryFrame m #[(.int (4 : Int32)), (.int p1)] 2)) t := fun t k => castTop (by first | rfl | (simp [entryFrame, mkF, argsToLocals, Value.category]; done)) k
  obtain ⟨fs, hr, hrun, hended, hW, hsame⟩ := X0.leave (v := (some (.int p1))) (fun h => by rw [Bd.returns] at h; cases h)
  refine ⟨_, _, pre0 _ ?_, hrun, hended, _, _, rfl, ⟨rfl, N0, e0⟩, ⟨_, rfl⟩, hW, hsame.mono (by decide) (by decide)⟩
  show Steps p.tables e below (s₁.setTop (mkF m 0 #[.val (.int (4 : Int32)), .val (.int p1)] [])) _
  refine XS.iloadN X0.here hx rfl (hb hby d3_0) rfl ?_
  show Steps p.tables e below (s₁.setTop (mkF m 1 #[.val (.int (4 : Int32)), .val (.int p1)] [(.int (4 : Int32))])) _
  refine XS.ifYes X0.here hx rfl (pc0 := 1) (pc' := 7) rfl (hb hby d3_1) rfl ((if0 _ _).trans (feq (by decide : ¬ ((4 : Int32) = (0 : Int32)))).2) (by decide) (by decide) ?_
  show Steps p.tables e below (s₁.setTop (mkF m 7 #[.val (.int (4 : Int32)), .val (.int p1)] [])) _
  refine XS.iloadN X0.here hx rfl (hb hby d3_7) rfl ?_
  show Steps p.tables e below (s₁.setTop (mkF m 8 #[.val (.int (4 : Int32)), .val (.int p1)] [(.int (4 : Int32))])) _
  refine XS.iconst X0.here hx rfl (hb hby d3_8) ?_
  show Steps p.tables e below (s₁.setTop (mkF m 9 #[.val (.int (4 : Int32)), .val (.int p1)] [(.int (1 : Int32)), (.int (4 : Int32))])) _
  refine XS.icmpYes X0.here hx rfl (pc0 := 9) (pc' := 14) rfl (hb hby d3_9) rfl (feq (by decide : ¬ ((4 : Int32) = (1 : Int32)))).2 (by decide) (by decide) ?_
  show Steps p.tables e below (s₁.setTop (mkF m 14 #[.val (.int (4 : Int32)), .val (.int p1)] [])) _
  refine XS.iloadN X0.here hx rfl (hb hby d3_14) rfl ?_
  show Steps p.tables e below (s₁.setTop (mkF m 15 #[.val (.int (4 : Int32)), .val (.int p1)] [(.int (4 : Int32))])) _
  refine XS.iconst X0.here hx rfl (hb hby d3_15) ?_
  show Steps p.tables e below (s₁.setTop (mkF m 16 #[.val (.int (4 : Int32)), .val (.int p1)] [(.int (2 : Int32)), (.int (4 : Int32))])) _
  refine XS.icmpYes X0.here hx rfl (pc0 := 16) (pc' := 22) rfl (hb hby d3_16) rfl (feq (by decide : ¬ ((4 : Int32) = (2 : Int32)))).2 (by decide) (by decide) ?_
  show Steps p.tables e below (s₁.setTop (mkF m 22 #[.val (.int (4 : Int32)), .val (.int p1)] [])) _
  refine XS.iloadN X0.here hx rfl (hb hby d3_22) rfl ?_
  show Steps p.tables e below (s₁.setTop (mkF m 23 #[.val (.int (4 : Int32)), .val (.int p1)] [(.int (4 : Int32))])) _
  refine XS.iconst X0.here hx rfl (hb hby d3_23) ?_
  show Steps p.tables e below (s₁.setTop (mkF m 24 #[.val (.int (4 : Int32)), .val (.int p1)] [(.int (3 : Int32)), (.int (4 : Int32))])) _
  refine XS.icmpYes X0.here hx rfl (pc0 := 24) (pc' := 36) rfl (hb hby d3_24) rfl (feq (by decide : ¬ ((4 : Int32) = (3 : Int32)))).2 (by decide) (by decide) ?_
  show Steps p.tables e below (s₁.setTop (mkF m 36 #[.val (.int (4 : Int32)), .val (.int p1)] [])) _
  refine XS.iloadN X0.here hx rfl (hb hby d3_36) rfl ?_
  show Steps p.tables e below (s₁.setTop (mkF m 37 #[.val (.int (4 : Int32)), .val (.int p1)] [(.int (4 : Int32))])) _
  refine XS.iconst X0.here hx rfl (hb hby d3_37) ?_
  show Steps p.tables e below (s₁.setTop (mkF m 38 #[.val (.int (4 : Int32)), .val (.int p1)] [(.int (4 : Int32)), (.int (4 : Int32))])) _
  refine XS.icmpNo X0.here hx rfl (hb hby d3_38) rfl (teq (by decide : (4 : Int32) = (4 : Int32))).2 ?_
  show Steps p.tables e below (s₁.setTop (mkF m 41 #[.val (.int (4 : Int32)), .val (.int p1)] [])) _
  refine XS.iloadN X0.here hx rfl (hb hby d3_41) rfl ?_
  show Steps p.tables e below (s₁.setTop (mkF m 42 #[.val (.int (4 : Int32)), .val (.int p1)] [(.int p1)])) _
  refine XS.ifNo X0.here hx rfl (hb hby d3_42) rfl ((if0 _ _).trans (tlt hs).2.2.2) ?_
  show Steps p.tables e below (s₁.setTop (mkF m 45 #[.val (.int (4 : Int32)), .val (.int p1)] [])) _
  refine XS.iloadN X0.here hx rfl (hb hby d3_45) rfl ?_
  show Steps p.tables e below (s₁.setTop (mkF m 46 #[.val (.int (4 : Int32)), .val (.int p1)] [(.int p1)])) _
  exact retOut X0 hx (t := .int) (i := .ireturn) Bd.returns rfl (Or.inl ⟨rfl, Or.inl rfl, _, rfl⟩) (hb hby d3_46) hr
set_option maxRecDepth 65536 in
set_option maxHeartbeats 40000000 in
theorem rm0_5 (l : Launch) (Z : State) (a0 : Array Value) (hw : ∀ d ∈ tables_1, d.before a0 Z = true) (ws : List Jvm.Cond) (w_INT w_VARCHAR w_DECIMAL w_SMALLINT w_NULL w_BOOLEAN w_BIGINT : Addr) (h0 : Heap) (n0 : Nat) (Z0 : n0 ≤ h0.size) (S : SF Z h0 w_INT w_VARCHAR w_DECIMAL w_SMALLINT w_NULL w_BOOLEAN w_BIGINT) (p0 : Int32) (p1 : Int32) (hk : ((p0 &&& (2147483647 : Int32)) % (7 : Int32)) = (4 : Int32)) (hs : (0 : Int32) < p1) :
    Pay l Z x ws code maxLocals ret #[(.int p0), (.int p1)] h0 n0 room_1 (some (.int (1 : Int32))) := by
  obtain ⟨S_w_INT, E_w_INT, S_w_VARCHAR, E_w_VARCHAR, S_w_DECIMAL, E_w_DECIMAL, S_w_SMALLINT, E_w_SMALLINT, S_w_NULL, E_w_NULL, S_w_BOOLEAN, E_w_BOOLEAN, S_w_BIGINT, E_w_BIGINT, F_precision_w_INT, F_ordinal_w_INT, F_ordinal_w_VARCHAR, F_ordinal_w_DECIMAL, F_precision_w_DECIMAL, F_precision_w_SMALLINT, F_ordinal_w_SMALLINT, F_precision_w_VARCHAR, F_precision_w_NULL, F_ordinal_w_NULL, F_precision_w_BOOLEAN, F_ordinal_w_BOOLEAN, F_precision_w_BIGINT, F_ordinal_w_BIGINT, hne_w_INT_w_VARCHAR, hne_w_INT_w_DECIMAL, hne_w_INT_w_SMALLINT, hne_w_INT_w_NULL, hne_w_INT_w_BOOLEAN, hne_w_INT_w_BIGINT, hne_w_VARCHAR_w_DECIMAL, hne_w_VARCHAR_w_SMALLINT, hne_w_VARCHAR_w_NULL, hne_w_VARCHAR_w_BOOLEAN, hne_w_VARCHAR_w_BIGINT, hne_w_DECIMAL_w_SMALLINT, hne_w_DECIMAL_w_NULL, hne_w_DECIMAL_w_BOOLEAN, hne_w_DECIMAL_w_BIGINT, hne_w_SMALLINT_w_NULL, hne_w_SMALLINT_w_BOOLEAN, hne_w_SMALLINT_w_BIGINT, hne_w_NULL_w_BOOLEAN, hne_w_NULL_w_BIGINT, hne_w_BOOLEAN_w_BIGINT⟩ := id S
  refine MetFree.of_bodySF (plainFor_of_name pn_0) hisR ?_
  intro p e s m args below meth c s₁ Bd hml0 hP hK
  obtain ⟨rfl, hZ, hh⟩ := hP
  have hx := Bd.exec
  have hby := Bd.bytes
  have hml : c.maxLocals = 5 := hml0
  have hown : s.vm.findClass "com/example/oyster/oyster/jdbc/JdbcTypePrecisionPinLaw" = some m.cls := findClass_of_methodNamed Bd.named
  have X0 : Stand p l e room_1 s m #[(.int p0), (.int p1)] below meth c s₁ [] 0 0 := Stand.of_body Bd
  have e0 : s₁.heap = h0 := by rw [← hh, Bd.state]; rfl
  have N0 := Fr.nil n0
  have pre0 : ∀ t, Steps p.tables e below (s₁.setTop (mkF m 0 #[.val (.int p0), .val (.int p1), .unset, .unset, .unset] [])) t → Steps p.tables e below (s₁.setTop (entryFrame m #[(.int p0), (.int p1)] maxLocals)) t := fun t k => castTop (by first | rfl | (simp [entryFrame, mkF, argsToLocals, Value.category, maxLocals]; done)) k
  obtain ⟨_, _, ⟨T1, L1, k1, n1⟩, -, X1, ⟨Lc1, hQ1, l1, y1, z1⟩, st1⟩ := Jvm.LawKit.callS X0 hx (y := (⟨"com/example/oyster/oyster/jdbc/JdbcTypePrecisionPinLaw", "pick", "(I)Lcom/example/oyster/oyster/jdbc/JdbcType;"⟩ : MethodName)) hown (mvT hZ (hw _ (List.mem_of_getElem? (i := 1) rfl))) (mvT hZ (hw _ (List.mem_of_getElem? (i := 2) rfl))) (mvT hZ (hw _ (List.mem_of_getElem? (i := 3) rfl))) (mvT hZ (hw _ (List.mem_of_getElem? (i := 4) rfl))) (by decide) (backOf (W := 0) (rm1_4 l Z a0 hw [] w_INT w_VARCHAR w_DECIMAL w_SMALLINT w_NULL w_BOOLEAN w_BIGINT h0 n0 Z0 S) hZ (hw _ (List.mem_of_getElem? (i := 4) rfl)) (hw _ (List.mem_of_getElem? (i := 3) rfl)) (by decide) (by decide)) (g := (mkF m 9 #[.val (.int p0), .val (.int p1), .val (.int (4 : Int32)), .unset, .unset] [(.int (4 : Int32))])) rfl (by rw [hml]; rfl) (argsL := [(.int (4 : Int32))]) (rest := []) (lenOf pd_0 rfl) rfl (by show 2 * 0 + _ ≤ _; exact Nat.le_of_eq rfl) (hb hby at_9) (fun _ _ => ⟨rfl, e0, (by decide : 0 + 0 ≤ _), (by decide : 0 + 0 ≤ _)⟩)
  dsimp only [Pt.U, Pt.locs, Pt.cells, Pt.slots] at X1 l1 y1 z1 st1 hQ1
  subst l1 y1 z1
  obtain ⟨rfl, Nq1, e1⟩ := hQ1
  have N1 := Fr.app N0 Nq1
  obtain ⟨cq2, kq2, q2a, q2b, q2c⟩ := isOf hZ e1 E_w_VARCHAR
  obtain ⟨_, _, ⟨T2, L2, k2, n2⟩, -, X2, ⟨Lc2, hQ2, l2, y2, z2⟩, st2⟩ := X1.virtualBack hx (y := (⟨"com/example/oyster/oyster/jdbc/JdbcType", "precision", "(I)I"⟩ : MethodName)) (z := (⟨"com/example/oyster/oyster/jdbc/JdbcType", "precision", "(I)I"⟩ : MethodName)) hown (mvT hZ (hw _ (List.mem_of_getElem? (i := 8) rfl))) (mvT hZ (hw _ (List.mem_of_getElem? (i := 9) rfl))) (notFace_of_selects (args := #[]) (mvT hZ (hw _ (List.mem_of_getElem? (i := 11) rfl)))) (mvT hZ (hw _ (List.mem_of_getElem? (i := 11) rfl))) (mvT hZ (hw _ (List.mem_of_getElem? (i := 10) rfl))) (by decide) (backOf (W := 0) (rm2_5 l Z a0 hw [] w_INT w_VARCHAR w_DECIMAL w_SMALLINT w_NULL w_BOOLEAN w_BIGINT h0 n0 Z0 S p1 hs) hZ (hw _ (List.mem_of_getElem? (i := 12) rfl)) (hw _ (List.mem_of_getElem? (i := 6) rfl)) (by decide) (by decide)) q2a q2c (g := (mkF m 15 #[.val (.int p0), .val (.int p1), .val (.int (4 : Int32)), .val (.ref w_VARCHAR), .unset] [(.int p1), (.ref w_VARCHAR)])) rfl (by rw [hml]; rfl) (Steps.refl _) (argsL := [(.int p1)]) (rest := []) (lenOf pd_1 rfl) rfl (by show 2 * 0 + _ ≤ _; exact Nat.le_of_eq rfl) (hb hby at_15) (fun _ _ => ⟨rfl, e1, (by decide : 0 + 0 ≤ _), (by decide : 0 + 0 ≤ _)⟩)
  dsimp only [Pt.U, Pt.locs, Pt.cells, Pt.slots] at X2 l2 y2 z2 st2 hQ2
  subst l2 y2 z2
  obtain ⟨rfl, Nq2, e2⟩ := hQ2
  have N2 := Fr.app N1 Nq2
  obtain ⟨_, _, ⟨T3, L3, k3, n3⟩, -, X3, ⟨Lc3, hQ3, l3, y3, z3⟩, st3⟩ := Jvm.LawKit.callS X2 hx (y := (⟨"com/example/oyster/oyster/jdbc/JdbcTypePrecisionPinLaw", "expected", "(II)I"⟩ : MethodName)) hown (mvT hZ (hw _ (List.mem_of_getElem? (i := 19) rfl))) (mvT hZ (hw _ (List.mem_of_getElem? (i := 20) rfl))) (mvT hZ (hw _ (List.mem_of_getElem? (i := 3) rfl))) (mvT hZ (hw _ (List.mem_of_getElem? (i := 21) rfl))) (by decide) (backOf (W := 1) (rm3_5 l Z a0 hw [] w_INT w_VARCHAR w_DECIMAL w_SMALLINT w_NULL w_BOOLEAN w_BIGINT h0 n0 Z0 S p1 hs) hZ (hw _ (List.mem_of_getElem? (i := 21) rfl)) (hw _ (List.mem_of_getElem? (i := 3) rfl)) (by decide) (by decide)) (g := (mkF m 24 #[.val (.int p0), .val (.int p1), .val (.int (4 : Int32)), .val (.ref w_VARCHAR), .val (.int p1)] [(.int p1), (.int (4 : Int32)), (.int p1)])) rfl (by rw [hml]; rfl) (argsL := [(.int (4 : Int32)), (.int p1)]) (rest := [(.int p1)]) (lenOf pd_2 rfl) rfl (by show 2 * 0 + _ ≤ _; exact Nat.le_of_eq rfl) (hb hby at_24) (fun _ _ => ⟨rfl, e2, (by decide : 0 + 0 ≤ _), (by decide : 0 + 0 ≤ _)⟩)
  dsimp only [Pt.U, Pt.locs, Pt.cells, Pt.slots] at X3 l3 y3 z3 st3 hQ3
  subst l3 y3 z3
  obtain ⟨rfl, Nq3, e3⟩ := hQ3
  have N3 := Fr.app N2 Nq3
  obtain ⟨fs, hr, hrun, hended, hW, hsame⟩ := X3.leave (v := (some (.int (1 : Int32)))) (fun h => by rw [Bd.returns] at h; cases h)
  refine ⟨_, _, pre0 _ ?_, hrun, hended, _, _, rfl, ⟨rfl, N3, e3⟩, ⟨_, rfl⟩, hW, hsame.mono (by decide) (by decide)⟩
  show Steps p.tables e below (s₁.setTop (mkF m 0 #[.val (.int p0), .val (.int p1), .unset, .unset, .unset] [])) _
  refine XS.iloadN X0.here hx rfl (hb hby at_0) rfl ?_
  show Steps p.tables e below (s₁.setTop (mkF m 1 #[.val (.int p0), .val (.int p1), .unset, .unset, .unset] [(.int p0)])) _
  refine X0.ldcInt hx hown (mvT hZ (hw _ (List.mem_of_getElem? (i := 0) rfl))) (g := (mkF m 1 #[.val (.int p0), .val (.int p1), .unset, .unset, .unset] [(.int p0)])) rfl (hb hby at_1) _ ?_
  show Steps p.tables e below (s₁.setTop (mkF m 3 #[.val (.int p0), .val (.int p1), .unset, .unset, .unset] [(.int (2147483647 : Int32)), (.int p0)])) _
  refine XS.iand X0.here hx rfl (hb hby at_3) rfl ?_
  show Steps p.tables e below (s₁.setTop (mkF m 4 #[.val (.int p0), .val (.int p1), .unset, .unset, .unset] [(.int (p0 &&& (2147483647 : Int32)))])) _
  show Steps p.tables e below (s₁.setTop (mkF m 4 #[.val (.int p0), .val (.int p1), .unset, .unset, .unset] [(.int (p0 &&& (2147483647 : Int32)))])) _
  refine XS.bipush X0.here hx rfl (hb hby at_4) ?_
  show Steps p.tables e below (s₁.setTop (mkF m 6 #[.val (.int p0), .val (.int p1), .unset, .unset, .unset] [(.int (7 : Int32)), (.int (p0 &&& (2147483647 : Int32)))])) _
  refine iremM X0 hx rfl (hb hby at_6) rfl (by decide) ?_
  show Steps p.tables e below (s₁.setTop (mkF m 7 #[.val (.int p0), .val (.int p1), .unset, .unset, .unset] [(.int ((p0 &&& (2147483647 : Int32)) % (7 : Int32)))])) _
  rw [hk]
  show Steps p.tables e below (s₁.setTop (mkF m 7 #[.val (.int p0), .val (.int p1), .unset, .unset, .unset] [(.int (4 : Int32))])) _
  refine XS.istoreN X0.here hx rfl (hb hby at_7) rfl (l' := #[.val (.int p0), .val (.int p1), .val (.int (4 : Int32)), .unset, .unset]) rfl ?_
  show Steps p.tables e below (s₁.setTop (mkF m 8 #[.val (.int p0), .val (.int p1), .val (.int (4 : Int32)), .unset, .unset] [])) _
  refine XS.iloadN X0.here hx rfl (hb hby at_8) rfl ?_
  show Steps p.tables e below (s₁.setTop (mkF m 9 #[.val (.int p0), .val (.int p1), .val (.int (4 : Int32)), .unset, .unset] [(.int (4 : Int32))])) _
  refine st1 _ ?_
  show Steps p.tables e below (T1.setTop (mkF m 12 #[.val (.int p0), .val (.int p1), .val (.int (4 : Int32)), .unset, .unset] [(.ref w_VARCHAR)])) _
  refine XS.astoreN X1.here hx rfl (hb hby at_12) rfl rfl (l' := #[.val (.int p0), .val (.int p1), .val (.int (4 : Int32)), .val (.ref w_VARCHAR), .unset]) rfl ?_
  show Steps p.tables e below (T1.setTop (mkF m 13 #[.val (.int p0), .val (.int p1), .val (.int (4 : Int32)), .val (.ref w_VARCHAR), .unset] [])) _
  refine XS.aloadN X1.here hx rfl (hb hby at_13) rfl rfl ?_
  show Steps p.tables e below (T1.setTop (mkF m 14 #[.val (.int p0), .val (.int p1), .val (.int (4 : Int32)), .val (.ref w_VARCHAR), .unset] [(.ref w_VARCHAR)])) _
  refine XS.iloadN X1.here hx rfl (hb hby at_14) rfl ?_
  show Steps p.tables e below (T1.setTop (mkF m 15 #[.val (.int p0), .val (.int p1), .val (.int (4 : Int32)), .val (.ref w_VARCHAR), .unset] [(.int p1), (.ref w_VARCHAR)])) _
  refine st2.trans ?_
  show Steps p.tables e below (T2.setTop (mkF m 18 #[.val (.int p0), .val (.int p1), .val (.int (4 : Int32)), .val (.ref w_VARCHAR), .unset] [(.int p1)])) _
  refine XS.istore X2.here hx rfl (hb hby at_18) rfl (l' := #[.val (.int p0), .val (.int p1), .val (.int (4 : Int32)), .val (.ref w_VARCHAR), .val (.int p1)]) rfl ?_
  show Steps p.tables e below (T2.setTop (mkF m 20 #[.val (.int p0), .val (.int p1), .val (.int (4 : Int32)), .val (.ref w_VARCHAR), .val (.int p1)] [])) _
  refine XS.iload X2.here hx rfl (hb hby at_20) rfl ?_
  show Steps p.tables e below (T2.setTop (mkF m 22 #[.val (.int p0), .val (.int p1), .val (.int (4 : Int32)), .val (.ref w_VARCHAR), .val (.int p1)] [(.int p1)])) _
  refine XS.iloadN X2.here hx rfl (hb hby at_22) rfl ?_
  show Steps p.tables e below (T2.setTop (mkF m 23 #[.val (.int p0), .val (.int p1), .val (.int (4 : Int32)), .val (.ref w_VARCHAR), .val (.int p1)] [(.int (4 : Int32)), (.int p1)])) _
  refine XS.iloadN X2.here hx rfl (hb hby at_23) rfl ?_
  show Steps p.tables e below (T2.setTop (mkF m 24 #[.val (.int p0), .val (.int p1), .val (.int (4 : Int32)), .val (.ref w_VARCHAR), .val (.int p1)] [(.int p1), (.int (4 : Int32)), (.int p1)])) _
  refine st3 _ ?_
  show Steps p.tables e below (T3.setTop (mkF m 27 #[.val (.int p0), .val (.int p1), .val (.int (4 : Int32)), .val (.ref w_VARCHAR), .val (.int p1)] [(.int p1), (.int p1)])) _
  refine XS.icmpNo X3.here hx rfl (hb hby at_27) rfl (teq (rfl : p1 = p1)).2 ?_
  show Steps p.tables e below (T3.setTop (mkF m 30 #[.val (.int p0), .val (.int p1), .val (.int (4 : Int32)), .val (.ref w_VARCHAR), .val (.int p1)] [])) _
  refine XS.iconst X3.here hx rfl (hb hby at_30) ?_
  show Steps p.tables e below (T3.setTop (mkF m 31 #[.val (.int p0), .val (.int p1), .val (.int (4 : Int32)), .val (.ref w_VARCHAR), .val (.int p1)] [(.int (1 : Int32))])) _
  refine XS.goto X3.here hx rfl (pc0 := 31) (pc' := 35) rfl (hb hby at_31) (by decide) (by decide) ?_
  show Steps p.tables e below (T3.setTop (mkF m 35 #[.val (.int p0), .val (.int p1), .val (.int (4 : Int32)), .val (.ref w_VARCHAR), .val (.int p1)] [(.int (1 : Int32))])) _
  exact retN X3 hx (t := .boolean) Bd.returns (by simp) (hb hby at_35) hr
theorem d2_20 : decode prog_121_method_10_code 20 = .ok (.ldc 104, 2) := by decide +kernel
set_option maxRecDepth 65536 in
set_option maxHeartbeats 40000000 in
theorem rm2_6 (l : Launch) (Z : State) (a0 : Array Value) (hw : ∀ d ∈ tables_1, d.before a0 Z = true) (ws : List Jvm.Cond) (w_INT w_VARCHAR w_DECIMAL w_SMALLINT w_NULL w_BOOLEAN w_BIGINT : Addr) (h0 : Heap) (n0 : Nat) (Z0 : n0 ≤ h0.size) (S : SF Z h0 w_INT w_VARCHAR w_DECIMAL w_SMALLINT w_NULL w_BOOLEAN w_BIGINT) (p1 : Int32) (hs : ¬ ((0 : Int32) < p1)) :
    Pay l Z (⟨"com/example/oyster/oyster/jdbc/JdbcType", "precision", "(I)I"⟩ : MethodName) ws prog_121_method_10_code 3 (some .int) #[(.ref w_VARCHAR), (.int p1)] h0 n0 ({ frames := 0, cells := 0, slots := 0, locals := 0 } : Room) (some (.int (2147483647 : Int32))) := by
  obtain ⟨S_w_INT, E_w_INT, S_w_VARCHAR, E_w_VARCHAR, S_w_DECIMAL, E_w_DECIMAL, S_w_SMALLINT, E_w_SMALLINT, S_w_NULL, E_w_NULL, S_w_BOOLEAN, E_w_BOOLEAN, S_w_BIGINT, E_w_BIGINT, F_precision_w_INT, F_ordinal_w_INT, F_ordinal_w_VARCHAR, F_ordinal_w_DECIMAL, F_precision_w_DECIMAL, F_precision_w_SMALLINT, F_ordinal_w_SMALLINT, F_precision_w_VARCHAR, F_precision_w_NULL, F_ordinal_w_NULL, F_precision_w_BOOLEAN, F_ordinal_w_BOOLEAN, F_precision_w_BIGINT, F_ordinal_w_BIGINT, hne_w_INT_w_VARCHAR, hne_w_INT_w_DECIMAL, hne_w_INT_w_SMALLINT, hne_w_INT_w_NULL, hne_w_INT_w_BOOLEAN, hne_w_INT_w_BIGINT, hne_w_VARCHAR_w_DECIMAL, hne_w_VARCHAR_w_SMALLINT, hne_w_VARCHAR_w_NULL, hne_w_VARCHAR_w_BOOLEAN, hne_w_VARCHAR_w_BIGINT, hne_w_DECIMAL_w_SMALLINT, hne_w_DECIMAL_w_NULL, hne_w_DECIMAL_w_BOOLEAN, hne_w_DECIMAL_w_BIGINT, hne_w_SMALLINT_w_NULL, hne_w_SMALLINT_w_BOOLEAN, hne_w_SMALLINT_w_BIGINT, hne_w_NULL_w_BOOLEAN, hne_w_NULL_w_BIGINT, hne_w_BOOLEAN_w_BIGINT⟩ := id S
  refine MetFree.of_bodySF (plainFor_of_name pn_1) hisR ?_
  intro p e s m args below meth c s₁ Bd hml0 hP hK
  obtain ⟨rfl, hZ, hh⟩ := hP
  have hx := Bd.exec
  have hby := Bd.bytes
  have hml : c.maxLocals = 3 := hml0
  have hown : s.vm.findClass "com/example/oyster/oyster/jdbc/JdbcType" = some m.cls := findClass_of_methodNamed Bd.named
  have X0 : Stand p l e ({ frames := 0, cells := 0, slots := 0, locals := 0 } : Room) s m #[(.ref w_VARCHAR), (.int p1)] below meth c s₁ [] 0 0 := Stand.of_body Bd
  have e0 : s₁.heap = h0 := by rw [← hh, Bd.state]; rfl
  have N0 := Fr.nil n0
  have pre0 : ∀ t, Steps p.tables e below (s₁.setTop (mkF m 0 #[.val (.ref w_VARCHAR), .val (.int p1), .unset] [])) t → Steps p.tables e below (s₁.setTop (entryFrame m #[(.ref w_VARCHAR), (.int p1)] 3)) t := fun t k => castTop (by first | rfl | (simp [entryFrame, mkF, argsToLocals, Value.category]; done)) k
  obtain ⟨T1, X1, e1, st1⟩ := getF X0 hx hZ hown (host := "") (Or.inl (hw _ (List.mem_of_getElem? (i := 13) rfl))) Via.refl e0 F_precision_w_VARCHAR (g := (mkF m 1 #[.val (.ref w_VARCHAR), .val (.int p1), .unset] [(.ref w_VARCHAR)])) rfl rfl (hb hby d2_1)
  obtain ⟨T2, X2, e2, st2⟩ := getS2 X1 hx hZ hown (host := "") (Or.inl (hw _ (List.mem_of_getElem? (i := 15) rfl))) Via.refl e1 S_w_VARCHAR (g := (mkF m 6 #[.val (.ref w_VARCHAR), .val (.int p1), .val (.int (0 : Int32))] [(.ref w_VARCHAR)])) rfl (hb hby d2_6)
  obtain ⟨fs, hr, hrun, hended, hW, hsame⟩ := X2.leave (v := (some (.int (2147483647 : Int32)))) (fun h => by rw [Bd.returns] at h; cases h)
  refine ⟨_, _, pre0 _ ?_, hrun, hended, _, _, rfl, ⟨rfl, N0, e2⟩, ⟨_, rfl⟩, hW, hsame.mono (by decide) (by decide)⟩
  show Steps p.tables e below (s₁.setTop (mkF m 0 #[.val (.ref w_VARCHAR), .val (.int p1), .unset] [])) _
  refine XS.aloadN X0.here hx rfl (hb hby d2_0) rfl rfl ?_
  show Steps p.tables e below (s₁.setTop (mkF m 1 #[.val (.ref w_VARCHAR), .val (.int p1), .unset] [(.ref w_VARCHAR)])) _
  refine st1 _ ?_
  show Steps p.tables e below (T1.setTop (mkF m 4 #[.val (.ref w_VARCHAR), .val (.int p1), .unset] [(.int (0 : Int32))])) _
  refine XS.istoreN X1.here hx rfl (hb hby d2_4) rfl (l' := #[.val (.ref w_VARCHAR), .val (.int p1), .val (.int (0 : Int32))]) rfl ?_
  show Steps p.tables e below (T1.setTop (mkF m 5 #[.val (.ref w_VARCHAR), .val (.int p1), .val (.int (0 : Int32))] [])) _
  refine XS.aloadN X1.here hx rfl (hb hby d2_5) rfl rfl ?_
  show Steps p.tables e below (T1.setTop (mkF m 6 #[.val (.ref w_VARCHAR), .val (.int p1), .val (.int (0 : Int32))] [(.ref w_VARCHAR)])) _
  refine st2 _ ?_
  show Steps p.tables e below (T2.setTop (mkF m 9 #[.val (.ref w_VARCHAR), .val (.int p1), .val (.int (0 : Int32))] [(.ref w_VARCHAR), (.ref w_VARCHAR)])) _
  refine Jvm.RoadKit.acmp (g := (mkF m 9 #[.val (.ref w_VARCHAR), .val (.int p1), .val (.int (0 : Int32))] [(.ref w_VARCHAR), (.ref w_VARCHAR)])) X2 hx rfl rfl rfl (pc0 := 9) (pc' := 12) (same := true) rfl (hb hby d2_9) rfl (decide_eq_true rfl) (by decide) (by decide) ?_
  show Steps p.tables e below (T2.setTop (mkF m 12 #[.val (.ref w_VARCHAR), .val (.int p1), .val (.int (0 : Int32))] [])) _
  refine XS.iloadN X2.here hx rfl (hb hby d2_12) rfl ?_
  show Steps p.tables e below (T2.setTop (mkF m 13 #[.val (.ref w_VARCHAR), .val (.int p1), .val (.int (0 : Int32))] [(.int p1)])) _
  refine XS.ifYes X2.here hx rfl (pc0 := 13) (pc' := 20) rfl (hb hby d2_13) rfl ((if0 _ _).trans (flt hs).2.2.2) (by decide) (by decide) ?_
  show Steps p.tables e below (T2.setTop (mkF m 20 #[.val (.ref w_VARCHAR), .val (.int p1), .val (.int (0 : Int32))] [])) _
  refine X2.ldcInt hx hown (mvT hZ (hw _ (List.mem_of_getElem? (i := 26) rfl))) (g := (mkF m 20 #[.val (.ref w_VARCHAR), .val (.int p1), .val (.int (0 : Int32))] [])) rfl (hb hby d2_20) _ ?_
  show Steps p.tables e below (T2.setTop (mkF m 22 #[.val (.ref w_VARCHAR), .val (.int p1), .val (.int (0 : Int32))] [(.int (2147483647 : Int32))])) _
  refine XS.istoreN X2.here hx rfl (hb hby d2_22) rfl (l' := #[.val (.ref w_VARCHAR), .val (.int p1), .val (.int (2147483647 : Int32))]) rfl ?_
  show Steps p.tables e below (T2.setTop (mkF m 23 #[.val (.ref w_VARCHAR), .val (.int p1), .val (.int (2147483647 : Int32))] [])) _
  refine XS.goto X2.here hx rfl (pc0 := 23) (pc' := 39) rfl (hb hby d2_23) (by decide) (by decide) ?_
  show Steps p.tables e below (T2.setTop (mkF m 39 #[.val (.ref w_VARCHAR), .val (.int p1), .val (.int (2147483647 : Int32))] [])) _
  refine XS.iloadN X2.here hx rfl (hb hby d2_39) rfl ?_
  show Steps p.tables e below (T2.setTop (mkF m 40 #[.val (.ref w_VARCHAR), .val (.int p1), .val (.int (2147483647 : Int32))] [(.int (2147483647 : Int32))])) _
  exact retOut X2 hx (t := .int) (i := .ireturn) Bd.returns rfl (Or.inl ⟨rfl, Or.inl rfl, _, rfl⟩) (hb hby d2_40) hr
theorem d3_47 : decode method_4_code 47 = .ok (.ldc 7, 2) := by decide +kernel
theorem d3_49 : decode method_4_code 49 = .ok (.ireturn, 1) := by decide +kernel
set_option maxRecDepth 65536 in
set_option maxHeartbeats 40000000 in
theorem rm3_6 (l : Launch) (Z : State) (a0 : Array Value) (hw : ∀ d ∈ tables_1, d.before a0 Z = true) (ws : List Jvm.Cond) (w_INT w_VARCHAR w_DECIMAL w_SMALLINT w_NULL w_BOOLEAN w_BIGINT : Addr) (h0 : Heap) (n0 : Nat) (Z0 : n0 ≤ h0.size) (S : SF Z h0 w_INT w_VARCHAR w_DECIMAL w_SMALLINT w_NULL w_BOOLEAN w_BIGINT) (p1 : Int32) (hs : ¬ ((0 : Int32) < p1)) :
    Pay l Z (⟨"com/example/oyster/oyster/jdbc/JdbcTypePrecisionPinLaw", "expected", "(II)I"⟩ : MethodName) ws method_4_code 2 (some .int) #[(.int (4 : Int32)), (.int p1)] h0 n0 ({ frames := 0, cells := 0, slots := 0, locals := 0 } : Room) (some (.int (2147483647 : Int32))) := by
  obtain ⟨S_w_INT, E_w_INT, S_w_VARCHAR, E_w_VARCHAR, S_w_DECIMAL, E_w_DECIMAL, S_w_SMALLINT, E_w_SMALLINT, S_w_NULL, E_w_NULL, S_w_BOOLEAN, E_w_BOOLEAN, S_w_BIGINT, E_w_BIGINT, F_precision_w_INT, F_ordinal_w_INT, F_ordinal_w_VARCHAR, F_ordinal_w_DECIMAL, F_precision_w_DECIMAL, F_precision_w_SMALLINT, F_ordinal_w_SMALLINT, F_precision_w_VARCHAR, F_precision_w_NULL, F_ordinal_w_NULL, F_precision_w_BOOLEAN, F_ordinal_w_BOOLEAN, F_precision_w_BIGINT, F_ordinal_w_BIGINT, hne_w_INT_w_VARCHAR, hne_w_INT_w_DECIMAL, hne_w_INT_w_SMALLINT, hne_w_INT_w_NULL, hne_w_INT_w_BOOLEAN, hne_w_INT_w_BIGINT, hne_w_VARCHAR_w_DECIMAL, hne_w_VARCHAR_w_SMALLINT, hne_w_VARCHAR_w_NULL, hne_w_VARCHAR_w_BOOLEAN, hne_w_VARCHAR_w_BIGINT, hne_w_DECIMAL_w_SMALLINT, hne_w_DECIMAL_w_NULL, hne_w_DECIMAL_w_BOOLEAN, hne_w_DECIMAL_w_BIGINT, hne_w_SMALLINT_w_NULL, hne_w_SMALLINT_w_BOOLEAN, hne_w_SMALLINT_w_BIGINT, hne_w_NULL_w_BOOLEAN, hne_w_NULL_w_BIGINT, hne_w_BOOLEAN_w_BIGINT⟩ := id S
  refine MetFree.of_bodySF (plainFor_of_name pn_0) hisR ?_
  intro p e s m args below meth c s₁ Bd hml0 hP hK
  obtain ⟨rfl, hZ, hh⟩ := hP
  have hx := Bd.exec
  have hby := Bd.bytes
  have hml : c.maxLocals = 2 := hml0
  have hown : s.vm.findClass "com/example/oyster/oyster/jdbc/JdbcTypePrecisionPinLaw" = some m.cls := findClass_of_methodNamed Bd.named
  have X0 : Stand p l e ({ frames := 0, cells := 0, slots := 0, locals := 0 } : Room) s m #[(.int (4 : Int32)), (.int p1)] below meth c s₁ [] 0 0 := Stand.of_body Bd
  have e0 : s₁.heap = h0 := by rw [← hh, Bd.state]; rfl
  have N0 := Fr.nil n0
  have pre0 : ∀ t, Steps p.tables e below (s₁.setTop (mkF m 0 #[.val (.int (4 : Int32)), .val (.int p1)] [])) t → Steps p.tables e below (s₁.setTop (entryFrame m #[(.int (4 : Int32)), (.int p1)] 2)) t := fun t k => castTop (by first | rfl | (simp [entryFrame, mkF, argsToLocals, Value.category]; done)) k
  obtain ⟨fs, hr, hrun, hended, hW, hsame⟩ := X0.leave (v := (some (.int (2147483647 : Int32)))) (fun h => by rw [Bd.returns] at h; cases h)
  refine ⟨_, _, pre0 _ ?_, hrun, hended, _, _, rfl, ⟨rfl, N0, e0⟩, ⟨_, rfl⟩, hW, hsame.mono (by decide) (by decide)⟩
  show Steps p.tables e below (s₁.setTop (mkF m 0 #[.val (.int (4 : Int32)), .val (.int p1)] [])) _
  refine XS.iloadN X0.here hx rfl (hb hby d3_0) rfl ?_
  show Steps p.tables e below (s₁.setTop (mkF m 1 #[.val (.int (4 : Int32)), .val (.int p1)] [(.int (4 : Int32))])) _
  refine XS.ifYes X0.here hx rfl (pc0 := 1) (pc' := 7) rfl (hb hby d3_1) rfl ((if0 _ _).trans (feq (by decide : ¬ ((4 : Int32) = (0 : Int32)))).2) (by decide) (by decide) ?_
  show Steps p.tables e below (s₁.setTop (mkF m 7 #[.val (.int (4 : Int32)), .val (.int p1)] [])) _
  refine XS.iloadN X0.here hx rfl (hb hby d3_7) rfl ?_
  show Steps p.tables e below (s₁.setTop (mkF m 8 #[.val (.int (4 : Int32)), .val (.int p1)] [(.int (4 : Int32))])) _
  refine XS.iconst X0.here hx rfl (hb hby d3_8) ?_
  show Steps p.tables e below (s₁.setTop (mkF m 9 #[.val (.int (4 : Int32)), .val (.int p1)] [(.int (1 : Int32)), (.int (4 : Int32))])) _
  refine XS.icmpYes X0.here hx rfl (pc0 := 9) (pc' := 14) rfl (hb hby d3_9) rfl (feq (by decide : ¬ ((4 : Int32) = (1 : Int32)))).2 (by decide) (by decide) ?_
  show Steps p.tables e below (s₁.setTop (mkF m 14 #[.val (.int (4 : Int32)), .val (.int p1)] [])) _
  refine XS.iloadN X0.here hx rfl (hb hby d3_14) rfl ?_
  show Steps p.tables e below (s₁.setTop (mkF m 15 #[.val (.int (4 : Int32)), .val (.int p1)] [(.int (4 : Int32))])) _
  refine XS.iconst X0.here hx rfl (hb hby d3_15) ?_
  show Steps p.tables e below (s₁.setTop (mkF m 16 #[.val (.int (4 : Int32)), .val (.int p1)] [(.int (2 : Int32)), (.int (4 : Int32))])) _
  refine XS.icmpYes X0.here hx rfl (pc0 := 16) (pc' := 22) rfl (hb hby d3_16) rfl (feq (by decide : ¬ ((4 : Int32) = (2 : Int32)))).2 (by decide) (by decide) ?_
  show Steps p.tables e below (s₁.setTop (mkF m 22 #[.val (.int (4 : Int32)), .val (.int p1)] [])) _
  refine XS.iloadN X0.here hx rfl (hb hby d3_22) rfl ?_
  show Steps p.tables e below (s₁.setTop (mkF m 23 #[.val (.int (4 : Int32)), .val (.int p1)] [(.int (4 : Int32))])) _
  refine XS.iconst X0.here hx rfl (hb hby d3_23) ?_
  show Steps p.tables e below (s₁.setTop (mkF m 24 #[.val (.int (4 : Int32)), .val (.int p1)] [(.int (3 : Int32)), (.int (4 : Int32))])) _
  refine XS.icmpYes X0.here hx rfl (pc0 := 24) (pc' := 36) rfl (hb hby d3_24) rfl (feq (by decide : ¬ ((4 : Int32) = (3 : Int32)))).2 (by decide) (by decide) ?_
  show Steps p.tables e below (s₁.setTop (mkF m 36 #[.val (.int (4 : Int32)), .val (.int p1)] [])) _
  refine XS.iloadN X0.here hx rfl (hb hby d3_36) rfl ?_
  show Steps p.tables e below (s₁.setTop (mkF m 37 #[.val (.int (4 : Int32)), .val (.int p1)] [(.int (4 : Int32))])) _
  refine XS.iconst X0.here hx rfl (hb hby d3_37) ?_
  show Steps p.tables e below (s₁.setTop (mkF m 38 #[.val (.int (4 : Int32)), .val (.int p1)] [(.int (4 : Int32)), (.int (4 : Int32))])) _
  refine XS.icmpNo X0.here hx rfl (hb hby d3_38) rfl (teq (by decide : (4 : Int32) = (4 : Int32))).2 ?_
  show Steps p.tables e below (s₁.setTop (mkF m 41 #[.val (.int (4 : Int32)), .val (.int p1)] [])) _
  refine XS.iloadN X0.here hx rfl (hb hby d3_41) rfl ?_
  show Steps p.tables e below (s₁.setTop (mkF m 42 #[.val (.int (4 : Int32)), .val (.int p1)] [(.int p1)])) _
  refine XS.ifYes X0.here hx rfl (pc0 := 42) (pc' := 47) rfl (hb hby d3_42) rfl ((if0 _ _).trans (flt hs).2.2.2) (by decide) (by decide) ?_
  show Steps p.tables e below (s₁.setTop (mkF m 47 #[.val (.int (4 : Int32)), .val (.int p1)] [])) _
  refine X0.ldcInt hx hown (mvT hZ (hw _ (List.mem_of_getElem? (i := 0) rfl))) (g := (mkF m 47 #[.val (.int (4 : Int32)), .val (.int p1)] [])) rfl (hb hby d3_47) _ ?_
  show Steps p.tables e below (s₁.setTop (mkF m 49 #[.val (.int (4 : Int32)), .val (.int p1)] [(.int (2147483647 : Int32))])) _
  exact retOut X0 hx (t := .int) (i := .ireturn) Bd.returns rfl (Or.inl ⟨rfl, Or.inl rfl, _, rfl⟩) (hb hby d3_49) hr
set_option maxRecDepth 65536 in
set_option maxHeartbeats 40000000 in
theorem rm0_6 (l : Launch) (Z : State) (a0 : Array Value) (hw : ∀ d ∈ tables_1, d.before a0 Z = true) (ws : List Jvm.Cond) (w_INT w_VARCHAR w_DECIMAL w_SMALLINT w_NULL w_BOOLEAN w_BIGINT : Addr) (h0 : Heap) (n0 : Nat) (Z0 : n0 ≤ h0.size) (S : SF Z h0 w_INT w_VARCHAR w_DECIMAL w_SMALLINT w_NULL w_BOOLEAN w_BIGINT) (p0 : Int32) (p1 : Int32) (hk : ((p0 &&& (2147483647 : Int32)) % (7 : Int32)) = (4 : Int32)) (hs : ¬ ((0 : Int32) < p1)) :
    Pay l Z x ws code maxLocals ret #[(.int p0), (.int p1)] h0 n0 room_1 (some (.int (1 : Int32))) := by
  obtain ⟨S_w_INT, E_w_INT, S_w_VARCHAR, E_w_VARCHAR, S_w_DECIMAL, E_w_DECIMAL, S_w_SMALLINT, E_w_SMALLINT, S_w_NULL, E_w_NULL, S_w_BOOLEAN, E_w_BOOLEAN, S_w_BIGINT, E_w_BIGINT, F_precision_w_INT, F_ordinal_w_INT, F_ordinal_w_VARCHAR, F_ordinal_w_DECIMAL, F_precision_w_DECIMAL, F_precision_w_SMALLINT, F_ordinal_w_SMALLINT, F_precision_w_VARCHAR, F_precision_w_NULL, F_ordinal_w_NULL, F_precision_w_BOOLEAN, F_ordinal_w_BOOLEAN, F_precision_w_BIGINT, F_ordinal_w_BIGINT, hne_w_INT_w_VARCHAR, hne_w_INT_w_DECIMAL, hne_w_INT_w_SMALLINT, hne_w_INT_w_NULL, hne_w_INT_w_BOOLEAN, hne_w_INT_w_BIGINT, hne_w_VARCHAR_w_DECIMAL, hne_w_VARCHAR_w_SMALLINT, hne_w_VARCHAR_w_NULL, hne_w_VARCHAR_w_BOOLEAN, hne_w_VARCHAR_w_BIGINT, hne_w_DECIMAL_w_SMALLINT, hne_w_DECIMAL_w_NULL, hne_w_DECIMAL_w_BOOLEAN, hne_w_DECIMAL_w_BIGINT, hne_w_SMALLINT_w_NULL, hne_w_SMALLINT_w_BOOLEAN, hne_w_SMALLINT_w_BIGINT, hne_w_NULL_w_BOOLEAN, hne_w_NULL_w_BIGINT, hne_w_BOOLEAN_w_BIGINT⟩ := id S
  refine MetFree.of_bodySF (plainFor_of_name pn_0) hisR ?_
  intro p e s m args below meth c s₁ Bd hml0 hP hK
  obtain ⟨rfl, hZ, hh⟩ := hP
  have hx := Bd.exec
  have hby := Bd.bytes
  have hml : c.maxLocals = 5 := hml0
  have hown : s.vm.findClass "com/example/oyster/oyster/jdbc/JdbcTypePrecisionPinLaw" = some m.cls := findClass_of_methodNamed Bd.named
  have X0 : Stand p l e room_1 s m #[(.int p0), (.int p1)] below meth c s₁ [] 0 0 := Stand.of_body Bd
  have e0 : s₁.heap = h0 := by rw [← hh, Bd.state]; rfl
  have N0 := Fr.nil n0
  have pre0 : ∀ t, Steps p.tables e below (s₁.setTop (mkF m 0 #[.val (.int p0), .val (.int p1), .unset, .unset, .unset] [])) t → Steps p.tables e below (s₁.setTop (entryFrame m #[(.int p0), (.int p1)] maxLocals)) t := fun t k => castTop (by first | rfl | (simp [entryFrame, mkF, argsToLocals, Value.category, maxLocals]; done)) k
  obtain ⟨_, _, ⟨T1, L1, k1, n1⟩, -, X1, ⟨Lc1, hQ1, l1, y1, z1⟩, st1⟩ := Jvm.LawKit.callS X0 hx (y := (⟨"com/example/oyster/oyster/jdbc/JdbcTypePrecisionPinLaw", "pick", "(I)Lcom/example/oyster/oyster/jdbc/JdbcType;"⟩ : MethodName)) hown (mvT hZ (hw _ (List.mem_of_getElem? (i := 1) rfl))) (mvT hZ (hw _ (List.mem_of_getElem? (i := 2) rfl))) (mvT hZ (hw _ (List.mem_of_getElem? (i := 3) rfl))) (mvT hZ (hw _ (List.mem_of_getElem? (i := 4) rfl))) (by decide) (backOf (W := 0) (rm1_4 l Z a0 hw [] w_INT w_VARCHAR w_DECIMAL w_SMALLINT w_NULL w_BOOLEAN w_BIGINT h0 n0 Z0 S) hZ (hw _ (List.mem_of_getElem? (i := 4) rfl)) (hw _ (List.mem_of_getElem? (i := 3) rfl)) (by decide) (by decide)) (g := (mkF m 9 #[.val (.int p0), .val (.int p1), .val (.int (4 : Int32)), .unset, .unset] [(.int (4 : Int32))])) rfl (by rw [hml]; rfl) (argsL := [(.int (4 : Int32))]) (rest := []) (lenOf pd_0 rfl) rfl (by show 2 * 0 + _ ≤ _; exact Nat.le_of_eq rfl) (hb hby at_9) (fun _ _ => ⟨rfl, e0, (by decide : 0 + 0 ≤ _), (by decide : 0 + 0 ≤ _)⟩)
  dsimp only [Pt.U, Pt.locs, Pt.cells, Pt.slots] at X1 l1 y1 z1 st1 hQ1
  subst l1 y1 z1
  obtain ⟨rfl, Nq1, e1⟩ := hQ1
  have N1 := Fr.app N0 Nq1
  obtain ⟨cq2, kq2, q2a, q2b, q2c⟩ := isOf hZ e1 E_w_VARCHAR
  obtain ⟨_, _, ⟨T2, L2, k2, n2⟩, -, X2, ⟨Lc2, hQ2, l2, y2, z2⟩, st2⟩ := X1.virtualBack hx (y := (⟨"com/example/oyster/oyster/jdbc/JdbcType", "precision", "(I)I"⟩ : MethodName)) (z := (⟨"com/example/oyster/oyster/jdbc/JdbcType", "precision", "(I)I"⟩ : MethodName)) hown (mvT hZ (hw _ (List.mem_of_getElem? (i := 8) rfl))) (mvT hZ (hw _ (List.mem_of_getElem? (i := 9) rfl))) (notFace_of_selects (args := #[]) (mvT hZ (hw _ (List.mem_of_getElem? (i := 11) rfl)))) (mvT hZ (hw _ (List.mem_of_getElem? (i := 11) rfl))) (mvT hZ (hw _ (List.mem_of_getElem? (i := 10) rfl))) (by decide) (backOf (W := 0) (rm2_6 l Z a0 hw [] w_INT w_VARCHAR w_DECIMAL w_SMALLINT w_NULL w_BOOLEAN w_BIGINT h0 n0 Z0 S p1 hs) hZ (hw _ (List.mem_of_getElem? (i := 12) rfl)) (hw _ (List.mem_of_getElem? (i := 6) rfl)) (by decide) (by decide)) q2a q2c (g := (mkF m 15 #[.val (.int p0), .val (.int p1), .val (.int (4 : Int32)), .val (.ref w_VARCHAR), .unset] [(.int p1), (.ref w_VARCHAR)])) rfl (by rw [hml]; rfl) (Steps.refl _) (argsL := [(.int p1)]) (rest := []) (lenOf pd_1 rfl) rfl (by show 2 * 0 + _ ≤ _; exact Nat.le_of_eq rfl) (hb hby at_15) (fun _ _ => ⟨rfl, e1, (by decide : 0 + 0 ≤ _), (by decide : 0 + 0 ≤ _)⟩)
  dsimp only [Pt.U, Pt.locs, Pt.cells, Pt.slots] at X2 l2 y2 z2 st2 hQ2
  subst l2 y2 z2
  obtain ⟨rfl, Nq2, e2⟩ := hQ2
  have N2 := Fr.app N1 Nq2
  obtain ⟨_, _, ⟨T3, L3, k3, n3⟩, -, X3, ⟨Lc3, hQ3, l3, y3, z3⟩, st3⟩ := Jvm.LawKit.callS X2 hx (y := (⟨"com/example/oyster/oyster/jdbc/JdbcTypePrecisionPinLaw", "expected", "(II)I"⟩ : MethodName)) hown (mvT hZ (hw _ (List.mem_of_getElem? (i := 19) rfl))) (mvT hZ (hw _ (List.mem_of_getElem? (i := 20) rfl))) (mvT hZ (hw _ (List.mem_of_getElem? (i := 3) rfl))) (mvT hZ (hw _ (List.mem_of_getElem? (i := 21) rfl))) (by decide) (backOf (W := 1) (rm3_6 l Z a0 hw [] w_INT w_VARCHAR w_DECIMAL w_SMALLINT w_NULL w_BOOLEAN w_BIGINT h0 n0 Z0 S p1 hs) hZ (hw _ (List.mem_of_getElem? (i := 21) rfl)) (hw _ (List.mem_of_getElem? (i := 3) rfl)) (by decide) (by decide)) (g := (mkF m 24 #[.val (.int p0), .val (.int p1), .val (.int (4 : Int32)), .val (.ref w_VARCHAR), .val (.int (2147483647 : Int32))] [(.int p1), (.int (4 : Int32)), (.int (2147483647 : Int32))])) rfl (by rw [hml]; rfl) (argsL := [(.int (4 : Int32)), (.int p1)]) (rest := [(.int (2147483647 : Int32))]) (lenOf pd_2 rfl) rfl (by show 2 * 0 + _ ≤ _; exact Nat.le_of_eq rfl) (hb hby at_24) (fun _ _ => ⟨rfl, e2, (by decide : 0 + 0 ≤ _), (by decide : 0 + 0 ≤ _)⟩)
  dsimp only [Pt.U, Pt.locs, Pt.cells, Pt.slots] at X3 l3 y3 z3 st3 hQ3
  subst l3 y3 z3
  obtain ⟨rfl, Nq3, e3⟩ := hQ3
  have N3 := Fr.app N2 Nq3
  obtain ⟨fs, hr, hrun, hended, hW, hsame⟩ := X3.leave (v := (some (.int (1 : Int32)))) (fun h => by rw [Bd.returns] at h; cases h)
  refine ⟨_, _, pre0 _ ?_, hrun, hended, _, _, rfl, ⟨rfl, N3, e3⟩, ⟨_, rfl⟩, hW, hsame.mono (by decide) (by decide)⟩
  show Steps p.tables e below (s₁.setTop (mkF m 0 #[.val (.int p0), .val (.int p1), .unset, .unset, .unset] [])) _
  refine XS.iloadN X0.here hx rfl (hb hby at_0) rfl ?_
  show Steps p.tables e below (s₁.setTop (mkF m 1 #[.val (.int p0), .val (.int p1), .unset, .unset, .unset] [(.int p0)])) _
  refine X0.ldcInt hx hown (mvT hZ (hw _ (List.mem_of_getElem? (i := 0) rfl))) (g := (mkF m 1 #[.val (.int p0), .val (.int p1), .unset, .unset, .unset] [(.int p0)])) rfl (hb hby at_1) _ ?_
  show Steps p.tables e below (s₁.setTop (mkF m 3 #[.val (.int p0), .val (.int p1), .unset, .unset, .unset] [(.int (2147483647 : Int32)), (.int p0)])) _
  refine XS.iand X0.here hx rfl (hb hby at_3) rfl ?_
  show Steps p.tables e below (s₁.setTop (mkF m 4 #[.val (.int p0), .val (.int p1), .unset, .unset, .unset] [(.int (p0 &&& (2147483647 : Int32)))])) _
  show Steps p.tables e below (s₁.setTop (mkF m 4 #[.val (.int p0), .val (.int p1), .unset, .unset, .unset] [(.int (p0 &&& (2147483647 : Int32)))])) _
  refine XS.bipush X0.here hx rfl (hb hby at_4) ?_
  show Steps p.tables e below (s₁.setTop (mkF m 6 #[.val (.int p0), .val (.int p1), .unset, .unset, .unset] [(.int (7 : Int32)), (.int (p0 &&& (2147483647 : Int32)))])) _
  refine iremM X0 hx rfl (hb hby at_6) rfl (by decide) ?_
  show Steps p.tables e below (s₁.setTop (mkF m 7 #[.val (.int p0), .val (.int p1), .unset, .unset, .unset] [(.int ((p0 &&& (2147483647 : Int32)) % (7 : Int32)))])) _
  rw [hk]
  show Steps p.tables e below (s₁.setTop (mkF m 7 #[.val (.int p0), .val (.int p1), .unset, .unset, .unset] [(.int (4 : Int32))])) _
  refine XS.istoreN X0.here hx rfl (hb hby at_7) rfl (l' := #[.val (.int p0), .val (.int p1), .val (.int (4 : Int32)), .unset, .unset]) rfl ?_
  show Steps p.tables e below (s₁.setTop (mkF m 8 #[.val (.int p0), .val (.int p1), .val (.int (4 : Int32)), .unset, .unset] [])) _
  refine XS.iloadN X0.here hx rfl (hb hby at_8) rfl ?_
  show Steps p.tables e below (s₁.setTop (mkF m 9 #[.val (.int p0), .val (.int p1), .val (.int (4 : Int32)), .unset, .unset] [(.int (4 : Int32))])) _
  refine st1 _ ?_
  show Steps p.tables e below (T1.setTop (mkF m 12 #[.val (.int p0), .val (.int p1), .val (.int (4 : Int32)), .unset, .unset] [(.ref w_VARCHAR)])) _
  refine XS.astoreN X1.here hx rfl (hb hby at_12) rfl rfl (l' := #[.val (.int p0), .val (.int p1), .val (.int (4 : Int32)), .val (.ref w_VARCHAR), .unset]) rfl ?_
  show Steps p.tables e below (T1.setTop (mkF m 13 #[.val (.int p0), .val (.int p1), .val (.int (4 : Int32)), .val (.ref w_VARCHAR), .unset] [])) _
  refine XS.aloadN X1.here hx rfl (hb hby at_13) rfl rfl ?_
  show Steps p.tables e below (T1.setTop (mkF m 14 #[.val (.int p0), .val (.int p1), .val (.int (4 : Int32)), .val (.ref w_VARCHAR), .unset] [(.ref w_VARCHAR)])) _
  refine XS.iloadN X1.here hx rfl (hb hby at_14) rfl ?_
  show Steps p.tables e below (T1.setTop (mkF m 15 #[.val (.int p0), .val (.int p1), .val (.int (4 : Int32)), .val (.ref w_VARCHAR), .unset] [(.int p1), (.ref w_VARCHAR)])) _
  refine st2.trans ?_
  show Steps p.tables e below (T2.setTop (mkF m 18 #[.val (.int p0), .val (.int p1), .val (.int (4 : Int32)), .val (.ref w_VARCHAR), .unset] [(.int (2147483647 : Int32))])) _
  refine XS.istore X2.here hx rfl (hb hby at_18) rfl (l' := #[.val (.int p0), .val (.int p1), .val (.int (4 : Int32)), .val (.ref w_VARCHAR), .val (.int (2147483647 : Int32))]) rfl ?_
  show Steps p.tables e below (T2.setTop (mkF m 20 #[.val (.int p0), .val (.int p1), .val (.int (4 : Int32)), .val (.ref w_VARCHAR), .val (.int (2147483647 : Int32))] [])) _
  refine XS.iload X2.here hx rfl (hb hby at_20) rfl ?_
  show Steps p.tables e below (T2.setTop (mkF m 22 #[.val (.int p0), .val (.int p1), .val (.int (4 : Int32)), .val (.ref w_VARCHAR), .val (.int (2147483647 : Int32))] [(.int (2147483647 : Int32))])) _
  refine XS.iloadN X2.here hx rfl (hb hby at_22) rfl ?_
  show Steps p.tables e below (T2.setTop (mkF m 23 #[.val (.int p0), .val (.int p1), .val (.int (4 : Int32)), .val (.ref w_VARCHAR), .val (.int (2147483647 : Int32))] [(.int (4 : Int32)), (.int (2147483647 : Int32))])) _
  refine XS.iloadN X2.here hx rfl (hb hby at_23) rfl ?_
  show Steps p.tables e below (T2.setTop (mkF m 24 #[.val (.int p0), .val (.int p1), .val (.int (4 : Int32)), .val (.ref w_VARCHAR), .val (.int (2147483647 : Int32))] [(.int p1), (.int (4 : Int32)), (.int (2147483647 : Int32))])) _
  refine st3 _ ?_
  show Steps p.tables e below (T3.setTop (mkF m 27 #[.val (.int p0), .val (.int p1), .val (.int (4 : Int32)), .val (.ref w_VARCHAR), .val (.int (2147483647 : Int32))] [(.int (2147483647 : Int32)), (.int (2147483647 : Int32))])) _
  refine XS.icmpNo X3.here hx rfl (hb hby at_27) rfl (teq (by decide : (2147483647 : Int32) = (2147483647 : Int32))).2 ?_
  show Steps p.tables e below (T3.setTop (mkF m 30 #[.val (.int p0), .val (.int p1), .val (.int (4 : Int32)), .val (.ref w_VARCHAR), .val (.int (2147483647 : Int32))] [])) _
  refine XS.iconst X3.here hx rfl (hb hby at_30) ?_
  show Steps p.tables e below (T3.setTop (mkF m 31 #[.val (.int p0), .val (.int p1), .val (.int (4 : Int32)), .val (.ref w_VARCHAR), .val (.int (2147483647 : Int32))] [(.int (1 : Int32))])) _
  refine XS.goto X3.here hx rfl (pc0 := 31) (pc' := 35) rfl (hb hby at_31) (by decide) (by decide) ?_
  show Steps p.tables e below (T3.setTop (mkF m 35 #[.val (.int p0), .val (.int p1), .val (.int (4 : Int32)), .val (.ref w_VARCHAR), .val (.int (2147483647 : Int32))] [(.int (1 : Int32))])) _
  exact retN X3 hx (t := .boolean) Bd.returns (by simp) (hb hby at_35) hr
theorem d1_44 : decode method_3_code 44 = .ok (.iload_n 0, 1) := by decide +kernel
theorem d1_45 : decode method_3_code 45 = .ok (.iconst 5, 1) := by decide +kernel
theorem d1_46 : decode method_3_code 46 = .ok (.if_icmp .ne 7, 3) := by decide +kernel
theorem d1_49 : decode method_3_code 49 = .ok (.getstatic 40, 3) := by decide +kernel
theorem d1_52 : decode method_3_code 52 = .ok (.areturn, 1) := by decide +kernel
set_option maxRecDepth 65536 in
set_option maxHeartbeats 40000000 in
theorem rm1_5 (l : Launch) (Z : State) (a0 : Array Value) (hw : ∀ d ∈ tables_1, d.before a0 Z = true) (ws : List Jvm.Cond) (w_INT w_VARCHAR w_DECIMAL w_SMALLINT w_NULL w_BOOLEAN w_BIGINT : Addr) (h0 : Heap) (n0 : Nat) (Z0 : n0 ≤ h0.size) (S : SF Z h0 w_INT w_VARCHAR w_DECIMAL w_SMALLINT w_NULL w_BOOLEAN w_BIGINT) :
    Pay l Z (⟨"com/example/oyster/oyster/jdbc/JdbcTypePrecisionPinLaw", "pick", "(I)Lcom/example/oyster/oyster/jdbc/JdbcType;"⟩ : MethodName) ws method_3_code 1 (some (.object "com/example/oyster/oyster/jdbc/JdbcType")) #[(.int (5 : Int32))] h0 n0 ({ frames := 0, cells := 0, slots := 0, locals := 0 } : Room) (some (.ref w_BOOLEAN)) := by
  obtain ⟨S_w_INT, E_w_INT, S_w_VARCHAR, E_w_VARCHAR, S_w_DECIMAL, E_w_DECIMAL, S_w_SMALLINT, E_w_SMALLINT, S_w_NULL, E_w_NULL, S_w_BOOLEAN, E_w_BOOLEAN, S_w_BIGINT, E_w_BIGINT, F_precision_w_INT, F_ordinal_w_INT, F_ordinal_w_VARCHAR, F_ordinal_w_DECIMAL, F_precision_w_DECIMAL, F_precision_w_SMALLINT, F_ordinal_w_SMALLINT, F_precision_w_VARCHAR, F_precision_w_NULL, F_ordinal_w_NULL, F_precision_w_BOOLEAN, F_ordinal_w_BOOLEAN, F_precision_w_BIGINT, F_ordinal_w_BIGINT, hne_w_INT_w_VARCHAR, hne_w_INT_w_DECIMAL, hne_w_INT_w_SMALLINT, hne_w_INT_w_NULL, hne_w_INT_w_BOOLEAN, hne_w_INT_w_BIGINT, hne_w_VARCHAR_w_DECIMAL, hne_w_VARCHAR_w_SMALLINT, hne_w_VARCHAR_w_NULL, hne_w_VARCHAR_w_BOOLEAN, hne_w_VARCHAR_w_BIGINT, hne_w_DECIMAL_w_SMALLINT, hne_w_DECIMAL_w_NULL, hne_w_DECIMAL_w_BOOLEAN, hne_w_DECIMAL_w_BIGINT, hne_w_SMALLINT_w_NULL, hne_w_SMALLINT_w_BOOLEAN, hne_w_SMALLINT_w_BIGINT, hne_w_NULL_w_BOOLEAN, hne_w_NULL_w_BIGINT, hne_w_BOOLEAN_w_BIGINT⟩ := id S
  refine MetFree.of_bodySF (plainFor_of_name pn_0) hisR ?_
  intro p e s m args below meth c s₁ Bd hml0 hP hK
  obtain ⟨rfl, hZ, hh⟩ := hP
  have hx := Bd.exec
  have hby := Bd.bytes
  have hml : c.maxLocals = 1 := hml0
  have hown : s.vm.findClass "com/example/oyster/oyster/jdbc/JdbcTypePrecisionPinLaw" = some m.cls := findClass_of_methodNamed Bd.named
  have X0 : Stand p l e ({ frames := 0, cells := 0, slots := 0, locals := 0 } : Room) s m #[(.int (5 : Int32))] below meth c s₁ [] 0 0 := Stand.of_body Bd
  have e0 : s₁.heap = h0 := by rw [← hh, Bd.state]; rfl
  have N0 := Fr.nil n0
  have pre0 : ∀ t, Steps p.tables e below (s₁.setTop (mkF m 0 #[.val (.int (5 : Int32))] [])) t → Steps p.tables e below (s₁.setTop (entryFrame m #[(.int (5 : Int32))] 1)) t := fun t k => castTop (by first | rfl | (simp [entryFrame, mkF, argsToLocals, Value.category]; done)) k
  obtain ⟨T1, X1, e1, st1⟩ := getS2 X0 hx hZ hown (host := "") (Or.inl (hw _ (List.mem_of_getElem? (i := 29) rfl))) Via.refl e0 S_w_BOOLEAN (g := (mkF m 49 #[.val (.int (5 : Int32))] [])) rfl (hb hby d1_49)
  obtain ⟨fs, hr, hrun, hended, hW, hsame⟩ := X1.leave (v := (some (.ref w_BOOLEAN))) (fun h => by rw [Bd.returns] at h; cases h)
  refine ⟨_, _, pre0 _ ?_, hrun, hended, _, _, rfl, ⟨rfl, N0, e1⟩, ⟨_, rfl⟩, hW, hsame.mono (by decide) (by decide)⟩
  show Steps p.tables e below (s₁.setTop (mkF m 0 #[.val (.int (5 : Int32))] [])) _
  refine XS.iloadN X0.here hx rfl (hb hby d1_0) rfl ?_
  show Steps p.tables e below (s₁.setTop (mkF m 1 #[.val (.int (5 : Int32))] [(.int (5 : Int32))])) _
  refine XS.ifYes X0.here hx rfl (pc0 := 1) (pc' := 8) rfl (hb hby d1_1) rfl ((if0 _ _).trans (feq (by decide : ¬ ((5 : Int32) = (0 : Int32)))).2) (by decide) (by decide) ?_
  show Steps p.tables e below (s₁.setTop (mkF m 8 #[.val (.int (5 : Int32))] [])) _
  refine XS.iloadN X0.here hx rfl (hb hby d1_8) rfl ?_
  show Steps p.tables e below (s₁.setTop (mkF m 9 #[.val (.int (5 : Int32))] [(.int (5 : Int32))])) _
  refine XS.iconst X0.here hx rfl (hb hby d1_9) ?_
  show Steps p.tables e below (s₁.setTop (mkF m 10 #[.val (.int (5 : Int32))] [(.int (1 : Int32)), (.int (5 : Int32))])) _
  refine XS.icmpYes X0.here hx rfl (pc0 := 10) (pc' := 17) rfl (hb hby d1_10) rfl (feq (by decide : ¬ ((5 : Int32) = (1 : Int32)))).2 (by decide) (by decide) ?_
  show Steps p.tables e below (s₁.setTop (mkF m 17 #[.val (.int (5 : Int32))] [])) _
  refine XS.iloadN X0.here hx rfl (hb hby d1_17) rfl ?_
  show Steps p.tables e below (s₁.setTop (mkF m 18 #[.val (.int (5 : Int32))] [(.int (5 : Int32))])) _
  refine XS.iconst X0.here hx rfl (hb hby d1_18) ?_
  show Steps p.tables e below (s₁.setTop (mkF m 19 #[.val (.int (5 : Int32))] [(.int (2 : Int32)), (.int (5 : Int32))])) _
  refine XS.icmpYes X0.here hx rfl (pc0 := 19) (pc' := 26) rfl (hb hby d1_19) rfl (feq (by decide : ¬ ((5 : Int32) = (2 : Int32)))).2 (by decide) (by decide) ?_
  show Steps p.tables e below (s₁.setTop (mkF m 26 #[.val (.int (5 : Int32))] [])) _
  refine XS.iloadN X0.here hx rfl (hb hby d1_26) rfl ?_
  show Steps p.tables e below (s₁.setTop (mkF m 27 #[.val (.int (5 : Int32))] [(.int (5 : Int32))])) _
  refine XS.iconst X0.here hx rfl (hb hby d1_27) ?_
  show Steps p.tables e below (s₁.setTop (mkF m 28 #[.val (.int (5 : Int32))] [(.int (3 : Int32)), (.int (5 : Int32))])) _
  refine XS.icmpYes X0.here hx rfl (pc0 := 28) (pc' := 35) rfl (hb hby d1_28) rfl (feq (by decide : ¬ ((5 : Int32) = (3 : Int32)))).2 (by decide) (by decide) ?_
  show Steps p.tables e below (s₁.setTop (mkF m 35 #[.val (.int (5 : Int32))] [])) _
  refine XS.iloadN X0.here hx rfl (hb hby d1_35) rfl ?_
  show Steps p.tables e below (s₁.setTop (mkF m 36 #[.val (.int (5 : Int32))] [(.int (5 : Int32))])) _
  refine XS.iconst X0.here hx rfl (hb hby d1_36) ?_
  show Steps p.tables e below (s₁.setTop (mkF m 37 #[.val (.int (5 : Int32))] [(.int (4 : Int32)), (.int (5 : Int32))])) _
  refine XS.icmpYes X0.here hx rfl (pc0 := 37) (pc' := 44) rfl (hb hby d1_37) rfl (feq (by decide : ¬ ((5 : Int32) = (4 : Int32)))).2 (by decide) (by decide) ?_
  show Steps p.tables e below (s₁.setTop (mkF m 44 #[.val (.int (5 : Int32))] [])) _
  refine XS.iloadN X0.here hx rfl (hb hby d1_44) rfl ?_
  show Steps p.tables e below (s₁.setTop (mkF m 45 #[.val (.int (5 : Int32))] [(.int (5 : Int32))])) _
  refine XS.iconst X0.here hx rfl (hb hby d1_45) ?_
  show Steps p.tables e below (s₁.setTop (mkF m 46 #[.val (.int (5 : Int32))] [(.int (5 : Int32)), (.int (5 : Int32))])) _
  refine XS.icmpNo X0.here hx rfl (hb hby d1_46) rfl (teq (by decide : (5 : Int32) = (5 : Int32))).2 ?_
  show Steps p.tables e below (s₁.setTop (mkF m 49 #[.val (.int (5 : Int32))] [])) _
  refine st1 _ ?_
  show Steps p.tables e below (T1.setTop (mkF m 52 #[.val (.int (5 : Int32))] [(.ref w_BOOLEAN)])) _
  exact retOut X1 hx (t := (.object "com/example/oyster/oyster/jdbc/JdbcType")) (i := .areturn) Bd.returns rfl (Or.inr (Or.inr (Or.inr (Or.inr ⟨rfl, rfl, rfl⟩)))) (hb hby d1_52) hr
set_option maxRecDepth 65536 in
set_option maxHeartbeats 40000000 in
theorem rm2_7 (l : Launch) (Z : State) (a0 : Array Value) (hw : ∀ d ∈ tables_1, d.before a0 Z = true) (ws : List Jvm.Cond) (w_INT w_VARCHAR w_DECIMAL w_SMALLINT w_NULL w_BOOLEAN w_BIGINT : Addr) (h0 : Heap) (n0 : Nat) (Z0 : n0 ≤ h0.size) (S : SF Z h0 w_INT w_VARCHAR w_DECIMAL w_SMALLINT w_NULL w_BOOLEAN w_BIGINT) (p1 : Int32) :
    Pay l Z (⟨"com/example/oyster/oyster/jdbc/JdbcType", "precision", "(I)I"⟩ : MethodName) ws prog_121_method_10_code 3 (some .int) #[(.ref w_BOOLEAN), (.int p1)] h0 n0 ({ frames := 0, cells := 0, slots := 0, locals := 0 } : Room) (some (.int (1 : Int32))) := by
  obtain ⟨S_w_INT, E_w_INT, S_w_VARCHAR, E_w_VARCHAR, S_w_DECIMAL, E_w_DECIMAL, S_w_SMALLINT, E_w_SMALLINT, S_w_NULL, E_w_NULL, S_w_BOOLEAN, E_w_BOOLEAN, S_w_BIGINT, E_w_BIGINT, F_precision_w_INT, F_ordinal_w_INT, F_ordinal_w_VARCHAR, F_ordinal_w_DECIMAL, F_precision_w_DECIMAL, F_precision_w_SMALLINT, F_ordinal_w_SMALLINT, F_precision_w_VARCHAR, F_precision_w_NULL, F_ordinal_w_NULL, F_precision_w_BOOLEAN, F_ordinal_w_BOOLEAN, F_precision_w_BIGINT, F_ordinal_w_BIGINT, hne_w_INT_w_VARCHAR, hne_w_INT_w_DECIMAL, hne_w_INT_w_SMALLINT, hne_w_INT_w_NULL, hne_w_INT_w_BOOLEAN, hne_w_INT_w_BIGINT, hne_w_VARCHAR_w_DECIMAL, hne_w_VARCHAR_w_SMALLINT, hne_w_VARCHAR_w_NULL, hne_w_VARCHAR_w_BOOLEAN, hne_w_VARCHAR_w_BIGINT, hne_w_DECIMAL_w_SMALLINT, hne_w_DECIMAL_w_NULL, hne_w_DECIMAL_w_BOOLEAN, hne_w_DECIMAL_w_BIGINT, hne_w_SMALLINT_w_NULL, hne_w_SMALLINT_w_BOOLEAN, hne_w_SMALLINT_w_BIGINT, hne_w_NULL_w_BOOLEAN, hne_w_NULL_w_BIGINT, hne_w_BOOLEAN_w_BIGINT⟩ := id S
  refine MetFree.of_bodySF (plainFor_of_name pn_1) hisR ?_
  intro p e s m args below meth c s₁ Bd hml0 hP hK
  obtain ⟨rfl, hZ, hh⟩ := hP
  have hx := Bd.exec
  have hby := Bd.bytes
  have hml : c.maxLocals = 3 := hml0
  have hown : s.vm.findClass "com/example/oyster/oyster/jdbc/JdbcType" = some m.cls := findClass_of_methodNamed Bd.named
  have X0 : Stand p l e ({ frames := 0, cells := 0, slots := 0, locals := 0 } : Room) s m #[(.ref w_BOOLEAN), (.int p1)] below meth c s₁ [] 0 0 := Stand.of_body Bd
  have e0 : s₁.heap = h0 := by rw [← hh, Bd.state]; rfl
  have N0 := Fr.nil n0
  have pre0 : ∀ t, Steps p.tables e below (s₁.setTop (mkF m 0 #[.val (.ref w_BOOLEAN), .val (.int p1), .unset] [])) t → Steps p.tables e below (s₁.setTop (entryFrame m #[(.ref w_BOOLEAN), (.int p1)] 3)) t := fun t k => castTop (by first | rfl | (simp [entryFrame, mkF, argsToLocals, Value.category]; done)) k
  obtain ⟨T1, X1, e1, st1⟩ := getF X0 hx hZ hown (host := "") (Or.inl (hw _ (List.mem_of_getElem? (i := 13) rfl))) Via.refl e0 F_precision_w_BOOLEAN (g := (mkF m 1 #[.val (.ref w_BOOLEAN), .val (.int p1), .unset] [(.ref w_BOOLEAN)])) rfl rfl (hb hby d2_1)
  obtain ⟨T2, X2, e2, st2⟩ := getS2 X1 hx hZ hown (host := "") (Or.inl (hw _ (List.mem_of_getElem? (i := 15) rfl))) Via.refl e1 S_w_VARCHAR (g := (mkF m 6 #[.val (.ref w_BOOLEAN), .val (.int p1), .val (.int (1 : Int32))] [(.ref w_BOOLEAN)])) rfl (hb hby d2_6)
  obtain ⟨T3, X3, e3, st3⟩ := getS2 X2 hx hZ hown (host := "") (Or.inl (hw _ (List.mem_of_getElem? (i := 17) rfl))) Via.refl e2 S_w_DECIMAL (g := (mkF m 27 #[.val (.ref w_BOOLEAN), .val (.int p1), .val (.int (1 : Int32))] [(.ref w_BOOLEAN)])) rfl (hb hby d2_27)
  obtain ⟨fs, hr, hrun, hended, hW, hsame⟩ := X3.leave (v := (some (.int (1 : Int32)))) (fun h => by rw [Bd.returns] at h; cases h)
  refine ⟨_, _, pre0 _ ?_, hrun, hended, _, _, rfl, ⟨rfl, N0, e3⟩, ⟨_, rfl⟩, hW, hsame.mono (by decide) (by decide)⟩
  show Steps p.tables e below (s₁.setTop (mkF m 0 #[.val (.ref w_BOOLEAN), .val (.int p1), .unset] [])) _
  refine XS.aloadN X0.here hx rfl (hb hby d2_0) rfl rfl ?_
  show Steps p.tables e below (s₁.setTop (mkF m 1 #[.val (.ref w_BOOLEAN), .val (.int p1), .unset] [(.ref w_BOOLEAN)])) _
  refine st1 _ ?_
  show Steps p.tables e below (T1.setTop (mkF m 4 #[.val (.ref w_BOOLEAN), .val (.int p1), .unset] [(.int (1 : Int32))])) _
  refine XS.istoreN X1.here hx rfl (hb hby d2_4) rfl (l' := #[.val (.ref w_BOOLEAN), .val (.int p1), .val (.int (1 : Int32))]) rfl ?_
  show Steps p.tables e below (T1.setTop (mkF m 5 #[.val (.ref w_BOOLEAN), .val (.int p1), .val (.int (1 : Int32))] [])) _
  refine XS.aloadN X1.here hx rfl (hb hby d2_5) rfl rfl ?_
  show Steps p.tables e below (T1.setTop (mkF m 6 #[.val (.ref w_BOOLEAN), .val (.int p1), .val (.int (1 : Int32))] [(.ref w_BOOLEAN)])) _
  refine st2 _ ?_
  show Steps p.tables e below (T2.setTop (mkF m 9 #[.val (.ref w_BOOLEAN), .val (.int p1), .val (.int (1 : Int32))] [(.ref w_VARCHAR), (.ref w_BOOLEAN)])) _
  refine Jvm.RoadKit.acmp (g := (mkF m 9 #[.val (.ref w_BOOLEAN), .val (.int p1), .val (.int (1 : Int32))] [(.ref w_VARCHAR), (.ref w_BOOLEAN)])) X2 hx rfl rfl rfl (pc0 := 9) (pc' := 26) (same := false) rfl (hb hby d2_9) rfl (decide_eq_false fun q => hne_w_VARCHAR_w_BOOLEAN (Value.ref.inj q).symm) (by decide) (by decide) ?_
  show Steps p.tables e below (T2.setTop (mkF m 26 #[.val (.ref w_BOOLEAN), .val (.int p1), .val (.int (1 : Int32))] [])) _
  refine XS.aloadN X2.here hx rfl (hb hby d2_26) rfl rfl ?_
  show Steps p.tables e below (T2.setTop (mkF m 27 #[.val (.ref w_BOOLEAN), .val (.int p1), .val (.int (1 : Int32))] [(.ref w_BOOLEAN)])) _
  refine st3 _ ?_
  show Steps p.tables e below (T3.setTop (mkF m 30 #[.val (.ref w_BOOLEAN), .val (.int p1), .val (.int (1 : Int32))] [(.ref w_DECIMAL), (.ref w_BOOLEAN)])) _
  refine Jvm.RoadKit.acmp (g := (mkF m 30 #[.val (.ref w_BOOLEAN), .val (.int p1), .val (.int (1 : Int32))] [(.ref w_DECIMAL), (.ref w_BOOLEAN)])) X3 hx rfl rfl rfl (pc0 := 30) (pc' := 39) (same := false) rfl (hb hby d2_30) rfl (decide_eq_false fun q => hne_w_DECIMAL_w_BOOLEAN (Value.ref.inj q).symm) (by decide) (by decide) ?_
  show Steps p.tables e below (T3.setTop (mkF m 39 #[.val (.ref w_BOOLEAN), .val (.int p1), .val (.int (1 : Int32))] [])) _
  refine XS.iloadN X3.here hx rfl (hb hby d2_39) rfl ?_
  show Steps p.tables e below (T3.setTop (mkF m 40 #[.val (.ref w_BOOLEAN), .val (.int p1), .val (.int (1 : Int32))] [(.int (1 : Int32))])) _
  exact retOut X3 hx (t := .int) (i := .ireturn) Bd.returns rfl (Or.inl ⟨rfl, Or.inl rfl, _, rfl⟩) (hb hby d2_40) hr
theorem d3_50 : decode method_4_code 50 = .ok (.iload_n 0, 1) := by decide +kernel
theorem d3_51 : decode method_4_code 51 = .ok (.iconst 5, 1) := by decide +kernel
theorem d3_52 : decode method_4_code 52 = .ok (.if_icmp .ne 5, 3) := by decide +kernel
theorem d3_55 : decode method_4_code 55 = .ok (.iconst 1, 1) := by decide +kernel
theorem d3_56 : decode method_4_code 56 = .ok (.ireturn, 1) := by decide +kernel
set_option maxRecDepth 65536 in
set_option maxHeartbeats 40000000 in
theorem rm3_7 (l : Launch) (Z : State) (a0 : Array Value) (hw : ∀ d ∈ tables_1, d.before a0 Z = true) (ws : List Jvm.Cond) (w_INT w_VARCHAR w_DECIMAL w_SMALLINT w_NULL w_BOOLEAN w_BIGINT : Addr) (h0 : Heap) (n0 : Nat) (Z0 : n0 ≤ h0.size) (S : SF Z h0 w_INT w_VARCHAR w_DECIMAL w_SMALLINT w_NULL w_BOOLEAN w_BIGINT) (p1 : Int32) :
    Pay l Z (⟨"com/example/oyster/oyster/jdbc/JdbcTypePrecisionPinLaw", "expected", "(II)I"⟩ : MethodName) ws method_4_code 2 (some .int) #[(.int (5 : Int32)), (.int p1)] h0 n0 ({ frames := 0, cells := 0, slots := 0, locals := 0 } : Room) (some (.int (1 : Int32))) := by
  obtain ⟨S_w_INT, E_w_INT, S_w_VARCHAR, E_w_VARCHAR, S_w_DECIMAL, E_w_DECIMAL, S_w_SMALLINT, E_w_SMALLINT, S_w_NULL, E_w_NULL, S_w_BOOLEAN, E_w_BOOLEAN, S_w_BIGINT, E_w_BIGINT, F_precision_w_INT, F_ordinal_w_INT, F_ordinal_w_VARCHAR, F_ordinal_w_DECIMAL, F_precision_w_DECIMAL, F_precision_w_SMALLINT, F_ordinal_w_SMALLINT, F_precision_w_VARCHAR, F_precision_w_NULL, F_ordinal_w_NULL, F_precision_w_BOOLEAN, F_ordinal_w_BOOLEAN, F_precision_w_BIGINT, F_ordinal_w_BIGINT, hne_w_INT_w_VARCHAR, hne_w_INT_w_DECIMAL, hne_w_INT_w_SMALLINT, hne_w_INT_w_NULL, hne_w_INT_w_BOOLEAN, hne_w_INT_w_BIGINT, hne_w_VARCHAR_w_DECIMAL, hne_w_VARCHAR_w_SMALLINT, hne_w_VARCHAR_w_NULL, hne_w_VARCHAR_w_BOOLEAN, hne_w_VARCHAR_w_BIGINT, hne_w_DECIMAL_w_SMALLINT, hne_w_DECIMAL_w_NULL, hne_w_DECIMAL_w_BOOLEAN, hne_w_DECIMAL_w_BIGINT, hne_w_SMALLINT_w_NULL, hne_w_SMALLINT_w_BOOLEAN, hne_w_SMALLINT_w_BIGINT, hne_w_NULL_w_BOOLEAN, hne_w_NULL_w_BIGINT, hne_w_BOOLEAN_w_BIGINT⟩ := id S
  refine MetFree.of_bodySF (plainFor_of_name pn_0) hisR ?_
  intro p e s m args below meth c s₁ Bd hml0 hP hK
  obtain ⟨rfl, hZ, hh⟩ := hP
  have hx := Bd.exec
  have hby := Bd.bytes
  have hml : c.maxLocals = 2 := hml0
  have hown : s.vm.findClass "com/example/oyster/oyster/jdbc/JdbcTypePrecisionPinLaw" = some m.cls := findClass_of_methodNamed Bd.named
  have X0 : Stand p l e ({ frames := 0, cells := 0, slots := 0, locals := 0 } : Room) s m #[(.int (5 : Int32)), (.int p1)] below meth c s₁ [] 0 0 := Stand.of_body Bd
  have e0 : s₁.heap = h0 := by rw [← hh, Bd.state]; rfl
  have N0 := Fr.nil n0
  have pre0 : ∀ t, Steps p.tables e below (s₁.setTop (mkF m 0 #[.val (.int (5 : Int32)), .val (.int p1)] [])) t → Steps p.tables e below (s₁.setTop (entryFrame m #[(.int (5 : Int32)), (.int p1)] 2)) t := fun t k => castTop (by first | rfl | (simp [entryFrame, mkF, argsToLocals, Value.category]; done)) k
  obtain ⟨fs, hr, hrun, hended, hW, hsame⟩ := X0.leave (v := (some (.int (1 : Int32)))) (fun h => by rw [Bd.returns] at h; cases h)
  refine ⟨_, _, pre0 _ ?_, hrun, hended, _, _, rfl, ⟨rfl, N0, e0⟩, ⟨_, rfl⟩, hW, hsame.mono (by decide) (by decide)⟩
  show Steps p.tables e below (s₁.setTop (mkF m 0 #[.val (.int (5 : Int32)), .val (.int p1)] [])) _
  refine XS.iloadN X0.here hx rfl (hb hby d3_0) rfl ?_
  show Steps p.tables e below (s₁.setTop (mkF m 1 #[.val (.int (5 : Int32)), .val (.int p1)] [(.int (5 : Int32))])) _
  refine XS.ifYes X0.here hx rfl (pc0 := 1) (pc' := 7) rfl (hb hby d3_1) rfl ((if0 _ _).trans (feq (by decide : ¬ ((5 : Int32) = (0 : Int32)))).2) (by decide) (by decide) ?_
  show Steps p.tables e below (s₁.setTop (mkF m 7 #[.val (.int (5 : Int32)), .val (.int p1)] [])) _
  refine XS.iloadN X0.here hx rfl (hb hby d3_7) rfl ?_
  show Steps p.tables e below (s₁.setTop (mkF m 8 #[.val (.int (5 : Int32)), .val (.int p1)] [(.int (5 : Int32))])) _
  refine XS.iconst X0.here hx rfl (hb hby d3_8) ?_
  show Steps p.tables e below (s₁.setTop (mkF m 9 #[.val (.int (5 : Int32)), .val (.int p1)] [(.int (1 : Int32)), (.int (5 : Int32))])) _
  refine XS.icmpYes X0.here hx rfl (pc0 := 9) (pc' := 14) rfl (hb hby d3_9) rfl (feq (by decide : ¬ ((5 : Int32) = (1 : Int32)))).2 (by decide) (by decide) ?_
  show Steps p.tables e below (s₁.setTop (mkF m 14 #[.val (.int (5 : Int32)), .val (.int p1)] [])) _
  refine XS.iloadN X0.here hx rfl (hb hby d3_14) rfl ?_
  show Steps p.tables e below (s₁.setTop (mkF m 15 #[.val (.int (5 : Int32)), .val (.int p1)] [(.int (5 : Int32))])) _
  refine XS.iconst X0.here hx rfl (hb hby d3_15) ?_
  show Steps p.tables e below (s₁.setTop (mkF m 16 #[.val (.int (5 : Int32)), .val (.int p1)] [(.int (2 : Int32)), (.int (5 : Int32))])) _
  refine XS.icmpYes X0.here hx rfl (pc0 := 16) (pc' := 22) rfl (hb hby d3_16) rfl (feq (by decide : ¬ ((5 : Int32) = (2 : Int32)))).2 (by decide) (by decide) ?_
  show Steps p.tables e below (s₁.setTop (mkF m 22 #[.val (.int (5 : Int32)), .val (.int p1)] [])) _
  refine XS.iloadN X0.here hx rfl (hb hby d3_22) rfl ?_
  show Steps p.tables e below (s₁.setTop (mkF m 23 #[.val (.int (5 : Int32)), .val (.int p1)] [(.int (5 : Int32))])) _
  refine XS.iconst X0.here hx rfl (hb hby d3_23) ?_
  show Steps p.tables e below (s₁.setTop (mkF m 24 #[.val (.int (5 : Int32)), .val (.int p1)] [(.int (3 : Int32)), (.int (5 : Int32))])) _
  refine XS.icmpYes X0.here hx rfl (pc0 := 24) (pc' := 36) rfl (hb hby d3_24) rfl (feq (by decide : ¬ ((5 : Int32) = (3 : Int32)))).2 (by decide) (by decide) ?_
  show Steps p.tables e below (s₁.setTop (mkF m 36 #[.val (.int (5 : Int32)), .val (.int p1)] [])) _
  refine XS.iloadN X0.here hx rfl (hb hby d3_36) rfl ?_
  show Steps p.tables e below (s₁.setTop (mkF m 37 #[.val (.int (5 : Int32)), .val (.int p1)] [(.int (5 : Int32))])) _
  refine XS.iconst X0.here hx rfl (hb hby d3_37) ?_
  show Steps p.tables e below (s₁.setTop (mkF m 38 #[.val (.int (5 : Int32)), .val (.int p1)] [(.int (4 : Int32)), (.int (5 : Int32))])) _
  refine XS.icmpYes X0.here hx rfl (pc0 := 38) (pc' := 50) rfl (hb hby d3_38) rfl (feq (by decide : ¬ ((5 : Int32) = (4 : Int32)))).2 (by decide) (by decide) ?_
  show Steps p.tables e below (s₁.setTop (mkF m 50 #[.val (.int (5 : Int32)), .val (.int p1)] [])) _
  refine XS.iloadN X0.here hx rfl (hb hby d3_50) rfl ?_
  show Steps p.tables e below (s₁.setTop (mkF m 51 #[.val (.int (5 : Int32)), .val (.int p1)] [(.int (5 : Int32))])) _
  refine XS.iconst X0.here hx rfl (hb hby d3_51) ?_
  show Steps p.tables e below (s₁.setTop (mkF m 52 #[.val (.int (5 : Int32)), .val (.int p1)] [(.int (5 : Int32)), (.int (5 : Int32))])) _
  refine XS.icmpNo X0.here hx rfl (hb hby d3_52) rfl (teq (by decide : (5 : Int32) = (5 : Int32))).2 ?_
  show Steps p.tables e below (s₁.setTop (mkF m 55 #[.val (.int (5 : Int32)), .val (.int p1)] [])) _
  refine XS.iconst X0.here hx rfl (hb hby d3_55) ?_
  show Steps p.tables e below (s₁.setTop (mkF m 56 #[.val (.int (5 : Int32)), .val (.int p1)] [(.int (1 : Int32))])) _
  exact retOut X0 hx (t := .int) (i := .ireturn) Bd.returns rfl (Or.inl ⟨rfl, Or.inl rfl, _, rfl⟩) (hb hby d3_56) hr
set_option maxRecDepth 65536 in
set_option maxHeartbeats 40000000 in
theorem rm0_7 (l : Launch) (Z : State) (a0 : Array Value) (hw : ∀ d ∈ tables_1, d.before a0 Z = true) (ws : List Jvm.Cond) (w_INT w_VARCHAR w_DECIMAL w_SMALLINT w_NULL w_BOOLEAN w_BIGINT : Addr) (h0 : Heap) (n0 : Nat) (Z0 : n0 ≤ h0.size) (S : SF Z h0 w_INT w_VARCHAR w_DECIMAL w_SMALLINT w_NULL w_BOOLEAN w_BIGINT) (p0 : Int32) (p1 : Int32) (hk : ((p0 &&& (2147483647 : Int32)) % (7 : Int32)) = (5 : Int32)) :
    Pay l Z x ws code maxLocals ret #[(.int p0), (.int p1)] h0 n0 room_1 (some (.int (1 : Int32))) := by
  obtain ⟨S_w_INT, E_w_INT, S_w_VARCHAR, E_w_VARCHAR, S_w_DECIMAL, E_w_DECIMAL, S_w_SMALLINT, E_w_SMALLINT, S_w_NULL, E_w_NULL, S_w_BOOLEAN, E_w_BOOLEAN, S_w_BIGINT, E_w_BIGINT, F_precision_w_INT, F_ordinal_w_INT, F_ordinal_w_VARCHAR, F_ordinal_w_DECIMAL, F_precision_w_DECIMAL, F_precision_w_SMALLINT, F_ordinal_w_SMALLINT, F_precision_w_VARCHAR, F_precision_w_NULL, F_ordinal_w_NULL, F_precision_w_BOOLEAN, F_ordinal_w_BOOLEAN, F_precision_w_BIGINT, F_ordinal_w_BIGINT, hne_w_INT_w_VARCHAR, hne_w_INT_w_DECIMAL, hne_w_INT_w_SMALLINT, hne_w_INT_w_NULL, hne_w_INT_w_BOOLEAN, hne_w_INT_w_BIGINT, hne_w_VARCHAR_w_DECIMAL, hne_w_VARCHAR_w_SMALLINT, hne_w_VARCHAR_w_NULL, hne_w_VARCHAR_w_BOOLEAN, hne_w_VARCHAR_w_BIGINT, hne_w_DECIMAL_w_SMALLINT, hne_w_DECIMAL_w_NULL, hne_w_DECIMAL_w_BOOLEAN, hne_w_DECIMAL_w_BIGINT, hne_w_SMALLINT_w_NULL, hne_w_SMALLINT_w_BOOLEAN, hne_w_SMALLINT_w_BIGINT, hne_w_NULL_w_BOOLEAN, hne_w_NULL_w_BIGINT, hne_w_BOOLEAN_w_BIGINT⟩ := id S
  refine MetFree.of_bodySF (plainFor_of_name pn_0) hisR ?_
  intro p e s m args below meth c s₁ Bd hml0 hP hK
  obtain ⟨rfl, hZ, hh⟩ := hP
  have hx := Bd.exec
  have hby := Bd.bytes
  have hml : c.maxLocals = 5 := hml0
  have hown : s.vm.findClass "com/example/oyster/oyster/jdbc/JdbcTypePrecisionPinLaw" = some m.cls := findClass_of_methodNamed Bd.named
  have X0 : Stand p l e room_1 s m #[(.int p0), (.int p1)] below meth c s₁ [] 0 0 := Stand.of_body Bd
  have e0 : s₁.heap = h0 := by rw [← hh, Bd.state]; rfl
  have N0 := Fr.nil n0
  have pre0 : ∀ t, Steps p.tables e below (s₁.setTop (mkF m 0 #[.val (.int p0), .val (.int p1), .unset, .unset, .unset] [])) t → Steps p.tables e below (s₁.setTop (entryFrame m #[(.int p0), (.int p1)] maxLocals)) t := fun t k => castTop (by first | rfl | (simp [entryFrame, mkF, argsToLocals, Value.category, maxLocals]; done)) k
  obtain ⟨_, _, ⟨T1, L1, k1, n1⟩, -, X1, ⟨Lc1, hQ1, l1, y1, z1⟩, st1⟩ := Jvm.LawKit.callS X0 hx (y := (⟨"com/example/oyster/oyster/jdbc/JdbcTypePrecisionPinLaw", "pick", "(I)Lcom/example/oyster/oyster/jdbc/JdbcType;"⟩ : MethodName)) hown (mvT hZ (hw _ (List.mem_of_getElem? (i := 1) rfl))) (mvT hZ (hw _ (List.mem_of_getElem? (i := 2) rfl))) (mvT hZ (hw _ (List.mem_of_getElem? (i := 3) rfl))) (mvT hZ (hw _ (List.mem_of_getElem? (i := 4) rfl))) (by decide) (backOf (W := 0) (rm1_5 l Z a0 hw [] w_INT w_VARCHAR w_DECIMAL w_SMALLINT w_NULL w_BOOLEAN w_BIGINT h0 n0 Z0 S) hZ (hw _ (List.mem_of_getElem? (i := 4) rfl)) (hw _ (List.mem_of_getElem? (i := 3) rfl)) (by decide) (by decide)) (g := (mkF m 9 #[.val (.int p0), .val (.int p1), .val (.int (5 : Int32)), .unset, .unset] [(.int (5 : Int32))])) rfl (by rw [hml]; rfl) (argsL := [(.int (5 : Int32))]) (rest := []) (lenOf pd_0 rfl) rfl (by show 2 * 0 + _ ≤ _; exact Nat.le_of_eq rfl) (hb hby at_9) (fun _ _ => ⟨rfl, e0, (by decide : 0 + 0 ≤ _), (by decide : 0 + 0 ≤ _)⟩)
  dsimp only [Pt.U, Pt.locs, Pt.cells, Pt.slots] at X1 l1 y1 z1 st1 hQ1
  subst l1 y1 z1
  obtain ⟨rfl, Nq1, e1⟩ := hQ1
  have N1 := Fr.app N0 Nq1
  obtain ⟨cq2, kq2, q2a, q2b, q2c⟩ := isOf hZ e1 E_w_BOOLEAN
  obtain ⟨_, _, ⟨T2, L2, k2, n2⟩, -, X2, ⟨Lc2, hQ2, l2, y2, z2⟩, st2⟩ := X1.virtualBack hx (y := (⟨"com/example/oyster/oyster/jdbc/JdbcType", "precision", "(I)I"⟩ : MethodName)) (z := (⟨"com/example/oyster/oyster/jdbc/JdbcType", "precision", "(I)I"⟩ : MethodName)) hown (mvT hZ (hw _ (List.mem_of_getElem? (i := 8) rfl))) (mvT hZ (hw _ (List.mem_of_getElem? (i := 9) rfl))) (notFace_of_selects (args := #[]) (mvT hZ (hw _ (List.mem_of_getElem? (i := 11) rfl)))) (mvT hZ (hw _ (List.mem_of_getElem? (i := 11) rfl))) (mvT hZ (hw _ (List.mem_of_getElem? (i := 10) rfl))) (by decide) (backOf (W := 0) (rm2_7 l Z a0 hw [] w_INT w_VARCHAR w_DECIMAL w_SMALLINT w_NULL w_BOOLEAN w_BIGINT h0 n0 Z0 S p1) hZ (hw _ (List.mem_of_getElem? (i := 12) rfl)) (hw _ (List.mem_of_getElem? (i := 6) rfl)) (by decide) (by decide)) q2a q2c (g := (mkF m 15 #[.val (.int p0), .val (.int p1), .val (.int (5 : Int32)), .val (.ref w_BOOLEAN), .unset] [(.int p1), (.ref w_BOOLEAN)])) rfl (by rw [hml]; rfl) (Steps.refl _) (argsL := [(.int p1)]) (rest := []) (lenOf pd_1 rfl) rfl (by show 2 * 0 + _ ≤ _; exact Nat.le_of_eq rfl) (hb hby at_15) (fun _ _ => ⟨rfl, e1, (by decide : 0 + 0 ≤ _), (by decide : 0 + 0 ≤ _)⟩)
  dsimp only [Pt.U, Pt.locs, Pt.cells, Pt.slots] at X2 l2 y2 z2 st2 hQ2
  subst l2 y2 z2
  obtain ⟨rfl, Nq2, e2⟩ := hQ2
  have N2 := Fr.app N1 Nq2
  obtain ⟨_, _, ⟨T3, L3, k3, n3⟩, -, X3, ⟨Lc3, hQ3, l3, y3, z3⟩, st3⟩ := Jvm.LawKit.callS X2 hx (y := (⟨"com/example/oyster/oyster/jdbc/JdbcTypePrecisionPinLaw", "expected", "(II)I"⟩ : MethodName)) hown (mvT hZ (hw _ (List.mem_of_getElem? (i := 19) rfl))) (mvT hZ (hw _ (List.mem_of_getElem? (i := 20) rfl))) (mvT hZ (hw _ (List.mem_of_getElem? (i := 3) rfl))) (mvT hZ (hw _ (List.mem_of_getElem? (i := 21) rfl))) (by decide) (backOf (W := 1) (rm3_7 l Z a0 hw [] w_INT w_VARCHAR w_DECIMAL w_SMALLINT w_NULL w_BOOLEAN w_BIGINT h0 n0 Z0 S p1) hZ (hw _ (List.mem_of_getElem? (i := 21) rfl)) (hw _ (List.mem_of_getElem? (i := 3) rfl)) (by decide) (by decide)) (g := (mkF m 24 #[.val (.int p0), .val (.int p1), .val (.int (5 : Int32)), .val (.ref w_BOOLEAN), .val (.int (1 : Int32))] [(.int p1), (.int (5 : Int32)), (.int (1 : Int32))])) rfl (by rw [hml]; rfl) (argsL := [(.int (5 : Int32)), (.int p1)]) (rest := [(.int (1 : Int32))]) (lenOf pd_2 rfl) rfl (by show 2 * 0 + _ ≤ _; exact Nat.le_of_eq rfl) (hb hby at_24) (fun _ _ => ⟨rfl, e2, (by decide : 0 + 0 ≤ _), (by decide : 0 + 0 ≤ _)⟩)
  dsimp only [Pt.U, Pt.locs, Pt.cells, Pt.slots] at X3 l3 y3 z3 st3 hQ3
  subst l3 y3 z3
  obtain ⟨rfl, Nq3, e3⟩ := hQ3
  have N3 := Fr.app N2 Nq3
  obtain ⟨fs, hr, hrun, hended, hW, hsame⟩ := X3.leave (v := (some (.int (1 : Int32)))) (fun h => by rw [Bd.returns] at h; cases h)
  refine ⟨_, _, pre0 _ ?_, hrun, hended, _, _, rfl, ⟨rfl, N3, e3⟩, ⟨_, rfl⟩, hW, hsame.mono (by decide) (by decide)⟩
  show Steps p.tables e below (s₁.setTop (mkF m 0 #[.val (.int p0), .val (.int p1), .unset, .unset, .unset] [])) _
  refine XS.iloadN X0.here hx rfl (hb hby at_0) rfl ?_
  show Steps p.tables e below (s₁.setTop (mkF m 1 #[.val (.int p0), .val (.int p1), .unset, .unset, .unset] [(.int p0)])) _
  refine X0.ldcInt hx hown (mvT hZ (hw _ (List.mem_of_getElem? (i := 0) rfl))) (g := (mkF m 1 #[.val (.int p0), .val (.int p1), .unset, .unset, .unset] [(.int p0)])) rfl (hb hby at_1) _ ?_
  show Steps p.tables e below (s₁.setTop (mkF m 3 #[.val (.int p0), .val (.int p1), .unset, .unset, .unset] [(.int (2147483647 : Int32)), (.int p0)])) _
  refine XS.iand X0.here hx rfl (hb hby at_3) rfl ?_
  show Steps p.tables e below (s₁.setTop (mkF m 4 #[.val (.int p0), .val (.int p1), .unset, .unset, .unset] [(.int (p0 &&& (2147483647 : Int32)))])) _
  show Steps p.tables e below (s₁.setTop (mkF m 4 #[.val (.int p0), .val (.int p1), .unset, .unset, .unset] [(.int (p0 &&& (2147483647 : Int32)))])) _
  refine XS.bipush X0.here hx rfl (hb hby at_4) ?_
  show Steps p.tables e below (s₁.setTop (mkF m 6 #[.val (.int p0), .val (.int p1), .unset, .unset, .unset] [(.int (7 : Int32)), (.int (p0 &&& (2147483647 : Int32)))])) _
  refine iremM X0 hx rfl (hb hby at_6) rfl (by decide) ?_
  show Steps p.tables e below (s₁.setTop (mkF m 7 #[.val (.int p0), .val (.int p1), .unset, .unset, .unset] [(.int ((p0 &&& (2147483647 : Int32)) % (7 : Int32)))])) _
  rw [hk]
  show Steps p.tables e below (s₁.setTop (mkF m 7 #[.val (.int p0), .val (.int p1), .unset, .unset, .unset] [(.int (5 : Int32))])) _
  refine XS.istoreN X0.here hx rfl (hb hby at_7) rfl (l' := #[.val (.int p0), .val (.int p1), .val (.int (5 : Int32)), .unset, .unset]) rfl ?_
  show Steps p.tables e below (s₁.setTop (mkF m 8 #[.val (.int p0), .val (.int p1), .val (.int (5 : Int32)), .unset, .unset] [])) _
  refine XS.iloadN X0.here hx rfl (hb hby at_8) rfl ?_
  show Steps p.tables e below (s₁.setTop (mkF m 9 #[.val (.int p0), .val (.int p1), .val (.int (5 : Int32)), .unset, .unset] [(.int (5 : Int32))])) _
  refine st1 _ ?_
  show Steps p.tables e below (T1.setTop (mkF m 12 #[.val (.int p0), .val (.int p1), .val (.int (5 : Int32)), .unset, .unset] [(.ref w_BOOLEAN)])) _
  refine XS.astoreN X1.here hx rfl (hb hby at_12) rfl rfl (l' := #[.val (.int p0), .val (.int p1), .val (.int (5 : Int32)), .val (.ref w_BOOLEAN), .unset]) rfl ?_
  show Steps p.tables e below (T1.setTop (mkF m 13 #[.val (.int p0), .val (.int p1), .val (.int (5 : Int32)), .val (.ref w_BOOLEAN), .unset] [])) _
  refine XS.aloadN X1.here hx rfl (hb hby at_13) rfl rfl ?_
  show Steps p.tables e below (T1.setTop (mkF m 14 #[.val (.int p0), .val (.int p1), .val (.int (5 : Int32)), .val (.ref w_BOOLEAN), .unset] [(.ref w_BOOLEAN)])) _
  refine XS.iloadN X1.here hx rfl (hb hby at_14) rfl ?_
  show Steps p.tables e below (T1.setTop (mkF m 15 #[.val (.int p0), .val (.int p1), .val (.int (5 : Int32)), .val (.ref w_BOOLEAN), .unset] [(.int p1), (.ref w_BOOLEAN)])) _
  refine st2.trans ?_
  show Steps p.tables e below (T2.setTop (mkF m 18 #[.val (.int p0), .val (.int p1), .val (.int (5 : Int32)), .val (.ref w_BOOLEAN), .unset] [(.int (1 : Int32))])) _
  refine XS.istore X2.here hx rfl (hb hby at_18) rfl (l' := #[.val (.int p0), .val (.int p1), .val (.int (5 : Int32)), .val (.ref w_BOOLEAN), .val (.int (1 : Int32))]) rfl ?_
  show Steps p.tables e below (T2.setTop (mkF m 20 #[.val (.int p0), .val (.int p1), .val (.int (5 : Int32)), .val (.ref w_BOOLEAN), .val (.int (1 : Int32))] [])) _
  refine XS.iload X2.here hx rfl (hb hby at_20) rfl ?_
  show Steps p.tables e below (T2.setTop (mkF m 22 #[.val (.int p0), .val (.int p1), .val (.int (5 : Int32)), .val (.ref w_BOOLEAN), .val (.int (1 : Int32))] [(.int (1 : Int32))])) _
  refine XS.iloadN X2.here hx rfl (hb hby at_22) rfl ?_
  show Steps p.tables e below (T2.setTop (mkF m 23 #[.val (.int p0), .val (.int p1), .val (.int (5 : Int32)), .val (.ref w_BOOLEAN), .val (.int (1 : Int32))] [(.int (5 : Int32)), (.int (1 : Int32))])) _
  refine XS.iloadN X2.here hx rfl (hb hby at_23) rfl ?_
  show Steps p.tables e below (T2.setTop (mkF m 24 #[.val (.int p0), .val (.int p1), .val (.int (5 : Int32)), .val (.ref w_BOOLEAN), .val (.int (1 : Int32))] [(.int p1), (.int (5 : Int32)), (.int (1 : Int32))])) _
  refine st3 _ ?_
  show Steps p.tables e below (T3.setTop (mkF m 27 #[.val (.int p0), .val (.int p1), .val (.int (5 : Int32)), .val (.ref w_BOOLEAN), .val (.int (1 : Int32))] [(.int (1 : Int32)), (.int (1 : Int32))])) _
  refine XS.icmpNo X3.here hx rfl (hb hby at_27) rfl (teq (by decide : (1 : Int32) = (1 : Int32))).2 ?_
  show Steps p.tables e below (T3.setTop (mkF m 30 #[.val (.int p0), .val (.int p1), .val (.int (5 : Int32)), .val (.ref w_BOOLEAN), .val (.int (1 : Int32))] [])) _
  refine XS.iconst X3.here hx rfl (hb hby at_30) ?_
  show Steps p.tables e below (T3.setTop (mkF m 31 #[.val (.int p0), .val (.int p1), .val (.int (5 : Int32)), .val (.ref w_BOOLEAN), .val (.int (1 : Int32))] [(.int (1 : Int32))])) _
  refine XS.goto X3.here hx rfl (pc0 := 31) (pc' := 35) rfl (hb hby at_31) (by decide) (by decide) ?_
  show Steps p.tables e below (T3.setTop (mkF m 35 #[.val (.int p0), .val (.int p1), .val (.int (5 : Int32)), .val (.ref w_BOOLEAN), .val (.int (1 : Int32))] [(.int (1 : Int32))])) _
  exact retN X3 hx (t := .boolean) Bd.returns (by simp) (hb hby at_35) hr
theorem d1_53 : decode method_3_code 53 = .ok (.getstatic 43, 3) := by decide +kernel
theorem d1_56 : decode method_3_code 56 = .ok (.areturn, 1) := by decide +kernel
set_option maxRecDepth 65536 in
set_option maxHeartbeats 40000000 in
theorem rm1_6 (l : Launch) (Z : State) (a0 : Array Value) (hw : ∀ d ∈ tables_1, d.before a0 Z = true) (ws : List Jvm.Cond) (w_INT w_VARCHAR w_DECIMAL w_SMALLINT w_NULL w_BOOLEAN w_BIGINT : Addr) (h0 : Heap) (n0 : Nat) (Z0 : n0 ≤ h0.size) (S : SF Z h0 w_INT w_VARCHAR w_DECIMAL w_SMALLINT w_NULL w_BOOLEAN w_BIGINT) :
    Pay l Z (⟨"com/example/oyster/oyster/jdbc/JdbcTypePrecisionPinLaw", "pick", "(I)Lcom/example/oyster/oyster/jdbc/JdbcType;"⟩ : MethodName) ws method_3_code 1 (some (.object "com/example/oyster/oyster/jdbc/JdbcType")) #[(.int (6 : Int32))] h0 n0 ({ frames := 0, cells := 0, slots := 0, locals := 0 } : Room) (some (.ref w_NULL)) := by
  obtain ⟨S_w_INT, E_w_INT, S_w_VARCHAR, E_w_VARCHAR, S_w_DECIMAL, E_w_DECIMAL, S_w_SMALLINT, E_w_SMALLINT, S_w_NULL, E_w_NULL, S_w_BOOLEAN, E_w_BOOLEAN, S_w_BIGINT, E_w_BIGINT, F_precision_w_INT, F_ordinal_w_INT, F_ordinal_w_VARCHAR, F_ordinal_w_DECIMAL, F_precision_w_DECIMAL, F_precision_w_SMALLINT, F_ordinal_w_SMALLINT, F_precision_w_VARCHAR, F_precision_w_NULL, F_ordinal_w_NULL, F_precision_w_BOOLEAN, F_ordinal_w_BOOLEAN, F_precision_w_BIGINT, F_ordinal_w_BIGINT, hne_w_INT_w_VARCHAR, hne_w_INT_w_DECIMAL, hne_w_INT_w_SMALLINT, hne_w_INT_w_NULL, hne_w_INT_w_BOOLEAN, hne_w_INT_w_BIGINT, hne_w_VARCHAR_w_DECIMAL, hne_w_VARCHAR_w_SMALLINT, hne_w_VARCHAR_w_NULL, hne_w_VARCHAR_w_BOOLEAN, hne_w_VARCHAR_w_BIGINT, hne_w_DECIMAL_w_SMALLINT, hne_w_DECIMAL_w_NULL, hne_w_DECIMAL_w_BOOLEAN, hne_w_DECIMAL_w_BIGINT, hne_w_SMALLINT_w_NULL, hne_w_SMALLINT_w_BOOLEAN, hne_w_SMALLINT_w_BIGINT, hne_w_NULL_w_BOOLEAN, hne_w_NULL_w_BIGINT, hne_w_BOOLEAN_w_BIGINT⟩ := id S
  refine MetFree.of_bodySF (plainFor_of_name pn_0) hisR ?_
  intro p e s m args below meth c s₁ Bd hml0 hP hK
  obtain ⟨rfl, hZ, hh⟩ := hP
  have hx := Bd.exec
  have hby := Bd.bytes
  have hml : c.maxLocals = 1 := hml0
  have hown : s.vm.findClass "com/example/oyster/oyster/jdbc/JdbcTypePrecisionPinLaw" = some m.cls := findClass_of_methodNamed Bd.named
  have X0 : Stand p l e ({ frames := 0, cells := 0, slots := 0, locals := 0 } : Room) s m #[(.int (6 : Int32))] below meth c s₁ [] 0 0 := Stand.of_body Bd
  have e0 : s₁.heap = h0 := by rw [← hh, Bd.state]; rfl
  have N0 := Fr.nil n0
  have pre0 : ∀ t, Steps p.tables e below (s₁.setTop (mkF m 0 #[.val (.int (6 : Int32))] [])) t → Steps p.tables e below (s₁.setTop (entryFrame m #[(.int (6 : Int32))] 1)) t := fun t k => castTop (by first | rfl | (simp [entryFrame, mkF, argsToLocals, Value.category]; done)) k
  obtain ⟨T1, X1, e1, st1⟩ := getS2 X0 hx hZ hown (host := "") (Or.inl (hw _ (List.mem_of_getElem? (i := 27) rfl))) Via.refl e0 S_w_NULL (g := (mkF m 53 #[.val (.int (6 : Int32))] [])) rfl (hb hby d1_53)
  obtain ⟨fs, hr, hrun, hended, hW, hsame⟩ := X1.leave (v := (some (.ref w_NULL))) (fun h => by rw [Bd.returns] at h; cases h)
  refine ⟨_, _, pre0 _ ?_, hrun, hended, _, _, rfl, ⟨rfl, N0, e1⟩, ⟨_, rfl⟩, hW, hsame.mono (by decide) (by decide)⟩
  show Steps p.tables e below (s₁.setTop (mkF m 0 #[.val (.int (6 : Int32))] [])) _
  refine XS.iloadN X0.here hx rfl (hb hby d1_0) rfl ?_
  show Steps p.tables e below (s₁.setTop (mkF m 1 #[.val (.int (6 : Int32))] [(.int (6 : Int32))])) _
  refine XS.ifYes X0.here hx rfl (pc0 := 1) (pc' := 8) rfl (hb hby d1_1) rfl ((if0 _ _).trans (feq (by decide : ¬ ((6 : Int32) = (0 : Int32)))).2) (by decide) (by decide) ?_
  show Steps p.tables e below (s₁.setTop (mkF m 8 #[.val (.int (6 : Int32))] [])) _
  refine XS.iloadN X0.here hx rfl (hb hby d1_8) rfl ?_
  show Steps p.tables e below (s₁.setTop (mkF m 9 #[.val (.int (6 : Int32))] [(.int (6 : Int32))])) _
  refine XS.iconst X0.here hx rfl (hb hby d1_9) ?_
  show Steps p.tables e below (s₁.setTop (mkF m 10 #[.val (.int (6 : Int32))] [(.int (1 : Int32)), (.int (6 : Int32))])) _
  refine XS.icmpYes X0.here hx rfl (pc0 := 10) (pc' := 17) rfl (hb hby d1_10) rfl (feq (by decide : ¬ ((6 : Int32) = (1 : Int32)))).2 (by decide) (by decide) ?_
  show Steps p.tables e below (s₁.setTop (mkF m 17 #[.val (.int (6 : Int32))] [])) _
  refine XS.iloadN X0.here hx rfl (hb hby d1_17) rfl ?_
  show Steps p.tables e below (s₁.setTop (mkF m 18 #[.val (.int (6 : Int32))] [(.int (6 : Int32))])) _
  refine XS.iconst X0.here hx rfl (hb hby d1_18) ?_
  show Steps p.tables e below (s₁.setTop (mkF m 19 #[.val (.int (6 : Int32))] [(.int (2 : Int32)), (.int (6 : Int32))])) _
  refine XS.icmpYes X0.here hx rfl (pc0 := 19) (pc' := 26) rfl (hb hby d1_19) rfl (feq (by decide : ¬ ((6 : Int32) = (2 : Int32)))).2 (by decide) (by decide) ?_
  show Steps p.tables e below (s₁.setTop (mkF m 26 #[.val (.int (6 : Int32))] [])) _
  refine XS.iloadN X0.here hx rfl (hb hby d1_26) rfl ?_
  show Steps p.tables e below (s₁.setTop (mkF m 27 #[.val (.int (6 : Int32))] [(.int (6 : Int32))])) _
  refine XS.iconst X0.here hx rfl (hb hby d1_27) ?_
  show Steps p.tables e below (s₁.setTop (mkF m 28 #[.val (.int (6 : Int32))] [(.int (3 : Int32)), (.int (6 : Int32))])) _
  refine XS.icmpYes X0.here hx rfl (pc0 := 28) (pc' := 35) rfl (hb hby d1_28) rfl (feq (by decide : ¬ ((6 : Int32) = (3 : Int32)))).2 (by decide) (by decide) ?_
  show Steps p.tables e below (s₁.setTop (mkF m 35 #[.val (.int (6 : Int32))] [])) _
  refine XS.iloadN X0.here hx rfl (hb hby d1_35) rfl ?_
  show Steps p.tables e below (s₁.setTop (mkF m 36 #[.val (.int (6 : Int32))] [(.int (6 : Int32))])) _
  refine XS.iconst X0.here hx rfl (hb hby d1_36) ?_
  show Steps p.tables e below (s₁.setTop (mkF m 37 #[.val (.int (6 : Int32))] [(.int (4 : Int32)), (.int (6 : Int32))])) _
  refine XS.icmpYes X0.here hx rfl (pc0 := 37) (pc' := 44) rfl (hb hby d1_37) rfl (feq (by decide : ¬ ((6 : Int32) = (4 : Int32)))).2 (by decide) (by decide) ?_
  show Steps p.tables e below (s₁.setTop (mkF m 44 #[.val (.int (6 : Int32))] [])) _
  refine XS.iloadN X0.here hx rfl (hb hby d1_44) rfl ?_
  show Steps p.tables e below (s₁.setTop (mkF m 45 #[.val (.int (6 : Int32))] [(.int (6 : Int32))])) _
  refine XS.iconst X0.here hx rfl (hb hby d1_45) ?_
  show Steps p.tables e below (s₁.setTop (mkF m 46 #[.val (.int (6 : Int32))] [(.int (5 : Int32)), (.int (6 : Int32))])) _
  refine XS.icmpYes X0.here hx rfl (pc0 := 46) (pc' := 53) rfl (hb hby d1_46) rfl (feq (by decide : ¬ ((6 : Int32) = (5 : Int32)))).2 (by decide) (by decide) ?_
  show Steps p.tables e below (s₁.setTop (mkF m 53 #[.val (.int (6 : Int32))] [])) _
  refine st1 _ ?_
  show Steps p.tables e below (T1.setTop (mkF m 56 #[.val (.int (6 : Int32))] [(.ref w_NULL)])) _
  exact retOut X1 hx (t := (.object "com/example/oyster/oyster/jdbc/JdbcType")) (i := .areturn) Bd.returns rfl (Or.inr (Or.inr (Or.inr (Or.inr ⟨rfl, rfl, rfl⟩)))) (hb hby d1_56) hr
set_option maxRecDepth 65536 in
set_option maxHeartbeats 40000000 in
theorem rm2_8 (l : Launch) (Z : State) (a0 : Array Value) (hw : ∀ d ∈ tables_1, d.before a0 Z = true) (ws : List Jvm.Cond) (w_INT w_VARCHAR w_DECIMAL w_SMALLINT w_NULL w_BOOLEAN w_BIGINT : Addr) (h0 : Heap) (n0 : Nat) (Z0 : n0 ≤ h0.size) (S : SF Z h0 w_INT w_VARCHAR w_DECIMAL w_SMALLINT w_NULL w_BOOLEAN w_BIGINT) (p1 : Int32) :
    Pay l Z (⟨"com/example/oyster/oyster/jdbc/JdbcType", "precision", "(I)I"⟩ : MethodName) ws prog_121_method_10_code 3 (some .int) #[(.ref w_NULL), (.int p1)] h0 n0 ({ frames := 0, cells := 0, slots := 0, locals := 0 } : Room) (some (.int (0 : Int32))) := by
  obtain ⟨S_w_INT, E_w_INT, S_w_VARCHAR, E_w_VARCHAR, S_w_DECIMAL, E_w_DECIMAL, S_w_SMALLINT, E_w_SMALLINT, S_w_NULL, E_w_NULL, S_w_BOOLEAN, E_w_BOOLEAN, S_w_BIGINT, E_w_BIGINT, F_precision_w_INT, F_ordinal_w_INT, F_ordinal_w_VARCHAR, F_ordinal_w_DECIMAL, F_precision_w_DECIMAL, F_precision_w_SMALLINT, F_ordinal_w_SMALLINT, F_precision_w_VARCHAR, F_precision_w_NULL, F_ordinal_w_NULL, F_precision_w_BOOLEAN, F_ordinal_w_BOOLEAN, F_precision_w_BIGINT, F_ordinal_w_BIGINT, hne_w_INT_w_VARCHAR, hne_w_INT_w_DECIMAL, hne_w_INT_w_SMALLINT, hne_w_INT_w_NULL, hne_w_INT_w_BOOLEAN, hne_w_INT_w_BIGINT, hne_w_VARCHAR_w_DECIMAL, hne_w_VARCHAR_w_SMALLINT, hne_w_VARCHAR_w_NULL, hne_w_VARCHAR_w_BOOLEAN, hne_w_VARCHAR_w_BIGINT, hne_w_DECIMAL_w_SMALLINT, hne_w_DECIMAL_w_NULL, hne_w_DECIMAL_w_BOOLEAN, hne_w_DECIMAL_w_BIGINT, hne_w_SMALLINT_w_NULL, hne_w_SMALLINT_w_BOOLEAN, hne_w_SMALLINT_w_BIGINT, hne_w_NULL_w_BOOLEAN, hne_w_NULL_w_BIGINT, hne_w_BOOLEAN_w_BIGINT⟩ := id S
  refine MetFree.of_bodySF (plainFor_of_name pn_1) hisR ?_
  intro p e s m args below meth c s₁ Bd hml0 hP hK
  obtain ⟨rfl, hZ, hh⟩ := hP
  have hx := Bd.exec
  have hby := Bd.bytes
  have hml : c.maxLocals = 3 := hml0
  have hown : s.vm.findClass "com/example/oyster/oyster/jdbc/JdbcType" = some m.cls := findClass_of_methodNamed Bd.named
  have X0 : Stand p l e ({ frames := 0, cells := 0, slots := 0, locals := 0 } : Room) s m #[(.ref w_NULL), (.int p1)] below meth c s₁ [] 0 0 := Stand.of_body Bd
  have e0 : s₁.heap = h0 := by rw [← hh, Bd.state]; rfl
  have N0 := Fr.nil n0
  have pre0 : ∀ t, Steps p.tables e below (s₁.setTop (mkF m 0 #[.val (.ref w_NULL), .val (.int p1), .unset] [])) t → Steps p.tables e below (s₁.setTop (entryFrame m #[(.ref w_NULL), (.int p1)] 3)) t := fun t k => castTop (by first | rfl | (simp [entryFrame, mkF, argsToLocals, Value.category]; done)) k
  obtain ⟨T1, X1, e1, st1⟩ := getF X0 hx hZ hown (host := "") (Or.inl (hw _ (List.mem_of_getElem? (i := 13) rfl))) Via.refl e0 F_precision_w_NULL (g := (mkF m 1 #[.val (.ref w_NULL), .val (.int p1), .unset] [(.ref w_NULL)])) rfl rfl (hb hby d2_1)
  obtain ⟨T2, X2, e2, st2⟩ := getS2 X1 hx hZ hown (host := "") (Or.inl (hw _ (List.mem_of_getElem? (i := 15) rfl))) Via.refl e1 S_w_VARCHAR (g := (mkF m 6 #[.val (.ref w_NULL), .val (.int p1), .val (.int (0 : Int32))] [(.ref w_NULL)])) rfl (hb hby d2_6)
  obtain ⟨T3, X3, e3, st3⟩ := getS2 X2 hx hZ hown (host := "") (Or.inl (hw _ (List.mem_of_getElem? (i := 17) rfl))) Via.refl e2 S_w_DECIMAL (g := (mkF m 27 #[.val (.ref w_NULL), .val (.int p1), .val (.int (0 : Int32))] [(.ref w_NULL)])) rfl (hb hby d2_27)
  obtain ⟨fs, hr, hrun, hended, hW, hsame⟩ := X3.leave (v := (some (.int (0 : Int32)))) (fun h => by rw [Bd.returns] at h; cases h)
  refine ⟨_, _, pre0 _ ?_, hrun, hended, _, _, rfl, ⟨rfl, N0, e3⟩, ⟨_, rfl⟩, hW, hsame.mono (by decide) (by decide)⟩
  show Steps p.tables e below (s₁.setTop (mkF m 0 #[.val (.ref w_NULL), .val (.int p1), .unset] [])) _
  refine XS.aloadN X0.here hx rfl (hb hby d2_0) rfl rfl ?_
  show Steps p.tables e below (s₁.setTop (mkF m 1 #[.val (.ref w_NULL), .val (.int p1), .unset] [(.ref w_NULL)])) _
  refine st1 _ ?_
  show Steps p.tables e below (T1.setTop (mkF m 4 #[.val (.ref w_NULL), .val (.int p1), .unset] [(.int (0 : Int32))])) _
  refine XS.istoreN X1.here hx rfl (hb hby d2_4) rfl (l' := #[.val (.ref w_NULL), .val (.int p1), .val (.int (0 : Int32))]) rfl ?_
  show Steps p.tables e below (T1.setTop (mkF m 5 #[.val (.ref w_NULL), .val (.int p1), .val (.int (0 : Int32))] [])) _
  refine XS.aloadN X1.here hx rfl (hb hby d2_5) rfl rfl ?_
  show Steps p.tables e below (T1.setTop (mkF m 6 #[.val (.ref w_NULL), .val (.int p1), .val (.int (0 : Int32))] [(.ref w_NULL)])) _
  refine st2 _ ?_
  show Steps p.tables e below (T2.setTop (mkF m 9 #[.val (.ref w_NULL), .val (.int p1), .val (.int (0 : Int32))] [(.ref w_VARCHAR), (.ref w_NULL)])) _
  refine Jvm.RoadKit.acmp (g := (mkF m 9 #[.val (.ref w_NULL), .val (.int p1), .val (.int (0 : Int32))] [(.ref w_VARCHAR), (.ref w_NULL)])) X2 hx rfl rfl rfl (pc0 := 9) (pc' := 26) (same := false) rfl (hb hby d2_9) rfl (decide_eq_false fun q => hne_w_VARCHAR_w_NULL (Value.ref.inj q).symm) (by decide) (by decide) ?_
  show Steps p.tables e below (T2.setTop (mkF m 26 #[.val (.ref w_NULL), .val (.int p1), .val (.int (0 : Int32))] [])) _
  refine XS.aloadN X2.here hx rfl (hb hby d2_26) rfl rfl ?_
  show Steps p.tables e below (T2.setTop (mkF m 27 #[.val (.ref w_NULL), .val (.int p1), .val (.int (0 : Int32))] [(.ref w_NULL)])) _
  refine st3 _ ?_
  show Steps p.tables e below (T3.setTop (mkF m 30 #[.val (.ref w_NULL), .val (.int p1), .val (.int (0 : Int32))] [(.ref w_DECIMAL), (.ref w_NULL)])) _
  refine Jvm.RoadKit.acmp (g := (mkF m 30 #[.val (.ref w_NULL), .val (.int p1), .val (.int (0 : Int32))] [(.ref w_DECIMAL), (.ref w_NULL)])) X3 hx rfl rfl rfl (pc0 := 30) (pc' := 39) (same := false) rfl (hb hby d2_30) rfl (decide_eq_false fun q => hne_w_DECIMAL_w_NULL (Value.ref.inj q).symm) (by decide) (by decide) ?_
  show Steps p.tables e below (T3.setTop (mkF m 39 #[.val (.ref w_NULL), .val (.int p1), .val (.int (0 : Int32))] [])) _
  refine XS.iloadN X3.here hx rfl (hb hby d2_39) rfl ?_
  show Steps p.tables e below (T3.setTop (mkF m 40 #[.val (.ref w_NULL), .val (.int p1), .val (.int (0 : Int32))] [(.int (0 : Int32))])) _
  exact retOut X3 hx (t := .int) (i := .ireturn) Bd.returns rfl (Or.inl ⟨rfl, Or.inl rfl, _, rfl⟩) (hb hby d2_40) hr
theorem d3_57 : decode method_4_code 57 = .ok (.iconst 0, 1) := by decide +kernel
theorem d3_58 : decode method_4_code 58 = .ok (.ireturn, 1) := by decide +kernel
set_option maxRecDepth 65536 in
set_option maxHeartbeats 40000000 in
theorem rm3_8 (l : Launch) (Z : State) (a0 : Array Value) (hw : ∀ d ∈ tables_1, d.before a0 Z = true) (ws : List Jvm.Cond) (w_INT w_VARCHAR w_DECIMAL w_SMALLINT w_NULL w_BOOLEAN w_BIGINT : Addr) (h0 : Heap) (n0 : Nat) (Z0 : n0 ≤ h0.size) (S : SF Z h0 w_INT w_VARCHAR w_DECIMAL w_SMALLINT w_NULL w_BOOLEAN w_BIGINT) (p1 : Int32) :
    Pay l Z (⟨"com/example/oyster/oyster/jdbc/JdbcTypePrecisionPinLaw", "expected", "(II)I"⟩ : MethodName) ws method_4_code 2 (some .int) #[(.int (6 : Int32)), (.int p1)] h0 n0 ({ frames := 0, cells := 0, slots := 0, locals := 0 } : Room) (some (.int (0 : Int32))) := by
  obtain ⟨S_w_INT, E_w_INT, S_w_VARCHAR, E_w_VARCHAR, S_w_DECIMAL, E_w_DECIMAL, S_w_SMALLINT, E_w_SMALLINT, S_w_NULL, E_w_NULL, S_w_BOOLEAN, E_w_BOOLEAN, S_w_BIGINT, E_w_BIGINT, F_precision_w_INT, F_ordinal_w_INT, F_ordinal_w_VARCHAR, F_ordinal_w_DECIMAL, F_precision_w_DECIMAL, F_precision_w_SMALLINT, F_ordinal_w_SMALLINT, F_precision_w_VARCHAR, F_precision_w_NULL, F_ordinal_w_NULL, F_precision_w_BOOLEAN, F_ordinal_w_BOOLEAN, F_precision_w_BIGINT, F_ordinal_w_BIGINT, hne_w_INT_w_VARCHAR, hne_w_INT_w_DECIMAL, hne_w_INT_w_SMALLINT, hne_w_INT_w_NULL, hne_w_INT_w_BOOLEAN, hne_w_INT_w_BIGINT, hne_w_VARCHAR_w_DECIMAL, hne_w_VARCHAR_w_SMALLINT, hne_w_VARCHAR_w_NULL, hne_w_VARCHAR_w_BOOLEAN, hne_w_VARCHAR_w_BIGINT, hne_w_DECIMAL_w_SMALLINT, hne_w_DECIMAL_w_NULL, hne_w_DECIMAL_w_BOOLEAN, hne_w_DECIMAL_w_BIGINT, hne_w_SMALLINT_w_NULL, hne_w_SMALLINT_w_BOOLEAN, hne_w_SMALLINT_w_BIGINT, hne_w_NULL_w_BOOLEAN, hne_w_NULL_w_BIGINT, hne_w_BOOLEAN_w_BIGINT⟩ := id S
  refine MetFree.of_bodySF (plainFor_of_name pn_0) hisR ?_
  intro p e s m args below meth c s₁ Bd hml0 hP hK
  obtain ⟨rfl, hZ, hh⟩ := hP
  have hx := Bd.exec
  have hby := Bd.bytes
  have hml : c.maxLocals = 2 := hml0
  have hown : s.vm.findClass "com/example/oyster/oyster/jdbc/JdbcTypePrecisionPinLaw" = some m.cls := findClass_of_methodNamed Bd.named
  have X0 : Stand p l e ({ frames := 0, cells := 0, slots := 0, locals := 0 } : Room) s m #[(.int (6 : Int32)), (.int p1)] below meth c s₁ [] 0 0 := Stand.of_body Bd
  have e0 : s₁.heap = h0 := by rw [← hh, Bd.state]; rfl
  have N0 := Fr.nil n0
  have pre0 : ∀ t, Steps p.tables e below (s₁.setTop (mkF m 0 #[.val (.int (6 : Int32)), .val (.int p1)] [])) t → Steps p.tables e below (s₁.setTop (entryFrame m #[(.int (6 : Int32)), (.int p1)] 2)) t := fun t k => castTop (by first | rfl | (simp [entryFrame, mkF, argsToLocals, Value.category]; done)) k
  obtain ⟨fs, hr, hrun, hended, hW, hsame⟩ := X0.leave (v := (some (.int (0 : Int32)))) (fun h => by rw [Bd.returns] at h; cases h)
  refine ⟨_, _, pre0 _ ?_, hrun, hended, _, _, rfl, ⟨rfl, N0, e0⟩, ⟨_, rfl⟩, hW, hsame.mono (by decide) (by decide)⟩
  show Steps p.tables e below (s₁.setTop (mkF m 0 #[.val (.int (6 : Int32)), .val (.int p1)] [])) _
  refine XS.iloadN X0.here hx rfl (hb hby d3_0) rfl ?_
  show Steps p.tables e below (s₁.setTop (mkF m 1 #[.val (.int (6 : Int32)), .val (.int p1)] [(.int (6 : Int32))])) _
  refine XS.ifYes X0.here hx rfl (pc0 := 1) (pc' := 7) rfl (hb hby d3_1) rfl ((if0 _ _).trans (feq (by decide : ¬ ((6 : Int32) = (0 : Int32)))).2) (by decide) (by decide) ?_
  show Steps p.tables e below (s₁.setTop (mkF m 7 #[.val (.int (6 : Int32)), .val (.int p1)] [])) _
  refine XS.iloadN X0.here hx rfl (hb hby d3_7) rfl ?_
  show Steps p.tables e below (s₁.setTop (mkF m 8 #[.val (.int (6 : Int32)), .val (.int p1)] [(.int (6 : Int32))])) _
  refine XS.iconst X0.here hx rfl (hb hby d3_8) ?_
  show Steps p.tables e below (s₁.setTop (mkF m 9 #[.val (.int (6 : Int32)), .val (.int p1)] [(.int (1 : Int32)), (.int (6 : Int32))])) _
  refine XS.icmpYes X0.here hx rfl (pc0 := 9) (pc' := 14) rfl (hb hby d3_9) rfl (feq (by decide : ¬ ((6 : Int32) = (1 : Int32)))).2 (by decide) (by decide) ?_
  show Steps p.tables e below (s₁.setTop (mkF m 14 #[.val (.int (6 : Int32)), .val (.int p1)] [])) _
  refine XS.iloadN X0.here hx rfl (hb hby d3_14) rfl ?_
  show Steps p.tables e below (s₁.setTop (mkF m 15 #[.val (.int (6 : Int32)), .val (.int p1)] [(.int (6 : Int32))])) _
  refine XS.iconst X0.here hx rfl (hb hby d3_15) ?_
  show Steps p.tables e below (s₁.setTop (mkF m 16 #[.val (.int (6 : Int32)), .val (.int p1)] [(.int (2 : Int32)), (.int (6 : Int32))])) _
  refine XS.icmpYes X0.here hx rfl (pc0 := 16) (pc' := 22) rfl (hb hby d3_16) rfl (feq (by decide : ¬ ((6 : Int32) = (2 : Int32)))).2 (by decide) (by decide) ?_
  show Steps p.tables e below (s₁.setTop (mkF m 22 #[.val (.int (6 : Int32)), .val (.int p1)] [])) _
  refine XS.iloadN X0.here hx rfl (hb hby d3_22) rfl ?_
  show Steps p.tables e below (s₁.setTop (mkF m 23 #[.val (.int (6 : Int32)), .val (.int p1)] [(.int (6 : Int32))])) _
  refine XS.iconst X0.here hx rfl (hb hby d3_23) ?_
  show Steps p.tables e below (s₁.setTop (mkF m 24 #[.val (.int (6 : Int32)), .val (.int p1)] [(.int (3 : Int32)), (.int (6 : Int32))])) _
  refine XS.icmpYes X0.here hx rfl (pc0 := 24) (pc' := 36) rfl (hb hby d3_24) rfl (feq (by decide : ¬ ((6 : Int32) = (3 : Int32)))).2 (by decide) (by decide) ?_
  show Steps p.tables e below (s₁.setTop (mkF m 36 #[.val (.int (6 : Int32)), .val (.int p1)] [])) _
  refine XS.iloadN X0.here hx rfl (hb hby d3_36) rfl ?_
  show Steps p.tables e below (s₁.setTop (mkF m 37 #[.val (.int (6 : Int32)), .val (.int p1)] [(.int (6 : Int32))])) _
  refine XS.iconst X0.here hx rfl (hb hby d3_37) ?_
  show Steps p.tables e below (s₁.setTop (mkF m 38 #[.val (.int (6 : Int32)), .val (.int p1)] [(.int (4 : Int32)), (.int (6 : Int32))])) _
  refine XS.icmpYes X0.here hx rfl (pc0 := 38) (pc' := 50) rfl (hb hby d3_38) rfl (feq (by decide : ¬ ((6 : Int32) = (4 : Int32)))).2 (by decide) (by decide) ?_
  show Steps p.tables e below (s₁.setTop (mkF m 50 #[.val (.int (6 : Int32)), .val (.int p1)] [])) _
  refine XS.iloadN X0.here hx rfl (hb hby d3_50) rfl ?_
  show Steps p.tables e below (s₁.setTop (mkF m 51 #[.val (.int (6 : Int32)), .val (.int p1)] [(.int (6 : Int32))])) _
  refine XS.iconst X0.here hx rfl (hb hby d3_51) ?_
  show Steps p.tables e below (s₁.setTop (mkF m 52 #[.val (.int (6 : Int32)), .val (.int p1)] [(.int (5 : Int32)), (.int (6 : Int32))])) _
  refine XS.icmpYes X0.here hx rfl (pc0 := 52) (pc' := 57) rfl (hb hby d3_52) rfl (feq (by decide : ¬ ((6 : Int32) = (5 : Int32)))).2 (by decide) (by decide) ?_
  show Steps p.tables e below (s₁.setTop (mkF m 57 #[.val (.int (6 : Int32)), .val (.int p1)] [])) _
  refine XS.iconst X0.here hx rfl (hb hby d3_57) ?_
  show Steps p.tables e below (s₁.setTop (mkF m 58 #[.val (.int (6 : Int32)), .val (.int p1)] [(.int (0 : Int32))])) _
  exact retOut X0 hx (t := .int) (i := .ireturn) Bd.returns rfl (Or.inl ⟨rfl, Or.inl rfl, _, rfl⟩) (hb hby d3_58) hr
set_option maxRecDepth 65536 in
set_option maxHeartbeats 40000000 in
theorem rm0_8 (l : Launch) (Z : State) (a0 : Array Value) (hw : ∀ d ∈ tables_1, d.before a0 Z = true) (ws : List Jvm.Cond) (w_INT w_VARCHAR w_DECIMAL w_SMALLINT w_NULL w_BOOLEAN w_BIGINT : Addr) (h0 : Heap) (n0 : Nat) (Z0 : n0 ≤ h0.size) (S : SF Z h0 w_INT w_VARCHAR w_DECIMAL w_SMALLINT w_NULL w_BOOLEAN w_BIGINT) (p0 : Int32) (p1 : Int32) (hk : ((p0 &&& (2147483647 : Int32)) % (7 : Int32)) = (6 : Int32)) :
    Pay l Z x ws code maxLocals ret #[(.int p0), (.int p1)] h0 n0 room_1 (some (.int (1 : Int32))) := by
  obtain ⟨S_w_INT, E_w_INT, S_w_VARCHAR, E_w_VARCHAR, S_w_DECIMAL, E_w_DECIMAL, S_w_SMALLINT, E_w_SMALLINT, S_w_NULL, E_w_NULL, S_w_BOOLEAN, E_w_BOOLEAN, S_w_BIGINT, E_w_BIGINT, F_precision_w_INT, F_ordinal_w_INT, F_ordinal_w_VARCHAR, F_ordinal_w_DECIMAL, F_precision_w_DECIMAL, F_precision_w_SMALLINT, F_ordinal_w_SMALLINT, F_precision_w_VARCHAR, F_precision_w_NULL, F_ordinal_w_NULL, F_precision_w_BOOLEAN, F_ordinal_w_BOOLEAN, F_precision_w_BIGINT, F_ordinal_w_BIGINT, hne_w_INT_w_VARCHAR, hne_w_INT_w_DECIMAL, hne_w_INT_w_SMALLINT, hne_w_INT_w_NULL, hne_w_INT_w_BOOLEAN, hne_w_INT_w_BIGINT, hne_w_VARCHAR_w_DECIMAL, hne_w_VARCHAR_w_SMALLINT, hne_w_VARCHAR_w_NULL, hne_w_VARCHAR_w_BOOLEAN, hne_w_VARCHAR_w_BIGINT, hne_w_DECIMAL_w_SMALLINT, hne_w_DECIMAL_w_NULL, hne_w_DECIMAL_w_BOOLEAN, hne_w_DECIMAL_w_BIGINT, hne_w_SMALLINT_w_NULL, hne_w_SMALLINT_w_BOOLEAN, hne_w_SMALLINT_w_BIGINT, hne_w_NULL_w_BOOLEAN, hne_w_NULL_w_BIGINT, hne_w_BOOLEAN_w_BIGINT⟩ := id S
  refine MetFree.of_bodySF (plainFor_of_name pn_0) hisR ?_
  intro p e s m args below meth c s₁ Bd hml0 hP hK
  obtain ⟨rfl, hZ, hh⟩ := hP
  have hx := Bd.exec
  have hby := Bd.bytes
  have hml : c.maxLocals = 5 := hml0
  have hown : s.vm.findClass "com/example/oyster/oyster/jdbc/JdbcTypePrecisionPinLaw" = some m.cls := findClass_of_methodNamed Bd.named
  have X0 : Stand p l e room_1 s m #[(.int p0), (.int p1)] below meth c s₁ [] 0 0 := Stand.of_body Bd
  have e0 : s₁.heap = h0 := by rw [← hh, Bd.state]; rfl
  have N0 := Fr.nil n0
  have pre0 : ∀ t, Steps p.tables e below (s₁.setTop (mkF m 0 #[.val (.int p0), .val (.int p1), .unset, .unset, .unset] [])) t → Steps p.tables e below (s₁.setTop (entryFrame m #[(.int p0), (.int p1)] maxLocals)) t := fun t k => castTop (by first | rfl | (simp [entryFrame, mkF, argsToLocals, Value.category, maxLocals]; done)) k
  obtain ⟨_, _, ⟨T1, L1, k1, n1⟩, -, X1, ⟨Lc1, hQ1, l1, y1, z1⟩, st1⟩ := Jvm.LawKit.callS X0 hx (y := (⟨"com/example/oyster/oyster/jdbc/JdbcTypePrecisionPinLaw", "pick", "(I)Lcom/example/oyster/oyster/jdbc/JdbcType;"⟩ : MethodName)) hown (mvT hZ (hw _ (List.mem_of_getElem? (i := 1) rfl))) (mvT hZ (hw _ (List.mem_of_getElem? (i := 2) rfl))) (mvT hZ (hw _ (List.mem_of_getElem? (i := 3) rfl))) (mvT hZ (hw _ (List.mem_of_getElem? (i := 4) rfl))) (by decide) (backOf (W := 0) (rm1_6 l Z a0 hw [] w_INT w_VARCHAR w_DECIMAL w_SMALLINT w_NULL w_BOOLEAN w_BIGINT h0 n0 Z0 S) hZ (hw _ (List.mem_of_getElem? (i := 4) rfl)) (hw _ (List.mem_of_getElem? (i := 3) rfl)) (by decide) (by decide)) (g := (mkF m 9 #[.val (.int p0), .val (.int p1), .val (.int (6 : Int32)), .unset, .unset] [(.int (6 : Int32))])) rfl (by rw [hml]; rfl) (argsL := [(.int (6 : Int32))]) (rest := []) (lenOf pd_0 rfl) rfl (by show 2 * 0 + _ ≤ _; exact Nat.le_of_eq rfl) (hb hby at_9) (fun _ _ => ⟨rfl, e0, (by decide : 0 + 0 ≤ _), (by decide : 0 + 0 ≤ _)⟩)
  dsimp only [Pt.U, Pt.locs, Pt.cells, Pt.slots] at X1 l1 y1 z1 st1 hQ1
  subst l1 y1 z1
  obtain ⟨rfl, Nq1, e1⟩ := hQ1
  have N1 := Fr.app N0 Nq1
  obtain ⟨cq2, kq2, q2a, q2b, q2c⟩ := isOf hZ e1 E_w_NULL
  obtain ⟨_, _, ⟨T2, L2, k2, n2⟩, -, X2, ⟨Lc2, hQ2, l2, y2, z2⟩, st2⟩ := X1.virtualBack hx (y := (⟨"com/example/oyster/oyster/jdbc/JdbcType", "precision", "(I)I"⟩ : MethodName)) (z := (⟨"com/example/oyster/oyster/jdbc/JdbcType", "precision", "(I)I"⟩ : MethodName)) hown (mvT hZ (hw _ (List.mem_of_getElem? (i := 8) rfl))) (mvT hZ (hw _ (List.mem_of_getElem? (i := 9) rfl))) (notFace_of_selects (args := #[]) (mvT hZ (hw _ (List.mem_of_getElem? (i := 11) rfl)))) (mvT hZ (hw _ (List.mem_of_getElem? (i := 11) rfl))) (mvT hZ (hw _ (List.mem_of_getElem? (i := 10) rfl))) (by decide) (backOf (W := 0) (rm2_8 l Z a0 hw [] w_INT w_VARCHAR w_DECIMAL w_SMALLINT w_NULL w_BOOLEAN w_BIGINT h0 n0 Z0 S p1) hZ (hw _ (List.mem_of_getElem? (i := 12) rfl)) (hw _ (List.mem_of_getElem? (i := 6) rfl)) (by decide) (by decide)) q2a q2c (g := (mkF m 15 #[.val (.int p0), .val (.int p1), .val (.int (6 : Int32)), .val (.ref w_NULL), .unset] [(.int p1), (.ref w_NULL)])) rfl (by rw [hml]; rfl) (Steps.refl _) (argsL := [(.int p1)]) (rest := []) (lenOf pd_1 rfl) rfl (by show 2 * 0 + _ ≤ _; exact Nat.le_of_eq rfl) (hb hby at_15) (fun _ _ => ⟨rfl, e1, (by decide : 0 + 0 ≤ _), (by decide : 0 + 0 ≤ _)⟩)
  dsimp only [Pt.U, Pt.locs, Pt.cells, Pt.slots] at X2 l2 y2 z2 st2 hQ2
  subst l2 y2 z2
  obtain ⟨rfl, Nq2, e2⟩ := hQ2
  have N2 := Fr.app N1 Nq2
  obtain ⟨_, _, ⟨T3, L3, k3, n3⟩, -, X3, ⟨Lc3, hQ3, l3, y3, z3⟩, st3⟩ := Jvm.LawKit.callS X2 hx (y := (⟨"com/example/oyster/oyster/jdbc/JdbcTypePrecisionPinLaw", "expected", "(II)I"⟩ : MethodName)) hown (mvT hZ (hw _ (List.mem_of_getElem? (i := 19) rfl))) (mvT hZ (hw _ (List.mem_of_getElem? (i := 20) rfl))) (mvT hZ (hw _ (List.mem_of_getElem? (i := 3) rfl))) (mvT hZ (hw _ (List.mem_of_getElem? (i := 21) rfl))) (by decide) (backOf (W := 1) (rm3_8 l Z a0 hw [] w_INT w_VARCHAR w_DECIMAL w_SMALLINT w_NULL w_BOOLEAN w_BIGINT h0 n0 Z0 S p1) hZ (hw _ (List.mem_of_getElem? (i := 21) rfl)) (hw _ (List.mem_of_getElem? (i := 3) rfl)) (by decide) (by decide)) (g := (mkF m 24 #[.val (.int p0), .val (.int p1), .val (.int (6 : Int32)), .val (.ref w_NULL), .val (.int (0 : Int32))] [(.int p1), (.int (6 : Int32)), (.int (0 : Int32))])) rfl (by rw [hml]; rfl) (argsL := [(.int (6 : Int32)), (.int p1)]) (rest := [(.int (0 : Int32))]) (lenOf pd_2 rfl) rfl (by show 2 * 0 + _ ≤ _; exact Nat.le_of_eq rfl) (hb hby at_24) (fun _ _ => ⟨rfl, e2, (by decide : 0 + 0 ≤ _), (by decide : 0 + 0 ≤ _)⟩)
  dsimp only [Pt.U, Pt.locs, Pt.cells, Pt.slots] at X3 l3 y3 z3 st3 hQ3
  subst l3 y3 z3
  obtain ⟨rfl, Nq3, e3⟩ := hQ3
  have N3 := Fr.app N2 Nq3
  obtain ⟨fs, hr, hrun, hended, hW, hsame⟩ := X3.leave (v := (some (.int (1 : Int32)))) (fun h => by rw [Bd.returns] at h; cases h)
  refine ⟨_, _, pre0 _ ?_, hrun, hended, _, _, rfl, ⟨rfl, N3, e3⟩, ⟨_, rfl⟩, hW, hsame.mono (by decide) (by decide)⟩
  show Steps p.tables e below (s₁.setTop (mkF m 0 #[.val (.int p0), .val (.int p1), .unset, .unset, .unset] [])) _
  refine XS.iloadN X0.here hx rfl (hb hby at_0) rfl ?_
  show Steps p.tables e below (s₁.setTop (mkF m 1 #[.val (.int p0), .val (.int p1), .unset, .unset, .unset] [(.int p0)])) _
  refine X0.ldcInt hx hown (mvT hZ (hw _ (List.mem_of_getElem? (i := 0) rfl))) (g := (mkF m 1 #[.val (.int p0), .val (.int p1), .unset, .unset, .unset] [(.int p0)])) rfl (hb hby at_1) _ ?_
  show Steps p.tables e below (s₁.setTop (mkF m 3 #[.val (.int p0), .val (.int p1), .unset, .unset, .unset] [(.int (2147483647 : Int32)), (.int p0)])) _
  refine XS.iand X0.here hx rfl (hb hby at_3) rfl ?_
  show Steps p.tables e below (s₁.setTop (mkF m 4 #[.val (.int p0), .val (.int p1), .unset, .unset, .unset] [(.int (p0 &&& (2147483647 : Int32)))])) _
  show Steps p.tables e below (s₁.setTop (mkF m 4 #[.val (.int p0), .val (.int p1), .unset, .unset, .unset] [(.int (p0 &&& (2147483647 : Int32)))])) _
  refine XS.bipush X0.here hx rfl (hb hby at_4) ?_
  show Steps p.tables e below (s₁.setTop (mkF m 6 #[.val (.int p0), .val (.int p1), .unset, .unset, .unset] [(.int (7 : Int32)), (.int (p0 &&& (2147483647 : Int32)))])) _
  refine iremM X0 hx rfl (hb hby at_6) rfl (by decide) ?_
  show Steps p.tables e below (s₁.setTop (mkF m 7 #[.val (.int p0), .val (.int p1), .unset, .unset, .unset] [(.int ((p0 &&& (2147483647 : Int32)) % (7 : Int32)))])) _
  rw [hk]
  show Steps p.tables e below (s₁.setTop (mkF m 7 #[.val (.int p0), .val (.int p1), .unset, .unset, .unset] [(.int (6 : Int32))])) _
  refine XS.istoreN X0.here hx rfl (hb hby at_7) rfl (l' := #[.val (.int p0), .val (.int p1), .val (.int (6 : Int32)), .unset, .unset]) rfl ?_
  show Steps p.tables e below (s₁.setTop (mkF m 8 #[.val (.int p0), .val (.int p1), .val (.int (6 : Int32)), .unset, .unset] [])) _
  refine XS.iloadN X0.here hx rfl (hb hby at_8) rfl ?_
  show Steps p.tables e below (s₁.setTop (mkF m 9 #[.val (.int p0), .val (.int p1), .val (.int (6 : Int32)), .unset, .unset] [(.int (6 : Int32))])) _
  refine st1 _ ?_
  show Steps p.tables e below (T1.setTop (mkF m 12 #[.val (.int p0), .val (.int p1), .val (.int (6 : Int32)), .unset, .unset] [(.ref w_NULL)])) _
  refine XS.astoreN X1.here hx rfl (hb hby at_12) rfl rfl (l' := #[.val (.int p0), .val (.int p1), .val (.int (6 : Int32)), .val (.ref w_NULL), .unset]) rfl ?_
  show Steps p.tables e below (T1.setTop (mkF m 13 #[.val (.int p0), .val (.int p1), .val (.int (6 : Int32)), .val (.ref w_NULL), .unset] [])) _
  refine XS.aloadN X1.here hx rfl (hb hby at_13) rfl rfl ?_
  show Steps p.tables e below (T1.setTop (mkF m 14 #[.val (.int p0), .val (.int p1), .val (.int (6 : Int32)), .val (.ref w_NULL), .unset] [(.ref w_NULL)])) _
  refine XS.iloadN X1.here hx rfl (hb hby at_14) rfl ?_
  show Steps p.tables e below (T1.setTop (mkF m 15 #[.val (.int p0), .val (.int p1), .val (.int (6 : Int32)), .val (.ref w_NULL), .unset] [(.int p1), (.ref w_NULL)])) _
  refine st2.trans ?_
  show Steps p.tables e below (T2.setTop (mkF m 18 #[.val (.int p0), .val (.int p1), .val (.int (6 : Int32)), .val (.ref w_NULL), .unset] [(.int (0 : Int32))])) _
  refine XS.istore X2.here hx rfl (hb hby at_18) rfl (l' := #[.val (.int p0), .val (.int p1), .val (.int (6 : Int32)), .val (.ref w_NULL), .val (.int (0 : Int32))]) rfl ?_
  show Steps p.tables e below (T2.setTop (mkF m 20 #[.val (.int p0), .val (.int p1), .val (.int (6 : Int32)), .val (.ref w_NULL), .val (.int (0 : Int32))] [])) _
  refine XS.iload X2.here hx rfl (hb hby at_20) rfl ?_
  show Steps p.tables e below (T2.setTop (mkF m 22 #[.val (.int p0), .val (.int p1), .val (.int (6 : Int32)), .val (.ref w_NULL), .val (.int (0 : Int32))] [(.int (0 : Int32))])) _
  refine XS.iloadN X2.here hx rfl (hb hby at_22) rfl ?_
  show Steps p.tables e below (T2.setTop (mkF m 23 #[.val (.int p0), .val (.int p1), .val (.int (6 : Int32)), .val (.ref w_NULL), .val (.int (0 : Int32))] [(.int (6 : Int32)), (.int (0 : Int32))])) _
  refine XS.iloadN X2.here hx rfl (hb hby at_23) rfl ?_
  show Steps p.tables e below (T2.setTop (mkF m 24 #[.val (.int p0), .val (.int p1), .val (.int (6 : Int32)), .val (.ref w_NULL), .val (.int (0 : Int32))] [(.int p1), (.int (6 : Int32)), (.int (0 : Int32))])) _
  refine st3 _ ?_
  show Steps p.tables e below (T3.setTop (mkF m 27 #[.val (.int p0), .val (.int p1), .val (.int (6 : Int32)), .val (.ref w_NULL), .val (.int (0 : Int32))] [(.int (0 : Int32)), (.int (0 : Int32))])) _
  refine XS.icmpNo X3.here hx rfl (hb hby at_27) rfl (teq (by decide : (0 : Int32) = (0 : Int32))).2 ?_
  show Steps p.tables e below (T3.setTop (mkF m 30 #[.val (.int p0), .val (.int p1), .val (.int (6 : Int32)), .val (.ref w_NULL), .val (.int (0 : Int32))] [])) _
  refine XS.iconst X3.here hx rfl (hb hby at_30) ?_
  show Steps p.tables e below (T3.setTop (mkF m 31 #[.val (.int p0), .val (.int p1), .val (.int (6 : Int32)), .val (.ref w_NULL), .val (.int (0 : Int32))] [(.int (1 : Int32))])) _
  refine XS.goto X3.here hx rfl (pc0 := 31) (pc' := 35) rfl (hb hby at_31) (by decide) (by decide) ?_
  show Steps p.tables e below (T3.setTop (mkF m 35 #[.val (.int p0), .val (.int p1), .val (.int (6 : Int32)), .val (.ref w_NULL), .val (.int (0 : Int32))] [(.int (1 : Int32))])) _
  exact retN X3 hx (t := .boolean) Bd.returns (by simp) (hb hby at_35) hr
theorem rm0 (l : Launch) (Z : State) (a0 : Array Value) (hw : ∀ d ∈ tables_1, d.before a0 Z = true) (ws : List Jvm.Cond) (w_INT w_VARCHAR w_DECIMAL w_SMALLINT w_NULL w_BOOLEAN w_BIGINT : Addr) (h0 : Heap) (n0 : Nat) (Z0 : n0 ≤ h0.size) (S : SF Z h0 w_INT w_VARCHAR w_DECIMAL w_SMALLINT w_NULL w_BOOLEAN w_BIGINT) (p0 : Int32) (p1 : Int32) :
    Pay l Z x ws code maxLocals ret #[(.int p0), (.int p1)] h0 n0 room_1 (some (.int (1 : Int32))) := by
  rcases own_mod7 p0 with hk | hk | hk | hk | hk | hk | hk
  · exact rm0_0 l Z a0 hw ws w_INT w_VARCHAR w_DECIMAL w_SMALLINT w_NULL w_BOOLEAN w_BIGINT h0 n0 Z0 S p0 p1 hk
  · exact rm0_1 l Z a0 hw ws w_INT w_VARCHAR w_DECIMAL w_SMALLINT w_NULL w_BOOLEAN w_BIGINT h0 n0 Z0 S p0 p1 hk
  · exact rm0_2 l Z a0 hw ws w_INT w_VARCHAR w_DECIMAL w_SMALLINT w_NULL w_BOOLEAN w_BIGINT h0 n0 Z0 S p0 p1 hk
  · by_cases hs : (0 : Int32) < p1
    · exact rm0_3 l Z a0 hw ws w_INT w_VARCHAR w_DECIMAL w_SMALLINT w_NULL w_BOOLEAN w_BIGINT h0 n0 Z0 S p0 p1 hk hs
    · exact rm0_4 l Z a0 hw ws w_INT w_VARCHAR w_DECIMAL w_SMALLINT w_NULL w_BOOLEAN w_BIGINT h0 n0 Z0 S p0 p1 hk hs
  · by_cases hs : (0 : Int32) < p1
    · exact rm0_5 l Z a0 hw ws w_INT w_VARCHAR w_DECIMAL w_SMALLINT w_NULL w_BOOLEAN w_BIGINT h0 n0 Z0 S p0 p1 hk hs
    · exact rm0_6 l Z a0 hw ws w_INT w_VARCHAR w_DECIMAL w_SMALLINT w_NULL w_BOOLEAN w_BIGINT h0 n0 Z0 S p0 p1 hk hs
  · exact rm0_7 l Z a0 hw ws w_INT w_VARCHAR w_DECIMAL w_SMALLINT w_NULL w_BOOLEAN w_BIGINT h0 n0 Z0 S p0 p1 hk
  · exact rm0_8 l Z a0 hw ws w_INT w_VARCHAR w_DECIMAL w_SMALLINT w_NULL w_BOOLEAN w_BIGINT h0 n0 Z0 S p0 p1 hk
set_option maxRecDepth 65536 in
set_option maxHeartbeats 40000000 in
theorem comes_1 {Post : Tables → Env → Array Value → State → Outcome → State → Prop} (hpost : ∀ tb e args s v u, (limb_1_1.after args s (.returned v) u = true ∧ limb_1_2.after args s (.returned v) u = true ∧ True) → FrameEnd s (.returned v) u (Jvm.fieldLocs frame_1_writes args s ++ Jvm.arrayLocs frame_1_arrays args s ++ Jvm.staticLocs frame_1_statics s) 0 0 → Post tb e args s (.returned v) u) :
    ArmFor flags0 classFile x code maxLocals ret World_1 tables_1 room_1 Calls_1 rest_1 Pre_1 Post := by
  intro l hfl _ _ p e ha hc hk s m args below hf hA hF happ hP
  obtain ⟨hcalls, hrest, hpre⟩ := hP
  obtain ⟨-, -, -, hnamed, -, -, -, hat⟩ := (Spec.applies_iff hf).mp happ
  obtain ⟨hg, hn⟩ := and_e (Cond.before_iff.mp (show (Jvm.Cond.and given_1 narrow_1).before args s = true from hpre))
  obtain ⟨g0, gr0⟩ := and_e hg
  obtain ⟨g1, gr1⟩ := and_e gr0
  obtain ⟨v0, v1, rfl⟩ : ∃ v0 v1 : Value, args = #[v0, v1] := by
    have hs : args.size = 2 := by simpa [Cond.value, given_1] using g0
    obtain ⟨L⟩ := args
    match L, hs with
    | [v0, v1], _ => exact ⟨v0, v1, rfl⟩
  have hw := fun d (hd : d ∈ tables_1) => atoms_spec (ws := Jvm.Cond.code x code maxLocals ret :: tables_1) hat d (List.mem_cons_of_mem _ hd)
  have hfit : Fit s := fun {y c} hc i hi => by
    obtain ⟨ha, rfl⟩ := Array.getElem?_eq_some_iff.mp hc
    have q := List.all_eq_true.mp ((Array.all_eq_true_iff_forall_mem.mp hF) _ (Array.getElem_mem ha)) i (List.mem_range.mpr hi)
    simpa [Array.getElem?_eq_getElem hi] using q
  obtain ⟨i0, ei0⟩ := is_v g1
  obtain rfl : v0 = (.int i0) := Option.some.inj ei0
  obtain ⟨i1, ei1⟩ := is_v gr1
  obtain rfl : v1 = (.int i1) := Option.some.inj ei1
  obtain ⟨n0, nr0⟩ := and_e hn
  obtain ⟨n1, nr1⟩ := and_e nr0
  obtain ⟨n2, nr2⟩ := and_e nr1
  obtain ⟨n3, nr3⟩ := and_e nr2
  obtain ⟨n4, nr4⟩ := and_e nr3
  obtain ⟨n5, nr5⟩ := and_e nr4
  obtain ⟨n6, nr6⟩ := and_e nr5
  obtain ⟨n7, nr7⟩ := and_e nr6
  obtain ⟨n8, nr8⟩ := and_e nr7
  obtain ⟨n9, nr9⟩ := and_e nr8
  obtain ⟨n10, nr10⟩ := and_e nr9
  obtain ⟨n11, nr11⟩ := and_e nr10
  obtain ⟨n12, nr12⟩ := and_e nr11
  obtain ⟨n13, nr13⟩ := and_e nr12
  obtain ⟨n14, nr14⟩ := and_e nr13
  obtain ⟨n15, nr15⟩ := and_e nr14
  obtain ⟨n16, nr16⟩ := and_e nr15
  obtain ⟨n17, nr17⟩ := and_e nr16
  obtain ⟨n18, nr18⟩ := and_e nr17
  obtain ⟨n19, nr19⟩ := and_e nr18
  obtain ⟨w_INT, ev_w_INT⟩ := exa_v n0
  have S_w_INT := Sta.start ev_w_INT (Or.inr ⟨(hw _ (List.mem_of_getElem? (i := 6) rfl)), (hw _ (List.mem_of_getElem? (i := 7) rfl))⟩)
  have E_w_INT := Exa.start ev_w_INT n0
  obtain ⟨w_VARCHAR, ev_w_VARCHAR⟩ := exa_v n2
  have S_w_VARCHAR := Sta.start ev_w_VARCHAR (Or.inr ⟨(hw _ (List.mem_of_getElem? (i := 6) rfl)), (hw _ (List.mem_of_getElem? (i := 16) rfl))⟩)
  have E_w_VARCHAR := Exa.start ev_w_VARCHAR n2
  obtain ⟨w_DECIMAL, ev_w_DECIMAL⟩ := exa_v n5
  have S_w_DECIMAL := Sta.start ev_w_DECIMAL (Or.inr ⟨(hw _ (List.mem_of_getElem? (i := 6) rfl)), (hw _ (List.mem_of_getElem? (i := 18) rfl))⟩)
  have E_w_DECIMAL := Exa.start ev_w_DECIMAL n5
  obtain ⟨w_SMALLINT, ev_w_SMALLINT⟩ := exa_v n8
  have S_w_SMALLINT := Sta.start ev_w_SMALLINT (Or.inr ⟨(hw _ (List.mem_of_getElem? (i := 6) rfl)), (hw _ (List.mem_of_getElem? (i := 24) rfl))⟩)
  have E_w_SMALLINT := Exa.start ev_w_SMALLINT n8
  obtain ⟨w_NULL, ev_w_NULL⟩ := exa_v n12
  have S_w_NULL := Sta.start ev_w_NULL (Or.inr ⟨(hw _ (List.mem_of_getElem? (i := 6) rfl)), (hw _ (List.mem_of_getElem? (i := 28) rfl))⟩)
  have E_w_NULL := Exa.start ev_w_NULL n12
  obtain ⟨w_BOOLEAN, ev_w_BOOLEAN⟩ := exa_v n15
  have S_w_BOOLEAN := Sta.start ev_w_BOOLEAN (Or.inr ⟨(hw _ (List.mem_of_getElem? (i := 6) rfl)), (hw _ (List.mem_of_getElem? (i := 30) rfl))⟩)
  have E_w_BOOLEAN := Exa.start ev_w_BOOLEAN n15
  obtain ⟨w_BIGINT, ev_w_BIGINT⟩ := exa_v n18
  have S_w_BIGINT := Sta.start ev_w_BIGINT (Or.inr ⟨(hw _ (List.mem_of_getElem? (i := 6) rfl)), (hw _ (List.mem_of_getElem? (i := 32) rfl))⟩)
  have E_w_BIGINT := Exa.start ev_w_BIGINT n18
  have F_precision_w_INT := Fld.start ((fld_at ev_w_INT).symm.trans (own_eqI n1))
  have F_ordinal_w_INT := Fld.start ((fld_at ev_w_INT).symm.trans (own_eqI n3))
  have F_ordinal_w_VARCHAR := Fld.start ((fld_at ev_w_VARCHAR).symm.trans (own_eqI n4))
  have F_ordinal_w_DECIMAL := Fld.start ((fld_at ev_w_DECIMAL).symm.trans (own_eqI n6))
  have F_precision_w_DECIMAL := Fld.start ((fld_at ev_w_DECIMAL).symm.trans (own_eqI n7))
  have F_precision_w_SMALLINT := Fld.start ((fld_at ev_w_SMALLINT).symm.trans (own_eqI n9))
  have F_ordinal_w_SMALLINT := Fld.start ((fld_at ev_w_SMALLINT).symm.trans (own_eqI n10))
  have F_precision_w_VARCHAR := Fld.start ((fld_at ev_w_VARCHAR).symm.trans (own_eqI n11))
  have F_precision_w_NULL := Fld.start ((fld_at ev_w_NULL).symm.trans (own_eqI n13))
  have F_ordinal_w_NULL := Fld.start ((fld_at ev_w_NULL).symm.trans (own_eqI n14))
  have F_precision_w_BOOLEAN := Fld.start ((fld_at ev_w_BOOLEAN).symm.trans (own_eqI n16))
  have F_ordinal_w_BOOLEAN := Fld.start ((fld_at ev_w_BOOLEAN).symm.trans (own_eqI n17))
  have F_precision_w_BIGINT := Fld.start ((fld_at ev_w_BIGINT).symm.trans (own_eqI n19))
  have F_ordinal_w_BIGINT := Fld.start ((fld_at ev_w_BIGINT).symm.trans (own_eqI nr19))
  have hne_w_INT_w_VARCHAR := F_ordinal_w_INT.ne F_ordinal_w_VARCHAR (by decide)
  have hne_w_INT_w_DECIMAL := F_ordinal_w_INT.ne F_ordinal_w_DECIMAL (by decide)
  have hne_w_INT_w_SMALLINT := F_ordinal_w_INT.ne F_ordinal_w_SMALLINT (by decide)
  have hne_w_INT_w_NULL := F_ordinal_w_INT.ne F_ordinal_w_NULL (by decide)
  have hne_w_INT_w_BOOLEAN := F_ordinal_w_INT.ne F_ordinal_w_BOOLEAN (by decide)
  have hne_w_INT_w_BIGINT := F_ordinal_w_INT.ne F_ordinal_w_BIGINT (by decide)
  have hne_w_VARCHAR_w_DECIMAL := F_ordinal_w_VARCHAR.ne F_ordinal_w_DECIMAL (by decide)
  have hne_w_VARCHAR_w_SMALLINT := F_ordinal_w_VARCHAR.ne F_ordinal_w_SMALLINT (by decide)
  have hne_w_VARCHAR_w_NULL := F_ordinal_w_VARCHAR.ne F_ordinal_w_NULL (by decide)
  have hne_w_VARCHAR_w_BOOLEAN := F_ordinal_w_VARCHAR.ne F_ordinal_w_BOOLEAN (by decide)
  have hne_w_VARCHAR_w_BIGINT := F_ordinal_w_VARCHAR.ne F_ordinal_w_BIGINT (by decide)
  have hne_w_DECIMAL_w_SMALLINT := F_ordinal_w_DECIMAL.ne F_ordinal_w_SMALLINT (by decide)
  have hne_w_DECIMAL_w_NULL := F_ordinal_w_DECIMAL.ne F_ordinal_w_NULL (by decide)
  have hne_w_DECIMAL_w_BOOLEAN := F_ordinal_w_DECIMAL.ne F_ordinal_w_BOOLEAN (by decide)
  have hne_w_DECIMAL_w_BIGINT := F_ordinal_w_DECIMAL.ne F_ordinal_w_BIGINT (by decide)
  have hne_w_SMALLINT_w_NULL := F_ordinal_w_SMALLINT.ne F_ordinal_w_NULL (by decide)
  have hne_w_SMALLINT_w_BOOLEAN := F_ordinal_w_SMALLINT.ne F_ordinal_w_BOOLEAN (by decide)
  have hne_w_SMALLINT_w_BIGINT := F_ordinal_w_SMALLINT.ne F_ordinal_w_BIGINT (by decide)
  have hne_w_NULL_w_BOOLEAN := F_ordinal_w_NULL.ne F_ordinal_w_BOOLEAN (by decide)
  have hne_w_NULL_w_BIGINT := F_ordinal_w_NULL.ne F_ordinal_w_BIGINT (by decide)
  have hne_w_BOOLEAN_w_BIGINT := F_ordinal_w_BOOLEAN.ne F_ordinal_w_BIGINT (by decide)
  obtain ⟨n, o, h1, h2, h3, _, L, rfl, ⟨rfl, N, -⟩, hq⟩ := rm0 l s _ hw tables_1 w_INT w_VARCHAR w_DECIMAL w_SMALLINT w_NULL w_BOOLEAN w_BIGINT s.heap s.heap.size (Nat.le_refl _) ⟨S_w_INT, E_w_INT, S_w_VARCHAR, E_w_VARCHAR, S_w_DECIMAL, E_w_DECIMAL, S_w_SMALLINT, E_w_SMALLINT, S_w_NULL, E_w_NULL, S_w_BOOLEAN, E_w_BOOLEAN, S_w_BIGINT, E_w_BIGINT, F_precision_w_INT, F_ordinal_w_INT, F_ordinal_w_VARCHAR, F_ordinal_w_DECIMAL, F_precision_w_DECIMAL, F_precision_w_SMALLINT, F_ordinal_w_SMALLINT, F_precision_w_VARCHAR, F_precision_w_NULL, F_ordinal_w_NULL, F_precision_w_BOOLEAN, F_ordinal_w_BOOLEAN, F_precision_w_BIGINT, F_ordinal_w_BIGINT, hne_w_INT_w_VARCHAR, hne_w_INT_w_DECIMAL, hne_w_INT_w_SMALLINT, hne_w_INT_w_NULL, hne_w_INT_w_BOOLEAN, hne_w_INT_w_BIGINT, hne_w_VARCHAR_w_DECIMAL, hne_w_VARCHAR_w_SMALLINT, hne_w_VARCHAR_w_NULL, hne_w_VARCHAR_w_BOOLEAN, hne_w_VARCHAR_w_BIGINT, hne_w_DECIMAL_w_SMALLINT, hne_w_DECIMAL_w_NULL, hne_w_DECIMAL_w_BOOLEAN, hne_w_DECIMAL_w_BIGINT, hne_w_SMALLINT_w_NULL, hne_w_SMALLINT_w_BOOLEAN, hne_w_SMALLINT_w_BIGINT, hne_w_NULL_w_BOOLEAN, hne_w_NULL_w_BIGINT, hne_w_BOOLEAN_w_BIGINT⟩ i0 i1 p e ha hc hk s m _ below hf ((Spec.applies_iff_loose hf).mp happ).1 ⟨rfl, State.Warmed39.refl s, rfl⟩ trivial
  refine ⟨n, _, h1, h2, h3, hpost _ _ _ _ _ _ ⟨Cond.after_iff.mpr rfl, Cond.after_iff.mpr (eq_i res_at (Term.int_eval (1)) rfl), trivial⟩ ⟨hq.1, hq.2.1, (hq.2.2.sift fun y hy => Or.inr (N y hy)).mono (by decide) (by decide)⟩⟩
theorem main_1_1 : Claimed_1_1 := comes_1 fun _ _ _ _ _ _ h hF => ⟨h.1, hF⟩
theorem main_1_2 : Claimed_1_2 := comes_1 fun _ _ _ _ _ _ h hF => ⟨h.2.1, hF⟩
end Jvm.Pilot.@@N@@
namespace Jvm.Pilot.@@N@@
open Jvm Jvm.ClassFile Sem Op Lib Jvm.Free Jvm.Stand Jvm.Pilot.@@N@@.Jvm.D
/-! MADE BY PROGRAM (witnessworld.py) out of the Statement's table words and the real class files: 12 classes; the members and pool entries that the words name. The judged class is class 1, her method 1. -/
namespace start1
open Jvm.ClassFile
def u (s : String) : CpInfo := .utf8 (stringToUtf16 s)
/-- a pool by its gaps: so many unusable entries, then the entry; so many at the end -/
def gap : Nat → List CpInfo → List CpInfo
  | 0, r => r
  | n + 1, r => .unusable :: gap n r
def poolList (es : List (Nat × CpInfo)) (last : Nat) : List CpInfo := es.foldr (fun e r => gap e.1 (e.2 :: r)) (gap last [])
def pool (es : List (Nat × CpInfo)) (last : Nat) : Array CpInfo := ⟨poolList es last⟩
def fileOf (pool : Array CpInfo) (this : Nat) (attrs : Array Attribute := #[]) (ms : Array MethodInfo := #[]) (fl : Nat := 33) (sup : Nat := 0) (ifs : Array Nat := #[]) (fds : Array FieldInfo := #[]) : ClassFile where
  minorVersion := 0
  majorVersion := 65
  constantPool := pool
  accessFlags := fl
  thisClass := this
  superClass := sup
  interfaces := ifs
  fields := fds
  methods := ms
  attributes := attrs
def plain (name : String) (sup : Option ClassId) : Class where
  name := name
  kind := .ordinary
  loader := none
  accessFlags := 33
  super := sup
  interfaces := #[]
  cf := none
  fields := #[]
  methods := #[]
  instanceTypes := #[]
  staticTypes := #[]
  resolved := #[]
  callSites := []
  init := .initialized
  statics := none
  mirror := none

def pool0 : Array CpInfo := pool [(5, u "<init>"), (0, u "()V"), (1, .class_ 10), (1, u "java/lang/Object")] 113

def k0m0 : Method := { name := "<init>", desc := "()V", sig := { parameters := [], returnType := none }, accessFlags := 1, code := none }
/-- java/lang/Object -/
def k0 : Class := { plain "java/lang/Object" none with
  accessFlags := 33
  interfaces := #[]
  cf := some (fileOf pool0 8 #[] #[{ accessFlags := 1, nameIndex := 5, descriptorIndex := 6, attributes := #[] }] 33 0 #[] #[])
  fields := #[]
  methods := #[k0m0]
  instanceTypes := #[]
  staticTypes := #[]
  resolved := Array.replicate 124 none
  statics := none }

def pool1 : Array CpInfo := pool [(2, .class_ 4), (1, u "java/lang/Object"), (0, u "<init>"), (0, u "()V"), (0, .integer 2147483647), (0, .methodref 9 10), (0, .class_ 11), (0, .nameAndType 12 13), (0, u "com/example/oyster/oyster/jdbc/JdbcTypePrecisionPinLaw"), (0, u "pick"), (0, u "(I)Lcom/example/oyster/oyster/jdbc/JdbcType;"), (0, .methodref 15 16), (0, .class_ 17), (0, .nameAndType 18 19), (0, u "com/example/oyster/oyster/jdbc/JdbcType"), (0, u "precision"), (0, u "(I)I"), (0, .methodref 9 21), (0, .nameAndType 22 23), (0, u "expected"), (0, u "(II)I"), (0, .fieldref 15 25), (0, .nameAndType 26 27), (0, u "INT"), (0, u "Lcom/example/oyster/oyster/jdbc/JdbcType;"), (0, .fieldref 15 29), (0, .nameAndType 30 27), (0, u "SMALLINT"), (0, .fieldref 15 32), (0, .nameAndType 33 27), (0, u "BIGINT"), (0, .fieldref 15 35), (0, .nameAndType 36 27), (0, u "DECIMAL"), (0, .fieldref 15 38), (0, .nameAndType 39 27), (0, u "VARCHAR"), (0, .fieldref 15 41), (0, .nameAndType 42 27), (0, u "BOOLEAN"), (0, .fieldref 15 44), (0, .nameAndType 45 27), (0, u "NULL"), (4, u "law"), (0, u "(II)Z")] 3

def k1m0 : Method := { name := "<init>", desc := "()V", sig := { parameters := [], returnType := none }, accessFlags := 1, code := none }
def k1c1 : Code := { maxStack := 3, maxLocals := 5, code := code, exceptionTable := #[], attributes := #[] }
def k1m1 : Method := { name := "law", desc := "(II)Z", sig := { parameters := [.int, .int], returnType := some .boolean }, accessFlags := 9, code := some k1c1 }
def k1c2 : Code := { maxStack := 2, maxLocals := 1, code := method_3_code, exceptionTable := #[], attributes := #[] }
def k1m2 : Method := { name := "pick", desc := "(I)Lcom/example/oyster/oyster/jdbc/JdbcType;", sig := { parameters := [.int], returnType := some (.object "com/example/oyster/oyster/jdbc/JdbcType") }, accessFlags := 10, code := some k1c2 }
def k1c3 : Code := { maxStack := 2, maxLocals := 2, code := method_4_code, exceptionTable := #[], attributes := #[] }
def k1m3 : Method := { name := "expected", desc := "(II)I", sig := { parameters := [.int, .int], returnType := some .int }, accessFlags := 10, code := some k1c3 }
/-- com/example/oyster/oyster/jdbc/JdbcTypePrecisionPinLaw -/
def k1 : Class := { plain "com/example/oyster/oyster/jdbc/JdbcTypePrecisionPinLaw" (some 0) with
  accessFlags := 49
  interfaces := #[]
  cf := some (fileOf pool1 9 #[] #[{ accessFlags := 1, nameIndex := 5, descriptorIndex := 6, attributes := #[] }, { accessFlags := 9, nameIndex := 50, descriptorIndex := 51, attributes := #[] }, { accessFlags := 10, nameIndex := 12, descriptorIndex := 13, attributes := #[] }, { accessFlags := 10, nameIndex := 22, descriptorIndex := 23, attributes := #[] }] 49 2 #[] #[])
  fields := #[]
  methods := #[k1m0, k1m1, k1m2, k1m3]
  instanceTypes := #[]
  staticTypes := #[]
  resolved := Array.replicate 55 none
  statics := none }

def pool2 : Array CpInfo := pool [(1, .class_ 2), (0, u "java/lang/constant/Constable"), (0, .class_ 4), (0, u "java/lang/Object")] 6

/-- java/lang/constant/Constable -/
def k2 : Class := { plain "java/lang/constant/Constable" (some 0) with
  accessFlags := 1537
  interfaces := #[]
  cf := some (fileOf pool2 1 #[] #[] 1537 3 #[] #[])
  fields := #[]
  methods := #[]
  instanceTypes := #[]
  staticTypes := #[]
  resolved := Array.replicate 11 none
  statics := none }

def pool3 : Array CpInfo := pool [(1, .class_ 2), (0, u "java/lang/Comparable"), (0, .class_ 4), (0, u "java/lang/Object")] 7

/-- java/lang/Comparable -/
def k3 : Class := { plain "java/lang/Comparable" (some 0) with
  accessFlags := 1537
  interfaces := #[]
  cf := some (fileOf pool3 1 #[] #[] 1537 3 #[] #[])
  fields := #[]
  methods := #[]
  instanceTypes := #[]
  staticTypes := #[]
  resolved := Array.replicate 12 none
  statics := none }

def pool4 : Array CpInfo := pool [(1, .class_ 2), (0, u "java/io/Serializable"), (0, .class_ 4), (0, u "java/lang/Object")] 2

/-- java/io/Serializable -/
def k4 : Class := { plain "java/io/Serializable" (some 0) with
  accessFlags := 1537
  interfaces := #[]
  cf := some (fileOf pool4 1 #[] #[] 1537 3 #[] #[])
  fields := #[]
  methods := #[]
  instanceTypes := #[]
  staticTypes := #[]
  resolved := Array.replicate 7 none
  statics := none }

def pool5 : Array CpInfo := pool [(2, .class_ 4), (1, u "java/lang/Enum"), (0, u "name"), (0, u "Ljava/lang/String;"), (2, u "ordinal"), (0, u "I"), (1, .class_ 14), (1, u "java/lang/Object"), (4, u "hash"), (86, .class_ 108), (1, u "java/lang/Enum$EnumDesc"), (2, .class_ 112), (0, u "java/lang/constant/Constable"), (0, .class_ 114), (0, u "java/lang/Comparable"), (0, .class_ 116), (0, u "java/io/Serializable")] 87

/-- java/lang/Enum -/
def k5 : Class := { plain "java/lang/Enum" (some 0) with
  accessFlags := 1057
  interfaces := #[2, 3, 4]
  cf := some (fileOf pool5 2 #[.nestMembers #[106]] #[] 1057 12 #[111, 113, 115] #[{ accessFlags := 18, nameIndex := 5, descriptorIndex := 6, attributes := #[] }, { accessFlags := 18, nameIndex := 9, descriptorIndex := 10, attributes := #[] }, { accessFlags := 2, nameIndex := 19, descriptorIndex := 10, attributes := #[] }])
  fields := #[{ name := "name", type := (.object "java/lang/String"), accessFlags := 18, slot := 0, constantValue := 0 }, { name := "ordinal", type := .int, accessFlags := 18, slot := 1, constantValue := 0 }, { name := "hash", type := .int, accessFlags := 2, slot := 2, constantValue := 0 }]
  methods := #[]
  instanceTypes := #[(.object "java/lang/String"), .int, .int]
  staticTypes := #[]
  resolved := Array.replicate 204 none
  statics := none }

def pool6 : Array CpInfo := pool [(1, .class_ 2), (0, u "com/example/oyster/oyster/jdbc/JdbcType"), (2, u "INT"), (0, u "Lcom/example/oyster/oyster/jdbc/JdbcType;"), (2, u "SMALLINT"), (2, u "BIGINT"), (0, .fieldref 1 14), (0, .nameAndType 15 6), (0, u "DECIMAL"), (0, .fieldref 1 17), (0, .nameAndType 18 6), (0, u "VARCHAR"), (2, u "BOOLEAN"), (2, u "NULL"), (2, u "$VALUES"), (0, u "[Lcom/example/oyster/oyster/jdbc/JdbcType;"), (6, .class_ 37), (1, u "java/lang/Enum"), (17, u "type"), (0, u "Lcom/example/oyster/oyster/engine/Type;"), (2, u "code"), (0, u "I"), (2, u "javaClass"), (0, u "Ljava/lang/Class;"), (0, .fieldref 1 66), (0, .nameAndType 67 60), (0, u "precision"), (2, u "displaySize"), (33, .integer 2147483647), (2, u "(I)I")] 100

def k6c0 : Code := { maxStack := 2, maxLocals := 3, code := prog_121_method_10_code, exceptionTable := #[], attributes := #[] }
def k6m0 : Method := { name := "precision", desc := "(I)I", sig := { parameters := [.int], returnType := some .int }, accessFlags := 0, code := some k6c0 }
/-- com/example/oyster/oyster/jdbc/JdbcType -/
def k6 : Class := { plain "com/example/oyster/oyster/jdbc/JdbcType" (some 5) with
  accessFlags := 16432
  interfaces := #[]
  cf := some (fileOf pool6 1 #[] #[{ accessFlags := 0, nameIndex := 67, descriptorIndex := 107, attributes := #[] }] 16432 35 #[] #[{ accessFlags := 16409, nameIndex := 5, descriptorIndex := 6, attributes := #[] }, { accessFlags := 16409, nameIndex := 9, descriptorIndex := 6, attributes := #[] }, { accessFlags := 16409, nameIndex := 12, descriptorIndex := 6, attributes := #[] }, { accessFlags := 16409, nameIndex := 15, descriptorIndex := 6, attributes := #[] }, { accessFlags := 16409, nameIndex := 18, descriptorIndex := 6, attributes := #[] }, { accessFlags := 16409, nameIndex := 21, descriptorIndex := 6, attributes := #[] }, { accessFlags := 16409, nameIndex := 24, descriptorIndex := 6, attributes := #[] }, { accessFlags := 18, nameIndex := 55, descriptorIndex := 56, attributes := #[] }, { accessFlags := 18, nameIndex := 59, descriptorIndex := 60, attributes := #[] }, { accessFlags := 18, nameIndex := 63, descriptorIndex := 64, attributes := #[] }, { accessFlags := 18, nameIndex := 67, descriptorIndex := 60, attributes := #[] }, { accessFlags := 18, nameIndex := 70, descriptorIndex := 60, attributes := #[] }, { accessFlags := 4122, nameIndex := 27, descriptorIndex := 28, attributes := #[] }])
  fields := #[{ name := "INT", type := (.object "com/example/oyster/oyster/jdbc/JdbcType"), accessFlags := 16409, slot := 0, constantValue := 0 }, { name := "SMALLINT", type := (.object "com/example/oyster/oyster/jdbc/JdbcType"), accessFlags := 16409, slot := 1, constantValue := 0 }, { name := "BIGINT", type := (.object "com/example/oyster/oyster/jdbc/JdbcType"), accessFlags := 16409, slot := 2, constantValue := 0 }, { name := "DECIMAL", type := (.object "com/example/oyster/oyster/jdbc/JdbcType"), accessFlags := 16409, slot := 3, constantValue := 0 }, { name := "VARCHAR", type := (.object "com/example/oyster/oyster/jdbc/JdbcType"), accessFlags := 16409, slot := 4, constantValue := 0 }, { name := "BOOLEAN", type := (.object "com/example/oyster/oyster/jdbc/JdbcType"), accessFlags := 16409, slot := 5, constantValue := 0 }, { name := "NULL", type := (.object "com/example/oyster/oyster/jdbc/JdbcType"), accessFlags := 16409, slot := 6, constantValue := 0 }, { name := "type", type := (.object "com/example/oyster/oyster/engine/Type"), accessFlags := 18, slot := 3, constantValue := 0 }, { name := "code", type := .int, accessFlags := 18, slot := 4, constantValue := 0 }, { name := "javaClass", type := (.object "java/lang/Class"), accessFlags := 18, slot := 5, constantValue := 0 }, { name := "precision", type := .int, accessFlags := 18, slot := 6, constantValue := 0 }, { name := "displaySize", type := .int, accessFlags := 18, slot := 7, constantValue := 0 }, { name := "$VALUES", type := (.array (.object "com/example/oyster/oyster/jdbc/JdbcType")), accessFlags := 4122, slot := 7, constantValue := 0 }]
  methods := #[k6m0]
  instanceTypes := #[(.object "java/lang/String"), .int, .int, (.object "com/example/oyster/oyster/engine/Type"), .int, (.object "java/lang/Class"), .int, .int]
  staticTypes := #[(.object "com/example/oyster/oyster/jdbc/JdbcType"), (.object "com/example/oyster/oyster/jdbc/JdbcType"), (.object "com/example/oyster/oyster/jdbc/JdbcType"), (.object "com/example/oyster/oyster/jdbc/JdbcType"), (.object "com/example/oyster/oyster/jdbc/JdbcType"), (.object "com/example/oyster/oyster/jdbc/JdbcType"), (.object "com/example/oyster/oyster/jdbc/JdbcType"), (.array (.object "com/example/oyster/oyster/jdbc/JdbcType"))]
  resolved := Array.replicate 208 none
  statics := some 0 }

def pool7 : Array CpInfo := pool [(1, u "java/lang/Cloneable"), (0, .class_ 1), (0, u "java/lang/Object"), (0, .class_ 3)] 3

/-- java/lang/Cloneable -/
def k7 : Class := { plain "java/lang/Cloneable" (some 0) with
  accessFlags := 1537
  interfaces := #[]
  cf := some (fileOf pool7 2 #[] #[] 1537 4 #[] #[])
  fields := #[]
  methods := #[]
  instanceTypes := #[]
  staticTypes := #[]
  resolved := Array.replicate 8 none
  statics := none }

/-- the primitive byte -/
def k8 : Class := { plain "byte" none with kind := .primitive 'B', accessFlags := 0x411 }
/-- [B -/
def k9 : Class := { plain "[B" (some 0) with kind := .array 8 .byte, interfaces := #[7, 4], accessFlags := 1041 }

/-- the primitive int -/
def k10 : Class := { plain "int" none with kind := .primitive 'I', accessFlags := 0x411 }
/-- [I -/
def k11 : Class := { plain "[I" (some 0) with kind := .array 10 .int, interfaces := #[7, 4], accessFlags := 1041 }

def heap : Heap := #[{ cls := 6, slots := #[.ref 1, .ref 4, .ref 7, .ref 3, .ref 2, .ref 6, .ref 5, .null], vm := .statics 6 },
  { cls := 6, slots := #[.null, .int 0, .int 0, .null, .int 0, .null, .int 10, .int 0], vm := .none },
  { cls := 6, slots := #[.null, .int 4, .int 0, .null, .int 0, .null, .int 0, .int 0], vm := .none },
  { cls := 6, slots := #[.null, .int 3, .int 0, .null, .int 0, .null, .int 38, .int 0], vm := .none },
  { cls := 6, slots := #[.null, .int 1, .int 0, .null, .int 0, .null, .int 5, .int 0], vm := .none },
  { cls := 6, slots := #[.null, .int 6, .int 0, .null, .int 0, .null, .int 0, .int 0], vm := .none },
  { cls := 6, slots := #[.null, .int 5, .int 0, .null, .int 0, .null, .int 1, .int 0], vm := .none },
  { cls := 6, slots := #[.null, .int 2, .int 0, .null, .int 0, .null, .int 19, .int 0], vm := .none }]
def classes : Array Class := #[k0, k1, k2, k3, k4, k5, k6, k7, k8, k9, k10, k11]
def interned : List (Array UInt16 × Addr) := []
def slotsUsed : Nat := 64
def theMethod : MethodId := ⟨1, 1⟩
def args0 : Array Value := #[.int 5, .int 5]
def aboutOver (below : List Frame) : State where
  vm := { classes := classes, interned := interned.toArray }
  heap := heap
  slotsUsed := slotsUsed
  threads := #[{ frames := .invoking theMethod args0 :: below }]
def below0 : List Frame := [.native { method := ⟨0, 0⟩, args := #[] }]
def about1 : State := aboutOver below0
def p0 : Program := .bare "" "" ""
def e0 : Env := launch0.env 0 0 0
theorem w_frames : about1.frames = Frame.invoking theMethod args0 :: below0 := rfl
set_option maxRecDepth 65536 in
theorem w_args : argsFit about1.vm theMethod args0 = true := by decide +kernel
set_option maxRecDepth 65536 in
theorem w_heap : heapFits about1 = true := by decide +kernel
set_option maxRecDepth 65536 in
theorem w_runnable : about1.curStatus? = some .runnable := by decide +kernel
set_option maxRecDepth 65536 in
theorem w_alone : about1.alone = true := by decide +kernel
set_option maxRecDepth 65536 in
theorem w_named : about1.methodNamed? x = some theMethod := by decide +kernel
set_option maxRecDepth 65536 in
theorem w_hears : about1.hears theMethod below0 = true := by decide +kernel
set_option maxRecDepth 65536 in
theorem w_ripe : about1.ripe theMethod args0 below0 = true := by decide +kernel
theorem w_running : about1.status = .running := rfl
set_option maxRecDepth 65536 in
theorem w_room : about1.hasRoom e0.platform room_1 = true :=
  launch0.hasRoom_least _ room_1 (by decide +kernel) (by decide +kernel) (by decide +kernel) (by decide +kernel) (by decide +kernel) (by decide +kernel)
theorem allAtoms_all (ts : List Jvm.Cond) (a : Array Jvm.Value) (st : Jvm.State) : (allAtoms ts).before a st = ts.all (fun c => c.before a st) := by
  induction ts with
  | nil => rfl
  | cons c t ih =>
    show (Jvm.Cond.and c (allAtoms t)).before a st = _
    rw [Jvm.Cond.before_and, ih, List.all_cons]
def words1 : List Jvm.Cond := Jvm.Cond.code x code maxLocals ret :: tables_1
/-- a 'code' word, met by the world's own term for the bytes: nothing is compared byte by byte -/
theorem code_word {y : MethodName} {bytes : ByteArray} {mx : Nat} {rt : Option FieldType} {a : Array Value} {s : State} {m : MethodId} {meth : Method} {c : Code} (h1 : s.methodNamed? y = some m) (h2 : s.vm.method? m = some meth) (h3 : meth.code = some c) (h4 : c.code = bytes)
    (h5 : (c.maxLocals == mx && c.exceptionTable.isEmpty && decide (c.maxStack ≤ mostOperands) && decide (meth.sig.returnType = rt) && !meth.locks && decide (parseMethodDescriptor y.desc = some meth.sig)) = true) : (Jvm.Cond.code y bytes mx rt).before a s = true := by
  simp only [Bool.and_eq_true, beq_iff_eq, Bool.not_eq_true', decide_eq_true_eq] at h5
  obtain ⟨⟨⟨⟨⟨g1, g2⟩, g3⟩, g4⟩, g5⟩, g6⟩ := h5
  simp [Cond.before, Cond.holds, Cond.value, h1, h2, h3, h4, g1, g2, g3, g4, g5, g6]
def isCode : Jvm.Cond → Bool
  | .code _ _ _ _ => true
  | _ => false
theorem all_split {L : List Jvm.Cond} {P : Jvm.Cond → Bool} (h1 : L.all (fun c => isCode c || P c) = true) (h2 : ∀ c ∈ L.filter isCode, P c = true) : L.all P = true := by
  refine List.all_eq_true.mpr fun c hc => ?_
  have h := List.all_eq_true.mp h1 c hc
  rcases Bool.eq_false_or_eq_true (isCode c) with hi | hi
  · exact h2 c (List.mem_filter.mpr ⟨hc, hi⟩)
  · simpa [hi] using h
set_option maxRecDepth 65536 in
theorem w_c0 : (Jvm.Cond.code x code maxLocals ret).before args0 about1 = true := code_word (m := ⟨1, 1⟩) (meth := k1m1) (c := k1c1) (by decide +kernel) rfl rfl rfl (by decide +kernel)
set_option maxRecDepth 65536 in
theorem w_c1 : (Jvm.Cond.code ({ cls := "com/example/oyster/oyster/jdbc/JdbcTypePrecisionPinLaw", name := "pick", desc := "(I)Lcom/example/oyster/oyster/jdbc/JdbcType;" } : Jvm.MethodName) method_3_code (1 : Nat) (Option.some (Jvm.ClassFile.FieldType.object "com/example/oyster/oyster/jdbc/JdbcType"))).before args0 about1 = true := code_word (m := ⟨1, 2⟩) (meth := k1m2) (c := k1c2) (by decide +kernel) rfl rfl rfl (by decide +kernel)
set_option maxRecDepth 65536 in
theorem w_c2 : (Jvm.Cond.code ({ cls := "com/example/oyster/oyster/jdbc/JdbcType", name := "precision", desc := "(I)I" } : Jvm.MethodName) prog_121_method_10_code (3 : Nat) (Option.some Jvm.ClassFile.FieldType.int)).before args0 about1 = true := code_word (m := ⟨6, 0⟩) (meth := k6m0) (c := k6c0) (by decide +kernel) rfl rfl rfl (by decide +kernel)
set_option maxRecDepth 65536 in
theorem w_c3 : (Jvm.Cond.code ({ cls := "com/example/oyster/oyster/jdbc/JdbcTypePrecisionPinLaw", name := "expected", desc := "(II)I" } : Jvm.MethodName) method_4_code (2 : Nat) (Option.some Jvm.ClassFile.FieldType.int)).before args0 about1 = true := code_word (m := ⟨1, 3⟩) (meth := k1m3) (c := k1c3) (by decide +kernel) rfl rfl rfl (by decide +kernel)
def codes1 : List Jvm.Cond := [Jvm.Cond.code x code maxLocals ret, Jvm.Cond.code ({ cls := "com/example/oyster/oyster/jdbc/JdbcTypePrecisionPinLaw", name := "pick", desc := "(I)Lcom/example/oyster/oyster/jdbc/JdbcType;" } : Jvm.MethodName) method_3_code (1 : Nat) (Option.some (Jvm.ClassFile.FieldType.object "com/example/oyster/oyster/jdbc/JdbcType")), Jvm.Cond.code ({ cls := "com/example/oyster/oyster/jdbc/JdbcType", name := "precision", desc := "(I)I" } : Jvm.MethodName) prog_121_method_10_code (3 : Nat) (Option.some Jvm.ClassFile.FieldType.int), Jvm.Cond.code ({ cls := "com/example/oyster/oyster/jdbc/JdbcTypePrecisionPinLaw", name := "expected", desc := "(II)I" } : Jvm.MethodName) method_4_code (2 : Nat) (Option.some Jvm.ClassFile.FieldType.int)]
set_option maxRecDepth 65536 in
theorem codes_eq : words1.filter isCode = codes1 := rfl
theorem w_codes : ∀ c ∈ words1.filter isCode, c.before args0 about1 = true := by
  rw [codes_eq]
  intro c hc
  simp only [codes1, List.mem_cons, List.not_mem_nil, or_false] at hc
  rcases hc with rfl | rfl | rfl | rfl
  · exact w_c0
  · exact w_c1
  · exact w_c2
  · exact w_c3
set_option maxRecDepth 65536 in
theorem w_t1 : (words1.take 24).all (fun c => isCode c || c.before args0 about1) = true := by decide +kernel
set_option maxRecDepth 65536 in
theorem w_t2 : (words1.drop 24).all (fun c => isCode c || c.before args0 about1) = true := by decide +kernel
theorem w_tables : (allAtoms (Jvm.Cond.code x code maxLocals ret :: tables_1)).before args0 about1 = true := by
  rw [allAtoms_all]
  show words1.all (fun c => c.before args0 about1) = true
  refine all_split ?_ w_codes
  rw [← List.take_append_drop 24 words1, List.all_append, w_t1, w_t2]
  rfl
set_option maxRecDepth 65536 in
theorem w_case : (Jvm.Cond.and given_1 narrow_1).before args0 about1 = true := by decide +kernel
theorem w_applies : (headSpec (Jvm.Cond.code x code maxLocals ret :: tables_1) room_1).applies x e0.platform about1 = true :=
  (Spec.applies_iff w_frames).mpr ⟨w_running, w_runnable, w_alone, w_named, w_hears, w_ripe, w_room, w_tables⟩
theorem atStart : AtStart classFile x code maxLocals ret World_1 tables_1 room_1 Calls_1 rest_1 Pre_1 launch0 p0 e0 about1 theMethod args0 below0 :=
  ⟨lists_1, trivial, launch0.admits_env _ _ _, launch0.least_env, fairChoices_fair.cas, fairChoices_fair.clock, w_frames, w_args, w_heap, w_applies, trivial, trivial, w_case⟩
end start1
theorem witness_1 : WitnessClaimed_1 := ⟨start1.p0, start1.e0, start1.about1, start1.theMethod, start1.args0, start1.below0, start1.atStart⟩
end Jvm.Pilot.@@N@@
